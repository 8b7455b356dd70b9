/- elf.NewFile: the loop over the sections. · elf.NewFile: the table of the sections' names is read. · elf.NewFile: the sections are named. · elf.NewFile: the loop that names the sections, whole, and the end. · The contract of elf.NewFile on a good file. · impl.open and impl.Head on a good file. · A file that is laid out from an image is a good file. -/
import Derived.Test.YtdgehpocmfjbiaaDoorPe
import Derived.Test.YtdgehpocmfjbiaaDoorPa
set_option linter.unusedVariables false
set_option linter.unusedSimpArgs false
namespace Go.Proofs.YtdgehpocmfjbiaaDoor
open Go.RowKit

/-- the first k sections, in memory, with the names nf -/
def SecsAt (b o n c : Nat) (z : Nat) (w : World) (sc : Nat → SecV) (nf : Nat → ByteArray) (k : Nat) (cur : Array Value) : Prop :=
  ∀ j, j < k → ∃ pb sb, cur[j]? = some (pt_ pb) ∧ z ≤ pb ∧ z ≤ sb ∧ w.heap[pb]? = some (.cells #[.string (nf j), u3_ (sc j).ty, u3_ (sc j).flags, u6_ (sc j).addr, u6_ (sc j).off, u6_ (sc j).fsz, u3_ (sc j).link, u3_ (sc j).info, u6_ (sc j).align, u6_ (sc j).ent, u6_ (sc j).fsz, .iface 144 (pt_ sb), pt_ sb, .int .i64 0, .int .i64 0] 153 (0, 0)) ∧ w.heap[sb]? = some (.cells #[.iface 178 (.slice (some ⟨b, o, none⟩) n c), i6_ (sc j).off, i6_ (sc j).off, .int .i64 ((((sc j).fsz : Nat) : Int) + (((sc j).off : Nat) : Int)), i6_ (sc j).fsz] 246 (0, 0))
theorem SecsAt.keep {b o n c z : Nat} {w w' : World} {sc : Nat → SecV} {nf : Nat → ByteArray} {k : Nat} {cur : Array Value} {G : List Nat} (h : SecsAt b o n c z w sc nf k cur) (hk : Keep G w w') (hG : ∀ g ∈ G, ∃ cs t f, w.heap[g]? = some (.cells cs t f) ∧ t ≠ 153 ∧ t ≠ 246) : SecsAt b o n c z w' sc nf k cur := fun j hj => by
  obtain ⟨pb, sb, h1, h2, h3, h4, h5⟩ := h j hj
  refine ⟨pb, sb, h1, h2, h3, (hk.block pb (lt_of_get h4) fun hm => ?_).trans h4, (hk.block sb (lt_of_get h5) fun hm => ?_).trans h5⟩
  · obtain ⟨cs, t, f, e, n1, n2⟩ := hG pb hm
    exact other_block h4 e (Ne.symm n1) rfl
  · obtain ⟨cs, t, f, e, n1, n2⟩ := hG sb hm
    exact other_block h5 e (Ne.symm n2) rfl
theorem take_get {cur cur' : Array Value} {k j : Nat} {v : Value} (hs : k < cur.size) (ht : cur'.toList.take (k + 1) = cur.toList.take k ++ [v]) (hj : j < k + 1) : cur'[j]? = if j < k then cur[j]? else some v := by
  have hget : cur'[j]? = (cur'.toList.take (k + 1))[j]? := by rw [List.getElem?_take, if_pos hj]; simp
  have hlen : (cur.toList.take k).length = k := by simp; omega
  rw [ht] at hget
  split
  · rename_i hlt
    rw [hget, List.getElem?_append_left (by omega), List.getElem?_take, if_pos hlt]
    simp
  · rw [hget, List.getElem?_append_right (by omega), hlen, show j - k = 0 by omega]
    rfl
theorem SecsAt.next {b o n c z : Nat} {w : World} {sc : Nat → SecV} {nf : Nat → ByteArray} {k : Nat} {cur cur' : Array Value} {pb sb : Nat} (h : SecsAt b o n c z w sc nf k cur) (hs : k < cur.size) (ht : cur'.toList.take (k + 1) = cur.toList.take k ++ [pt_ pb]) (h2 : z ≤ pb) (h3 : z ≤ sb)
    (h4 : w.heap[pb]? = some (.cells #[.string (nf k), u3_ (sc k).ty, u3_ (sc k).flags, u6_ (sc k).addr, u6_ (sc k).off, u6_ (sc k).fsz, u3_ (sc k).link, u3_ (sc k).info, u6_ (sc k).align, u6_ (sc k).ent, u6_ (sc k).fsz, .iface 144 (pt_ sb), pt_ sb, .int .i64 0, .int .i64 0] 153 (0, 0))) (h5 : w.heap[sb]? = some (.cells #[.iface 178 (.slice (some ⟨b, o, none⟩) n c), i6_ (sc k).off, i6_ (sc k).off, .int .i64 ((((sc k).fsz : Nat) : Int) + (((sc k).off : Nat) : Int)), i6_ (sc k).fsz] 246 (0, 0))) : SecsAt b o n c z w sc nf (k + 1) cur' := fun j hj => by
  have hget := take_get hs ht hj
  rcases Nat.lt_or_ge j k with hlt | hge
  · obtain ⟨pb', sb', g1, g2⟩ := h j hlt
    exact ⟨pb', sb', by rw [hget, if_pos hlt, g1], g2⟩
  · obtain rfl : j = k := by omega
    exact ⟨pb, sb, by rw [hget, if_neg (Nat.lt_irrefl _)], h2, h3, h4, h5⟩
def NamesAt (sc : Nat → SecV) (k : Nat) (nms : Array Value) : Prop := ∀ j, j < k → nms[j]? = some (u3_ (sc j).name)
theorem NamesAt.next {sc : Nat → SecV} {k : Nat} {nms nms' : Array Value} (h : NamesAt sc k nms) (hs : k < nms.size) (ht : nms'.toList.take (k + 1) = nms.toList.take k ++ [u3_ (sc k).name]) : NamesAt sc (k + 1) nms' := fun j hj => by
  have hget := take_get hs ht hj
  rcases Nat.lt_or_ge j k with hlt | hge
  · rw [hget, if_pos hlt, h j hlt]
  · obtain rfl : j = k := by omega
    rw [hget, if_neg (Nat.lt_irrefl _)]
/-- the pointers differ -/
def PtrNe (k : Nat) (cur : Array Value) : Prop := ∀ i j, i < j → j < k → cur[i]? ≠ cur[j]?
theorem PtrNe.next {k : Nat} {cur cur' : Array Value} {v : Value} (h : PtrNe k cur) (hs : k < cur.size) (ht : cur'.toList.take (k + 1) = cur.toList.take k ++ [v]) (hne : ∀ i, i < k → cur[i]? ≠ some v) : PtrNe (k + 1) cur' := fun i j hij hj => by
  have h1 := take_get hs ht (j := i) (by omega)
  have h2 := take_get hs ht hj
  rw [h1, h2, if_pos (by omega : i < k)]
  split
  · rename_i hlt; exact h i j hij hlt
  · exact hne i (by omega)
structure SecBd (v : SecV) : Prop where
  v1 : v.name < 4294967296
  v2 : v.ty < 4294967296
  v3 : v.flags < 4294967296
  v4 : v.off < 4611686018427387904
  v5 : v.fsz < 4611686018427387904
  v6 : v.addr ≤ 18446744073709551615
  v7 : v.align ≤ 18446744073709551615
  v8 : v.ent ≤ 18446744073709551615
  v9 : (and32 (v.flags : Int) 2048 == 0) = true

set_option maxRecDepth 100000 in
set_option maxHeartbeats 1000000 in
theorem nf_Tx_t (l : List UInt8) (b o n c : Nat) (hl : n = l.length) (hnc : n ≤ c) (big : Bool) (abi abiv tyN machN entryN phoffN phnumN shoffN shnumN : Nat) (dat : Int) (b1 : tyN < 65536) (b2 : machN < 65536) (b3 : entryN ≤ 18446744073709551615) (b4 : phoffN < 4611686018427387904) (b5 : shoffN < 4611686018427387904) (b6 : phnumN < 200) (b7 : shnumN < 200) (X : List UInt8) (hXl : X.length = (shnumN * 40)) (sc : Nat → SecV) (hv : ∀ i, i < shnumN → SecOk (X.drop (i * 40)) false big (sc i).name (sc i).ty (sc i).flags (sc i).addr (sc i).off (sc i).fsz (sc i).link (sc i).info (sc i).align (sc i).ent) (bd : ∀ i, i < shnumN → SecBd (sc i)) (G : List Nat) (w0 : World) (s fb pg sg_ nm_ sd : Nat) {KK : Act → World → Prop} {QQ : Exit → Act → World → Prop} {KR : Act → World → Prop}
    (K : ∀ a w cur nms, cur.size = shnumN → nms.size = shnumN → SecsAt b o n c w0.heap.size w sc (fun _ => ⟨#[]⟩) shnumN cur → NamesAt sc shnumN nms → PtrNe shnumN cur → Fr 1287 a [(0, .iface 178 (.slice (some ⟨b, o, none⟩) n c)), (4, pt_ s), (8, pt_ fb), (9, (boV big)), (10, i6_ phoffN), (11, .int .i64 32), (12, i6_ phnumN), (13, i6_ shoffN), (14, .int .i64 40), (15, i6_ shnumN), (16, i6_ (shnumN - 1)), (26, .int .i64 40), (41, sl_ nm_ shnumN shnumN), (42, sl_ sd (shnumN * 40) (shnumN * 40))] → Mm G w0 w [(sd, .cells (X.map Bv).toArray 5 (0, 0)), (nm_, .cells nms 36 (0, 0)), (sg_, .cells cur 133 (0, 0)), (fb, .cells #[.int .u8 1, .int .u8 dat, .int .u8 1, u8_ abi, u8_ abiv, (boV big), u2_ tyN, u2_ machN, u6_ entryN, sl_ sg_ shnumN shnumN, sl_ pg phnumN phnumN, .slice none 0 0, .slice none 0 0, .slice none 0 0] 131 (0, 0)), (s, .cells #[.iface 178 (.slice (some ⟨b, o, none⟩) n c), .int .i64 0, .int .i64 0, .int .i64 9223372036854775807, .int .i64 9223372036854775807] 246 (0, 0))] → KK a w) (a : Act) (w : World) (cur nms : Array Value) (hcs : cur.size = shnumN) (hns : nms.size = shnumN) (hP : SecsAt b o n c w0.heap.size w sc (fun _ => ⟨#[]⟩) shnumN cur) (hN : NamesAt sc shnumN nms) (hD : PtrNe shnumN cur) (HF : Fr 1287 a [(0, .iface 178 (.slice (some ⟨b, o, none⟩) n c)), (4, pt_ s), (8, pt_ fb), (9, (boV big)), (10, i6_ phoffN), (11, .int .i64 32), (12, i6_ phnumN), (13, i6_ shoffN), (14, .int .i64 40), (15, i6_ shnumN), (16, i6_ (shnumN - 1)), (26, .int .i64 40), (41, sl_ nm_ shnumN shnumN), (42, sl_ sd (shnumN * 40) (shnumN * 40)), (43, i6_ shnumN)]) (HM : Mm G w0 w [(sd, .cells (X.map Bv).toArray 5 (0, 0)), (nm_, .cells nms 36 (0, 0)), (sg_, .cells cur 133 (0, 0)), (fb, .cells #[.int .u8 1, .int .u8 dat, .int .u8 1, u8_ abi, u8_ abiv, (boV big), u2_ tyN, u2_ machN, u6_ entryN, sl_ sg_ shnumN shnumN, sl_ pg phnumN phnumN, .slice none 0 0, .slice none 0 0, .slice none 0 0] 131 (0, 0)), (s, .cells #[.iface 178 (.slice (some ⟨b, o, none⟩) n c), .int .i64 0, .int .i64 0, .int .i64 9223372036854775807, .int .i64 9223372036854775807] 246 (0, 0))]) :
    (lpOf (spine Tryd.f78 44)).wp Tryd.prog (Exit.then KR (Exit.inBlock 8 (Exit.then KK QQ))) a w := by
  refine wp_seq ?_
  refine wp_seq (wp_region_lit ?_)
  refine wp_pure HF HM rfl 3 [] [(0, .iface 178 (.slice (some ⟨b, o, none⟩) n c)), (4, pt_ s), (8, pt_ fb), (9, (boV big)), (10, i6_ phoffN), (11, .int .i64 32), (12, i6_ phnumN), (13, i6_ shoffN), (14, .int .i64 40), (15, i6_ shnumN), (16, i6_ (shnumN - 1)), (26, .int .i64 40), (41, sl_ nm_ shnumN shnumN), (42, sl_ sd (shnumN * 40) (shnumN * 40)), (43, i6_ shnumN), (859, .bool (decide (((shnumN : Nat) : Int) < ((shnumN : Nat) : Int))))] (by kernel_rfl) ?_
  clear HF; intro a HF
  rw [show decide (((shnumN : Nat) : Int) < ((shnumN : Nat) : Int)) = false from dec_f (by omega)] at HF
  refine nil_then ?_
  refine wp_condF HF rfl ?_
  replace HF := HF.sub [(0, .iface 178 (.slice (some ⟨b, o, none⟩) n c)), (4, pt_ s), (8, pt_ fb), (9, (boV big)), (10, i6_ phoffN), (11, .int .i64 32), (12, i6_ phnumN), (13, i6_ shoffN), (14, .int .i64 40), (15, i6_ shnumN), (16, i6_ (shnumN - 1)), (26, .int .i64 40), (41, sl_ nm_ shnumN shnumN), (42, sl_ sd (shnumN * 40) (shnumN * 40)), (43, i6_ shnumN)] (by kernel_rfl)
  refine wp_exit (then_exit (then_exit (inb_exit (then_norm ?_))))
  replace HF := HF.sub [(0, .iface 178 (.slice (some ⟨b, o, none⟩) n c)), (4, pt_ s), (8, pt_ fb), (9, (boV big)), (10, i6_ phoffN), (11, .int .i64 32), (12, i6_ phnumN), (13, i6_ shoffN), (14, .int .i64 40), (15, i6_ shnumN), (16, i6_ (shnumN - 1)), (26, .int .i64 40), (41, sl_ nm_ shnumN shnumN), (42, sl_ sd (shnumN * 40) (shnumN * 40))] (by kernel_rfl)
  exact K a _ cur nms hcs hns hP hN hD HF HM
abbrev nf_Tr_t_B0 := fun (s : Nat) (b : Nat) (o : Nat) (n : Nat) (c : Nat) => ((s, .cells #[.iface 178 (.slice (some ⟨b, o, none⟩) n c), iI_ 0, iI_ 0, iI_ 9223372036854775807, iI_ 9223372036854775807] 246 (0, 0)) : Nat × Obj)
abbrev nf_Tr_t_B1 := fun (fb : Nat) (dat : Int) (abi : Nat) (abiv : Nat) (big : Bool) (tyN : Nat) (machN : Nat) (entryN : Nat) (sg_ : Nat) (i : Nat) (shnumN : Nat) (pg : Nat) (phnumN : Nat) => ((fb, .cells #[iB_ 1, .int .u8 dat, iB_ 1, u8_ abi, u8_ abiv, (boV big), u2_ tyN, u2_ machN, u6_ entryN, sl_ sg_ i shnumN, sl_ pg phnumN phnumN, nl_, nl_, nl_] 131 (0, 0)) : Nat × Obj)
theorem nf_Tr_t (l : List UInt8) (b o n c : Nat) (hl : n = l.length) (hnc : n ≤ c) (big : Bool) (abi abiv tyN machN entryN phoffN phnumN shoffN shnumN : Nat) (dat : Int) (b1 : tyN < 65536) (b2 : machN < 65536) (b3 : entryN ≤ 18446744073709551615) (b4 : phoffN < 4611686018427387904) (b5 : shoffN < 4611686018427387904) (b6 : phnumN < 200) (b7 : shnumN < 200) (X : List UInt8) (hXl : X.length = (shnumN * 40)) (sc : Nat → SecV) (hv : ∀ i, i < shnumN → SecOk (X.drop (i * 40)) false big (sc i).name (sc i).ty (sc i).flags (sc i).addr (sc i).off (sc i).fsz (sc i).link (sc i).info (sc i).align (sc i).ent) (bd : ∀ i, i < shnumN → SecBd (sc i)) (G : List Nat) (w0 : World) (s fb pg sg_ nm_ sd : Nat) {KK : Act → World → Prop} {QQ : Exit → Act → World → Prop}
    (K : ∀ a w cur nms, cur.size = shnumN → nms.size = shnumN → SecsAt b o n c w0.heap.size w sc (fun _ => ⟨#[]⟩) shnumN cur → NamesAt sc shnumN nms → PtrNe shnumN cur → Fr 1287 a [(0, .iface 178 (.slice (some ⟨b, o, none⟩) n c)), (4, pt_ s), (8, pt_ fb), (9, (boV big)), (10, i6_ phoffN), (11, iI_ 32), (12, i6_ phnumN), (13, i6_ shoffN), (14, iI_ 40), (15, i6_ shnumN), (16, i6_ (shnumN - 1)), (26, iI_ 40), (41, sl_ nm_ shnumN shnumN), (42, sl_ sd (shnumN * 40) (shnumN * 40))] → Mm G w0 w [(sd, .cells (X.map Bv).toArray 5 (0, 0)), (nm_, .cells nms 36 (0, 0)), (sg_, .cells cur 133 (0, 0)), (fb, .cells #[iB_ 1, .int .u8 dat, iB_ 1, u8_ abi, u8_ abiv, (boV big), u2_ tyN, u2_ machN, u6_ entryN, sl_ sg_ shnumN shnumN, sl_ pg phnumN phnumN, nl_, nl_, nl_] 131 (0, 0)), nf_Tr_t_B0 s b o n c] → KK a w) :
    ∀ (r i : Nat), i + r = shnumN → ∀ (a : Act) (w : World) (cur nms : Array Value), cur.size = shnumN → nms.size = shnumN → SecsAt b o n c w0.heap.size w sc (fun _ => ⟨#[]⟩) i cur → NamesAt sc i nms → PtrNe i cur → Fr 1287 a [(0, .iface 178 (.slice (some ⟨b, o, none⟩) n c)), (4, pt_ s), (8, pt_ fb), (9, (boV big)), (10, i6_ phoffN), (11, iI_ 32), (12, i6_ phnumN), (13, i6_ shoffN), (14, iI_ 40), (15, i6_ shnumN), (16, i6_ (shnumN - 1)), (26, iI_ 40), (41, sl_ nm_ i shnumN), (42, sl_ sd (shnumN * 40) (shnumN * 40)), (43, i6_ i)] → Mm G w0 w [(sd, .cells (X.map Bv).toArray 5 (0, 0)), (nm_, .cells nms 36 (0, 0)), (sg_, .cells cur 133 (0, 0)), nf_Tr_t_B1 fb dat abi abiv big tyN machN entryN sg_ i shnumN pg phnumN, nf_Tr_t_B0 s b o n c] →
    Code.rounds Tryd.prog (lpOf (spine Tryd.f78 44)) (Exit.inBlock 8 (Exit.then KK QQ)) (r + 1) a w
  | 0, i, hr, a, w, cur, nms, hcs, hns, hP, hN, hD, HF, HM => by
    obtain rfl : i = shnumN := by omega
    rw [rounds_succ]
    exact nf_Tx_t l b o n c hl hnc big abi abiv tyN machN entryN phoffN phnumN shoffN i dat b1 b2 b3 b4 b5 b6 b7 X hXl sc hv bd G w0 s fb pg sg_ nm_ sd K a w cur nms hcs hns hP hN hD HF HM
  | r + 1, i, hr, a, w, cur, nms, hcs, hns, hP, hN, hD, HF, HM => by
    have hi : i < shnumN := by omega
    rw [rounds_succ]
    have B := bd i hi
    have HM0 : Mm [sd, nm_, sg_, fb, s] w w [(sd, .cells (X.map Bv).toArray 5 (0, 0)), (nm_, .cells nms 36 (0, 0)), (sg_, .cells cur 133 (0, 0)), nf_Tr_t_B1 fb dat abi abiv big tyN machN entryN sg_ i shnumN pg phnumN, nf_Tr_t_B0 s b o n c] := HM.restart
    have HM1 : Mm [fb, sg_, nm_, sd] w w [nf_Tr_t_B1 fb dat abi abiv big tyN machN entryN sg_ i shnumN pg phnumN, (sg_, .cells cur 133 (0, 0)), (nm_, .cells nms 36 (0, 0)), (sd, .cells (X.map Bv).toArray 5 (0, 0))] := by
      refine ⟨Keep.refl _ _, fun p hp => ?_, ?_⟩
      · simp only [List.mem_cons, List.not_mem_nil, or_false] at hp
        rcases hp with rfl | rfl | rfl | rfl
        · exact ⟨HM.get (i := 3) rfl, .inr (by simp)⟩
        · exact ⟨HM.get (i := 2) rfl, .inr (by simp)⟩
        · exact ⟨HM.get (i := 1) rfl, .inr (by simp)⟩
        · exact ⟨HM.get (i := 0) rfl, .inr (by simp)⟩
      · have h1 := HM.ne (i := 3) (j := 2) rfl rfl (by decide)
        have h2 := HM.ne (i := 3) (j := 1) rfl rfl (by decide)
        have h3 := HM.ne (i := 3) (j := 0) rfl rfl (by decide)
        have h4 := HM.ne (i := 2) (j := 1) rfl rfl (by decide)
        have h5 := HM.ne (i := 2) (j := 0) rfl rfl (by decide)
        have h6 := HM.ne (i := 1) (j := 0) rfl rfl (by decide)
        simp [h1, h2, h3, h4, h5, h6]
    refine nf_S_t l b o n c hl hnc big abi abiv tyN machN entryN phoffN phnumN shoffN shnumN dat b1 b2 b3 b4 b5 b6 b7 X hXl i hi (sc i) (hv i hi) B.v1 B.v2 B.v3 B.v4 B.v5 B.v6 B.v7 B.v8 B.v9 a w s fb pg sg_ nm_ sd cur nms hcs hns HM1 HF ?_
    intro a' w' pb sb cur' nms' hcs' hns' htk htn HF' HM'
    have hk := HM'.keep
    have hnew : ∀ p cs t, w'.heap[p]? = some (.cells cs t (0, 0)) → t = 153 ∨ t = 246 → (w.heap.size ≤ p ∨ p ∈ [fb, sg_, nm_, sd]) → w.heap.size ≤ p := by
      intro p cs t hp ht ho
      refine ho.elim id fun hm => ?_
      simp only [List.mem_cons, List.not_mem_nil, or_false] at hm
      exfalso
      rcases ht with rfl | rfl <;> rcases hm with rfl | rfl | rfl | rfl
      · exact other_block hp (HM'.get (i := 2) rfl) (by decide) rfl
      · exact other_block hp (HM'.get (i := 3) rfl) (by decide) rfl
      · exact other_block hp (HM'.get (i := 4) rfl) (by decide) rfl
      · exact other_block hp (HM'.get (i := 5) rfl) (by decide) rfl
      · exact other_block hp (HM'.get (i := 2) rfl) (by decide) rfl
      · exact other_block hp (HM'.get (i := 3) rfl) (by decide) rfl
      · exact other_block hp (HM'.get (i := 4) rfl) (by decide) rfl
      · exact other_block hp (HM'.get (i := 5) rfl) (by decide) rfl
    have hpb := hnew pb _ _ (HM'.get (i := 1) rfl) (.inl rfl) (HM'.own (i := 1) rfl)
    have hsb := hnew sb _ _ (HM'.get (i := 0) rfl) (.inr rfl) (HM'.own (i := 0) rfl)
    have hsz := HM.size
    have hP2 : SecsAt b o n c w0.heap.size w' sc (fun _ => ⟨#[]⟩) i cur := hP.keep hk (by
      intro g hg
      simp only [List.mem_cons, List.not_mem_nil, or_false] at hg
      rcases hg with rfl | rfl | rfl | rfl
      · exact ⟨_, _, _, HM.get (i := 3) rfl, by decide, by decide⟩
      · exact ⟨_, _, _, HM.get (i := 2) rfl, by decide, by decide⟩
      · exact ⟨_, _, _, HM.get (i := 1) rfl, by decide, by decide⟩
      · exact ⟨_, _, _, HM.get (i := 0) rfl, by decide, by decide⟩)
    have hP3 := hP2.next (nf := (fun _ => ⟨#[]⟩)) (by omega) htk (by omega) (by omega) (HM'.get (i := 1) rfl) (HM'.get (i := 0) rfl)
    have HM2 : Mm G w0 w' [(sd, .cells (X.map Bv).toArray 5 (0, 0)), (nm_, .cells nms' 36 (0, 0)), (sg_, .cells cur' 133 (0, 0)), (fb, .cells #[iB_ 1, .int .u8 dat, iB_ 1, u8_ abi, u8_ abiv, (boV big), u2_ tyN, u2_ machN, u6_ entryN, sl_ sg_ (i + 1) shnumN, sl_ pg phnumN phnumN, nl_, nl_, nl_] 131 (0, 0)), nf_Tr_t_B0 s b o n c] := HM.after hk (by
      intro g hg
      simp only [List.mem_cons, List.not_mem_nil, or_false] at hg
      rcases hg with rfl | rfl | rfl | rfl
      · exact HM.own (i := 3) rfl
      · exact HM.own (i := 2) rfl
      · exact HM.own (i := 1) rfl
      · exact HM.own (i := 0) rfl) rfl (by
      intro p hp
      simp only [List.mem_cons, List.not_mem_nil, or_false] at hp
      rcases hp with rfl | rfl | rfl | rfl | rfl
      · exact HM'.get (i := 5) rfl
      · exact HM'.get (i := 4) rfl
      · exact HM'.get (i := 3) rfl
      · exact HM'.get (i := 2) rfl
      · refine (hk.block s (HM.lt (i := 4) rfl) ?_).trans (HM.get (i := 4) rfl)
        simp only [List.mem_cons, List.not_mem_nil, or_false, not_or]
        exact ⟨HM.ne (i := 4) (j := 3) rfl rfl (by decide), HM.ne (i := 4) (j := 2) rfl rfl (by decide), HM.ne (i := 4) (j := 1) rfl rfl (by decide), HM.ne (i := 4) (j := 0) rfl rfl (by decide)⟩)
    exact nf_Tr_t l b o n c hl hnc big abi abiv tyN machN entryN phoffN phnumN shoffN shnumN dat b1 b2 b3 b4 b5 b6 b7 X hXl sc hv bd G w0 s fb pg sg_ nm_ sd K r (i + 1) (by omega) a' w' cur' nms' hcs' hns' hP3 (hN.next (by omega) htn) (hD.next (by omega) htk fun j hj e => by
      obtain ⟨pbj, _, g1, _, _, g4, _⟩ := hP j hj
      rw [g1] at e
      injection e with e
      injection e with e
      injection e with e
      injection e with e
      have := lt_of_get g4
      omega) HF' HM2

set_option maxRecDepth 100000 in
set_option maxHeartbeats 1000000 in
theorem nf_T_t (l : List UInt8) (b o n c : Nat) (hl : n = l.length) (hnc : n ≤ c) (big : Bool) (abi abiv tyN machN entryN phoffN phnumN shoffN shnumN : Nat) (dat : Int) (b1 : tyN < 65536) (b2 : machN < 65536) (b3 : entryN ≤ 18446744073709551615) (b4 : phoffN < 4611686018427387904) (b5 : shoffN < 4611686018427387904) (b6 : phnumN < 200) (b7 : shnumN < 200) (X : List UInt8) (hXl : X.length = (shnumN * 40)) (sc : Nat → SecV) (hv : ∀ i, i < shnumN → SecOk (X.drop (i * 40)) false big (sc i).name (sc i).ty (sc i).flags (sc i).addr (sc i).off (sc i).fsz (sc i).link (sc i).info (sc i).align (sc i).ent) (bd : ∀ i, i < shnumN → SecBd (sc i)) (G : List Nat) (w0 : World) (s fb pg sg_ nm_ sd : Nat) {Q : Exit → Act → World → Prop} (a : Act) (w : World) (cur nms : Array Value) (hcs : cur.size = shnumN) (hns : nms.size = shnumN) (HF : Fr 1287 a [(0, .iface 178 (.slice (some ⟨b, o, none⟩) n c)), (4, pt_ s), (8, pt_ fb), (9, (boV big)), (10, i6_ phoffN), (11, .int .i64 32), (12, i6_ phnumN), (13, i6_ shoffN), (14, .int .i64 40), (15, i6_ shnumN), (16, i6_ (shnumN - 1)), (26, .int .i64 40), (41, sl_ nm_ 0 shnumN), (42, sl_ sd (shnumN * 40) (shnumN * 40))]) (HM : Mm G w0 w [(sd, .cells (X.map Bv).toArray 5 (0, 0)), (nm_, .cells nms 36 (0, 0)), (sg_, .cells cur 133 (0, 0)), (fb, .cells #[.int .u8 1, .int .u8 dat, .int .u8 1, u8_ abi, u8_ abiv, (boV big), u2_ tyN, u2_ machN, u6_ entryN, sl_ sg_ 0 shnumN, sl_ pg phnumN phnumN, .slice none 0 0, .slice none 0 0, .slice none 0 0] 131 (0, 0)), (s, .cells #[.iface 178 (.slice (some ⟨b, o, none⟩) n c), .int .i64 0, .int .i64 0, .int .i64 9223372036854775807, .int .i64 9223372036854775807] 246 (0, 0))])
    (K : ∀ a w cur nms, cur.size = shnumN → nms.size = shnumN → SecsAt b o n c w0.heap.size w sc (fun _ => ⟨#[]⟩) shnumN cur → NamesAt sc shnumN nms → PtrNe shnumN cur → Fr 1287 a [(0, .iface 178 (.slice (some ⟨b, o, none⟩) n c)), (4, pt_ s), (8, pt_ fb), (9, (boV big)), (10, i6_ phoffN), (11, .int .i64 32), (12, i6_ phnumN), (13, i6_ shoffN), (14, .int .i64 40), (15, i6_ shnumN), (16, i6_ (shnumN - 1)), (26, .int .i64 40), (41, sl_ nm_ shnumN shnumN), (42, sl_ sd (shnumN * 40) (shnumN * 40))] → Mm G w0 w [(sd, .cells (X.map Bv).toArray 5 (0, 0)), (nm_, .cells nms 36 (0, 0)), (sg_, .cells cur 133 (0, 0)), (fb, .cells #[.int .u8 1, .int .u8 dat, .int .u8 1, u8_ abi, u8_ abiv, (boV big), u2_ tyN, u2_ machN, u6_ entryN, sl_ sg_ shnumN shnumN, sl_ pg phnumN phnumN, .slice none 0 0, .slice none 0 0, .slice none 0 0] 131 (0, 0)), (s, .cells #[.iface 178 (.slice (some ⟨b, o, none⟩) n c), .int .i64 0, .int .i64 0, .int .i64 9223372036854775807, .int .i64 9223372036854775807] 246 (0, 0))] → (spine Tryd.f78 45).wp Tryd.prog Q a w) : (spine Tryd.f78 44).wp Tryd.prog Q a w := by
  refine wp_seq ?_
  refine reg_sym HF HM rfl [] [(0, .iface 178 (.slice (some ⟨b, o, none⟩) n c)), (4, pt_ s), (8, pt_ fb), (9, (boV big)), (10, i6_ phoffN), (11, .int .i64 32), (12, i6_ phnumN), (13, i6_ shoffN), (14, .int .i64 40), (15, i6_ shnumN), (16, i6_ (shnumN - 1)), (26, .int .i64 40), (41, sl_ nm_ 0 shnumN), (42, sl_ sd (shnumN * 40) (shnumN * 40)), (43, i6_ 0)] [(sd, .cells (X.map Bv).toArray 5 (0, 0)), (nm_, .cells nms 36 (0, 0)), (sg_, .cells cur 133 (0, 0)), (fb, .cells #[.int .u8 1, .int .u8 dat, .int .u8 1, u8_ abi, u8_ abiv, (boV big), u2_ tyN, u2_ machN, u6_ entryN, sl_ sg_ 0 shnumN, sl_ pg phnumN phnumN, .slice none 0 0, .slice none 0 0, .slice none 0 0] 131 (0, 0)), (s, .cells #[.iface 178 (.slice (some ⟨b, o, none⟩) n c), .int .i64 0, .int .i64 0, .int .i64 9223372036854775807, .int .i64 9223372036854775807] 246 (0, 0))] (by kernel_rfl) ?_
  clear HF HM; intro a w HF HM
  refine wp_block (wp_loop_rounds (shnumN + 1) ?_)
  exact nf_Tr_t l b o n c hl hnc big abi abiv tyN machN entryN phoffN phnumN shoffN shnumN dat b1 b2 b3 b4 b5 b6 b7 X hXl sc hv bd G w0 s fb pg sg_ nm_ sd K shnumN 0 (by omega) a w cur nms hcs hns (fun j hj => absurd hj (Nat.not_lt_zero j)) (fun j hj => absurd hj (Nat.not_lt_zero j)) (fun i j _ hj => absurd hj (Nat.not_lt_zero j)) HF HM

set_option maxRecDepth 100000 in
set_option maxHeartbeats 1000000 in
theorem nf_Tx_w (l : List UInt8) (b o n c : Nat) (hl : n = l.length) (hnc : n ≤ c) (big : Bool) (abi abiv tyN machN entryN phoffN phnumN shoffN shnumN : Nat) (dat : Int) (b1 : tyN < 65536) (b2 : machN < 65536) (b3 : entryN ≤ 18446744073709551615) (b4 : phoffN < 4611686018427387904) (b5 : shoffN < 4611686018427387904) (b6 : phnumN < 200) (b7 : shnumN < 200) (X : List UInt8) (hXl : X.length = (shnumN * 64)) (sc : Nat → SecV) (hv : ∀ i, i < shnumN → SecOk (X.drop (i * 64)) true big (sc i).name (sc i).ty (sc i).flags (sc i).addr (sc i).off (sc i).fsz (sc i).link (sc i).info (sc i).align (sc i).ent) (bd : ∀ i, i < shnumN → SecBd (sc i)) (G : List Nat) (w0 : World) (s fb pg sg_ nm_ sd : Nat) {KK : Act → World → Prop} {QQ : Exit → Act → World → Prop} {KR : Act → World → Prop}
    (K : ∀ a w cur nms, cur.size = shnumN → nms.size = shnumN → SecsAt b o n c w0.heap.size w sc (fun _ => ⟨#[]⟩) shnumN cur → NamesAt sc shnumN nms → PtrNe shnumN cur → Fr 1287 a [(0, .iface 178 (.slice (some ⟨b, o, none⟩) n c)), (4, pt_ s), (8, pt_ fb), (9, (boV big)), (10, i6_ phoffN), (11, .int .i64 56), (12, i6_ phnumN), (13, i6_ shoffN), (14, .int .i64 64), (15, i6_ shnumN), (16, i6_ (shnumN - 1)), (26, .int .i64 64), (41, sl_ nm_ shnumN shnumN), (42, sl_ sd (shnumN * 64) (shnumN * 64))] → Mm G w0 w [(sd, .cells (X.map Bv).toArray 5 (0, 0)), (nm_, .cells nms 36 (0, 0)), (sg_, .cells cur 133 (0, 0)), (fb, .cells #[.int .u8 2, .int .u8 dat, .int .u8 1, u8_ abi, u8_ abiv, (boV big), u2_ tyN, u2_ machN, u6_ entryN, sl_ sg_ shnumN shnumN, sl_ pg phnumN phnumN, .slice none 0 0, .slice none 0 0, .slice none 0 0] 131 (0, 0)), (s, .cells #[.iface 178 (.slice (some ⟨b, o, none⟩) n c), .int .i64 0, .int .i64 0, .int .i64 9223372036854775807, .int .i64 9223372036854775807] 246 (0, 0))] → KK a w) (a : Act) (w : World) (cur nms : Array Value) (hcs : cur.size = shnumN) (hns : nms.size = shnumN) (hP : SecsAt b o n c w0.heap.size w sc (fun _ => ⟨#[]⟩) shnumN cur) (hN : NamesAt sc shnumN nms) (hD : PtrNe shnumN cur) (HF : Fr 1287 a [(0, .iface 178 (.slice (some ⟨b, o, none⟩) n c)), (4, pt_ s), (8, pt_ fb), (9, (boV big)), (10, i6_ phoffN), (11, .int .i64 56), (12, i6_ phnumN), (13, i6_ shoffN), (14, .int .i64 64), (15, i6_ shnumN), (16, i6_ (shnumN - 1)), (26, .int .i64 64), (41, sl_ nm_ shnumN shnumN), (42, sl_ sd (shnumN * 64) (shnumN * 64)), (43, i6_ shnumN)]) (HM : Mm G w0 w [(sd, .cells (X.map Bv).toArray 5 (0, 0)), (nm_, .cells nms 36 (0, 0)), (sg_, .cells cur 133 (0, 0)), (fb, .cells #[.int .u8 2, .int .u8 dat, .int .u8 1, u8_ abi, u8_ abiv, (boV big), u2_ tyN, u2_ machN, u6_ entryN, sl_ sg_ shnumN shnumN, sl_ pg phnumN phnumN, .slice none 0 0, .slice none 0 0, .slice none 0 0] 131 (0, 0)), (s, .cells #[.iface 178 (.slice (some ⟨b, o, none⟩) n c), .int .i64 0, .int .i64 0, .int .i64 9223372036854775807, .int .i64 9223372036854775807] 246 (0, 0))]) :
    (lpOf (spine Tryd.f78 44)).wp Tryd.prog (Exit.then KR (Exit.inBlock 8 (Exit.then KK QQ))) a w := by
  refine wp_seq ?_
  refine wp_seq (wp_region_lit ?_)
  refine wp_pure HF HM rfl 3 [] [(0, .iface 178 (.slice (some ⟨b, o, none⟩) n c)), (4, pt_ s), (8, pt_ fb), (9, (boV big)), (10, i6_ phoffN), (11, .int .i64 56), (12, i6_ phnumN), (13, i6_ shoffN), (14, .int .i64 64), (15, i6_ shnumN), (16, i6_ (shnumN - 1)), (26, .int .i64 64), (41, sl_ nm_ shnumN shnumN), (42, sl_ sd (shnumN * 64) (shnumN * 64)), (43, i6_ shnumN), (859, .bool (decide (((shnumN : Nat) : Int) < ((shnumN : Nat) : Int))))] (by kernel_rfl) ?_
  clear HF; intro a HF
  rw [show decide (((shnumN : Nat) : Int) < ((shnumN : Nat) : Int)) = false from dec_f (by omega)] at HF
  refine nil_then ?_
  refine wp_condF HF rfl ?_
  replace HF := HF.sub [(0, .iface 178 (.slice (some ⟨b, o, none⟩) n c)), (4, pt_ s), (8, pt_ fb), (9, (boV big)), (10, i6_ phoffN), (11, .int .i64 56), (12, i6_ phnumN), (13, i6_ shoffN), (14, .int .i64 64), (15, i6_ shnumN), (16, i6_ (shnumN - 1)), (26, .int .i64 64), (41, sl_ nm_ shnumN shnumN), (42, sl_ sd (shnumN * 64) (shnumN * 64)), (43, i6_ shnumN)] (by kernel_rfl)
  refine wp_exit (then_exit (then_exit (inb_exit (then_norm ?_))))
  replace HF := HF.sub [(0, .iface 178 (.slice (some ⟨b, o, none⟩) n c)), (4, pt_ s), (8, pt_ fb), (9, (boV big)), (10, i6_ phoffN), (11, .int .i64 56), (12, i6_ phnumN), (13, i6_ shoffN), (14, .int .i64 64), (15, i6_ shnumN), (16, i6_ (shnumN - 1)), (26, .int .i64 64), (41, sl_ nm_ shnumN shnumN), (42, sl_ sd (shnumN * 64) (shnumN * 64))] (by kernel_rfl)
  exact K a _ cur nms hcs hns hP hN hD HF HM
abbrev nf_Tr_w_B0 := fun (s : Nat) (b : Nat) (o : Nat) (n : Nat) (c : Nat) => ((s, .cells #[.iface 178 (.slice (some ⟨b, o, none⟩) n c), iI_ 0, iI_ 0, iI_ 9223372036854775807, iI_ 9223372036854775807] 246 (0, 0)) : Nat × Obj)
abbrev nf_Tr_w_B1 := fun (fb : Nat) (dat : Int) (abi : Nat) (abiv : Nat) (big : Bool) (tyN : Nat) (machN : Nat) (entryN : Nat) (sg_ : Nat) (i : Nat) (shnumN : Nat) (pg : Nat) (phnumN : Nat) => ((fb, .cells #[iB_ 2, .int .u8 dat, iB_ 1, u8_ abi, u8_ abiv, (boV big), u2_ tyN, u2_ machN, u6_ entryN, sl_ sg_ i shnumN, sl_ pg phnumN phnumN, nl_, nl_, nl_] 131 (0, 0)) : Nat × Obj)
theorem nf_Tr_w (l : List UInt8) (b o n c : Nat) (hl : n = l.length) (hnc : n ≤ c) (big : Bool) (abi abiv tyN machN entryN phoffN phnumN shoffN shnumN : Nat) (dat : Int) (b1 : tyN < 65536) (b2 : machN < 65536) (b3 : entryN ≤ 18446744073709551615) (b4 : phoffN < 4611686018427387904) (b5 : shoffN < 4611686018427387904) (b6 : phnumN < 200) (b7 : shnumN < 200) (X : List UInt8) (hXl : X.length = (shnumN * 64)) (sc : Nat → SecV) (hv : ∀ i, i < shnumN → SecOk (X.drop (i * 64)) true big (sc i).name (sc i).ty (sc i).flags (sc i).addr (sc i).off (sc i).fsz (sc i).link (sc i).info (sc i).align (sc i).ent) (bd : ∀ i, i < shnumN → SecBd (sc i)) (G : List Nat) (w0 : World) (s fb pg sg_ nm_ sd : Nat) {KK : Act → World → Prop} {QQ : Exit → Act → World → Prop}
    (K : ∀ a w cur nms, cur.size = shnumN → nms.size = shnumN → SecsAt b o n c w0.heap.size w sc (fun _ => ⟨#[]⟩) shnumN cur → NamesAt sc shnumN nms → PtrNe shnumN cur → Fr 1287 a [(0, .iface 178 (.slice (some ⟨b, o, none⟩) n c)), (4, pt_ s), (8, pt_ fb), (9, (boV big)), (10, i6_ phoffN), (11, iI_ 56), (12, i6_ phnumN), (13, i6_ shoffN), (14, iI_ 64), (15, i6_ shnumN), (16, i6_ (shnumN - 1)), (26, iI_ 64), (41, sl_ nm_ shnumN shnumN), (42, sl_ sd (shnumN * 64) (shnumN * 64))] → Mm G w0 w [(sd, .cells (X.map Bv).toArray 5 (0, 0)), (nm_, .cells nms 36 (0, 0)), (sg_, .cells cur 133 (0, 0)), (fb, .cells #[iB_ 2, .int .u8 dat, iB_ 1, u8_ abi, u8_ abiv, (boV big), u2_ tyN, u2_ machN, u6_ entryN, sl_ sg_ shnumN shnumN, sl_ pg phnumN phnumN, nl_, nl_, nl_] 131 (0, 0)), nf_Tr_w_B0 s b o n c] → KK a w) :
    ∀ (r i : Nat), i + r = shnumN → ∀ (a : Act) (w : World) (cur nms : Array Value), cur.size = shnumN → nms.size = shnumN → SecsAt b o n c w0.heap.size w sc (fun _ => ⟨#[]⟩) i cur → NamesAt sc i nms → PtrNe i cur → Fr 1287 a [(0, .iface 178 (.slice (some ⟨b, o, none⟩) n c)), (4, pt_ s), (8, pt_ fb), (9, (boV big)), (10, i6_ phoffN), (11, iI_ 56), (12, i6_ phnumN), (13, i6_ shoffN), (14, iI_ 64), (15, i6_ shnumN), (16, i6_ (shnumN - 1)), (26, iI_ 64), (41, sl_ nm_ i shnumN), (42, sl_ sd (shnumN * 64) (shnumN * 64)), (43, i6_ i)] → Mm G w0 w [(sd, .cells (X.map Bv).toArray 5 (0, 0)), (nm_, .cells nms 36 (0, 0)), (sg_, .cells cur 133 (0, 0)), nf_Tr_w_B1 fb dat abi abiv big tyN machN entryN sg_ i shnumN pg phnumN, nf_Tr_w_B0 s b o n c] →
    Code.rounds Tryd.prog (lpOf (spine Tryd.f78 44)) (Exit.inBlock 8 (Exit.then KK QQ)) (r + 1) a w
  | 0, i, hr, a, w, cur, nms, hcs, hns, hP, hN, hD, HF, HM => by
    obtain rfl : i = shnumN := by omega
    rw [rounds_succ]
    exact nf_Tx_w l b o n c hl hnc big abi abiv tyN machN entryN phoffN phnumN shoffN i dat b1 b2 b3 b4 b5 b6 b7 X hXl sc hv bd G w0 s fb pg sg_ nm_ sd K a w cur nms hcs hns hP hN hD HF HM
  | r + 1, i, hr, a, w, cur, nms, hcs, hns, hP, hN, hD, HF, HM => by
    have hi : i < shnumN := by omega
    rw [rounds_succ]
    have B := bd i hi
    have HM0 : Mm [sd, nm_, sg_, fb, s] w w [(sd, .cells (X.map Bv).toArray 5 (0, 0)), (nm_, .cells nms 36 (0, 0)), (sg_, .cells cur 133 (0, 0)), nf_Tr_w_B1 fb dat abi abiv big tyN machN entryN sg_ i shnumN pg phnumN, nf_Tr_w_B0 s b o n c] := HM.restart
    have HM1 : Mm [fb, sg_, nm_, sd] w w [nf_Tr_w_B1 fb dat abi abiv big tyN machN entryN sg_ i shnumN pg phnumN, (sg_, .cells cur 133 (0, 0)), (nm_, .cells nms 36 (0, 0)), (sd, .cells (X.map Bv).toArray 5 (0, 0))] := by
      refine ⟨Keep.refl _ _, fun p hp => ?_, ?_⟩
      · simp only [List.mem_cons, List.not_mem_nil, or_false] at hp
        rcases hp with rfl | rfl | rfl | rfl
        · exact ⟨HM.get (i := 3) rfl, .inr (by simp)⟩
        · exact ⟨HM.get (i := 2) rfl, .inr (by simp)⟩
        · exact ⟨HM.get (i := 1) rfl, .inr (by simp)⟩
        · exact ⟨HM.get (i := 0) rfl, .inr (by simp)⟩
      · have h1 := HM.ne (i := 3) (j := 2) rfl rfl (by decide)
        have h2 := HM.ne (i := 3) (j := 1) rfl rfl (by decide)
        have h3 := HM.ne (i := 3) (j := 0) rfl rfl (by decide)
        have h4 := HM.ne (i := 2) (j := 1) rfl rfl (by decide)
        have h5 := HM.ne (i := 2) (j := 0) rfl rfl (by decide)
        have h6 := HM.ne (i := 1) (j := 0) rfl rfl (by decide)
        simp [h1, h2, h3, h4, h5, h6]
    refine nf_S_w l b o n c hl hnc big abi abiv tyN machN entryN phoffN phnumN shoffN shnumN dat b1 b2 b3 b4 b5 b6 b7 X hXl i hi (sc i) (hv i hi) B.v1 B.v2 B.v3 B.v4 B.v5 B.v6 B.v7 B.v8 B.v9 a w s fb pg sg_ nm_ sd cur nms hcs hns HM1 HF ?_
    intro a' w' pb sb cur' nms' hcs' hns' htk htn HF' HM'
    have hk := HM'.keep
    have hnew : ∀ p cs t, w'.heap[p]? = some (.cells cs t (0, 0)) → t = 153 ∨ t = 246 → (w.heap.size ≤ p ∨ p ∈ [fb, sg_, nm_, sd]) → w.heap.size ≤ p := by
      intro p cs t hp ht ho
      refine ho.elim id fun hm => ?_
      simp only [List.mem_cons, List.not_mem_nil, or_false] at hm
      exfalso
      rcases ht with rfl | rfl <;> rcases hm with rfl | rfl | rfl | rfl
      · exact other_block hp (HM'.get (i := 2) rfl) (by decide) rfl
      · exact other_block hp (HM'.get (i := 3) rfl) (by decide) rfl
      · exact other_block hp (HM'.get (i := 4) rfl) (by decide) rfl
      · exact other_block hp (HM'.get (i := 5) rfl) (by decide) rfl
      · exact other_block hp (HM'.get (i := 2) rfl) (by decide) rfl
      · exact other_block hp (HM'.get (i := 3) rfl) (by decide) rfl
      · exact other_block hp (HM'.get (i := 4) rfl) (by decide) rfl
      · exact other_block hp (HM'.get (i := 5) rfl) (by decide) rfl
    have hpb := hnew pb _ _ (HM'.get (i := 1) rfl) (.inl rfl) (HM'.own (i := 1) rfl)
    have hsb := hnew sb _ _ (HM'.get (i := 0) rfl) (.inr rfl) (HM'.own (i := 0) rfl)
    have hsz := HM.size
    have hP2 : SecsAt b o n c w0.heap.size w' sc (fun _ => ⟨#[]⟩) i cur := hP.keep hk (by
      intro g hg
      simp only [List.mem_cons, List.not_mem_nil, or_false] at hg
      rcases hg with rfl | rfl | rfl | rfl
      · exact ⟨_, _, _, HM.get (i := 3) rfl, by decide, by decide⟩
      · exact ⟨_, _, _, HM.get (i := 2) rfl, by decide, by decide⟩
      · exact ⟨_, _, _, HM.get (i := 1) rfl, by decide, by decide⟩
      · exact ⟨_, _, _, HM.get (i := 0) rfl, by decide, by decide⟩)
    have hP3 := hP2.next (nf := (fun _ => ⟨#[]⟩)) (by omega) htk (by omega) (by omega) (HM'.get (i := 1) rfl) (HM'.get (i := 0) rfl)
    have HM2 : Mm G w0 w' [(sd, .cells (X.map Bv).toArray 5 (0, 0)), (nm_, .cells nms' 36 (0, 0)), (sg_, .cells cur' 133 (0, 0)), (fb, .cells #[iB_ 2, .int .u8 dat, iB_ 1, u8_ abi, u8_ abiv, (boV big), u2_ tyN, u2_ machN, u6_ entryN, sl_ sg_ (i + 1) shnumN, sl_ pg phnumN phnumN, nl_, nl_, nl_] 131 (0, 0)), nf_Tr_w_B0 s b o n c] := HM.after hk (by
      intro g hg
      simp only [List.mem_cons, List.not_mem_nil, or_false] at hg
      rcases hg with rfl | rfl | rfl | rfl
      · exact HM.own (i := 3) rfl
      · exact HM.own (i := 2) rfl
      · exact HM.own (i := 1) rfl
      · exact HM.own (i := 0) rfl) rfl (by
      intro p hp
      simp only [List.mem_cons, List.not_mem_nil, or_false] at hp
      rcases hp with rfl | rfl | rfl | rfl | rfl
      · exact HM'.get (i := 5) rfl
      · exact HM'.get (i := 4) rfl
      · exact HM'.get (i := 3) rfl
      · exact HM'.get (i := 2) rfl
      · refine (hk.block s (HM.lt (i := 4) rfl) ?_).trans (HM.get (i := 4) rfl)
        simp only [List.mem_cons, List.not_mem_nil, or_false, not_or]
        exact ⟨HM.ne (i := 4) (j := 3) rfl rfl (by decide), HM.ne (i := 4) (j := 2) rfl rfl (by decide), HM.ne (i := 4) (j := 1) rfl rfl (by decide), HM.ne (i := 4) (j := 0) rfl rfl (by decide)⟩)
    exact nf_Tr_w l b o n c hl hnc big abi abiv tyN machN entryN phoffN phnumN shoffN shnumN dat b1 b2 b3 b4 b5 b6 b7 X hXl sc hv bd G w0 s fb pg sg_ nm_ sd K r (i + 1) (by omega) a' w' cur' nms' hcs' hns' hP3 (hN.next (by omega) htn) (hD.next (by omega) htk fun j hj e => by
      obtain ⟨pbj, _, g1, _, _, g4, _⟩ := hP j hj
      rw [g1] at e
      injection e with e
      injection e with e
      injection e with e
      injection e with e
      have := lt_of_get g4
      omega) HF' HM2

set_option maxRecDepth 100000 in
set_option maxHeartbeats 1000000 in
theorem nf_T_w (l : List UInt8) (b o n c : Nat) (hl : n = l.length) (hnc : n ≤ c) (big : Bool) (abi abiv tyN machN entryN phoffN phnumN shoffN shnumN : Nat) (dat : Int) (b1 : tyN < 65536) (b2 : machN < 65536) (b3 : entryN ≤ 18446744073709551615) (b4 : phoffN < 4611686018427387904) (b5 : shoffN < 4611686018427387904) (b6 : phnumN < 200) (b7 : shnumN < 200) (X : List UInt8) (hXl : X.length = (shnumN * 64)) (sc : Nat → SecV) (hv : ∀ i, i < shnumN → SecOk (X.drop (i * 64)) true big (sc i).name (sc i).ty (sc i).flags (sc i).addr (sc i).off (sc i).fsz (sc i).link (sc i).info (sc i).align (sc i).ent) (bd : ∀ i, i < shnumN → SecBd (sc i)) (G : List Nat) (w0 : World) (s fb pg sg_ nm_ sd : Nat) {Q : Exit → Act → World → Prop} (a : Act) (w : World) (cur nms : Array Value) (hcs : cur.size = shnumN) (hns : nms.size = shnumN) (HF : Fr 1287 a [(0, .iface 178 (.slice (some ⟨b, o, none⟩) n c)), (4, pt_ s), (8, pt_ fb), (9, (boV big)), (10, i6_ phoffN), (11, .int .i64 56), (12, i6_ phnumN), (13, i6_ shoffN), (14, .int .i64 64), (15, i6_ shnumN), (16, i6_ (shnumN - 1)), (26, .int .i64 64), (41, sl_ nm_ 0 shnumN), (42, sl_ sd (shnumN * 64) (shnumN * 64))]) (HM : Mm G w0 w [(sd, .cells (X.map Bv).toArray 5 (0, 0)), (nm_, .cells nms 36 (0, 0)), (sg_, .cells cur 133 (0, 0)), (fb, .cells #[.int .u8 2, .int .u8 dat, .int .u8 1, u8_ abi, u8_ abiv, (boV big), u2_ tyN, u2_ machN, u6_ entryN, sl_ sg_ 0 shnumN, sl_ pg phnumN phnumN, .slice none 0 0, .slice none 0 0, .slice none 0 0] 131 (0, 0)), (s, .cells #[.iface 178 (.slice (some ⟨b, o, none⟩) n c), .int .i64 0, .int .i64 0, .int .i64 9223372036854775807, .int .i64 9223372036854775807] 246 (0, 0))])
    (K : ∀ a w cur nms, cur.size = shnumN → nms.size = shnumN → SecsAt b o n c w0.heap.size w sc (fun _ => ⟨#[]⟩) shnumN cur → NamesAt sc shnumN nms → PtrNe shnumN cur → Fr 1287 a [(0, .iface 178 (.slice (some ⟨b, o, none⟩) n c)), (4, pt_ s), (8, pt_ fb), (9, (boV big)), (10, i6_ phoffN), (11, .int .i64 56), (12, i6_ phnumN), (13, i6_ shoffN), (14, .int .i64 64), (15, i6_ shnumN), (16, i6_ (shnumN - 1)), (26, .int .i64 64), (41, sl_ nm_ shnumN shnumN), (42, sl_ sd (shnumN * 64) (shnumN * 64))] → Mm G w0 w [(sd, .cells (X.map Bv).toArray 5 (0, 0)), (nm_, .cells nms 36 (0, 0)), (sg_, .cells cur 133 (0, 0)), (fb, .cells #[.int .u8 2, .int .u8 dat, .int .u8 1, u8_ abi, u8_ abiv, (boV big), u2_ tyN, u2_ machN, u6_ entryN, sl_ sg_ shnumN shnumN, sl_ pg phnumN phnumN, .slice none 0 0, .slice none 0 0, .slice none 0 0] 131 (0, 0)), (s, .cells #[.iface 178 (.slice (some ⟨b, o, none⟩) n c), .int .i64 0, .int .i64 0, .int .i64 9223372036854775807, .int .i64 9223372036854775807] 246 (0, 0))] → (spine Tryd.f78 45).wp Tryd.prog Q a w) : (spine Tryd.f78 44).wp Tryd.prog Q a w := by
  refine wp_seq ?_
  refine reg_sym HF HM rfl [] [(0, .iface 178 (.slice (some ⟨b, o, none⟩) n c)), (4, pt_ s), (8, pt_ fb), (9, (boV big)), (10, i6_ phoffN), (11, .int .i64 56), (12, i6_ phnumN), (13, i6_ shoffN), (14, .int .i64 64), (15, i6_ shnumN), (16, i6_ (shnumN - 1)), (26, .int .i64 64), (41, sl_ nm_ 0 shnumN), (42, sl_ sd (shnumN * 64) (shnumN * 64)), (43, i6_ 0)] [(sd, .cells (X.map Bv).toArray 5 (0, 0)), (nm_, .cells nms 36 (0, 0)), (sg_, .cells cur 133 (0, 0)), (fb, .cells #[.int .u8 2, .int .u8 dat, .int .u8 1, u8_ abi, u8_ abiv, (boV big), u2_ tyN, u2_ machN, u6_ entryN, sl_ sg_ 0 shnumN, sl_ pg phnumN phnumN, .slice none 0 0, .slice none 0 0, .slice none 0 0] 131 (0, 0)), (s, .cells #[.iface 178 (.slice (some ⟨b, o, none⟩) n c), .int .i64 0, .int .i64 0, .int .i64 9223372036854775807, .int .i64 9223372036854775807] 246 (0, 0))] (by kernel_rfl) ?_
  clear HF HM; intro a w HF HM
  refine wp_block (wp_loop_rounds (shnumN + 1) ?_)
  exact nf_Tr_w l b o n c hl hnc big abi abiv tyN machN entryN phoffN phnumN shoffN shnumN dat b1 b2 b3 b4 b5 b6 b7 X hXl sc hv bd G w0 s fb pg sg_ nm_ sd K shnumN 0 (by omega) a w cur nms hcs hns (fun j hj => absurd hj (Nat.not_lt_zero j)) (fun j hj => absurd hj (Nat.not_lt_zero j)) (fun i j _ hj => absurd hj (Nat.not_lt_zero j)) HF HM

end Go.Proofs.YtdgehpocmfjbiaaDoor
namespace Go.Proofs.YtdgehpocmfjbiaaDoor
open Go.RowKit

theorem run_index {P : Program} {w : World} {t e : TypeId} {info : TypeInfo} (ht : P.underlying t = some (.slice e)) (hi : P.info? e = some info) (hs : info.size = 1) {ρ : Operand → Value} {o : Oper} {x ix : Operand} (ho : o.op = .indexAddr t x ix) {b n c : Nat} (j : Nat) {k : IntKind} (hx : ρ x = sl_ b n c) (hj : ρ ix = .int k (j : Int)) (h : j < n) :
    (execOp ρ o).run P w = .ok (.value (.pointer (some ⟨b, j, none⟩))) w := by
  unfold execOp
  simp only [ho, hx, hj]
  simp [Instr.indexAt, run_underlying ht, asIntOf, sizeOf, typeInfo, hi, hs, h, Addr.add]
  exact fun h => h.symm
theorem size_ss : ∃ i, Tryd.prog.info? 133 = some i ∧ i.size = 1 := by
  obtain ⟨i, h1, _, h3, _⟩ := info_parts info_ss
  exact ⟨i, h1, h3⟩
theorem size_u32 : ∃ i, Tryd.prog.info? 36 = some i ∧ i.size = 1 := by
  obtain ⟨i, h1, _, h3, _⟩ := info_parts info_u32
  exact ⟨i, h1, h3⟩

abbrev nf_F_t_S0 := fun (b : Nat) (o : Nat) (n : Nat) (c : Nat) (s : Nat) (fb : Nat) (big : Bool) (phoffN : Nat) (phnumN : Nat) (shoffN : Nat) (shnumN : Nat) (nm_ : Nat) (sd : Nat) => ([(0, .iface 178 (.slice (some ⟨b, o, none⟩) n c)), (4, pt_ s), (8, pt_ fb), (9, (boV big)), (10, i6_ phoffN), (11, iI_ 32), (12, i6_ phnumN), (13, i6_ shoffN), (14, iI_ 40), (15, i6_ shnumN), (16, i6_ (shnumN - 1)), (26, iI_ 40), (41, sl_ nm_ shnumN shnumN), (42, sl_ sd (shnumN * 40) (shnumN * 40))] : Slots)
set_option maxRecDepth 100000 in
set_option maxHeartbeats 1000000 in
theorem nf_F_t (l : List UInt8) (b o n c : Nat) (hl : n = l.length) (hnc : n ≤ c) (big : Bool) (abi abiv tyN machN entryN phoffN phnumN shoffN shnumN : Nat) (dat : Int) (b1 : tyN < 65536) (b2 : machN < 65536) (b3 : entryN ≤ 18446744073709551615) (b4 : phoffN < 4611686018427387904) (b5 : shoffN < 4611686018427387904) (b6 : phnumN < 200) (b7 : shnumN < 200) (X : List UInt8) (sc : Nat → SecV) (c3 : 1 < shnumN) (hty : (sc (shnumN - 1)).ty = 3) (hfl : (and32 ((((sc (shnumN - 1)).flags : Nat) : Int)) 2048 == 0) = true) (f1 : 0 < (sc (shnumN - 1)).fsz) (f2 : (sc (shnumN - 1)).fsz < 10485760) (f3 : (sc (shnumN - 1)).off + (sc (shnumN - 1)).fsz ≤ n) (f4 : n ≤ 4611686018427387904) (G : List Nat) (w0 : World) (hbl : b < w0.heap.size) (hr : Row w0 (some ⟨b, o, none⟩) (l.map Bv)) (hbG : b ∉ G) (s fb pg sg_ nm_ sd : Nat) {Q : Exit → Act → World → Prop} (a : Act) (w : World) (cur nms : Array Value) (hP : SecsAt b o n c w0.heap.size w sc (fun _ => ⟨#[]⟩) shnumN cur) (HF : Fr 1287 a (nf_F_t_S0 b o n c s fb big phoffN phnumN shoffN shnumN nm_ sd)) (HM : Mm G w0 w [(sd, .cells (X.map Bv).toArray 5 (0, 0)), (nm_, .cells nms 36 (0, 0)), (sg_, .cells cur 133 (0, 0)), (fb, .cells #[iB_ 1, .int .u8 dat, iB_ 1, u8_ abi, u8_ abiv, (boV big), u2_ tyN, u2_ machN, u6_ entryN, sl_ sg_ shnumN shnumN, sl_ pg phnumN phnumN, nl_, nl_, nl_] 131 (0, 0)), (s, .cells #[.iface 178 (.slice (some ⟨b, o, none⟩) n c), iI_ 0, iI_ 0, iI_ 9223372036854775807, iI_ 9223372036854775807] 246 (0, 0))])
    (K : ∀ a w' tb_, SecsAt b o n c w0.heap.size w' sc (fun _ => ⟨#[]⟩) shnumN cur → Fr 1287 a ((nf_F_t_S0 b o n c s fb big phoffN phnumN shoffN shnumN nm_ sd) ++ [(53, sl_ tb_ (sc (shnumN - 1)).fsz (sc (shnumN - 1)).fsz)]) → Mm G w0 w' [(tb_, .cells (((l.drop (sc (shnumN - 1)).off).take (sc (shnumN - 1)).fsz).map Bv).toArray 5 (0, 0)), (sd, .cells (X.map Bv).toArray 5 (0, 0)), (nm_, .cells nms 36 (0, 0)), (sg_, .cells cur 133 (0, 0)), (fb, .cells #[iB_ 1, .int .u8 dat, iB_ 1, u8_ abi, u8_ abiv, (boV big), u2_ tyN, u2_ machN, u6_ entryN, sl_ sg_ shnumN shnumN, sl_ pg phnumN phnumN, nl_, nl_, nl_] 131 (0, 0)), (s, .cells #[.iface 178 (.slice (some ⟨b, o, none⟩) n c), iI_ 0, iI_ 0, iI_ 9223372036854775807, iI_ 9223372036854775807] 246 (0, 0))] → (spine Tryd.f78 51).wp Tryd.prog Q a w') : (spine Tryd.f78 45).wp Tryd.prog Q a w := by
  obtain ⟨i0, his, hss⟩ := size_ss
  obtain ⟨pq, sq, q1, q2, q3, q4, q5⟩ := hP (shnumN - 1) (by omega)
  refine wp_seq ?_
  refine wp_seq (wp_region_lit ?_)
  refine wp_pure HF HM rfl 6 [[1], []] ((nf_F_t_S0 b o n c s fb big phoffN phnumN shoffN shnumN nm_ sd) ++ [(1206, .bool (((shnumN : Nat) : Int) == 0))]) (by kernel_rfl) ?_
  clear HF; intro a HF
  rw [show (((shnumN : Nat) : Int) == 0) = false from beq_eq_false_iff_ne.2 (by omega)] at HF
  refine nil_then ?_
  refine wp_condF HF rfl ?_
  refine wp_skip ?_
  repeat (first | refine then_norm ?_ | refine inb_norm ?_)
  replace HF := HF.sub (nf_F_t_S0 b o n c s fb big phoffN phnumN shoffN shnumN nm_ sd) (by kernel_rfl)
  refine wp_seq ?_
  refine wp_seq (wp_region_lit ?_)
  refine wp_pure HF HM rfl 2 [] ((nf_F_t_S0 b o n c s fb big phoffN phnumN shoffN shnumN nm_ sd) ++ [(1209, .bool ((((shnumN - 1) : Nat) : Int) == 0))]) (by kernel_rfl) ?_
  clear HF; intro a HF
  rw [show ((((shnumN - 1) : Nat) : Int) == 0) = false from beq_eq_false_iff_ne.2 (by omega)] at HF
  refine nil_then ?_
  refine wp_condF HF rfl ?_
  refine wp_skip ?_
  repeat (first | refine then_norm ?_ | refine inb_norm ?_)
  replace HF := HF.sub (nf_F_t_S0 b o n c s fb big phoffN phnumN shoffN shnumN nm_ sd) (by kernel_rfl)
  refine wp_seq (wp_region_lit ?_)
  refine wp_pure HF HM rfl 5 [[1]] ((nf_F_t_S0 b o n c s fb big phoffN phnumN shoffN shnumN nm_ sd) ++ [(1214, sl_ sg_ shnumN shnumN), (1215, i6_ (shnumN - 1))]) (by kernel_rfl) ?_
  clear HF; intro a HF
  refine wp_run HF (by kernel_rfl) (.pointer (some ⟨sg_, shnumN - 1, none⟩)) (by kernel_rfl) (run_index (t := 126) Tryd.underlying126 his hss rfl (shnumN - 1) rfl rfl (by omega)) ?_
  clear HF; intro a HF; replace HF := HF.sub ((nf_F_t_S0 b o n c s fb big phoffN phnumN shoffN shnumN nm_ sd) ++ [(1214, sl_ sg_ shnumN shnumN), (1215, i6_ (shnumN - 1)), (1216, .pointer (some ⟨sg_, shnumN - 1, none⟩))]) (by kernel_rfl)
  refine wp_run HF (by kernel_rfl) (pt_ pq) (by kernel_rfl) (run_load_one rfl rfl (by kernel_rfl) (HM.cellAt (i := 2) (k := shnumN - 1) rfl q1)) ?_
  clear HF; intro a HF; replace HF := HF.sub ((nf_F_t_S0 b o n c s fb big phoffN phnumN shoffN shnumN nm_ sd) ++ [(1214, sl_ sg_ shnumN shnumN), (1215, i6_ (shnumN - 1)), (1216, .pointer (some ⟨sg_, shnumN - 1, none⟩)), (1217, pt_ pq)]) (by kernel_rfl)
  refine wp_pure HF HM rfl 1 [] ((nf_F_t_S0 b o n c s fb big phoffN phnumN shoffN shnumN nm_ sd) ++ [(52, pt_ pq)]) (by kernel_rfl) ?_
  clear HF; intro a HF
  refine nil_then ?_
  refine wp_seq ?_
  refine wp_seq (wp_region_lit ?_)
  refine wp_pure HF HM rfl 4 [] ((nf_F_t_S0 b o n c s fb big phoffN phnumN shoffN shnumN nm_ sd) ++ [(52, pt_ pq), (1221, .pointer (some ⟨pq, 1, none⟩))]) (by kernel_rfl) ?_
  clear HF; intro a HF
  refine wp_run HF (by kernel_rfl) (u3_ (sc (shnumN - 1)).ty) (by kernel_rfl) (run_load_one rfl rfl (by kernel_rfl) (by rw [cell_of_row _ pq 1 _ _ _ q4]; rfl)) ?_
  clear HF; intro a HF; replace HF := HF.sub ((nf_F_t_S0 b o n c s fb big phoffN phnumN shoffN shnumN nm_ sd) ++ [(52, pt_ pq), (1221, .pointer (some ⟨pq, 1, none⟩)), (1222, u3_ (sc (shnumN - 1)).ty)]) (by kernel_rfl)
  refine wp_pure HF HM rfl 1 [] ((nf_F_t_S0 b o n c s fb big phoffN phnumN shoffN shnumN nm_ sd) ++ [(52, pt_ pq), (1223, .bool ((((sc (shnumN - 1)).ty : Nat) : Int) != 3))]) (by kernel_rfl) ?_
  clear HF; intro a HF
  rw [show ((((sc (shnumN - 1)).ty : Nat) : Int) != 3) = false from by rw [hty]; rfl] at HF
  refine nil_then ?_
  refine wp_condF HF rfl ?_
  refine wp_skip ?_
  repeat (first | refine then_norm ?_ | refine inb_norm ?_)
  replace HF := HF.sub ((nf_F_t_S0 b o n c s fb big phoffN phnumN shoffN shnumN nm_ sd) ++ [(52, pt_ pq)]) (by kernel_rfl)
  refine wp_seq (wp_region_lit ?_)
  refine wp_pure HF HM rfl 1 [] ((nf_F_t_S0 b o n c s fb big phoffN phnumN shoffN shnumN nm_ sd) ++ [(52, pt_ pq), (1239, pt_ pq)]) (by kernel_rfl) ?_
  clear HF; intro a HF
  refine wp_call HF (by kernel_rfl) 63 #[pt_ pq] (by kernel_rfl) (fun w => by kernel_rfl) (Calls.mono (secData_full ⟨#[]⟩ (((sc (shnumN - 1)).ty : Nat) : Int) (((sc (shnumN - 1)).flags : Nat) : Int) (((sc (shnumN - 1)).addr : Nat) : Int) (((sc (shnumN - 1)).off : Nat) : Int) (((sc (shnumN - 1)).link : Nat) : Int) (((sc (shnumN - 1)).info : Nat) : Int) (((sc (shnumN - 1)).align : Nat) : Int) (((sc (shnumN - 1)).ent : Nat) : Int) (((sc (shnumN - 1)).fsz : Nat) : Int) (.iface 144 (pt_ sq)) (iI_ 0) (iI_ 0) pq sq (by rw [hty]; rfl) hfl (.inl (by decide)) l b o n c hl hnc (sc (shnumN - 1)).fsz (sc (shnumN - 1)).off (((sc (shnumN - 1)).off : Nat) : Int) ((((sc (shnumN - 1)).fsz : Nat) : Int) + (((sc (shnumN - 1)).off : Nat) : Int)) (((sc (shnumN - 1)).fsz : Nat) : Int) (by omega) (by omega) (by omega) (by omega) (by omega) (by omega) (by omega) w q4 q5 (Nat.lt_of_lt_of_le hbl HM.size) (by omega) (by omega) (other_block q4 q5 (by decide)) (HM.row hr (by intro b' o' s' e; injection e with e; injection e with e; subst e; exact hbG))) ?_)
  rintro _ w1 ⟨tb_, rfl, hb, hge, hgn⟩
  replace HM : Mm G w0 w1 [(tb_, .cells (((l.drop ((sc (shnumN - 1)).off + 0)).take (sc (shnumN - 1)).fsz).map Bv).toArray 5 (0, 0)), (sd, .cells (X.map Bv).toArray 5 (0, 0)), (nm_, .cells nms 36 (0, 0)), (sg_, .cells cur 133 (0, 0)), (fb, .cells #[iB_ 1, .int .u8 dat, iB_ 1, u8_ abi, u8_ abiv, (boV big), u2_ tyN, u2_ machN, u6_ entryN, sl_ sg_ shnumN shnumN, sl_ pg phnumN phnumN, nl_, nl_, nl_] 131 (0, 0)), (s, .cells #[.iface 178 (.slice (some ⟨b, o, none⟩) n c), iI_ 0, iI_ 0, iI_ 9223372036854775807, iI_ 9223372036854775807] 246 (0, 0))] := HM.push hb hge hgn
  clear hge hgn
  refine ⟨_, rfl, ?_⟩; clear HF; intro a HF; replace HF := HF.sub ((nf_F_t_S0 b o n c s fb big phoffN phnumN shoffN shnumN nm_ sd) ++ [(52, pt_ pq), (1239, pt_ pq), (1240, .tuple #[sl_ tb_ (sc (shnumN - 1)).fsz (sc (shnumN - 1)).fsz, .nilIface])]) (by kernel_rfl)
  refine wp_pure HF HM rfl 5 [] ((nf_F_t_S0 b o n c s fb big phoffN phnumN shoffN shnumN nm_ sd) ++ [(52, pt_ pq), (53, sl_ tb_ (sc (shnumN - 1)).fsz (sc (shnumN - 1)).fsz), (37, .nilIface)]) (by kernel_rfl) ?_
  clear HF; intro a HF
  refine nil_then ?_
  refine wp_seq ?_
  refine wp_seq (wp_region_lit ?_)
  refine wp_pure HF HM rfl 2 [] ((nf_F_t_S0 b o n c s fb big phoffN phnumN shoffN shnumN nm_ sd) ++ [(52, pt_ pq), (53, sl_ tb_ (sc (shnumN - 1)).fsz (sc (shnumN - 1)).fsz), (37, .nilIface), (1244, .bool false)]) (by kernel_rfl) ?_
  clear HF; intro a HF
  refine nil_then ?_
  refine wp_condF HF rfl ?_
  refine wp_skip ?_
  repeat (first | refine then_norm ?_ | refine inb_norm ?_)
  replace HF := HF.sub ((nf_F_t_S0 b o n c s fb big phoffN phnumN shoffN shnumN nm_ sd) ++ [(53, sl_ tb_ (sc (shnumN - 1)).fsz (sc (shnumN - 1)).fsz)]) (by kernel_rfl)
  replace HF := HF.sub ((nf_F_t_S0 b o n c s fb big phoffN phnumN shoffN shnumN nm_ sd) ++ [(53, sl_ tb_ (sc (shnumN - 1)).fsz (sc (shnumN - 1)).fsz)]) (by kernel_rfl)
  rw [Nat.add_zero] at HM
  exact K a w1 tb_ (hP.keep (Keep.of_below hb) (by intro g hg; cases hg)) HF HM

abbrev nf_F_w_S0 := fun (b : Nat) (o : Nat) (n : Nat) (c : Nat) (s : Nat) (fb : Nat) (big : Bool) (phoffN : Nat) (phnumN : Nat) (shoffN : Nat) (shnumN : Nat) (nm_ : Nat) (sd : Nat) => ([(0, .iface 178 (.slice (some ⟨b, o, none⟩) n c)), (4, pt_ s), (8, pt_ fb), (9, (boV big)), (10, i6_ phoffN), (11, iI_ 56), (12, i6_ phnumN), (13, i6_ shoffN), (14, iI_ 64), (15, i6_ shnumN), (16, i6_ (shnumN - 1)), (26, iI_ 64), (41, sl_ nm_ shnumN shnumN), (42, sl_ sd (shnumN * 64) (shnumN * 64))] : Slots)
set_option maxRecDepth 100000 in
set_option maxHeartbeats 1000000 in
theorem nf_F_w (l : List UInt8) (b o n c : Nat) (hl : n = l.length) (hnc : n ≤ c) (big : Bool) (abi abiv tyN machN entryN phoffN phnumN shoffN shnumN : Nat) (dat : Int) (b1 : tyN < 65536) (b2 : machN < 65536) (b3 : entryN ≤ 18446744073709551615) (b4 : phoffN < 4611686018427387904) (b5 : shoffN < 4611686018427387904) (b6 : phnumN < 200) (b7 : shnumN < 200) (X : List UInt8) (sc : Nat → SecV) (c3 : 1 < shnumN) (hty : (sc (shnumN - 1)).ty = 3) (hfl : (and32 ((((sc (shnumN - 1)).flags : Nat) : Int)) 2048 == 0) = true) (f1 : 0 < (sc (shnumN - 1)).fsz) (f2 : (sc (shnumN - 1)).fsz < 10485760) (f3 : (sc (shnumN - 1)).off + (sc (shnumN - 1)).fsz ≤ n) (f4 : n ≤ 4611686018427387904) (G : List Nat) (w0 : World) (hbl : b < w0.heap.size) (hr : Row w0 (some ⟨b, o, none⟩) (l.map Bv)) (hbG : b ∉ G) (s fb pg sg_ nm_ sd : Nat) {Q : Exit → Act → World → Prop} (a : Act) (w : World) (cur nms : Array Value) (hP : SecsAt b o n c w0.heap.size w sc (fun _ => ⟨#[]⟩) shnumN cur) (HF : Fr 1287 a (nf_F_w_S0 b o n c s fb big phoffN phnumN shoffN shnumN nm_ sd)) (HM : Mm G w0 w [(sd, .cells (X.map Bv).toArray 5 (0, 0)), (nm_, .cells nms 36 (0, 0)), (sg_, .cells cur 133 (0, 0)), (fb, .cells #[iB_ 2, .int .u8 dat, iB_ 1, u8_ abi, u8_ abiv, (boV big), u2_ tyN, u2_ machN, u6_ entryN, sl_ sg_ shnumN shnumN, sl_ pg phnumN phnumN, nl_, nl_, nl_] 131 (0, 0)), (s, .cells #[.iface 178 (.slice (some ⟨b, o, none⟩) n c), iI_ 0, iI_ 0, iI_ 9223372036854775807, iI_ 9223372036854775807] 246 (0, 0))])
    (K : ∀ a w' tb_, SecsAt b o n c w0.heap.size w' sc (fun _ => ⟨#[]⟩) shnumN cur → Fr 1287 a ((nf_F_w_S0 b o n c s fb big phoffN phnumN shoffN shnumN nm_ sd) ++ [(53, sl_ tb_ (sc (shnumN - 1)).fsz (sc (shnumN - 1)).fsz)]) → Mm G w0 w' [(tb_, .cells (((l.drop (sc (shnumN - 1)).off).take (sc (shnumN - 1)).fsz).map Bv).toArray 5 (0, 0)), (sd, .cells (X.map Bv).toArray 5 (0, 0)), (nm_, .cells nms 36 (0, 0)), (sg_, .cells cur 133 (0, 0)), (fb, .cells #[iB_ 2, .int .u8 dat, iB_ 1, u8_ abi, u8_ abiv, (boV big), u2_ tyN, u2_ machN, u6_ entryN, sl_ sg_ shnumN shnumN, sl_ pg phnumN phnumN, nl_, nl_, nl_] 131 (0, 0)), (s, .cells #[.iface 178 (.slice (some ⟨b, o, none⟩) n c), iI_ 0, iI_ 0, iI_ 9223372036854775807, iI_ 9223372036854775807] 246 (0, 0))] → (spine Tryd.f78 51).wp Tryd.prog Q a w') : (spine Tryd.f78 45).wp Tryd.prog Q a w := by
  obtain ⟨i0, his, hss⟩ := size_ss
  obtain ⟨pq, sq, q1, q2, q3, q4, q5⟩ := hP (shnumN - 1) (by omega)
  refine wp_seq ?_
  refine wp_seq (wp_region_lit ?_)
  refine wp_pure HF HM rfl 6 [[1], []] ((nf_F_w_S0 b o n c s fb big phoffN phnumN shoffN shnumN nm_ sd) ++ [(1206, .bool (((shnumN : Nat) : Int) == 0))]) (by kernel_rfl) ?_
  clear HF; intro a HF
  rw [show (((shnumN : Nat) : Int) == 0) = false from beq_eq_false_iff_ne.2 (by omega)] at HF
  refine nil_then ?_
  refine wp_condF HF rfl ?_
  refine wp_skip ?_
  repeat (first | refine then_norm ?_ | refine inb_norm ?_)
  replace HF := HF.sub (nf_F_w_S0 b o n c s fb big phoffN phnumN shoffN shnumN nm_ sd) (by kernel_rfl)
  refine wp_seq ?_
  refine wp_seq (wp_region_lit ?_)
  refine wp_pure HF HM rfl 2 [] ((nf_F_w_S0 b o n c s fb big phoffN phnumN shoffN shnumN nm_ sd) ++ [(1209, .bool ((((shnumN - 1) : Nat) : Int) == 0))]) (by kernel_rfl) ?_
  clear HF; intro a HF
  rw [show ((((shnumN - 1) : Nat) : Int) == 0) = false from beq_eq_false_iff_ne.2 (by omega)] at HF
  refine nil_then ?_
  refine wp_condF HF rfl ?_
  refine wp_skip ?_
  repeat (first | refine then_norm ?_ | refine inb_norm ?_)
  replace HF := HF.sub (nf_F_w_S0 b o n c s fb big phoffN phnumN shoffN shnumN nm_ sd) (by kernel_rfl)
  refine wp_seq (wp_region_lit ?_)
  refine wp_pure HF HM rfl 5 [[1]] ((nf_F_w_S0 b o n c s fb big phoffN phnumN shoffN shnumN nm_ sd) ++ [(1214, sl_ sg_ shnumN shnumN), (1215, i6_ (shnumN - 1))]) (by kernel_rfl) ?_
  clear HF; intro a HF
  refine wp_run HF (by kernel_rfl) (.pointer (some ⟨sg_, shnumN - 1, none⟩)) (by kernel_rfl) (run_index (t := 126) Tryd.underlying126 his hss rfl (shnumN - 1) rfl rfl (by omega)) ?_
  clear HF; intro a HF; replace HF := HF.sub ((nf_F_w_S0 b o n c s fb big phoffN phnumN shoffN shnumN nm_ sd) ++ [(1214, sl_ sg_ shnumN shnumN), (1215, i6_ (shnumN - 1)), (1216, .pointer (some ⟨sg_, shnumN - 1, none⟩))]) (by kernel_rfl)
  refine wp_run HF (by kernel_rfl) (pt_ pq) (by kernel_rfl) (run_load_one rfl rfl (by kernel_rfl) (HM.cellAt (i := 2) (k := shnumN - 1) rfl q1)) ?_
  clear HF; intro a HF; replace HF := HF.sub ((nf_F_w_S0 b o n c s fb big phoffN phnumN shoffN shnumN nm_ sd) ++ [(1214, sl_ sg_ shnumN shnumN), (1215, i6_ (shnumN - 1)), (1216, .pointer (some ⟨sg_, shnumN - 1, none⟩)), (1217, pt_ pq)]) (by kernel_rfl)
  refine wp_pure HF HM rfl 1 [] ((nf_F_w_S0 b o n c s fb big phoffN phnumN shoffN shnumN nm_ sd) ++ [(52, pt_ pq)]) (by kernel_rfl) ?_
  clear HF; intro a HF
  refine nil_then ?_
  refine wp_seq ?_
  refine wp_seq (wp_region_lit ?_)
  refine wp_pure HF HM rfl 4 [] ((nf_F_w_S0 b o n c s fb big phoffN phnumN shoffN shnumN nm_ sd) ++ [(52, pt_ pq), (1221, .pointer (some ⟨pq, 1, none⟩))]) (by kernel_rfl) ?_
  clear HF; intro a HF
  refine wp_run HF (by kernel_rfl) (u3_ (sc (shnumN - 1)).ty) (by kernel_rfl) (run_load_one rfl rfl (by kernel_rfl) (by rw [cell_of_row _ pq 1 _ _ _ q4]; rfl)) ?_
  clear HF; intro a HF; replace HF := HF.sub ((nf_F_w_S0 b o n c s fb big phoffN phnumN shoffN shnumN nm_ sd) ++ [(52, pt_ pq), (1221, .pointer (some ⟨pq, 1, none⟩)), (1222, u3_ (sc (shnumN - 1)).ty)]) (by kernel_rfl)
  refine wp_pure HF HM rfl 1 [] ((nf_F_w_S0 b o n c s fb big phoffN phnumN shoffN shnumN nm_ sd) ++ [(52, pt_ pq), (1223, .bool ((((sc (shnumN - 1)).ty : Nat) : Int) != 3))]) (by kernel_rfl) ?_
  clear HF; intro a HF
  rw [show ((((sc (shnumN - 1)).ty : Nat) : Int) != 3) = false from by rw [hty]; rfl] at HF
  refine nil_then ?_
  refine wp_condF HF rfl ?_
  refine wp_skip ?_
  repeat (first | refine then_norm ?_ | refine inb_norm ?_)
  replace HF := HF.sub ((nf_F_w_S0 b o n c s fb big phoffN phnumN shoffN shnumN nm_ sd) ++ [(52, pt_ pq)]) (by kernel_rfl)
  refine wp_seq (wp_region_lit ?_)
  refine wp_pure HF HM rfl 1 [] ((nf_F_w_S0 b o n c s fb big phoffN phnumN shoffN shnumN nm_ sd) ++ [(52, pt_ pq), (1239, pt_ pq)]) (by kernel_rfl) ?_
  clear HF; intro a HF
  refine wp_call HF (by kernel_rfl) 63 #[pt_ pq] (by kernel_rfl) (fun w => by kernel_rfl) (Calls.mono (secData_full ⟨#[]⟩ (((sc (shnumN - 1)).ty : Nat) : Int) (((sc (shnumN - 1)).flags : Nat) : Int) (((sc (shnumN - 1)).addr : Nat) : Int) (((sc (shnumN - 1)).off : Nat) : Int) (((sc (shnumN - 1)).link : Nat) : Int) (((sc (shnumN - 1)).info : Nat) : Int) (((sc (shnumN - 1)).align : Nat) : Int) (((sc (shnumN - 1)).ent : Nat) : Int) (((sc (shnumN - 1)).fsz : Nat) : Int) (.iface 144 (pt_ sq)) (iI_ 0) (iI_ 0) pq sq (by rw [hty]; rfl) hfl (.inl (by decide)) l b o n c hl hnc (sc (shnumN - 1)).fsz (sc (shnumN - 1)).off (((sc (shnumN - 1)).off : Nat) : Int) ((((sc (shnumN - 1)).fsz : Nat) : Int) + (((sc (shnumN - 1)).off : Nat) : Int)) (((sc (shnumN - 1)).fsz : Nat) : Int) (by omega) (by omega) (by omega) (by omega) (by omega) (by omega) (by omega) w q4 q5 (Nat.lt_of_lt_of_le hbl HM.size) (by omega) (by omega) (other_block q4 q5 (by decide)) (HM.row hr (by intro b' o' s' e; injection e with e; injection e with e; subst e; exact hbG))) ?_)
  rintro _ w1 ⟨tb_, rfl, hb, hge, hgn⟩
  replace HM : Mm G w0 w1 [(tb_, .cells (((l.drop ((sc (shnumN - 1)).off + 0)).take (sc (shnumN - 1)).fsz).map Bv).toArray 5 (0, 0)), (sd, .cells (X.map Bv).toArray 5 (0, 0)), (nm_, .cells nms 36 (0, 0)), (sg_, .cells cur 133 (0, 0)), (fb, .cells #[iB_ 2, .int .u8 dat, iB_ 1, u8_ abi, u8_ abiv, (boV big), u2_ tyN, u2_ machN, u6_ entryN, sl_ sg_ shnumN shnumN, sl_ pg phnumN phnumN, nl_, nl_, nl_] 131 (0, 0)), (s, .cells #[.iface 178 (.slice (some ⟨b, o, none⟩) n c), iI_ 0, iI_ 0, iI_ 9223372036854775807, iI_ 9223372036854775807] 246 (0, 0))] := HM.push hb hge hgn
  clear hge hgn
  refine ⟨_, rfl, ?_⟩; clear HF; intro a HF; replace HF := HF.sub ((nf_F_w_S0 b o n c s fb big phoffN phnumN shoffN shnumN nm_ sd) ++ [(52, pt_ pq), (1239, pt_ pq), (1240, .tuple #[sl_ tb_ (sc (shnumN - 1)).fsz (sc (shnumN - 1)).fsz, .nilIface])]) (by kernel_rfl)
  refine wp_pure HF HM rfl 5 [] ((nf_F_w_S0 b o n c s fb big phoffN phnumN shoffN shnumN nm_ sd) ++ [(52, pt_ pq), (53, sl_ tb_ (sc (shnumN - 1)).fsz (sc (shnumN - 1)).fsz), (37, .nilIface)]) (by kernel_rfl) ?_
  clear HF; intro a HF
  refine nil_then ?_
  refine wp_seq ?_
  refine wp_seq (wp_region_lit ?_)
  refine wp_pure HF HM rfl 2 [] ((nf_F_w_S0 b o n c s fb big phoffN phnumN shoffN shnumN nm_ sd) ++ [(52, pt_ pq), (53, sl_ tb_ (sc (shnumN - 1)).fsz (sc (shnumN - 1)).fsz), (37, .nilIface), (1244, .bool false)]) (by kernel_rfl) ?_
  clear HF; intro a HF
  refine nil_then ?_
  refine wp_condF HF rfl ?_
  refine wp_skip ?_
  repeat (first | refine then_norm ?_ | refine inb_norm ?_)
  replace HF := HF.sub ((nf_F_w_S0 b o n c s fb big phoffN phnumN shoffN shnumN nm_ sd) ++ [(53, sl_ tb_ (sc (shnumN - 1)).fsz (sc (shnumN - 1)).fsz)]) (by kernel_rfl)
  replace HF := HF.sub ((nf_F_w_S0 b o n c s fb big phoffN phnumN shoffN shnumN nm_ sd) ++ [(53, sl_ tb_ (sc (shnumN - 1)).fsz (sc (shnumN - 1)).fsz)]) (by kernel_rfl)
  rw [Nat.add_zero] at HM
  exact K a w1 tb_ (hP.keep (Keep.of_below hb) (by intro g hg; cases hg)) HF HM

end Go.Proofs.YtdgehpocmfjbiaaDoor
namespace Go.Proofs.YtdgehpocmfjbiaaDoor
open Go.RowKit

theorem SecsAt.named {b o n c z : Nat} {w w' : World} {sc : Nat → SecV} {nb : Nat → List UInt8} {k i : Nat} {cur : Array Value} {pb sb : Nat} (h : SecsAt b o n c z w sc (fun j => if j < i then ⟨(nb j).toArray⟩ else ⟨#[]⟩) k cur) (hD : PtrNe k cur) (hi : i < k) (hc : cur[i]? = some (pt_ pb)) (hsb : w.heap[pb]? = some (.cells #[.string ⟨#[]⟩, u3_ (sc i).ty, u3_ (sc i).flags, u6_ (sc i).addr, u6_ (sc i).off, u6_ (sc i).fsz, u3_ (sc i).link, u3_ (sc i).info, u6_ (sc i).align, u6_ (sc i).ent, u6_ (sc i).fsz, .iface 144 (pt_ sb), pt_ sb, .int .i64 0, .int .i64 0] 153 (0, 0)))
    (hk : Keep [pb] w w') (hn : w'.heap[pb]? = some (.cells #[.string ⟨(nb i).toArray⟩, u3_ (sc i).ty, u3_ (sc i).flags, u6_ (sc i).addr, u6_ (sc i).off, u6_ (sc i).fsz, u3_ (sc i).link, u3_ (sc i).info, u6_ (sc i).align, u6_ (sc i).ent, u6_ (sc i).fsz, .iface 144 (pt_ sb), pt_ sb, .int .i64 0, .int .i64 0] 153 (0, 0))) : SecsAt b o n c z w' sc (fun j => if j < (i + 1) then ⟨(nb j).toArray⟩ else ⟨#[]⟩) k cur := fun j hj => by
  obtain ⟨pj, sj, h1, h2, h3, h4, h5⟩ := h j hj
  have h5' : w'.heap[sj]? = w.heap[sj]? := hk.block sj (lt_of_get h5) (by simpa using other_block h5 hsb (by decide))
  by_cases hji : j = i
  · subst hji
    rw [hc] at h1
    injection h1 with h1
    injection h1 with h1
    injection h1 with h1
    injection h1 with h1
    subst h1
    simp only [Nat.lt_irrefl, ↓reduceIte] at h4
    rw [hsb] at h4
    refine ⟨pb, sj, hc, h2, h3, ?_, h5'.trans h5⟩
    simp only [Nat.lt_add_one, ↓reduceIte]
    rw [hn]
    injection h4 with h4
    injection h4 with h4
    have e := congrArg (fun a => a[12]?) h4
    simp only [List.getElem?_toArray] at e
    injection e with e
    injection e with e
    injection e with e
    injection e with e
    subst e
    rfl
  · have hne : pj ≠ pb := fun e => by
      subst e
      rcases Nat.lt_or_ge j i with hlt | hge
      · exact hD j i hlt hi (h1.trans hc.symm)
      · exact hD i j (by omega) hj (hc.trans h1.symm)
    refine ⟨pj, sj, h1, h2, h3, ?_, h5'.trans h5⟩
    rw [hk.block pj (lt_of_get h4) (by simpa using hne), h4]
    have : (j < i + 1) = (j < i) := propext ⟨fun h => by omega, fun h => by omega⟩
    simp only [this]

abbrev nf_G_t_S0 := fun (b : Nat) (o : Nat) (n : Nat) (c : Nat) (s : Nat) (fb : Nat) (big : Bool) (phoffN : Nat) (phnumN : Nat) (shoffN : Nat) (shnumN : Nat) (nm_ : Nat) (sd : Nat) (tb_ : Nat) (tm : Nat) (sg_ : Nat) => ([(0, .iface 178 (.slice (some ⟨b, o, none⟩) n c)), (4, pt_ s), (8, pt_ fb), (9, (boV big)), (10, i6_ phoffN), (11, iI_ 32), (12, i6_ phnumN), (13, i6_ shoffN), (14, iI_ 40), (15, i6_ shnumN), (16, i6_ (shnumN - 1)), (26, iI_ 40), (41, sl_ nm_ shnumN shnumN), (42, sl_ sd (shnumN * 40) (shnumN * 40)), (53, sl_ tb_ tm tm), (1249, sl_ sg_ shnumN shnumN), (1250, i6_ shnumN)] : Slots)
abbrev nf_G_t_S1 := fun (b : Nat) (o : Nat) (n : Nat) (c : Nat) (s : Nat) (fb : Nat) (big : Bool) (phoffN : Nat) (phnumN : Nat) (shoffN : Nat) (shnumN : Nat) (nm_ : Nat) (sd : Nat) (tb_ : Nat) (tm : Nat) (sg_ : Nat) (i : Nat) (pb : Nat) => ((nf_G_t_S0 b o n c s fb big phoffN phnumN shoffN shnumN nm_ sd tb_ tm sg_) ++ [(1251, i6_ i), (54, i6_ i), (55, pt_ pb), (56, .bool false)] : Slots)
abbrev nf_G_t_B2 := fun (pb : Nat) (nb : Nat → List UInt8) (i : Nat) (sc : Nat → SecV) (sb : Nat) => ((pb, .cells #[.string ⟨(nb i).toArray⟩, u3_ (sc i).ty, u3_ (sc i).flags, u6_ (sc i).addr, u6_ (sc i).off, u6_ (sc i).fsz, u3_ (sc i).link, u3_ (sc i).info, u6_ (sc i).align, u6_ (sc i).ent, u6_ (sc i).fsz, .iface 144 (pt_ sb), pt_ sb, iI_ 0, iI_ 0] 153 (0, 0)) : Nat × Obj)
set_option maxRecDepth 100000 in
set_option maxHeartbeats 1000000 in
theorem nf_G_t (l : List UInt8) (b o n c : Nat) (hl : n = l.length) (hnc : n ≤ c) (big : Bool) (phoffN phnumN shoffN shnumN : Nat) (b7 : shnumN < 200) (sc : Nat → SecV) (nb : Nat → List UInt8) (Y : List UInt8) (tm : Nat) (hY : tm = Y.length) (htm : tm ≤ maxLen) (i : Nat) (hi : i < shnumN) (hv : (sc i).name < 4294967296) (hstr : strAt Y (sc i).name = some (nb i)) (s fb pg sg_ nm_ sd tb_ pb sb : Nat) (cur nms : Array Value) {K0 : Act → World → Prop} {Q : Exit → Act → World → Prop} (a : Act) (W1 : World)
    (hc : cur[i]? = some (pt_ pb)) (hN : NamesAt sc shnumN nms) (hsg0 : W1.heap[sg_]? = some (.cells cur 133 (0, 0))) (hnm0 : W1.heap[nm_]? = some (.cells nms 36 (0, 0))) (htb0 : W1.heap[tb_]? = some (.cells (Y.map Bv).toArray 5 (0, 0))) (hpb : W1.heap[pb]? = some (.cells #[.string ⟨#[]⟩, u3_ (sc i).ty, u3_ (sc i).flags, u6_ (sc i).addr, u6_ (sc i).off, u6_ (sc i).fsz, u3_ (sc i).link, u3_ (sc i).info, u6_ (sc i).align, u6_ (sc i).ent, u6_ (sc i).fsz, .iface 144 (pt_ sb), pt_ sb, iI_ 0, iI_ 0] 153 (0, 0))) (HF : Fr 1287 a ((nf_G_t_S0 b o n c s fb big phoffN phnumN shoffN shnumN nm_ sd tb_ tm sg_) ++ [(1251, i6_ i)]))
    (K : ∀ a w', Keep [pb] W1 w' → w'.heap[pb]? = some (.cells #[.string ⟨(nb i).toArray⟩, u3_ (sc i).ty, u3_ (sc i).flags, u6_ (sc i).addr, u6_ (sc i).off, u6_ (sc i).fsz, u3_ (sc i).link, u3_ (sc i).info, u6_ (sc i).align, u6_ (sc i).ent, u6_ (sc i).fsz, .iface 144 (pt_ sb), pt_ sb, iI_ 0, iI_ 0] 153 (0, 0)) → Fr 1287 a ((nf_G_t_S0 b o n c s fb big phoffN phnumN shoffN shnumN nm_ sd tb_ tm sg_) ++ [(1251, i6_ (i + 1))]) → K0 a w') : (lpOf (spine Tryd.f78 51)).wp Tryd.prog (Exit.then K0 Q) a W1 := by
  obtain ⟨i0, his, hss⟩ := size_ss
  obtain ⟨i1, hiu, hsu⟩ := size_u32
  obtain ⟨w, hw⟩ : ∃ w, W1 = w := ⟨_, rfl⟩
  have HM : Mm [pb] W1 w [(pb, .cells #[.string ⟨#[]⟩, u3_ (sc i).ty, u3_ (sc i).flags, u6_ (sc i).addr, u6_ (sc i).off, u6_ (sc i).fsz, u3_ (sc i).link, u3_ (sc i).info, u6_ (sc i).align, u6_ (sc i).ent, u6_ (sc i).fsz, .iface 144 (pt_ sb), pt_ sb, iI_ 0, iI_ 0] 153 (0, 0))] := hw ▸ Mm.start1 hpb
  have hsg := hw ▸ hsg0
  have hnm := hw ▸ hnm0
  have htb := hw ▸ htb0
  conv => arg 5; rw [hw]
  clear hw
  refine wp_seq (wp_region_lit ?_)
  refine wp_pure HF HM rfl 1 [] ((nf_G_t_S0 b o n c s fb big phoffN phnumN shoffN shnumN nm_ sd tb_ tm sg_) ++ [(1251, i6_ i), (1252, .bool (decide (((i : Nat) : Int) < ((shnumN : Nat) : Int))))]) (by kernel_rfl) ?_
  clear HF; intro a HF
  rw [show decide (((i : Nat) : Int) < ((shnumN : Nat) : Int)) = true from dec_t (by omega)] at HF
  refine nil_then ?_
  refine wp_seq ?_
  refine wp_condT HF rfl ?_
  refine wp_skip ?_
  repeat (first | refine then_norm ?_ | refine inb_norm ?_)
  replace HF := HF.sub ((nf_G_t_S0 b o n c s fb big phoffN phnumN shoffN shnumN nm_ sd tb_ tm sg_) ++ [(1251, i6_ i)]) (by kernel_rfl)
  refine wp_seq (wp_block ?_)
  refine wp_seq (wp_region_lit ?_)
  refine wp_pure HF HM rfl 1 [] ((nf_G_t_S0 b o n c s fb big phoffN phnumN shoffN shnumN nm_ sd tb_ tm sg_) ++ [(1251, i6_ i), (1253, i6_ i)]) (by kernel_rfl) ?_
  clear HF; intro a HF
  refine wp_run HF (by kernel_rfl) (.pointer (some ⟨sg_, i, none⟩)) (by kernel_rfl) (run_index (t := 126) Tryd.underlying126 his hss rfl i rfl rfl (by omega)) ?_
  clear HF; intro a HF; replace HF := HF.sub ((nf_G_t_S0 b o n c s fb big phoffN phnumN shoffN shnumN nm_ sd tb_ tm sg_) ++ [(1251, i6_ i), (1253, i6_ i), (1254, .pointer (some ⟨sg_, i, none⟩))]) (by kernel_rfl)
  refine wp_run HF (by kernel_rfl) (pt_ pb) (by kernel_rfl) (run_load_one rfl rfl (by kernel_rfl) ((cell_of_row w sg_ i _ _ _ hsg).trans hc)) ?_
  clear HF; intro a HF; replace HF := HF.sub ((nf_G_t_S0 b o n c s fb big phoffN phnumN shoffN shnumN nm_ sd tb_ tm sg_) ++ [(1251, i6_ i), (1253, i6_ i), (1254, .pointer (some ⟨sg_, i, none⟩)), (1255, pt_ pb)]) (by kernel_rfl)
  refine wp_pure HF HM rfl 2 [] ((nf_G_t_S0 b o n c s fb big phoffN phnumN shoffN shnumN nm_ sd tb_ tm sg_) ++ [(1251, i6_ i), (54, i6_ i), (55, pt_ pb)]) (by kernel_rfl) ?_
  clear HF; intro a HF
  refine nil_then ?_
  refine reg_pure HF HM rfl [] (nf_G_t_S1 b o n c s fb big phoffN phnumN shoffN shnumN nm_ sd tb_ tm sg_ i pb) (by kernel_rfl) ?_
  clear HF; intro a HF
  refine wp_seq (wp_region_lit ?_)
  refine wp_pure HF HM rfl 4 [] ((nf_G_t_S1 b o n c s fb big phoffN phnumN shoffN shnumN nm_ sd tb_ tm sg_ i pb) ++ [(1257, pt_ pb), (1258, sl_ tb_ tm tm), (1259, sl_ nm_ shnumN shnumN), (1260, i6_ i)]) (by kernel_rfl) ?_
  clear HF; intro a HF
  refine wp_run HF (by kernel_rfl) (.pointer (some ⟨nm_, i, none⟩)) (by kernel_rfl) (run_index (t := 222) Tryd.underlying222 hiu hsu rfl i rfl rfl (by omega)) ?_
  clear HF; intro a HF; replace HF := HF.sub ((nf_G_t_S1 b o n c s fb big phoffN phnumN shoffN shnumN nm_ sd tb_ tm sg_ i pb) ++ [(1257, pt_ pb), (1258, sl_ tb_ tm tm), (1259, sl_ nm_ shnumN shnumN), (1260, i6_ i), (1261, .pointer (some ⟨nm_, i, none⟩))]) (by kernel_rfl)
  refine wp_run HF (by kernel_rfl) (u3_ (sc i).name) (by kernel_rfl) (run_load_one rfl rfl (by kernel_rfl) ((cell_of_row w nm_ i _ _ _ hnm).trans (hN i hi))) ?_
  clear HF; intro a HF; replace HF := HF.sub ((nf_G_t_S1 b o n c s fb big phoffN phnumN shoffN shnumN nm_ sd tb_ tm sg_ i pb) ++ [(1257, pt_ pb), (1258, sl_ tb_ tm tm), (1259, sl_ nm_ shnumN shnumN), (1260, i6_ i), (1261, .pointer (some ⟨nm_, i, none⟩)), (1262, u3_ (sc i).name)]) (by kernel_rfl)
  refine wp_pure HF HM rfl 1 [] ((nf_G_t_S1 b o n c s fb big phoffN phnumN shoffN shnumN nm_ sd tb_ tm sg_ i pb) ++ [(1257, pt_ pb), (1258, sl_ tb_ tm tm), (1263, iI_ (IntKind.i64.wrap (((sc i).name : Nat) : Int)))]) (by kernel_rfl) ?_
  clear HF; intro a HF
  rw [show IntKind.i64.wrap (((sc i).name : Nat) : Int) = (((sc i).name : Nat) : Int) from IntWalk.i64_in _ (by omega)] at HF
  refine wp_call HF (by kernel_rfl) 91 #[sl_ tb_ tm tm, i6_ (sc i).name] (by kernel_rfl) (fun w => by kernel_rfl) (Calls.mono (getString_any (some ⟨tb_, 0, none⟩) Y tm tm (((sc i).name : Nat) : Int) hY (Nat.le_refl _) htm w (row_of_block htb)) ?_)
  rintro _ w1 ⟨rfl, hq⟩
  obtain rfl : w1 = w := hq.symm
  rw [show strAtI Y (((sc i).name : Nat) : Int) = some (nb i) from (if_neg (by omega)).trans hstr]
  refine ⟨_, rfl, ?_⟩; clear HF; intro a HF; replace HF := HF.sub ((nf_G_t_S1 b o n c s fb big phoffN phnumN shoffN shnumN nm_ sd tb_ tm sg_ i pb) ++ [(1257, pt_ pb), (1258, sl_ tb_ tm tm), (1263, i6_ (sc i).name), (1264, .tuple #[.string ⟨(nb i).toArray⟩, .bool true])]) (by kernel_rfl)
  refine wp_sym HF HM rfl 8 [[0]] ((nf_G_t_S0 b o n c s fb big phoffN phnumN shoffN shnumN nm_ sd tb_ tm sg_) ++ [(1251, i6_ i), (54, i6_ i), (55, pt_ pb), (56, .bool true)]) [nf_G_t_B2 pb nb i sc sb] (by kernel_rfl) ?_
  clear HF HM; intro a w HF HM
  refine nil_then ?_
  refine wp_seq (wp_region_lit ?_)
  refine wp_sym HF HM rfl 2 [] ((nf_G_t_S0 b o n c s fb big phoffN phnumN shoffN shnumN nm_ sd tb_ tm sg_) ++ [(1251, i6_ i), (54, i6_ i), (55, pt_ pb), (56, .bool true), (1271, .bool false)]) [nf_G_t_B2 pb nb i sc sb] (by kernel_rfl) ?_
  clear HF HM; intro a w HF HM
  refine nil_then ?_
  refine wp_condF HF rfl ?_
  refine wp_skip ?_
  repeat (first | refine then_norm ?_ | refine inb_norm ?_)
  replace HF := HF.sub ((nf_G_t_S0 b o n c s fb big phoffN phnumN shoffN shnumN nm_ sd tb_ tm sg_) ++ [(1251, i6_ i)]) (by kernel_rfl)
  refine wp_region_lit ?_
  refine wp_sym HF HM rfl 1 [] ((nf_G_t_S0 b o n c s fb big phoffN phnumN shoffN shnumN nm_ sd tb_ tm sg_) ++ [(1251, i6_ i), (1285, iI_ (IntKind.i64.wrap (((i : Nat) : Int) + 1)))]) [nf_G_t_B2 pb nb i sc sb] (by kernel_rfl) ?_
  clear HF HM; intro a w HF HM
  rw [show IntKind.i64.wrap (((i : Nat) : Int) + 1) = (((i + 1) : Nat) : Int) from (IntWalk.i64_in _ (by omega)).trans (by omega)] at HF
  refine wp_sym HF HM rfl 1 [] ((nf_G_t_S0 b o n c s fb big phoffN phnumN shoffN shnumN nm_ sd tb_ tm sg_) ++ [(1251, i6_ (i + 1))]) [nf_G_t_B2 pb nb i sc sb] (by kernel_rfl) ?_
  clear HF HM; intro a w HF HM
  refine wpList_nil ?_
  repeat (first | refine then_norm ?_ | refine inb_norm ?_)
  replace HF := HF.sub ((nf_G_t_S0 b o n c s fb big phoffN phnumN shoffN shnumN nm_ sd tb_ tm sg_) ++ [(1251, i6_ (i + 1))]) (by kernel_rfl)
  exact K a w HM.keep (HM.get (i := 0) rfl) HF

abbrev nf_G_w_S0 := fun (b : Nat) (o : Nat) (n : Nat) (c : Nat) (s : Nat) (fb : Nat) (big : Bool) (phoffN : Nat) (phnumN : Nat) (shoffN : Nat) (shnumN : Nat) (nm_ : Nat) (sd : Nat) (tb_ : Nat) (tm : Nat) (sg_ : Nat) => ([(0, .iface 178 (.slice (some ⟨b, o, none⟩) n c)), (4, pt_ s), (8, pt_ fb), (9, (boV big)), (10, i6_ phoffN), (11, iI_ 56), (12, i6_ phnumN), (13, i6_ shoffN), (14, iI_ 64), (15, i6_ shnumN), (16, i6_ (shnumN - 1)), (26, iI_ 64), (41, sl_ nm_ shnumN shnumN), (42, sl_ sd (shnumN * 64) (shnumN * 64)), (53, sl_ tb_ tm tm), (1249, sl_ sg_ shnumN shnumN), (1250, i6_ shnumN)] : Slots)
abbrev nf_G_w_S1 := fun (b : Nat) (o : Nat) (n : Nat) (c : Nat) (s : Nat) (fb : Nat) (big : Bool) (phoffN : Nat) (phnumN : Nat) (shoffN : Nat) (shnumN : Nat) (nm_ : Nat) (sd : Nat) (tb_ : Nat) (tm : Nat) (sg_ : Nat) (i : Nat) (pb : Nat) => ((nf_G_w_S0 b o n c s fb big phoffN phnumN shoffN shnumN nm_ sd tb_ tm sg_) ++ [(1251, i6_ i), (54, i6_ i), (55, pt_ pb), (56, .bool false)] : Slots)
abbrev nf_G_w_B2 := fun (pb : Nat) (nb : Nat → List UInt8) (i : Nat) (sc : Nat → SecV) (sb : Nat) => ((pb, .cells #[.string ⟨(nb i).toArray⟩, u3_ (sc i).ty, u3_ (sc i).flags, u6_ (sc i).addr, u6_ (sc i).off, u6_ (sc i).fsz, u3_ (sc i).link, u3_ (sc i).info, u6_ (sc i).align, u6_ (sc i).ent, u6_ (sc i).fsz, .iface 144 (pt_ sb), pt_ sb, iI_ 0, iI_ 0] 153 (0, 0)) : Nat × Obj)
set_option maxRecDepth 100000 in
set_option maxHeartbeats 1000000 in
theorem nf_G_w (l : List UInt8) (b o n c : Nat) (hl : n = l.length) (hnc : n ≤ c) (big : Bool) (phoffN phnumN shoffN shnumN : Nat) (b7 : shnumN < 200) (sc : Nat → SecV) (nb : Nat → List UInt8) (Y : List UInt8) (tm : Nat) (hY : tm = Y.length) (htm : tm ≤ maxLen) (i : Nat) (hi : i < shnumN) (hv : (sc i).name < 4294967296) (hstr : strAt Y (sc i).name = some (nb i)) (s fb pg sg_ nm_ sd tb_ pb sb : Nat) (cur nms : Array Value) {K0 : Act → World → Prop} {Q : Exit → Act → World → Prop} (a : Act) (W1 : World)
    (hc : cur[i]? = some (pt_ pb)) (hN : NamesAt sc shnumN nms) (hsg0 : W1.heap[sg_]? = some (.cells cur 133 (0, 0))) (hnm0 : W1.heap[nm_]? = some (.cells nms 36 (0, 0))) (htb0 : W1.heap[tb_]? = some (.cells (Y.map Bv).toArray 5 (0, 0))) (hpb : W1.heap[pb]? = some (.cells #[.string ⟨#[]⟩, u3_ (sc i).ty, u3_ (sc i).flags, u6_ (sc i).addr, u6_ (sc i).off, u6_ (sc i).fsz, u3_ (sc i).link, u3_ (sc i).info, u6_ (sc i).align, u6_ (sc i).ent, u6_ (sc i).fsz, .iface 144 (pt_ sb), pt_ sb, iI_ 0, iI_ 0] 153 (0, 0))) (HF : Fr 1287 a ((nf_G_w_S0 b o n c s fb big phoffN phnumN shoffN shnumN nm_ sd tb_ tm sg_) ++ [(1251, i6_ i)]))
    (K : ∀ a w', Keep [pb] W1 w' → w'.heap[pb]? = some (.cells #[.string ⟨(nb i).toArray⟩, u3_ (sc i).ty, u3_ (sc i).flags, u6_ (sc i).addr, u6_ (sc i).off, u6_ (sc i).fsz, u3_ (sc i).link, u3_ (sc i).info, u6_ (sc i).align, u6_ (sc i).ent, u6_ (sc i).fsz, .iface 144 (pt_ sb), pt_ sb, iI_ 0, iI_ 0] 153 (0, 0)) → Fr 1287 a ((nf_G_w_S0 b o n c s fb big phoffN phnumN shoffN shnumN nm_ sd tb_ tm sg_) ++ [(1251, i6_ (i + 1))]) → K0 a w') : (lpOf (spine Tryd.f78 51)).wp Tryd.prog (Exit.then K0 Q) a W1 := by
  obtain ⟨i0, his, hss⟩ := size_ss
  obtain ⟨i1, hiu, hsu⟩ := size_u32
  obtain ⟨w, hw⟩ : ∃ w, W1 = w := ⟨_, rfl⟩
  have HM : Mm [pb] W1 w [(pb, .cells #[.string ⟨#[]⟩, u3_ (sc i).ty, u3_ (sc i).flags, u6_ (sc i).addr, u6_ (sc i).off, u6_ (sc i).fsz, u3_ (sc i).link, u3_ (sc i).info, u6_ (sc i).align, u6_ (sc i).ent, u6_ (sc i).fsz, .iface 144 (pt_ sb), pt_ sb, iI_ 0, iI_ 0] 153 (0, 0))] := hw ▸ Mm.start1 hpb
  have hsg := hw ▸ hsg0
  have hnm := hw ▸ hnm0
  have htb := hw ▸ htb0
  conv => arg 5; rw [hw]
  clear hw
  refine wp_seq (wp_region_lit ?_)
  refine wp_pure HF HM rfl 1 [] ((nf_G_w_S0 b o n c s fb big phoffN phnumN shoffN shnumN nm_ sd tb_ tm sg_) ++ [(1251, i6_ i), (1252, .bool (decide (((i : Nat) : Int) < ((shnumN : Nat) : Int))))]) (by kernel_rfl) ?_
  clear HF; intro a HF
  rw [show decide (((i : Nat) : Int) < ((shnumN : Nat) : Int)) = true from dec_t (by omega)] at HF
  refine nil_then ?_
  refine wp_seq ?_
  refine wp_condT HF rfl ?_
  refine wp_skip ?_
  repeat (first | refine then_norm ?_ | refine inb_norm ?_)
  replace HF := HF.sub ((nf_G_w_S0 b o n c s fb big phoffN phnumN shoffN shnumN nm_ sd tb_ tm sg_) ++ [(1251, i6_ i)]) (by kernel_rfl)
  refine wp_seq (wp_block ?_)
  refine wp_seq (wp_region_lit ?_)
  refine wp_pure HF HM rfl 1 [] ((nf_G_w_S0 b o n c s fb big phoffN phnumN shoffN shnumN nm_ sd tb_ tm sg_) ++ [(1251, i6_ i), (1253, i6_ i)]) (by kernel_rfl) ?_
  clear HF; intro a HF
  refine wp_run HF (by kernel_rfl) (.pointer (some ⟨sg_, i, none⟩)) (by kernel_rfl) (run_index (t := 126) Tryd.underlying126 his hss rfl i rfl rfl (by omega)) ?_
  clear HF; intro a HF; replace HF := HF.sub ((nf_G_w_S0 b o n c s fb big phoffN phnumN shoffN shnumN nm_ sd tb_ tm sg_) ++ [(1251, i6_ i), (1253, i6_ i), (1254, .pointer (some ⟨sg_, i, none⟩))]) (by kernel_rfl)
  refine wp_run HF (by kernel_rfl) (pt_ pb) (by kernel_rfl) (run_load_one rfl rfl (by kernel_rfl) ((cell_of_row w sg_ i _ _ _ hsg).trans hc)) ?_
  clear HF; intro a HF; replace HF := HF.sub ((nf_G_w_S0 b o n c s fb big phoffN phnumN shoffN shnumN nm_ sd tb_ tm sg_) ++ [(1251, i6_ i), (1253, i6_ i), (1254, .pointer (some ⟨sg_, i, none⟩)), (1255, pt_ pb)]) (by kernel_rfl)
  refine wp_pure HF HM rfl 2 [] ((nf_G_w_S0 b o n c s fb big phoffN phnumN shoffN shnumN nm_ sd tb_ tm sg_) ++ [(1251, i6_ i), (54, i6_ i), (55, pt_ pb)]) (by kernel_rfl) ?_
  clear HF; intro a HF
  refine nil_then ?_
  refine reg_pure HF HM rfl [] (nf_G_w_S1 b o n c s fb big phoffN phnumN shoffN shnumN nm_ sd tb_ tm sg_ i pb) (by kernel_rfl) ?_
  clear HF; intro a HF
  refine wp_seq (wp_region_lit ?_)
  refine wp_pure HF HM rfl 4 [] ((nf_G_w_S1 b o n c s fb big phoffN phnumN shoffN shnumN nm_ sd tb_ tm sg_ i pb) ++ [(1257, pt_ pb), (1258, sl_ tb_ tm tm), (1259, sl_ nm_ shnumN shnumN), (1260, i6_ i)]) (by kernel_rfl) ?_
  clear HF; intro a HF
  refine wp_run HF (by kernel_rfl) (.pointer (some ⟨nm_, i, none⟩)) (by kernel_rfl) (run_index (t := 222) Tryd.underlying222 hiu hsu rfl i rfl rfl (by omega)) ?_
  clear HF; intro a HF; replace HF := HF.sub ((nf_G_w_S1 b o n c s fb big phoffN phnumN shoffN shnumN nm_ sd tb_ tm sg_ i pb) ++ [(1257, pt_ pb), (1258, sl_ tb_ tm tm), (1259, sl_ nm_ shnumN shnumN), (1260, i6_ i), (1261, .pointer (some ⟨nm_, i, none⟩))]) (by kernel_rfl)
  refine wp_run HF (by kernel_rfl) (u3_ (sc i).name) (by kernel_rfl) (run_load_one rfl rfl (by kernel_rfl) ((cell_of_row w nm_ i _ _ _ hnm).trans (hN i hi))) ?_
  clear HF; intro a HF; replace HF := HF.sub ((nf_G_w_S1 b o n c s fb big phoffN phnumN shoffN shnumN nm_ sd tb_ tm sg_ i pb) ++ [(1257, pt_ pb), (1258, sl_ tb_ tm tm), (1259, sl_ nm_ shnumN shnumN), (1260, i6_ i), (1261, .pointer (some ⟨nm_, i, none⟩)), (1262, u3_ (sc i).name)]) (by kernel_rfl)
  refine wp_pure HF HM rfl 1 [] ((nf_G_w_S1 b o n c s fb big phoffN phnumN shoffN shnumN nm_ sd tb_ tm sg_ i pb) ++ [(1257, pt_ pb), (1258, sl_ tb_ tm tm), (1263, iI_ (IntKind.i64.wrap (((sc i).name : Nat) : Int)))]) (by kernel_rfl) ?_
  clear HF; intro a HF
  rw [show IntKind.i64.wrap (((sc i).name : Nat) : Int) = (((sc i).name : Nat) : Int) from IntWalk.i64_in _ (by omega)] at HF
  refine wp_call HF (by kernel_rfl) 91 #[sl_ tb_ tm tm, i6_ (sc i).name] (by kernel_rfl) (fun w => by kernel_rfl) (Calls.mono (getString_any (some ⟨tb_, 0, none⟩) Y tm tm (((sc i).name : Nat) : Int) hY (Nat.le_refl _) htm w (row_of_block htb)) ?_)
  rintro _ w1 ⟨rfl, hq⟩
  obtain rfl : w1 = w := hq.symm
  rw [show strAtI Y (((sc i).name : Nat) : Int) = some (nb i) from (if_neg (by omega)).trans hstr]
  refine ⟨_, rfl, ?_⟩; clear HF; intro a HF; replace HF := HF.sub ((nf_G_w_S1 b o n c s fb big phoffN phnumN shoffN shnumN nm_ sd tb_ tm sg_ i pb) ++ [(1257, pt_ pb), (1258, sl_ tb_ tm tm), (1263, i6_ (sc i).name), (1264, .tuple #[.string ⟨(nb i).toArray⟩, .bool true])]) (by kernel_rfl)
  refine wp_sym HF HM rfl 8 [[0]] ((nf_G_w_S0 b o n c s fb big phoffN phnumN shoffN shnumN nm_ sd tb_ tm sg_) ++ [(1251, i6_ i), (54, i6_ i), (55, pt_ pb), (56, .bool true)]) [nf_G_w_B2 pb nb i sc sb] (by kernel_rfl) ?_
  clear HF HM; intro a w HF HM
  refine nil_then ?_
  refine wp_seq (wp_region_lit ?_)
  refine wp_sym HF HM rfl 2 [] ((nf_G_w_S0 b o n c s fb big phoffN phnumN shoffN shnumN nm_ sd tb_ tm sg_) ++ [(1251, i6_ i), (54, i6_ i), (55, pt_ pb), (56, .bool true), (1271, .bool false)]) [nf_G_w_B2 pb nb i sc sb] (by kernel_rfl) ?_
  clear HF HM; intro a w HF HM
  refine nil_then ?_
  refine wp_condF HF rfl ?_
  refine wp_skip ?_
  repeat (first | refine then_norm ?_ | refine inb_norm ?_)
  replace HF := HF.sub ((nf_G_w_S0 b o n c s fb big phoffN phnumN shoffN shnumN nm_ sd tb_ tm sg_) ++ [(1251, i6_ i)]) (by kernel_rfl)
  refine wp_region_lit ?_
  refine wp_sym HF HM rfl 1 [] ((nf_G_w_S0 b o n c s fb big phoffN phnumN shoffN shnumN nm_ sd tb_ tm sg_) ++ [(1251, i6_ i), (1285, iI_ (IntKind.i64.wrap (((i : Nat) : Int) + 1)))]) [nf_G_w_B2 pb nb i sc sb] (by kernel_rfl) ?_
  clear HF HM; intro a w HF HM
  rw [show IntKind.i64.wrap (((i : Nat) : Int) + 1) = (((i + 1) : Nat) : Int) from (IntWalk.i64_in _ (by omega)).trans (by omega)] at HF
  refine wp_sym HF HM rfl 1 [] ((nf_G_w_S0 b o n c s fb big phoffN phnumN shoffN shnumN nm_ sd tb_ tm sg_) ++ [(1251, i6_ (i + 1))]) [nf_G_w_B2 pb nb i sc sb] (by kernel_rfl) ?_
  clear HF HM; intro a w HF HM
  refine wpList_nil ?_
  repeat (first | refine then_norm ?_ | refine inb_norm ?_)
  replace HF := HF.sub ((nf_G_w_S0 b o n c s fb big phoffN phnumN shoffN shnumN nm_ sd tb_ tm sg_) ++ [(1251, i6_ (i + 1))]) (by kernel_rfl)
  exact K a w HM.keep (HM.get (i := 0) rfl) HF

end Go.Proofs.YtdgehpocmfjbiaaDoor
namespace Go.Proofs.YtdgehpocmfjbiaaDoor
open Go.RowKit


set_option maxRecDepth 100000 in
set_option maxHeartbeats 1000000 in
theorem nf_Hx_t (l : List UInt8) (b o n c : Nat) (hl : n = l.length) (hnc : n ≤ c) (big : Bool) (abi abiv tyN machN entryN phoffN phnumN shoffN shnumN : Nat) (dat : Int) (b7 : shnumN < 200) (X : List UInt8) (sc : Nat → SecV) (bd : ∀ i, i < shnumN → SecBd (sc i)) (nb : Nat → List UInt8) (Y : List UInt8) (tm : Nat) (hY : tm = Y.length) (htm : tm ≤ maxLen) (hstr : ∀ i, i < shnumN → strAt Y (sc i).name = some (nb i)) (G : List Nat) (w0 : World) (s fb pg sg_ nm_ sd tb_ : Nat) (cur nms : Array Value) (hN : NamesAt sc shnumN nms) (hD : PtrNe shnumN cur) {KK : Act → World → Prop} {QQ : Exit → Act → World → Prop} {KR : Act → World → Prop} (K : ∀ a w, SecsAt b o n c w0.heap.size w sc (fun j => if j < shnumN then ⟨(nb j).toArray⟩ else ⟨#[]⟩) shnumN cur → Fr 1287 a [(0, .iface 178 (.slice (some ⟨b, o, none⟩) n c)), (4, pt_ s), (8, pt_ fb), (9, (boV big)), (10, i6_ phoffN), (11, .int .i64 32), (12, i6_ phnumN), (13, i6_ shoffN), (14, .int .i64 40), (15, i6_ shnumN), (16, i6_ (shnumN - 1)), (26, .int .i64 40), (41, sl_ nm_ shnumN shnumN), (42, sl_ sd (shnumN * 40) (shnumN * 40)), (53, sl_ tb_ tm tm)] → Mm G w0 w [(tb_, .cells (Y.map Bv).toArray 5 (0, 0)), (sd, .cells (X.map Bv).toArray 5 (0, 0)), (nm_, .cells nms 36 (0, 0)), (sg_, .cells cur 133 (0, 0)), (fb, .cells #[.int .u8 1, .int .u8 dat, .int .u8 1, u8_ abi, u8_ abiv, (boV big), u2_ tyN, u2_ machN, u6_ entryN, sl_ sg_ shnumN shnumN, sl_ pg phnumN phnumN, .slice none 0 0, .slice none 0 0, .slice none 0 0] 131 (0, 0)), (s, .cells #[.iface 178 (.slice (some ⟨b, o, none⟩) n c), .int .i64 0, .int .i64 0, .int .i64 9223372036854775807, .int .i64 9223372036854775807] 246 (0, 0))] → KK a w) (a : Act) (w : World) (hP : SecsAt b o n c w0.heap.size w sc (fun j => if j < shnumN then ⟨(nb j).toArray⟩ else ⟨#[]⟩) shnumN cur) (HF : Fr 1287 a [(0, .iface 178 (.slice (some ⟨b, o, none⟩) n c)), (4, pt_ s), (8, pt_ fb), (9, (boV big)), (10, i6_ phoffN), (11, .int .i64 32), (12, i6_ phnumN), (13, i6_ shoffN), (14, .int .i64 40), (15, i6_ shnumN), (16, i6_ (shnumN - 1)), (26, .int .i64 40), (41, sl_ nm_ shnumN shnumN), (42, sl_ sd (shnumN * 40) (shnumN * 40)), (53, sl_ tb_ tm tm), (1249, sl_ sg_ shnumN shnumN), (1250, i6_ shnumN), (1251, i6_ shnumN)]) (HM : Mm G w0 w [(tb_, .cells (Y.map Bv).toArray 5 (0, 0)), (sd, .cells (X.map Bv).toArray 5 (0, 0)), (nm_, .cells nms 36 (0, 0)), (sg_, .cells cur 133 (0, 0)), (fb, .cells #[.int .u8 1, .int .u8 dat, .int .u8 1, u8_ abi, u8_ abiv, (boV big), u2_ tyN, u2_ machN, u6_ entryN, sl_ sg_ shnumN shnumN, sl_ pg phnumN phnumN, .slice none 0 0, .slice none 0 0, .slice none 0 0] 131 (0, 0)), (s, .cells #[.iface 178 (.slice (some ⟨b, o, none⟩) n c), .int .i64 0, .int .i64 0, .int .i64 9223372036854775807, .int .i64 9223372036854775807] 246 (0, 0))]) :
    (lpOf (spine Tryd.f78 51)).wp Tryd.prog (Exit.then KR (Exit.inBlock 12 (Exit.then KK QQ))) a w := by
  refine wp_seq (wp_region_lit ?_)
  refine wp_pure HF HM rfl 1 [] [(0, .iface 178 (.slice (some ⟨b, o, none⟩) n c)), (4, pt_ s), (8, pt_ fb), (9, (boV big)), (10, i6_ phoffN), (11, .int .i64 32), (12, i6_ phnumN), (13, i6_ shoffN), (14, .int .i64 40), (15, i6_ shnumN), (16, i6_ (shnumN - 1)), (26, .int .i64 40), (41, sl_ nm_ shnumN shnumN), (42, sl_ sd (shnumN * 40) (shnumN * 40)), (53, sl_ tb_ tm tm), (1249, sl_ sg_ shnumN shnumN), (1250, i6_ shnumN), (1251, i6_ shnumN), (1252, .bool (decide (((shnumN : Nat) : Int) < ((shnumN : Nat) : Int))))] (by kernel_rfl) ?_
  clear HF; intro a HF
  rw [show decide (((shnumN : Nat) : Int) < ((shnumN : Nat) : Int)) = false from dec_f (by omega)] at HF
  refine nil_then ?_
  refine wp_seq ?_
  refine wp_condF HF rfl ?_
  replace HF := HF.sub [(0, .iface 178 (.slice (some ⟨b, o, none⟩) n c)), (4, pt_ s), (8, pt_ fb), (9, (boV big)), (10, i6_ phoffN), (11, .int .i64 32), (12, i6_ phnumN), (13, i6_ shoffN), (14, .int .i64 40), (15, i6_ shnumN), (16, i6_ (shnumN - 1)), (26, .int .i64 40), (41, sl_ nm_ shnumN shnumN), (42, sl_ sd (shnumN * 40) (shnumN * 40)), (53, sl_ tb_ tm tm), (1249, sl_ sg_ shnumN shnumN), (1250, i6_ shnumN), (1251, i6_ shnumN)] (by kernel_rfl)
  refine wp_exit ?_
  repeat (first | refine then_exit ?_ | refine inb_exit ?_ | refine then_norm ?_)
  replace HF := HF.sub [(0, .iface 178 (.slice (some ⟨b, o, none⟩) n c)), (4, pt_ s), (8, pt_ fb), (9, (boV big)), (10, i6_ phoffN), (11, .int .i64 32), (12, i6_ phnumN), (13, i6_ shoffN), (14, .int .i64 40), (15, i6_ shnumN), (16, i6_ (shnumN - 1)), (26, .int .i64 40), (41, sl_ nm_ shnumN shnumN), (42, sl_ sd (shnumN * 40) (shnumN * 40)), (53, sl_ tb_ tm tm)] (by kernel_rfl)
  exact K a _ hP HF HM
theorem nf_Hr_t (l : List UInt8) (b o n c : Nat) (hl : n = l.length) (hnc : n ≤ c) (big : Bool) (abi abiv tyN machN entryN phoffN phnumN shoffN shnumN : Nat) (dat : Int) (b7 : shnumN < 200) (X : List UInt8) (sc : Nat → SecV) (bd : ∀ i, i < shnumN → SecBd (sc i)) (nb : Nat → List UInt8) (Y : List UInt8) (tm : Nat) (hY : tm = Y.length) (htm : tm ≤ maxLen) (hstr : ∀ i, i < shnumN → strAt Y (sc i).name = some (nb i)) (G : List Nat) (w0 : World) (s fb pg sg_ nm_ sd tb_ : Nat) (cur nms : Array Value) (hN : NamesAt sc shnumN nms) (hD : PtrNe shnumN cur) {KK : Act → World → Prop} {QQ : Exit → Act → World → Prop} (K : ∀ a w, SecsAt b o n c w0.heap.size w sc (fun j => if j < shnumN then ⟨(nb j).toArray⟩ else ⟨#[]⟩) shnumN cur → Fr 1287 a [(0, .iface 178 (.slice (some ⟨b, o, none⟩) n c)), (4, pt_ s), (8, pt_ fb), (9, (boV big)), (10, i6_ phoffN), (11, .int .i64 32), (12, i6_ phnumN), (13, i6_ shoffN), (14, .int .i64 40), (15, i6_ shnumN), (16, i6_ (shnumN - 1)), (26, .int .i64 40), (41, sl_ nm_ shnumN shnumN), (42, sl_ sd (shnumN * 40) (shnumN * 40)), (53, sl_ tb_ tm tm)] → Mm G w0 w [(tb_, .cells (Y.map Bv).toArray 5 (0, 0)), (sd, .cells (X.map Bv).toArray 5 (0, 0)), (nm_, .cells nms 36 (0, 0)), (sg_, .cells cur 133 (0, 0)), (fb, .cells #[.int .u8 1, .int .u8 dat, .int .u8 1, u8_ abi, u8_ abiv, (boV big), u2_ tyN, u2_ machN, u6_ entryN, sl_ sg_ shnumN shnumN, sl_ pg phnumN phnumN, .slice none 0 0, .slice none 0 0, .slice none 0 0] 131 (0, 0)), (s, .cells #[.iface 178 (.slice (some ⟨b, o, none⟩) n c), .int .i64 0, .int .i64 0, .int .i64 9223372036854775807, .int .i64 9223372036854775807] 246 (0, 0))] → KK a w) :
    ∀ (r i : Nat), i + r = shnumN → ∀ (a : Act) (w : World), SecsAt b o n c w0.heap.size w sc (fun j => if j < i then ⟨(nb j).toArray⟩ else ⟨#[]⟩) shnumN cur → Fr 1287 a [(0, .iface 178 (.slice (some ⟨b, o, none⟩) n c)), (4, pt_ s), (8, pt_ fb), (9, (boV big)), (10, i6_ phoffN), (11, .int .i64 32), (12, i6_ phnumN), (13, i6_ shoffN), (14, .int .i64 40), (15, i6_ shnumN), (16, i6_ (shnumN - 1)), (26, .int .i64 40), (41, sl_ nm_ shnumN shnumN), (42, sl_ sd (shnumN * 40) (shnumN * 40)), (53, sl_ tb_ tm tm), (1249, sl_ sg_ shnumN shnumN), (1250, i6_ shnumN), (1251, i6_ i)] → Mm G w0 w [(tb_, .cells (Y.map Bv).toArray 5 (0, 0)), (sd, .cells (X.map Bv).toArray 5 (0, 0)), (nm_, .cells nms 36 (0, 0)), (sg_, .cells cur 133 (0, 0)), (fb, .cells #[.int .u8 1, .int .u8 dat, .int .u8 1, u8_ abi, u8_ abiv, (boV big), u2_ tyN, u2_ machN, u6_ entryN, sl_ sg_ shnumN shnumN, sl_ pg phnumN phnumN, .slice none 0 0, .slice none 0 0, .slice none 0 0] 131 (0, 0)), (s, .cells #[.iface 178 (.slice (some ⟨b, o, none⟩) n c), .int .i64 0, .int .i64 0, .int .i64 9223372036854775807, .int .i64 9223372036854775807] 246 (0, 0))] →
    Code.rounds Tryd.prog (lpOf (spine Tryd.f78 51)) (Exit.inBlock 12 (Exit.then KK QQ)) (r + 1) a w
  | 0, i, hr, a, w, hP, HF, HM => by
    obtain rfl : i = shnumN := by omega
    rw [rounds_succ]
    exact nf_Hx_t l b o n c hl hnc big abi abiv tyN machN entryN phoffN phnumN shoffN i dat b7 X sc bd nb Y tm hY htm hstr G w0 s fb pg sg_ nm_ sd tb_ cur nms hN hD K a w hP HF HM
  | r + 1, i, hr, a, w, hP, HF, HM => by
    have hi : i < shnumN := by omega
    rw [rounds_succ]
    obtain ⟨pb, sb, g1, g2, g3, g4, g5⟩ := hP i hi
    simp only [Nat.lt_irrefl, ↓reduceIte] at g4
    refine nf_G_t l b o n c hl hnc big phoffN phnumN shoffN shnumN b7 sc nb Y tm hY htm i hi (bd i hi).v1 (hstr i hi) s fb pg sg_ nm_ sd tb_ pb sb cur nms a w g1 hN (HM.get (i := 3) rfl) (HM.get (i := 2) rfl) (HM.get (i := 0) rfl) g4 HF ?_
    intro a' w' hk hn HF'
    have HM2 : Mm G w0 w' [(tb_, .cells (Y.map Bv).toArray 5 (0, 0)), (sd, .cells (X.map Bv).toArray 5 (0, 0)), (nm_, .cells nms 36 (0, 0)), (sg_, .cells cur 133 (0, 0)), (fb, .cells #[.int .u8 1, .int .u8 dat, .int .u8 1, u8_ abi, u8_ abiv, (boV big), u2_ tyN, u2_ machN, u6_ entryN, sl_ sg_ shnumN shnumN, sl_ pg phnumN phnumN, .slice none 0 0, .slice none 0 0, .slice none 0 0] 131 (0, 0)), (s, .cells #[.iface 178 (.slice (some ⟨b, o, none⟩) n c), .int .i64 0, .int .i64 0, .int .i64 9223372036854775807, .int .i64 9223372036854775807] 246 (0, 0))] := HM.after hk (by
      intro g hg
      simp only [List.mem_cons, List.not_mem_nil, or_false] at hg
      subst hg
      exact .inl g2) rfl (by
      intro p hp
      simp only [List.mem_cons, List.not_mem_nil, or_false] at hp
      rcases hp with rfl | rfl | rfl | rfl | rfl | rfl
      · exact (hk.block tb_ (HM.lt (i := 0) rfl) (by simpa using other_block (HM.get (i := 0) rfl) g4 (by decide))).trans (HM.get (i := 0) rfl)
      · exact (hk.block sd (HM.lt (i := 1) rfl) (by simpa using other_block (HM.get (i := 1) rfl) g4 (by decide))).trans (HM.get (i := 1) rfl)
      · exact (hk.block nm_ (HM.lt (i := 2) rfl) (by simpa using other_block (HM.get (i := 2) rfl) g4 (by decide))).trans (HM.get (i := 2) rfl)
      · exact (hk.block sg_ (HM.lt (i := 3) rfl) (by simpa using other_block (HM.get (i := 3) rfl) g4 (by decide))).trans (HM.get (i := 3) rfl)
      · exact (hk.block fb (HM.lt (i := 4) rfl) (by simpa using other_block (HM.get (i := 4) rfl) g4 (by decide))).trans (HM.get (i := 4) rfl)
      · exact (hk.block s (HM.lt (i := 5) rfl) (by simpa using other_block (HM.get (i := 5) rfl) g4 (by decide))).trans (HM.get (i := 5) rfl))
    exact nf_Hr_t l b o n c hl hnc big abi abiv tyN machN entryN phoffN phnumN shoffN shnumN dat b7 X sc bd nb Y tm hY htm hstr G w0 s fb pg sg_ nm_ sd tb_ cur nms hN hD K r (i + 1) (by omega) a' w' (hP.named hD hi g1 g4 hk hn) HF' HM2

set_option maxRecDepth 100000 in
set_option maxHeartbeats 1000000 in
theorem nf_H_t (l : List UInt8) (b o n c : Nat) (hl : n = l.length) (hnc : n ≤ c) (big : Bool) (abi abiv tyN machN entryN phoffN phnumN shoffN shnumN : Nat) (dat : Int) (b7 : shnumN < 200) (X : List UInt8) (sc : Nat → SecV) (bd : ∀ i, i < shnumN → SecBd (sc i)) (nb : Nat → List UInt8) (Y : List UInt8) (tm : Nat) (hY : tm = Y.length) (htm : tm ≤ maxLen) (hstr : ∀ i, i < shnumN → strAt Y (sc i).name = some (nb i)) (G : List Nat) (w0 : World) (s fb pg sg_ nm_ sd tb_ : Nat) (cur nms : Array Value) (hN : NamesAt sc shnumN nms) (hD : PtrNe shnumN cur) {Q : Exit → Act → World → Prop} (a : Act) (w : World) (hP : SecsAt b o n c w0.heap.size w sc (fun _ => ⟨#[]⟩) shnumN cur) (HF : Fr 1287 a [(0, .iface 178 (.slice (some ⟨b, o, none⟩) n c)), (4, pt_ s), (8, pt_ fb), (9, (boV big)), (10, i6_ phoffN), (11, .int .i64 32), (12, i6_ phnumN), (13, i6_ shoffN), (14, .int .i64 40), (15, i6_ shnumN), (16, i6_ (shnumN - 1)), (26, .int .i64 40), (41, sl_ nm_ shnumN shnumN), (42, sl_ sd (shnumN * 40) (shnumN * 40)), (53, sl_ tb_ tm tm)]) (HM : Mm G w0 w [(tb_, .cells (Y.map Bv).toArray 5 (0, 0)), (sd, .cells (X.map Bv).toArray 5 (0, 0)), (nm_, .cells nms 36 (0, 0)), (sg_, .cells cur 133 (0, 0)), (fb, .cells #[.int .u8 1, .int .u8 dat, .int .u8 1, u8_ abi, u8_ abiv, (boV big), u2_ tyN, u2_ machN, u6_ entryN, sl_ sg_ shnumN shnumN, sl_ pg phnumN phnumN, .slice none 0 0, .slice none 0 0, .slice none 0 0] 131 (0, 0)), (s, .cells #[.iface 178 (.slice (some ⟨b, o, none⟩) n c), .int .i64 0, .int .i64 0, .int .i64 9223372036854775807, .int .i64 9223372036854775807] 246 (0, 0))])
    (K : ∀ a w, SecsAt b o n c w0.heap.size w sc (fun j => if j < shnumN then ⟨(nb j).toArray⟩ else ⟨#[]⟩) shnumN cur → Fr 1287 a [(0, .iface 178 (.slice (some ⟨b, o, none⟩) n c)), (4, pt_ s), (8, pt_ fb), (9, (boV big)), (10, i6_ phoffN), (11, .int .i64 32), (12, i6_ phnumN), (13, i6_ shoffN), (14, .int .i64 40), (15, i6_ shnumN), (16, i6_ (shnumN - 1)), (26, .int .i64 40), (41, sl_ nm_ shnumN shnumN), (42, sl_ sd (shnumN * 40) (shnumN * 40)), (53, sl_ tb_ tm tm)] → Mm G w0 w [(tb_, .cells (Y.map Bv).toArray 5 (0, 0)), (sd, .cells (X.map Bv).toArray 5 (0, 0)), (nm_, .cells nms 36 (0, 0)), (sg_, .cells cur 133 (0, 0)), (fb, .cells #[.int .u8 1, .int .u8 dat, .int .u8 1, u8_ abi, u8_ abiv, (boV big), u2_ tyN, u2_ machN, u6_ entryN, sl_ sg_ shnumN shnumN, sl_ pg phnumN phnumN, .slice none 0 0, .slice none 0 0, .slice none 0 0] 131 (0, 0)), (s, .cells #[.iface 178 (.slice (some ⟨b, o, none⟩) n c), .int .i64 0, .int .i64 0, .int .i64 9223372036854775807, .int .i64 9223372036854775807] 246 (0, 0))] → (spine Tryd.f78 52).wp Tryd.prog Q a w) : (spine Tryd.f78 51).wp Tryd.prog Q a w := by
  refine wp_seq (wp_seq (wp_region_lit ?_))
  refine wp_pure HF HM rfl 6 [[1], []] [(0, .iface 178 (.slice (some ⟨b, o, none⟩) n c)), (4, pt_ s), (8, pt_ fb), (9, (boV big)), (10, i6_ phoffN), (11, .int .i64 32), (12, i6_ phnumN), (13, i6_ shoffN), (14, .int .i64 40), (15, i6_ shnumN), (16, i6_ (shnumN - 1)), (26, .int .i64 40), (41, sl_ nm_ shnumN shnumN), (42, sl_ sd (shnumN * 40) (shnumN * 40)), (53, sl_ tb_ tm tm), (1249, sl_ sg_ shnumN shnumN), (1250, i6_ shnumN), (1251, i6_ 0)] (by kernel_rfl) ?_
  clear HF; intro a HF
  refine nil_then ?_
  refine wp_block (wp_loop_rounds (shnumN + 1) ?_)
  exact nf_Hr_t l b o n c hl hnc big abi abiv tyN machN entryN phoffN phnumN shoffN shnumN dat b7 X sc bd nb Y tm hY htm hstr G w0 s fb pg sg_ nm_ sd tb_ cur nms hN hD K shnumN 0 (by omega) a w (by simpa only [Nat.not_lt_zero, ↓reduceIte] using hP) HF HM

set_option maxRecDepth 100000 in
set_option maxHeartbeats 1000000 in
theorem nf_Hx_w (l : List UInt8) (b o n c : Nat) (hl : n = l.length) (hnc : n ≤ c) (big : Bool) (abi abiv tyN machN entryN phoffN phnumN shoffN shnumN : Nat) (dat : Int) (b7 : shnumN < 200) (X : List UInt8) (sc : Nat → SecV) (bd : ∀ i, i < shnumN → SecBd (sc i)) (nb : Nat → List UInt8) (Y : List UInt8) (tm : Nat) (hY : tm = Y.length) (htm : tm ≤ maxLen) (hstr : ∀ i, i < shnumN → strAt Y (sc i).name = some (nb i)) (G : List Nat) (w0 : World) (s fb pg sg_ nm_ sd tb_ : Nat) (cur nms : Array Value) (hN : NamesAt sc shnumN nms) (hD : PtrNe shnumN cur) {KK : Act → World → Prop} {QQ : Exit → Act → World → Prop} {KR : Act → World → Prop} (K : ∀ a w, SecsAt b o n c w0.heap.size w sc (fun j => if j < shnumN then ⟨(nb j).toArray⟩ else ⟨#[]⟩) shnumN cur → Fr 1287 a [(0, .iface 178 (.slice (some ⟨b, o, none⟩) n c)), (4, pt_ s), (8, pt_ fb), (9, (boV big)), (10, i6_ phoffN), (11, .int .i64 56), (12, i6_ phnumN), (13, i6_ shoffN), (14, .int .i64 64), (15, i6_ shnumN), (16, i6_ (shnumN - 1)), (26, .int .i64 64), (41, sl_ nm_ shnumN shnumN), (42, sl_ sd (shnumN * 64) (shnumN * 64)), (53, sl_ tb_ tm tm)] → Mm G w0 w [(tb_, .cells (Y.map Bv).toArray 5 (0, 0)), (sd, .cells (X.map Bv).toArray 5 (0, 0)), (nm_, .cells nms 36 (0, 0)), (sg_, .cells cur 133 (0, 0)), (fb, .cells #[.int .u8 2, .int .u8 dat, .int .u8 1, u8_ abi, u8_ abiv, (boV big), u2_ tyN, u2_ machN, u6_ entryN, sl_ sg_ shnumN shnumN, sl_ pg phnumN phnumN, .slice none 0 0, .slice none 0 0, .slice none 0 0] 131 (0, 0)), (s, .cells #[.iface 178 (.slice (some ⟨b, o, none⟩) n c), .int .i64 0, .int .i64 0, .int .i64 9223372036854775807, .int .i64 9223372036854775807] 246 (0, 0))] → KK a w) (a : Act) (w : World) (hP : SecsAt b o n c w0.heap.size w sc (fun j => if j < shnumN then ⟨(nb j).toArray⟩ else ⟨#[]⟩) shnumN cur) (HF : Fr 1287 a [(0, .iface 178 (.slice (some ⟨b, o, none⟩) n c)), (4, pt_ s), (8, pt_ fb), (9, (boV big)), (10, i6_ phoffN), (11, .int .i64 56), (12, i6_ phnumN), (13, i6_ shoffN), (14, .int .i64 64), (15, i6_ shnumN), (16, i6_ (shnumN - 1)), (26, .int .i64 64), (41, sl_ nm_ shnumN shnumN), (42, sl_ sd (shnumN * 64) (shnumN * 64)), (53, sl_ tb_ tm tm), (1249, sl_ sg_ shnumN shnumN), (1250, i6_ shnumN), (1251, i6_ shnumN)]) (HM : Mm G w0 w [(tb_, .cells (Y.map Bv).toArray 5 (0, 0)), (sd, .cells (X.map Bv).toArray 5 (0, 0)), (nm_, .cells nms 36 (0, 0)), (sg_, .cells cur 133 (0, 0)), (fb, .cells #[.int .u8 2, .int .u8 dat, .int .u8 1, u8_ abi, u8_ abiv, (boV big), u2_ tyN, u2_ machN, u6_ entryN, sl_ sg_ shnumN shnumN, sl_ pg phnumN phnumN, .slice none 0 0, .slice none 0 0, .slice none 0 0] 131 (0, 0)), (s, .cells #[.iface 178 (.slice (some ⟨b, o, none⟩) n c), .int .i64 0, .int .i64 0, .int .i64 9223372036854775807, .int .i64 9223372036854775807] 246 (0, 0))]) :
    (lpOf (spine Tryd.f78 51)).wp Tryd.prog (Exit.then KR (Exit.inBlock 12 (Exit.then KK QQ))) a w := by
  refine wp_seq (wp_region_lit ?_)
  refine wp_pure HF HM rfl 1 [] [(0, .iface 178 (.slice (some ⟨b, o, none⟩) n c)), (4, pt_ s), (8, pt_ fb), (9, (boV big)), (10, i6_ phoffN), (11, .int .i64 56), (12, i6_ phnumN), (13, i6_ shoffN), (14, .int .i64 64), (15, i6_ shnumN), (16, i6_ (shnumN - 1)), (26, .int .i64 64), (41, sl_ nm_ shnumN shnumN), (42, sl_ sd (shnumN * 64) (shnumN * 64)), (53, sl_ tb_ tm tm), (1249, sl_ sg_ shnumN shnumN), (1250, i6_ shnumN), (1251, i6_ shnumN), (1252, .bool (decide (((shnumN : Nat) : Int) < ((shnumN : Nat) : Int))))] (by kernel_rfl) ?_
  clear HF; intro a HF
  rw [show decide (((shnumN : Nat) : Int) < ((shnumN : Nat) : Int)) = false from dec_f (by omega)] at HF
  refine nil_then ?_
  refine wp_seq ?_
  refine wp_condF HF rfl ?_
  replace HF := HF.sub [(0, .iface 178 (.slice (some ⟨b, o, none⟩) n c)), (4, pt_ s), (8, pt_ fb), (9, (boV big)), (10, i6_ phoffN), (11, .int .i64 56), (12, i6_ phnumN), (13, i6_ shoffN), (14, .int .i64 64), (15, i6_ shnumN), (16, i6_ (shnumN - 1)), (26, .int .i64 64), (41, sl_ nm_ shnumN shnumN), (42, sl_ sd (shnumN * 64) (shnumN * 64)), (53, sl_ tb_ tm tm), (1249, sl_ sg_ shnumN shnumN), (1250, i6_ shnumN), (1251, i6_ shnumN)] (by kernel_rfl)
  refine wp_exit ?_
  repeat (first | refine then_exit ?_ | refine inb_exit ?_ | refine then_norm ?_)
  replace HF := HF.sub [(0, .iface 178 (.slice (some ⟨b, o, none⟩) n c)), (4, pt_ s), (8, pt_ fb), (9, (boV big)), (10, i6_ phoffN), (11, .int .i64 56), (12, i6_ phnumN), (13, i6_ shoffN), (14, .int .i64 64), (15, i6_ shnumN), (16, i6_ (shnumN - 1)), (26, .int .i64 64), (41, sl_ nm_ shnumN shnumN), (42, sl_ sd (shnumN * 64) (shnumN * 64)), (53, sl_ tb_ tm tm)] (by kernel_rfl)
  exact K a _ hP HF HM
theorem nf_Hr_w (l : List UInt8) (b o n c : Nat) (hl : n = l.length) (hnc : n ≤ c) (big : Bool) (abi abiv tyN machN entryN phoffN phnumN shoffN shnumN : Nat) (dat : Int) (b7 : shnumN < 200) (X : List UInt8) (sc : Nat → SecV) (bd : ∀ i, i < shnumN → SecBd (sc i)) (nb : Nat → List UInt8) (Y : List UInt8) (tm : Nat) (hY : tm = Y.length) (htm : tm ≤ maxLen) (hstr : ∀ i, i < shnumN → strAt Y (sc i).name = some (nb i)) (G : List Nat) (w0 : World) (s fb pg sg_ nm_ sd tb_ : Nat) (cur nms : Array Value) (hN : NamesAt sc shnumN nms) (hD : PtrNe shnumN cur) {KK : Act → World → Prop} {QQ : Exit → Act → World → Prop} (K : ∀ a w, SecsAt b o n c w0.heap.size w sc (fun j => if j < shnumN then ⟨(nb j).toArray⟩ else ⟨#[]⟩) shnumN cur → Fr 1287 a [(0, .iface 178 (.slice (some ⟨b, o, none⟩) n c)), (4, pt_ s), (8, pt_ fb), (9, (boV big)), (10, i6_ phoffN), (11, .int .i64 56), (12, i6_ phnumN), (13, i6_ shoffN), (14, .int .i64 64), (15, i6_ shnumN), (16, i6_ (shnumN - 1)), (26, .int .i64 64), (41, sl_ nm_ shnumN shnumN), (42, sl_ sd (shnumN * 64) (shnumN * 64)), (53, sl_ tb_ tm tm)] → Mm G w0 w [(tb_, .cells (Y.map Bv).toArray 5 (0, 0)), (sd, .cells (X.map Bv).toArray 5 (0, 0)), (nm_, .cells nms 36 (0, 0)), (sg_, .cells cur 133 (0, 0)), (fb, .cells #[.int .u8 2, .int .u8 dat, .int .u8 1, u8_ abi, u8_ abiv, (boV big), u2_ tyN, u2_ machN, u6_ entryN, sl_ sg_ shnumN shnumN, sl_ pg phnumN phnumN, .slice none 0 0, .slice none 0 0, .slice none 0 0] 131 (0, 0)), (s, .cells #[.iface 178 (.slice (some ⟨b, o, none⟩) n c), .int .i64 0, .int .i64 0, .int .i64 9223372036854775807, .int .i64 9223372036854775807] 246 (0, 0))] → KK a w) :
    ∀ (r i : Nat), i + r = shnumN → ∀ (a : Act) (w : World), SecsAt b o n c w0.heap.size w sc (fun j => if j < i then ⟨(nb j).toArray⟩ else ⟨#[]⟩) shnumN cur → Fr 1287 a [(0, .iface 178 (.slice (some ⟨b, o, none⟩) n c)), (4, pt_ s), (8, pt_ fb), (9, (boV big)), (10, i6_ phoffN), (11, .int .i64 56), (12, i6_ phnumN), (13, i6_ shoffN), (14, .int .i64 64), (15, i6_ shnumN), (16, i6_ (shnumN - 1)), (26, .int .i64 64), (41, sl_ nm_ shnumN shnumN), (42, sl_ sd (shnumN * 64) (shnumN * 64)), (53, sl_ tb_ tm tm), (1249, sl_ sg_ shnumN shnumN), (1250, i6_ shnumN), (1251, i6_ i)] → Mm G w0 w [(tb_, .cells (Y.map Bv).toArray 5 (0, 0)), (sd, .cells (X.map Bv).toArray 5 (0, 0)), (nm_, .cells nms 36 (0, 0)), (sg_, .cells cur 133 (0, 0)), (fb, .cells #[.int .u8 2, .int .u8 dat, .int .u8 1, u8_ abi, u8_ abiv, (boV big), u2_ tyN, u2_ machN, u6_ entryN, sl_ sg_ shnumN shnumN, sl_ pg phnumN phnumN, .slice none 0 0, .slice none 0 0, .slice none 0 0] 131 (0, 0)), (s, .cells #[.iface 178 (.slice (some ⟨b, o, none⟩) n c), .int .i64 0, .int .i64 0, .int .i64 9223372036854775807, .int .i64 9223372036854775807] 246 (0, 0))] →
    Code.rounds Tryd.prog (lpOf (spine Tryd.f78 51)) (Exit.inBlock 12 (Exit.then KK QQ)) (r + 1) a w
  | 0, i, hr, a, w, hP, HF, HM => by
    obtain rfl : i = shnumN := by omega
    rw [rounds_succ]
    exact nf_Hx_w l b o n c hl hnc big abi abiv tyN machN entryN phoffN phnumN shoffN i dat b7 X sc bd nb Y tm hY htm hstr G w0 s fb pg sg_ nm_ sd tb_ cur nms hN hD K a w hP HF HM
  | r + 1, i, hr, a, w, hP, HF, HM => by
    have hi : i < shnumN := by omega
    rw [rounds_succ]
    obtain ⟨pb, sb, g1, g2, g3, g4, g5⟩ := hP i hi
    simp only [Nat.lt_irrefl, ↓reduceIte] at g4
    refine nf_G_w l b o n c hl hnc big phoffN phnumN shoffN shnumN b7 sc nb Y tm hY htm i hi (bd i hi).v1 (hstr i hi) s fb pg sg_ nm_ sd tb_ pb sb cur nms a w g1 hN (HM.get (i := 3) rfl) (HM.get (i := 2) rfl) (HM.get (i := 0) rfl) g4 HF ?_
    intro a' w' hk hn HF'
    have HM2 : Mm G w0 w' [(tb_, .cells (Y.map Bv).toArray 5 (0, 0)), (sd, .cells (X.map Bv).toArray 5 (0, 0)), (nm_, .cells nms 36 (0, 0)), (sg_, .cells cur 133 (0, 0)), (fb, .cells #[.int .u8 2, .int .u8 dat, .int .u8 1, u8_ abi, u8_ abiv, (boV big), u2_ tyN, u2_ machN, u6_ entryN, sl_ sg_ shnumN shnumN, sl_ pg phnumN phnumN, .slice none 0 0, .slice none 0 0, .slice none 0 0] 131 (0, 0)), (s, .cells #[.iface 178 (.slice (some ⟨b, o, none⟩) n c), .int .i64 0, .int .i64 0, .int .i64 9223372036854775807, .int .i64 9223372036854775807] 246 (0, 0))] := HM.after hk (by
      intro g hg
      simp only [List.mem_cons, List.not_mem_nil, or_false] at hg
      subst hg
      exact .inl g2) rfl (by
      intro p hp
      simp only [List.mem_cons, List.not_mem_nil, or_false] at hp
      rcases hp with rfl | rfl | rfl | rfl | rfl | rfl
      · exact (hk.block tb_ (HM.lt (i := 0) rfl) (by simpa using other_block (HM.get (i := 0) rfl) g4 (by decide))).trans (HM.get (i := 0) rfl)
      · exact (hk.block sd (HM.lt (i := 1) rfl) (by simpa using other_block (HM.get (i := 1) rfl) g4 (by decide))).trans (HM.get (i := 1) rfl)
      · exact (hk.block nm_ (HM.lt (i := 2) rfl) (by simpa using other_block (HM.get (i := 2) rfl) g4 (by decide))).trans (HM.get (i := 2) rfl)
      · exact (hk.block sg_ (HM.lt (i := 3) rfl) (by simpa using other_block (HM.get (i := 3) rfl) g4 (by decide))).trans (HM.get (i := 3) rfl)
      · exact (hk.block fb (HM.lt (i := 4) rfl) (by simpa using other_block (HM.get (i := 4) rfl) g4 (by decide))).trans (HM.get (i := 4) rfl)
      · exact (hk.block s (HM.lt (i := 5) rfl) (by simpa using other_block (HM.get (i := 5) rfl) g4 (by decide))).trans (HM.get (i := 5) rfl))
    exact nf_Hr_w l b o n c hl hnc big abi abiv tyN machN entryN phoffN phnumN shoffN shnumN dat b7 X sc bd nb Y tm hY htm hstr G w0 s fb pg sg_ nm_ sd tb_ cur nms hN hD K r (i + 1) (by omega) a' w' (hP.named hD hi g1 g4 hk hn) HF' HM2

set_option maxRecDepth 100000 in
set_option maxHeartbeats 1000000 in
theorem nf_H_w (l : List UInt8) (b o n c : Nat) (hl : n = l.length) (hnc : n ≤ c) (big : Bool) (abi abiv tyN machN entryN phoffN phnumN shoffN shnumN : Nat) (dat : Int) (b7 : shnumN < 200) (X : List UInt8) (sc : Nat → SecV) (bd : ∀ i, i < shnumN → SecBd (sc i)) (nb : Nat → List UInt8) (Y : List UInt8) (tm : Nat) (hY : tm = Y.length) (htm : tm ≤ maxLen) (hstr : ∀ i, i < shnumN → strAt Y (sc i).name = some (nb i)) (G : List Nat) (w0 : World) (s fb pg sg_ nm_ sd tb_ : Nat) (cur nms : Array Value) (hN : NamesAt sc shnumN nms) (hD : PtrNe shnumN cur) {Q : Exit → Act → World → Prop} (a : Act) (w : World) (hP : SecsAt b o n c w0.heap.size w sc (fun _ => ⟨#[]⟩) shnumN cur) (HF : Fr 1287 a [(0, .iface 178 (.slice (some ⟨b, o, none⟩) n c)), (4, pt_ s), (8, pt_ fb), (9, (boV big)), (10, i6_ phoffN), (11, .int .i64 56), (12, i6_ phnumN), (13, i6_ shoffN), (14, .int .i64 64), (15, i6_ shnumN), (16, i6_ (shnumN - 1)), (26, .int .i64 64), (41, sl_ nm_ shnumN shnumN), (42, sl_ sd (shnumN * 64) (shnumN * 64)), (53, sl_ tb_ tm tm)]) (HM : Mm G w0 w [(tb_, .cells (Y.map Bv).toArray 5 (0, 0)), (sd, .cells (X.map Bv).toArray 5 (0, 0)), (nm_, .cells nms 36 (0, 0)), (sg_, .cells cur 133 (0, 0)), (fb, .cells #[.int .u8 2, .int .u8 dat, .int .u8 1, u8_ abi, u8_ abiv, (boV big), u2_ tyN, u2_ machN, u6_ entryN, sl_ sg_ shnumN shnumN, sl_ pg phnumN phnumN, .slice none 0 0, .slice none 0 0, .slice none 0 0] 131 (0, 0)), (s, .cells #[.iface 178 (.slice (some ⟨b, o, none⟩) n c), .int .i64 0, .int .i64 0, .int .i64 9223372036854775807, .int .i64 9223372036854775807] 246 (0, 0))])
    (K : ∀ a w, SecsAt b o n c w0.heap.size w sc (fun j => if j < shnumN then ⟨(nb j).toArray⟩ else ⟨#[]⟩) shnumN cur → Fr 1287 a [(0, .iface 178 (.slice (some ⟨b, o, none⟩) n c)), (4, pt_ s), (8, pt_ fb), (9, (boV big)), (10, i6_ phoffN), (11, .int .i64 56), (12, i6_ phnumN), (13, i6_ shoffN), (14, .int .i64 64), (15, i6_ shnumN), (16, i6_ (shnumN - 1)), (26, .int .i64 64), (41, sl_ nm_ shnumN shnumN), (42, sl_ sd (shnumN * 64) (shnumN * 64)), (53, sl_ tb_ tm tm)] → Mm G w0 w [(tb_, .cells (Y.map Bv).toArray 5 (0, 0)), (sd, .cells (X.map Bv).toArray 5 (0, 0)), (nm_, .cells nms 36 (0, 0)), (sg_, .cells cur 133 (0, 0)), (fb, .cells #[.int .u8 2, .int .u8 dat, .int .u8 1, u8_ abi, u8_ abiv, (boV big), u2_ tyN, u2_ machN, u6_ entryN, sl_ sg_ shnumN shnumN, sl_ pg phnumN phnumN, .slice none 0 0, .slice none 0 0, .slice none 0 0] 131 (0, 0)), (s, .cells #[.iface 178 (.slice (some ⟨b, o, none⟩) n c), .int .i64 0, .int .i64 0, .int .i64 9223372036854775807, .int .i64 9223372036854775807] 246 (0, 0))] → (spine Tryd.f78 52).wp Tryd.prog Q a w) : (spine Tryd.f78 51).wp Tryd.prog Q a w := by
  refine wp_seq (wp_seq (wp_region_lit ?_))
  refine wp_pure HF HM rfl 6 [[1], []] [(0, .iface 178 (.slice (some ⟨b, o, none⟩) n c)), (4, pt_ s), (8, pt_ fb), (9, (boV big)), (10, i6_ phoffN), (11, .int .i64 56), (12, i6_ phnumN), (13, i6_ shoffN), (14, .int .i64 64), (15, i6_ shnumN), (16, i6_ (shnumN - 1)), (26, .int .i64 64), (41, sl_ nm_ shnumN shnumN), (42, sl_ sd (shnumN * 64) (shnumN * 64)), (53, sl_ tb_ tm tm), (1249, sl_ sg_ shnumN shnumN), (1250, i6_ shnumN), (1251, i6_ 0)] (by kernel_rfl) ?_
  clear HF; intro a HF
  refine nil_then ?_
  refine wp_block (wp_loop_rounds (shnumN + 1) ?_)
  exact nf_Hr_w l b o n c hl hnc big abi abiv tyN machN entryN phoffN phnumN shoffN shnumN dat b7 X sc bd nb Y tm hY htm hstr G w0 s fb pg sg_ nm_ sd tb_ cur nms hN hD K shnumN 0 (by omega) a w (by simpa only [Nat.not_lt_zero, ↓reduceIte] using hP) HF HM

set_option maxRecDepth 100000 in
set_option maxHeartbeats 1000000 in
theorem nf_I {Q : Exit → Act → World → Prop} (fb : Nat) (a : Act) (w : World) (HF : Fr 1287 a [(8, pt_ fb)]) (K : ∀ {a}, Fr 1287 a [(2, pt_ fb), (3, .nilIface)] → Q .ret a w) : (spine Tryd.f78 52).wp Tryd.prog Q a w := by
  have HM : Mm [] w w [] := Mm.start w
  refine wp_seq (wp_region_lit ?_)
  refine wp_pure HF HM rfl 3 [] [(2, pt_ fb), (3, .nilIface)] (by kernel_rfl) ?_
  clear HF; intro a HF
  refine nil_then ?_
  exact wp_ret (K HF)

end Go.Proofs.YtdgehpocmfjbiaaDoor
namespace Go.Proofs.YtdgehpocmfjbiaaDoor
open Go.RowKit

/-- a file that has been read, in memory -/
structure FileAt (b o n c : Nat) (z : Nat) (w : World) (wide big : Bool) (abi abiv tyN machN entryN phnumN shnumN : Nat) (sg : Nat → SegV) (sc : Nat → SecV) (nb : Nat → List UInt8) (fb pg sg_ : Nat) (cur scur : Array Value) : Prop where
  zf : z ≤ fb
  zp : z ≤ pg
  zs : z ≤ sg_
  file : w.heap[fb]? = some (.cells #[.int .u8 (if wide then 2 else 1 : Int), .int .u8 (if big then 2 else 1 : Int), .int .u8 1, u8_ abi, u8_ abiv, (boV big), u2_ tyN, u2_ machN, u6_ entryN, sl_ sg_ shnumN shnumN, sl_ pg phnumN phnumN, .slice none 0 0, .slice none 0 0, .slice none 0 0] 131 (0, 0))
  progs : w.heap[pg]? = some (.cells cur 136 (0, 0))
  size : cur.size = phnumN
  prog : ProgsAt b o n c z w sg phnumN cur
  secs : w.heap[sg_]? = some (.cells scur 133 (0, 0))
  ssize : scur.size = shnumN
  sec : SecsAt b o n c z w sc (fun j => ⟨(nb j).toArray⟩) shnumN scur
  ne : PtrNe shnumN scur
/-- what NewFile asks of the bytes -/
structure GoodFile (l : List UInt8) (n : Nat) (wide big : Bool) (abi abiv tyN machN entryN phoffN phnumN shoffN shnumN : Nat) (sg : Nat → SegV) (sc : Nat → SecV) (nb : Nat → List UInt8) : Prop where
  head : HeadOk l wide big abi abiv tyN machN entryN phoffN phnumN shoffN shnumN
  a1 : abi < 256
  a2 : abiv < 256
  b1 : tyN < 65536
  b2 : machN < 65536
  b3 : entryN ≤ 18446744073709551615
  b4 : phoffN < 4611686018427387904
  b5 : shoffN < 4611686018427387904
  b6 : phnumN < 200
  b7 : shnumN < 200
  c1 : 0 < shoffN
  c3 : 1 < shnumN
  p1 : phoffN < n
  p2 : phoffN + phnumN * (if wide then 56 else 32) ≤ n
  s1 : shoffN < n
  s2 : shoffN + shnumN * (if wide then 64 else 40) ≤ n
  nn : n ≤ 4611686018427387904
  seg : ∀ i, i < phnumN → SegOk (((l.drop phoffN).take (phnumN * (if wide then 56 else 32))).drop (i * (if wide then 56 else 32))) wide big (sg i).ty (sg i).flags (sg i).vaddr (sg i).paddr (sg i).memsz (sg i).align (sg i).fsz (sg i).off
  v1 : ∀ i, i < phnumN → (sg i).ty < 4294967296
  v2 : ∀ i, i < phnumN → (sg i).off + (sg i).fsz < 4611686018427387904
  v3 : ∀ i, i < phnumN → (sg i).vaddr ≤ 18446744073709551615
  v4 : ∀ i, i < phnumN → (sg i).paddr ≤ 18446744073709551615
  v5 : ∀ i, i < phnumN → (sg i).memsz ≤ 18446744073709551615
  v6 : ∀ i, i < phnumN → (sg i).align ≤ 18446744073709551615
  sec : ∀ i, i < shnumN → SecOk (((l.drop shoffN).take (shnumN * (if wide then 64 else 40))).drop (i * (if wide then 64 else 40))) wide big (sc i).name (sc i).ty (sc i).flags (sc i).addr (sc i).off (sc i).fsz (sc i).link (sc i).info (sc i).align (sc i).ent
  bd : ∀ i, i < shnumN → SecBd (sc i)
  str : (sc (shnumN - 1)).ty = 3
  f1 : 0 < (sc (shnumN - 1)).fsz
  f2 : (sc (shnumN - 1)).fsz < 10485760
  f3 : (sc (shnumN - 1)).off + (sc (shnumN - 1)).fsz ≤ n
  name : ∀ i, i < shnumN → strAt ((l.drop (sc (shnumN - 1)).off).take (sc (shnumN - 1)).fsz) (sc i).name = some (nb i)
theorem ident_of {l : List UInt8} {wide big : Bool} {abi abiv : Nat} (h : ∃ r, l = identB wide big abi abiv ++ r) (h1 : abi < 256) (h2 : abiv < 256) : (((l.drop 0).take 16).map Bv).toArray = #[.int .u8 127, .int .u8 69, .int .u8 76, .int .u8 70, .int .u8 (if wide then 2 else 1 : Int), .int .u8 (if big then 2 else 1 : Int), .int .u8 1, .int .u8 (abi : Nat), .int .u8 (abiv : Nat), .int .u8 0, .int .u8 0, .int .u8 0, .int .u8 0, .int .u8 0, .int .u8 0, .int .u8 0] := by
  obtain ⟨r, rfl⟩ := h
  have e1 : (UInt8.ofNat abi).toNat = abi := by simp; omega
  have e2 : (UInt8.ofNat abiv).toNat = abiv := by simp; omega
  cases wide <;> cases big <;> simp [identB, Bv, e1, e2, List.take]

set_option maxRecDepth 100000 in
set_option maxHeartbeats 1000000 in
theorem newFile_tl (l : List UInt8) (b o n c : Nat) (hl : n = l.length) (hnc : n ≤ c) (abi abiv tyN machN entryN phoffN phnumN shoffN shnumN : Nat) (sg : Nat → SegV) (sc : Nat → SecV) (nb : Nat → List UInt8) (H : GoodFile l n false false abi abiv tyN machN entryN phoffN phnumN shoffN shnumN sg sc nb) (w0 : World) (hbl : b < w0.heap.size) (hr : Row w0 (some ⟨b, o, none⟩) (l.map Bv)) :
    Calls Tryd.prog 78 #[.iface 178 (.slice (some ⟨b, o, none⟩) n c)] w0 fun e w' => ∃ fb pg sg_ cur scur, e = .returned (.tuple #[pt_ fb, .nilIface]) ∧ Below w0.heap.size w0 w' ∧ FileAt b o n c w0.heap.size w' false false abi abiv tyN machN entryN phnumN shnumN sg sc nb fb pg sg_ cur scur := by
  have hlen : 52 ≤ n := hl ▸ H.head.len
  have hp2 : phoffN + phnumN * 32 ≤ n := H.p2
  have hs2 : shoffN + shnumN * 40 ≤ n := H.s2
  refine calls_start (c := spine Tryd.f78 0) Tryd.func78 rfl Tryd.ntmps78 [(0, .iface 178 (.slice (some ⟨b, o, none⟩) n c))] (by kernel_rfl) (Nat.le_of_ble_eq_true rfl) ?_
  intro a HF
  refine nf_A_tl l b o n c hl hnc (by omega) abi abiv (ident_of H.head.id H.a1 H.a2) w0 hbl hr a w0 HF (Mm.start w0) ?_
  clear HF
  intro a w s fb HF HM
  refine nf_B_t l b o n c hl hnc hlen false abi abiv tyN machN entryN phoffN phnumN shoffN shnumN 1 H.head H.b1 H.b2 H.b3 H.b4 H.b5 H.b6 H.b7 w0 hbl hr a w s fb HF HM ?_
  clear HF HM
  intro a w HF HM
  have hD : ∀ (a : Act) (w : World) (pg : Nat) (cur : Array Value) (pd : Nat), cur.size = phnumN → Fr 1287 a [(0, .iface 178 (.slice (some ⟨b, o, none⟩) n c)), (4, pt_ s), (8, pt_ fb), (9, (boV false)), (10, i6_ phoffN), (11, iI_ 32), (12, i6_ phnumN), (13, i6_ shoffN), (14, iI_ 40), (15, i6_ shnumN), (16, i6_ (shnumN - 1)), (26, iI_ 40), (36, sl_ pd (phnumN * 32) (phnumN * 32))] → Mm [] w0 w [(pd, .cells (((l.drop phoffN).take (phnumN * 32)).map Bv).toArray 5 (0, 0)), (pg, .cells cur 136 (0, 0)), (fb, .cells #[iB_ 1, iB_ 1, iB_ 1, u8_ abi, u8_ abiv, (boV false), u2_ tyN, u2_ machN, u6_ entryN, nl_, sl_ pg 0 phnumN, nl_, nl_, nl_] 131 (0, 0)), (s, .cells #[.iface 178 (.slice (some ⟨b, o, none⟩) n c), iI_ 0, iI_ 0, iI_ 9223372036854775807, iI_ 9223372036854775807] 246 (0, 0))] → (spine Tryd.f78 35).wp Tryd.prog (bodyPost Tryd.prog Tryd.f78 fun e w' => ∃ fb pg sg_ cur scur, e = .returned (.tuple #[pt_ fb, .nilIface]) ∧ Below w0.heap.size w0 w' ∧ FileAt b o n c w0.heap.size w' false false abi abiv tyN machN entryN phnumN shnumN sg sc nb fb pg sg_ cur scur) a w := by
    clear HF HM a w
    intro a w pg cur pd hcs HF HM
    refine nf_Q_t l b o n c hl hnc false abi abiv tyN machN entryN phoffN phnumN shoffN shnumN 1 H.b1 H.b2 H.b3 H.b4 H.b5 H.b6 H.b7 _ (by simp; omega) sg H.seg H.v1 H.v2 H.v3 H.v4 H.v5 H.v6 w0 s fb pg pd a w cur hcs HF HM ?_
    clear HF HM hcs cur a w
    intro a w cur hcs hP HF HM
    have hbs : b ≠ s := fun e => absurd hbl (Nat.not_lt_of_le (e ▸ HM.ge (i := 3) rfl))
    have hbf : b ≠ fb := fun e => absurd hbl (Nat.not_lt_of_le (e ▸ HM.ge (i := 2) rfl))
    have HMr : Mm [s, fb] w w [(fb, .cells #[iB_ 1, iB_ 1, iB_ 1, u8_ abi, u8_ abiv, (boV false), u2_ tyN, u2_ machN, u6_ entryN, nl_, sl_ pg phnumN phnumN, nl_, nl_, nl_] 131 (0, 0)), (s, .cells #[.iface 178 (.slice (some ⟨b, o, none⟩) n c), iI_ 0, iI_ 0, iI_ 9223372036854775807, iI_ 9223372036854775807] 246 (0, 0))] :=
      ⟨Keep.refl _ _, fun p hp => by
        simp only [List.mem_cons, List.not_mem_nil, or_false] at hp
        rcases hp with rfl | rfl
        · exact ⟨HM.get (i := 2) rfl, .inr (by simp)⟩
        · exact ⟨HM.get (i := 3) rfl, .inr (by simp)⟩, by
        have := HM.ne (i := 2) (j := 3) rfl rfl (by decide)
        simp [this]⟩
    have hr2 := HM.row hr
    have hbl2 : b < w.heap.size := Nat.lt_of_lt_of_le hbl HM.size
    have hbG : b ∉ [s, fb] := by simp [hbs, hbf]
    refine nf_E_t l b o n c hl hnc false abi abiv tyN machN entryN phoffN phnumN shoffN shnumN 1 H.b1 H.b2 H.b3 H.b4 H.b5 H.b6 H.b7 H.c1 (by have := H.c3; omega) H.s1 hs2 w hbl2 hr2 [s, fb] hbG a w s fb pg hbs (HF.sub _ (by kernel_rfl)) HMr ?_
    clear HF HMr a
    intro a w2 sg_ sg_C nm_ nm_C sd hs1 hs3 HF HM2
    refine nf_T_t l b o n c hl hnc false abi abiv tyN machN entryN phoffN phnumN shoffN shnumN 1 H.b1 H.b2 H.b3 H.b4 H.b5 H.b6 H.b7 _ (by simp; omega) sc H.sec H.bd [s, fb] w s fb pg sg_ nm_ sd a w2 sg_C nm_C hs1 hs3 HF HM2 ?_
    clear HF HM2 hs1 hs3 a w2 sg_C nm_C
    intro a w2 scur nms hs1 hs3 hS hN hD HF HM2
    refine nf_F_t l b o n c hl hnc false abi abiv tyN machN entryN phoffN phnumN shoffN shnumN 1 H.b1 H.b2 H.b3 H.b4 H.b5 H.b6 H.b7 _ sc H.c3 H.str (H.bd _ (by have := H.c3; omega)).v9 H.f1 H.f2 H.f3 H.nn [s, fb] w hbl2 hr2 hbG s fb pg sg_ nm_ sd a w2 scur nms hS HF HM2 ?_
    clear HF HM2 hS a w2
    intro a w2 tb_ hS HF HM2
    have hf2 := H.f2
    have hf3 := H.f3
    refine nf_H_t l b o n c hl hnc false abi abiv tyN machN entryN phoffN phnumN shoffN shnumN 1 H.b7 _ sc H.bd nb ((l.drop (sc (shnumN - 1)).off).take (sc (shnumN - 1)).fsz) (sc (shnumN - 1)).fsz (by simp; omega) (by unfold maxLen; omega) H.name [s, fb] w s fb pg sg_ nm_ sd tb_ scur nms hN hD a w2 hS HF HM2 ?_
    clear HF HM2 hS a w2
    intro a w2 hS HF HM2
    refine nf_I fb a w2 (HF.sub _ (by kernel_rfl)) ?_
    intro a HF
    have hk := HM2.keep
    have hk2 : Keep [fb] w w2 := hk.less ((HM2.get (i := 5) rfl).trans (HM.get (i := 3) rfl).symm)
    have hkw : Keep [] w0 w2 := HM.keep.step hk2 (by intro g hg; simp only [List.mem_cons, List.not_mem_nil, or_false] at hg; subst hg; exact HM.own (i := 2) rfl)
    have hz := HM.size
    refine ret_two HF rfl rfl rfl ⟨fb, pg, sg_, cur, scur, rfl, hkw.below, ⟨HM.ge (i := 2) rfl, HM.ge (i := 1) rfl, ?_, HM2.get (i := 4) rfl, ?_, hcs, hP.keep hk2 ?_, HM2.get (i := 3) rfl, hs1, ?_, hD⟩⟩
    · refine Nat.le_trans hz ((HM2.own (i := 3) rfl).elim id fun hm => ?_)
      simp only [List.mem_cons, List.not_mem_nil, or_false] at hm
      rcases hm with e | e
      · exact absurd e (HM2.ne (i := 3) (j := 5) rfl rfl (by decide))
      · exact absurd e (HM2.ne (i := 3) (j := 4) rfl rfl (by decide))
    · exact (hk2.block pg (HM.lt (i := 1) rfl) (by simpa using HM.ne (i := 1) (j := 2) rfl rfl (by decide))).trans (HM.get (i := 1) rfl)
    · intro g hg
      simp only [List.mem_cons, List.not_mem_nil, or_false] at hg
      subst hg
      exact ⟨_, _, _, HM.get (i := 2) rfl, by decide, by decide⟩
    · intro j hj
      obtain ⟨pb, sb, g1, g2, g3, g4, g5⟩ := hS j hj
      simp only [hj, ↓reduceIte] at g4
      exact ⟨pb, sb, g1, by omega, by omega, g4, g5⟩
  rcases Nat.eq_zero_or_pos phnumN with h0 | h0
  · subst h0
    refine nf_C_t0 l b o n c hl hnc false abi abiv tyN machN entryN phoffN 0 shoffN shnumN 1 H.b1 H.b2 H.b3 H.b4 H.b5 H.b6 H.b7 H.c1 (by have := H.c3; omega) w0 a w s fb HF HM ?_
    clear HF HM a w
    intro a w HF HM
    exact nf_D_t0 l b o n c hl hnc false abi abiv tyN machN entryN phoffN 0 shoffN shnumN 1 H.b1 H.b2 H.b3 H.b4 H.b5 H.b6 H.b7 H.c1 (by have := H.c3; omega) H.p1 hp2 w0 hbl hr a w s fb HF HM hD
  · refine nf_C_t1 l b o n c hl hnc false abi abiv tyN machN entryN phoffN phnumN shoffN shnumN 1 H.b1 H.b2 H.b3 H.b4 H.b5 H.b6 H.b7 H.c1 (by have := H.c3; omega) h0 w0 a w s fb HF HM ?_
    clear HF HM a w
    intro a w HF HM
    exact nf_D_t1 l b o n c hl hnc false abi abiv tyN machN entryN phoffN phnumN shoffN shnumN 1 H.b1 H.b2 H.b3 H.b4 H.b5 H.b6 H.b7 H.c1 (by have := H.c3; omega) h0 H.p1 hp2 w0 hbl hr a w s fb HF HM hD

set_option maxRecDepth 100000 in
set_option maxHeartbeats 1000000 in
theorem newFile_tb (l : List UInt8) (b o n c : Nat) (hl : n = l.length) (hnc : n ≤ c) (abi abiv tyN machN entryN phoffN phnumN shoffN shnumN : Nat) (sg : Nat → SegV) (sc : Nat → SecV) (nb : Nat → List UInt8) (H : GoodFile l n false true abi abiv tyN machN entryN phoffN phnumN shoffN shnumN sg sc nb) (w0 : World) (hbl : b < w0.heap.size) (hr : Row w0 (some ⟨b, o, none⟩) (l.map Bv)) :
    Calls Tryd.prog 78 #[.iface 178 (.slice (some ⟨b, o, none⟩) n c)] w0 fun e w' => ∃ fb pg sg_ cur scur, e = .returned (.tuple #[pt_ fb, .nilIface]) ∧ Below w0.heap.size w0 w' ∧ FileAt b o n c w0.heap.size w' false true abi abiv tyN machN entryN phnumN shnumN sg sc nb fb pg sg_ cur scur := by
  have hlen : 52 ≤ n := hl ▸ H.head.len
  have hp2 : phoffN + phnumN * 32 ≤ n := H.p2
  have hs2 : shoffN + shnumN * 40 ≤ n := H.s2
  refine calls_start (c := spine Tryd.f78 0) Tryd.func78 rfl Tryd.ntmps78 [(0, .iface 178 (.slice (some ⟨b, o, none⟩) n c))] (by kernel_rfl) (Nat.le_of_ble_eq_true rfl) ?_
  intro a HF
  refine nf_A_tb l b o n c hl hnc (by omega) abi abiv (ident_of H.head.id H.a1 H.a2) w0 hbl hr a w0 HF (Mm.start w0) ?_
  clear HF
  intro a w s fb HF HM
  refine nf_B_t l b o n c hl hnc hlen true abi abiv tyN machN entryN phoffN phnumN shoffN shnumN 2 H.head H.b1 H.b2 H.b3 H.b4 H.b5 H.b6 H.b7 w0 hbl hr a w s fb HF HM ?_
  clear HF HM
  intro a w HF HM
  have hD : ∀ (a : Act) (w : World) (pg : Nat) (cur : Array Value) (pd : Nat), cur.size = phnumN → Fr 1287 a [(0, .iface 178 (.slice (some ⟨b, o, none⟩) n c)), (4, pt_ s), (8, pt_ fb), (9, (boV true)), (10, i6_ phoffN), (11, iI_ 32), (12, i6_ phnumN), (13, i6_ shoffN), (14, iI_ 40), (15, i6_ shnumN), (16, i6_ (shnumN - 1)), (26, iI_ 40), (36, sl_ pd (phnumN * 32) (phnumN * 32))] → Mm [] w0 w [(pd, .cells (((l.drop phoffN).take (phnumN * 32)).map Bv).toArray 5 (0, 0)), (pg, .cells cur 136 (0, 0)), (fb, .cells #[iB_ 1, iB_ 2, iB_ 1, u8_ abi, u8_ abiv, (boV true), u2_ tyN, u2_ machN, u6_ entryN, nl_, sl_ pg 0 phnumN, nl_, nl_, nl_] 131 (0, 0)), (s, .cells #[.iface 178 (.slice (some ⟨b, o, none⟩) n c), iI_ 0, iI_ 0, iI_ 9223372036854775807, iI_ 9223372036854775807] 246 (0, 0))] → (spine Tryd.f78 35).wp Tryd.prog (bodyPost Tryd.prog Tryd.f78 fun e w' => ∃ fb pg sg_ cur scur, e = .returned (.tuple #[pt_ fb, .nilIface]) ∧ Below w0.heap.size w0 w' ∧ FileAt b o n c w0.heap.size w' false true abi abiv tyN machN entryN phnumN shnumN sg sc nb fb pg sg_ cur scur) a w := by
    clear HF HM a w
    intro a w pg cur pd hcs HF HM
    refine nf_Q_t l b o n c hl hnc true abi abiv tyN machN entryN phoffN phnumN shoffN shnumN 2 H.b1 H.b2 H.b3 H.b4 H.b5 H.b6 H.b7 _ (by simp; omega) sg H.seg H.v1 H.v2 H.v3 H.v4 H.v5 H.v6 w0 s fb pg pd a w cur hcs HF HM ?_
    clear HF HM hcs cur a w
    intro a w cur hcs hP HF HM
    have hbs : b ≠ s := fun e => absurd hbl (Nat.not_lt_of_le (e ▸ HM.ge (i := 3) rfl))
    have hbf : b ≠ fb := fun e => absurd hbl (Nat.not_lt_of_le (e ▸ HM.ge (i := 2) rfl))
    have HMr : Mm [s, fb] w w [(fb, .cells #[iB_ 1, iB_ 2, iB_ 1, u8_ abi, u8_ abiv, (boV true), u2_ tyN, u2_ machN, u6_ entryN, nl_, sl_ pg phnumN phnumN, nl_, nl_, nl_] 131 (0, 0)), (s, .cells #[.iface 178 (.slice (some ⟨b, o, none⟩) n c), iI_ 0, iI_ 0, iI_ 9223372036854775807, iI_ 9223372036854775807] 246 (0, 0))] :=
      ⟨Keep.refl _ _, fun p hp => by
        simp only [List.mem_cons, List.not_mem_nil, or_false] at hp
        rcases hp with rfl | rfl
        · exact ⟨HM.get (i := 2) rfl, .inr (by simp)⟩
        · exact ⟨HM.get (i := 3) rfl, .inr (by simp)⟩, by
        have := HM.ne (i := 2) (j := 3) rfl rfl (by decide)
        simp [this]⟩
    have hr2 := HM.row hr
    have hbl2 : b < w.heap.size := Nat.lt_of_lt_of_le hbl HM.size
    have hbG : b ∉ [s, fb] := by simp [hbs, hbf]
    refine nf_E_t l b o n c hl hnc true abi abiv tyN machN entryN phoffN phnumN shoffN shnumN 2 H.b1 H.b2 H.b3 H.b4 H.b5 H.b6 H.b7 H.c1 (by have := H.c3; omega) H.s1 hs2 w hbl2 hr2 [s, fb] hbG a w s fb pg hbs (HF.sub _ (by kernel_rfl)) HMr ?_
    clear HF HMr a
    intro a w2 sg_ sg_C nm_ nm_C sd hs1 hs3 HF HM2
    refine nf_T_t l b o n c hl hnc true abi abiv tyN machN entryN phoffN phnumN shoffN shnumN 2 H.b1 H.b2 H.b3 H.b4 H.b5 H.b6 H.b7 _ (by simp; omega) sc H.sec H.bd [s, fb] w s fb pg sg_ nm_ sd a w2 sg_C nm_C hs1 hs3 HF HM2 ?_
    clear HF HM2 hs1 hs3 a w2 sg_C nm_C
    intro a w2 scur nms hs1 hs3 hS hN hD HF HM2
    refine nf_F_t l b o n c hl hnc true abi abiv tyN machN entryN phoffN phnumN shoffN shnumN 2 H.b1 H.b2 H.b3 H.b4 H.b5 H.b6 H.b7 _ sc H.c3 H.str (H.bd _ (by have := H.c3; omega)).v9 H.f1 H.f2 H.f3 H.nn [s, fb] w hbl2 hr2 hbG s fb pg sg_ nm_ sd a w2 scur nms hS HF HM2 ?_
    clear HF HM2 hS a w2
    intro a w2 tb_ hS HF HM2
    have hf2 := H.f2
    have hf3 := H.f3
    refine nf_H_t l b o n c hl hnc true abi abiv tyN machN entryN phoffN phnumN shoffN shnumN 2 H.b7 _ sc H.bd nb ((l.drop (sc (shnumN - 1)).off).take (sc (shnumN - 1)).fsz) (sc (shnumN - 1)).fsz (by simp; omega) (by unfold maxLen; omega) H.name [s, fb] w s fb pg sg_ nm_ sd tb_ scur nms hN hD a w2 hS HF HM2 ?_
    clear HF HM2 hS a w2
    intro a w2 hS HF HM2
    refine nf_I fb a w2 (HF.sub _ (by kernel_rfl)) ?_
    intro a HF
    have hk := HM2.keep
    have hk2 : Keep [fb] w w2 := hk.less ((HM2.get (i := 5) rfl).trans (HM.get (i := 3) rfl).symm)
    have hkw : Keep [] w0 w2 := HM.keep.step hk2 (by intro g hg; simp only [List.mem_cons, List.not_mem_nil, or_false] at hg; subst hg; exact HM.own (i := 2) rfl)
    have hz := HM.size
    refine ret_two HF rfl rfl rfl ⟨fb, pg, sg_, cur, scur, rfl, hkw.below, ⟨HM.ge (i := 2) rfl, HM.ge (i := 1) rfl, ?_, HM2.get (i := 4) rfl, ?_, hcs, hP.keep hk2 ?_, HM2.get (i := 3) rfl, hs1, ?_, hD⟩⟩
    · refine Nat.le_trans hz ((HM2.own (i := 3) rfl).elim id fun hm => ?_)
      simp only [List.mem_cons, List.not_mem_nil, or_false] at hm
      rcases hm with e | e
      · exact absurd e (HM2.ne (i := 3) (j := 5) rfl rfl (by decide))
      · exact absurd e (HM2.ne (i := 3) (j := 4) rfl rfl (by decide))
    · exact (hk2.block pg (HM.lt (i := 1) rfl) (by simpa using HM.ne (i := 1) (j := 2) rfl rfl (by decide))).trans (HM.get (i := 1) rfl)
    · intro g hg
      simp only [List.mem_cons, List.not_mem_nil, or_false] at hg
      subst hg
      exact ⟨_, _, _, HM.get (i := 2) rfl, by decide, by decide⟩
    · intro j hj
      obtain ⟨pb, sb, g1, g2, g3, g4, g5⟩ := hS j hj
      simp only [hj, ↓reduceIte] at g4
      exact ⟨pb, sb, g1, by omega, by omega, g4, g5⟩
  rcases Nat.eq_zero_or_pos phnumN with h0 | h0
  · subst h0
    refine nf_C_t0 l b o n c hl hnc true abi abiv tyN machN entryN phoffN 0 shoffN shnumN 2 H.b1 H.b2 H.b3 H.b4 H.b5 H.b6 H.b7 H.c1 (by have := H.c3; omega) w0 a w s fb HF HM ?_
    clear HF HM a w
    intro a w HF HM
    exact nf_D_t0 l b o n c hl hnc true abi abiv tyN machN entryN phoffN 0 shoffN shnumN 2 H.b1 H.b2 H.b3 H.b4 H.b5 H.b6 H.b7 H.c1 (by have := H.c3; omega) H.p1 hp2 w0 hbl hr a w s fb HF HM hD
  · refine nf_C_t1 l b o n c hl hnc true abi abiv tyN machN entryN phoffN phnumN shoffN shnumN 2 H.b1 H.b2 H.b3 H.b4 H.b5 H.b6 H.b7 H.c1 (by have := H.c3; omega) h0 w0 a w s fb HF HM ?_
    clear HF HM a w
    intro a w HF HM
    exact nf_D_t1 l b o n c hl hnc true abi abiv tyN machN entryN phoffN phnumN shoffN shnumN 2 H.b1 H.b2 H.b3 H.b4 H.b5 H.b6 H.b7 H.c1 (by have := H.c3; omega) h0 H.p1 hp2 w0 hbl hr a w s fb HF HM hD

set_option maxRecDepth 100000 in
set_option maxHeartbeats 1000000 in
theorem newFile_wl (l : List UInt8) (b o n c : Nat) (hl : n = l.length) (hnc : n ≤ c) (abi abiv tyN machN entryN phoffN phnumN shoffN shnumN : Nat) (sg : Nat → SegV) (sc : Nat → SecV) (nb : Nat → List UInt8) (H : GoodFile l n true false abi abiv tyN machN entryN phoffN phnumN shoffN shnumN sg sc nb) (w0 : World) (hbl : b < w0.heap.size) (hr : Row w0 (some ⟨b, o, none⟩) (l.map Bv)) :
    Calls Tryd.prog 78 #[.iface 178 (.slice (some ⟨b, o, none⟩) n c)] w0 fun e w' => ∃ fb pg sg_ cur scur, e = .returned (.tuple #[pt_ fb, .nilIface]) ∧ Below w0.heap.size w0 w' ∧ FileAt b o n c w0.heap.size w' true false abi abiv tyN machN entryN phnumN shnumN sg sc nb fb pg sg_ cur scur := by
  have hlen : 64 ≤ n := hl ▸ H.head.len
  have hp2 : phoffN + phnumN * 56 ≤ n := H.p2
  have hs2 : shoffN + shnumN * 64 ≤ n := H.s2
  refine calls_start (c := spine Tryd.f78 0) Tryd.func78 rfl Tryd.ntmps78 [(0, .iface 178 (.slice (some ⟨b, o, none⟩) n c))] (by kernel_rfl) (Nat.le_of_ble_eq_true rfl) ?_
  intro a HF
  refine nf_A_wl l b o n c hl hnc (by omega) abi abiv (ident_of H.head.id H.a1 H.a2) w0 hbl hr a w0 HF (Mm.start w0) ?_
  clear HF
  intro a w s fb HF HM
  refine nf_B_w l b o n c hl hnc hlen false abi abiv tyN machN entryN phoffN phnumN shoffN shnumN 1 H.head H.b1 H.b2 H.b3 H.b4 H.b5 H.b6 H.b7 w0 hbl hr a w s fb HF HM ?_
  clear HF HM
  intro a w HF HM
  have hD : ∀ (a : Act) (w : World) (pg : Nat) (cur : Array Value) (pd : Nat), cur.size = phnumN → Fr 1287 a [(0, .iface 178 (.slice (some ⟨b, o, none⟩) n c)), (4, pt_ s), (8, pt_ fb), (9, (boV false)), (10, i6_ phoffN), (11, iI_ 56), (12, i6_ phnumN), (13, i6_ shoffN), (14, iI_ 64), (15, i6_ shnumN), (16, i6_ (shnumN - 1)), (26, iI_ 64), (36, sl_ pd (phnumN * 56) (phnumN * 56))] → Mm [] w0 w [(pd, .cells (((l.drop phoffN).take (phnumN * 56)).map Bv).toArray 5 (0, 0)), (pg, .cells cur 136 (0, 0)), (fb, .cells #[iB_ 2, iB_ 1, iB_ 1, u8_ abi, u8_ abiv, (boV false), u2_ tyN, u2_ machN, u6_ entryN, nl_, sl_ pg 0 phnumN, nl_, nl_, nl_] 131 (0, 0)), (s, .cells #[.iface 178 (.slice (some ⟨b, o, none⟩) n c), iI_ 0, iI_ 0, iI_ 9223372036854775807, iI_ 9223372036854775807] 246 (0, 0))] → (spine Tryd.f78 35).wp Tryd.prog (bodyPost Tryd.prog Tryd.f78 fun e w' => ∃ fb pg sg_ cur scur, e = .returned (.tuple #[pt_ fb, .nilIface]) ∧ Below w0.heap.size w0 w' ∧ FileAt b o n c w0.heap.size w' true false abi abiv tyN machN entryN phnumN shnumN sg sc nb fb pg sg_ cur scur) a w := by
    clear HF HM a w
    intro a w pg cur pd hcs HF HM
    refine nf_Q_w l b o n c hl hnc false abi abiv tyN machN entryN phoffN phnumN shoffN shnumN 1 H.b1 H.b2 H.b3 H.b4 H.b5 H.b6 H.b7 _ (by simp; omega) sg H.seg H.v1 H.v2 H.v3 H.v4 H.v5 H.v6 w0 s fb pg pd a w cur hcs HF HM ?_
    clear HF HM hcs cur a w
    intro a w cur hcs hP HF HM
    have hbs : b ≠ s := fun e => absurd hbl (Nat.not_lt_of_le (e ▸ HM.ge (i := 3) rfl))
    have hbf : b ≠ fb := fun e => absurd hbl (Nat.not_lt_of_le (e ▸ HM.ge (i := 2) rfl))
    have HMr : Mm [s, fb] w w [(fb, .cells #[iB_ 2, iB_ 1, iB_ 1, u8_ abi, u8_ abiv, (boV false), u2_ tyN, u2_ machN, u6_ entryN, nl_, sl_ pg phnumN phnumN, nl_, nl_, nl_] 131 (0, 0)), (s, .cells #[.iface 178 (.slice (some ⟨b, o, none⟩) n c), iI_ 0, iI_ 0, iI_ 9223372036854775807, iI_ 9223372036854775807] 246 (0, 0))] :=
      ⟨Keep.refl _ _, fun p hp => by
        simp only [List.mem_cons, List.not_mem_nil, or_false] at hp
        rcases hp with rfl | rfl
        · exact ⟨HM.get (i := 2) rfl, .inr (by simp)⟩
        · exact ⟨HM.get (i := 3) rfl, .inr (by simp)⟩, by
        have := HM.ne (i := 2) (j := 3) rfl rfl (by decide)
        simp [this]⟩
    have hr2 := HM.row hr
    have hbl2 : b < w.heap.size := Nat.lt_of_lt_of_le hbl HM.size
    have hbG : b ∉ [s, fb] := by simp [hbs, hbf]
    refine nf_E_w l b o n c hl hnc false abi abiv tyN machN entryN phoffN phnumN shoffN shnumN 1 H.b1 H.b2 H.b3 H.b4 H.b5 H.b6 H.b7 H.c1 (by have := H.c3; omega) H.s1 hs2 w hbl2 hr2 [s, fb] hbG a w s fb pg hbs (HF.sub _ (by kernel_rfl)) HMr ?_
    clear HF HMr a
    intro a w2 sg_ sg_C nm_ nm_C sd hs1 hs3 HF HM2
    refine nf_T_w l b o n c hl hnc false abi abiv tyN machN entryN phoffN phnumN shoffN shnumN 1 H.b1 H.b2 H.b3 H.b4 H.b5 H.b6 H.b7 _ (by simp; omega) sc H.sec H.bd [s, fb] w s fb pg sg_ nm_ sd a w2 sg_C nm_C hs1 hs3 HF HM2 ?_
    clear HF HM2 hs1 hs3 a w2 sg_C nm_C
    intro a w2 scur nms hs1 hs3 hS hN hD HF HM2
    refine nf_F_w l b o n c hl hnc false abi abiv tyN machN entryN phoffN phnumN shoffN shnumN 1 H.b1 H.b2 H.b3 H.b4 H.b5 H.b6 H.b7 _ sc H.c3 H.str (H.bd _ (by have := H.c3; omega)).v9 H.f1 H.f2 H.f3 H.nn [s, fb] w hbl2 hr2 hbG s fb pg sg_ nm_ sd a w2 scur nms hS HF HM2 ?_
    clear HF HM2 hS a w2
    intro a w2 tb_ hS HF HM2
    have hf2 := H.f2
    have hf3 := H.f3
    refine nf_H_w l b o n c hl hnc false abi abiv tyN machN entryN phoffN phnumN shoffN shnumN 1 H.b7 _ sc H.bd nb ((l.drop (sc (shnumN - 1)).off).take (sc (shnumN - 1)).fsz) (sc (shnumN - 1)).fsz (by simp; omega) (by unfold maxLen; omega) H.name [s, fb] w s fb pg sg_ nm_ sd tb_ scur nms hN hD a w2 hS HF HM2 ?_
    clear HF HM2 hS a w2
    intro a w2 hS HF HM2
    refine nf_I fb a w2 (HF.sub _ (by kernel_rfl)) ?_
    intro a HF
    have hk := HM2.keep
    have hk2 : Keep [fb] w w2 := hk.less ((HM2.get (i := 5) rfl).trans (HM.get (i := 3) rfl).symm)
    have hkw : Keep [] w0 w2 := HM.keep.step hk2 (by intro g hg; simp only [List.mem_cons, List.not_mem_nil, or_false] at hg; subst hg; exact HM.own (i := 2) rfl)
    have hz := HM.size
    refine ret_two HF rfl rfl rfl ⟨fb, pg, sg_, cur, scur, rfl, hkw.below, ⟨HM.ge (i := 2) rfl, HM.ge (i := 1) rfl, ?_, HM2.get (i := 4) rfl, ?_, hcs, hP.keep hk2 ?_, HM2.get (i := 3) rfl, hs1, ?_, hD⟩⟩
    · refine Nat.le_trans hz ((HM2.own (i := 3) rfl).elim id fun hm => ?_)
      simp only [List.mem_cons, List.not_mem_nil, or_false] at hm
      rcases hm with e | e
      · exact absurd e (HM2.ne (i := 3) (j := 5) rfl rfl (by decide))
      · exact absurd e (HM2.ne (i := 3) (j := 4) rfl rfl (by decide))
    · exact (hk2.block pg (HM.lt (i := 1) rfl) (by simpa using HM.ne (i := 1) (j := 2) rfl rfl (by decide))).trans (HM.get (i := 1) rfl)
    · intro g hg
      simp only [List.mem_cons, List.not_mem_nil, or_false] at hg
      subst hg
      exact ⟨_, _, _, HM.get (i := 2) rfl, by decide, by decide⟩
    · intro j hj
      obtain ⟨pb, sb, g1, g2, g3, g4, g5⟩ := hS j hj
      simp only [hj, ↓reduceIte] at g4
      exact ⟨pb, sb, g1, by omega, by omega, g4, g5⟩
  rcases Nat.eq_zero_or_pos phnumN with h0 | h0
  · subst h0
    refine nf_C_w0 l b o n c hl hnc false abi abiv tyN machN entryN phoffN 0 shoffN shnumN 1 H.b1 H.b2 H.b3 H.b4 H.b5 H.b6 H.b7 H.c1 (by have := H.c3; omega) w0 a w s fb HF HM ?_
    clear HF HM a w
    intro a w HF HM
    exact nf_D_w0 l b o n c hl hnc false abi abiv tyN machN entryN phoffN 0 shoffN shnumN 1 H.b1 H.b2 H.b3 H.b4 H.b5 H.b6 H.b7 H.c1 (by have := H.c3; omega) H.p1 hp2 w0 hbl hr a w s fb HF HM hD
  · refine nf_C_w1 l b o n c hl hnc false abi abiv tyN machN entryN phoffN phnumN shoffN shnumN 1 H.b1 H.b2 H.b3 H.b4 H.b5 H.b6 H.b7 H.c1 (by have := H.c3; omega) h0 w0 a w s fb HF HM ?_
    clear HF HM a w
    intro a w HF HM
    exact nf_D_w1 l b o n c hl hnc false abi abiv tyN machN entryN phoffN phnumN shoffN shnumN 1 H.b1 H.b2 H.b3 H.b4 H.b5 H.b6 H.b7 H.c1 (by have := H.c3; omega) h0 H.p1 hp2 w0 hbl hr a w s fb HF HM hD

set_option maxRecDepth 100000 in
set_option maxHeartbeats 1000000 in
theorem newFile_wb (l : List UInt8) (b o n c : Nat) (hl : n = l.length) (hnc : n ≤ c) (abi abiv tyN machN entryN phoffN phnumN shoffN shnumN : Nat) (sg : Nat → SegV) (sc : Nat → SecV) (nb : Nat → List UInt8) (H : GoodFile l n true true abi abiv tyN machN entryN phoffN phnumN shoffN shnumN sg sc nb) (w0 : World) (hbl : b < w0.heap.size) (hr : Row w0 (some ⟨b, o, none⟩) (l.map Bv)) :
    Calls Tryd.prog 78 #[.iface 178 (.slice (some ⟨b, o, none⟩) n c)] w0 fun e w' => ∃ fb pg sg_ cur scur, e = .returned (.tuple #[pt_ fb, .nilIface]) ∧ Below w0.heap.size w0 w' ∧ FileAt b o n c w0.heap.size w' true true abi abiv tyN machN entryN phnumN shnumN sg sc nb fb pg sg_ cur scur := by
  have hlen : 64 ≤ n := hl ▸ H.head.len
  have hp2 : phoffN + phnumN * 56 ≤ n := H.p2
  have hs2 : shoffN + shnumN * 64 ≤ n := H.s2
  refine calls_start (c := spine Tryd.f78 0) Tryd.func78 rfl Tryd.ntmps78 [(0, .iface 178 (.slice (some ⟨b, o, none⟩) n c))] (by kernel_rfl) (Nat.le_of_ble_eq_true rfl) ?_
  intro a HF
  refine nf_A_wb l b o n c hl hnc (by omega) abi abiv (ident_of H.head.id H.a1 H.a2) w0 hbl hr a w0 HF (Mm.start w0) ?_
  clear HF
  intro a w s fb HF HM
  refine nf_B_w l b o n c hl hnc hlen true abi abiv tyN machN entryN phoffN phnumN shoffN shnumN 2 H.head H.b1 H.b2 H.b3 H.b4 H.b5 H.b6 H.b7 w0 hbl hr a w s fb HF HM ?_
  clear HF HM
  intro a w HF HM
  have hD : ∀ (a : Act) (w : World) (pg : Nat) (cur : Array Value) (pd : Nat), cur.size = phnumN → Fr 1287 a [(0, .iface 178 (.slice (some ⟨b, o, none⟩) n c)), (4, pt_ s), (8, pt_ fb), (9, (boV true)), (10, i6_ phoffN), (11, iI_ 56), (12, i6_ phnumN), (13, i6_ shoffN), (14, iI_ 64), (15, i6_ shnumN), (16, i6_ (shnumN - 1)), (26, iI_ 64), (36, sl_ pd (phnumN * 56) (phnumN * 56))] → Mm [] w0 w [(pd, .cells (((l.drop phoffN).take (phnumN * 56)).map Bv).toArray 5 (0, 0)), (pg, .cells cur 136 (0, 0)), (fb, .cells #[iB_ 2, iB_ 2, iB_ 1, u8_ abi, u8_ abiv, (boV true), u2_ tyN, u2_ machN, u6_ entryN, nl_, sl_ pg 0 phnumN, nl_, nl_, nl_] 131 (0, 0)), (s, .cells #[.iface 178 (.slice (some ⟨b, o, none⟩) n c), iI_ 0, iI_ 0, iI_ 9223372036854775807, iI_ 9223372036854775807] 246 (0, 0))] → (spine Tryd.f78 35).wp Tryd.prog (bodyPost Tryd.prog Tryd.f78 fun e w' => ∃ fb pg sg_ cur scur, e = .returned (.tuple #[pt_ fb, .nilIface]) ∧ Below w0.heap.size w0 w' ∧ FileAt b o n c w0.heap.size w' true true abi abiv tyN machN entryN phnumN shnumN sg sc nb fb pg sg_ cur scur) a w := by
    clear HF HM a w
    intro a w pg cur pd hcs HF HM
    refine nf_Q_w l b o n c hl hnc true abi abiv tyN machN entryN phoffN phnumN shoffN shnumN 2 H.b1 H.b2 H.b3 H.b4 H.b5 H.b6 H.b7 _ (by simp; omega) sg H.seg H.v1 H.v2 H.v3 H.v4 H.v5 H.v6 w0 s fb pg pd a w cur hcs HF HM ?_
    clear HF HM hcs cur a w
    intro a w cur hcs hP HF HM
    have hbs : b ≠ s := fun e => absurd hbl (Nat.not_lt_of_le (e ▸ HM.ge (i := 3) rfl))
    have hbf : b ≠ fb := fun e => absurd hbl (Nat.not_lt_of_le (e ▸ HM.ge (i := 2) rfl))
    have HMr : Mm [s, fb] w w [(fb, .cells #[iB_ 2, iB_ 2, iB_ 1, u8_ abi, u8_ abiv, (boV true), u2_ tyN, u2_ machN, u6_ entryN, nl_, sl_ pg phnumN phnumN, nl_, nl_, nl_] 131 (0, 0)), (s, .cells #[.iface 178 (.slice (some ⟨b, o, none⟩) n c), iI_ 0, iI_ 0, iI_ 9223372036854775807, iI_ 9223372036854775807] 246 (0, 0))] :=
      ⟨Keep.refl _ _, fun p hp => by
        simp only [List.mem_cons, List.not_mem_nil, or_false] at hp
        rcases hp with rfl | rfl
        · exact ⟨HM.get (i := 2) rfl, .inr (by simp)⟩
        · exact ⟨HM.get (i := 3) rfl, .inr (by simp)⟩, by
        have := HM.ne (i := 2) (j := 3) rfl rfl (by decide)
        simp [this]⟩
    have hr2 := HM.row hr
    have hbl2 : b < w.heap.size := Nat.lt_of_lt_of_le hbl HM.size
    have hbG : b ∉ [s, fb] := by simp [hbs, hbf]
    refine nf_E_w l b o n c hl hnc true abi abiv tyN machN entryN phoffN phnumN shoffN shnumN 2 H.b1 H.b2 H.b3 H.b4 H.b5 H.b6 H.b7 H.c1 (by have := H.c3; omega) H.s1 hs2 w hbl2 hr2 [s, fb] hbG a w s fb pg hbs (HF.sub _ (by kernel_rfl)) HMr ?_
    clear HF HMr a
    intro a w2 sg_ sg_C nm_ nm_C sd hs1 hs3 HF HM2
    refine nf_T_w l b o n c hl hnc true abi abiv tyN machN entryN phoffN phnumN shoffN shnumN 2 H.b1 H.b2 H.b3 H.b4 H.b5 H.b6 H.b7 _ (by simp; omega) sc H.sec H.bd [s, fb] w s fb pg sg_ nm_ sd a w2 sg_C nm_C hs1 hs3 HF HM2 ?_
    clear HF HM2 hs1 hs3 a w2 sg_C nm_C
    intro a w2 scur nms hs1 hs3 hS hN hD HF HM2
    refine nf_F_w l b o n c hl hnc true abi abiv tyN machN entryN phoffN phnumN shoffN shnumN 2 H.b1 H.b2 H.b3 H.b4 H.b5 H.b6 H.b7 _ sc H.c3 H.str (H.bd _ (by have := H.c3; omega)).v9 H.f1 H.f2 H.f3 H.nn [s, fb] w hbl2 hr2 hbG s fb pg sg_ nm_ sd a w2 scur nms hS HF HM2 ?_
    clear HF HM2 hS a w2
    intro a w2 tb_ hS HF HM2
    have hf2 := H.f2
    have hf3 := H.f3
    refine nf_H_w l b o n c hl hnc true abi abiv tyN machN entryN phoffN phnumN shoffN shnumN 2 H.b7 _ sc H.bd nb ((l.drop (sc (shnumN - 1)).off).take (sc (shnumN - 1)).fsz) (sc (shnumN - 1)).fsz (by simp; omega) (by unfold maxLen; omega) H.name [s, fb] w s fb pg sg_ nm_ sd tb_ scur nms hN hD a w2 hS HF HM2 ?_
    clear HF HM2 hS a w2
    intro a w2 hS HF HM2
    refine nf_I fb a w2 (HF.sub _ (by kernel_rfl)) ?_
    intro a HF
    have hk := HM2.keep
    have hk2 : Keep [fb] w w2 := hk.less ((HM2.get (i := 5) rfl).trans (HM.get (i := 3) rfl).symm)
    have hkw : Keep [] w0 w2 := HM.keep.step hk2 (by intro g hg; simp only [List.mem_cons, List.not_mem_nil, or_false] at hg; subst hg; exact HM.own (i := 2) rfl)
    have hz := HM.size
    refine ret_two HF rfl rfl rfl ⟨fb, pg, sg_, cur, scur, rfl, hkw.below, ⟨HM.ge (i := 2) rfl, HM.ge (i := 1) rfl, ?_, HM2.get (i := 4) rfl, ?_, hcs, hP.keep hk2 ?_, HM2.get (i := 3) rfl, hs1, ?_, hD⟩⟩
    · refine Nat.le_trans hz ((HM2.own (i := 3) rfl).elim id fun hm => ?_)
      simp only [List.mem_cons, List.not_mem_nil, or_false] at hm
      rcases hm with e | e
      · exact absurd e (HM2.ne (i := 3) (j := 5) rfl rfl (by decide))
      · exact absurd e (HM2.ne (i := 3) (j := 4) rfl rfl (by decide))
    · exact (hk2.block pg (HM.lt (i := 1) rfl) (by simpa using HM.ne (i := 1) (j := 2) rfl rfl (by decide))).trans (HM.get (i := 1) rfl)
    · intro g hg
      simp only [List.mem_cons, List.not_mem_nil, or_false] at hg
      subst hg
      exact ⟨_, _, _, HM.get (i := 2) rfl, by decide, by decide⟩
    · intro j hj
      obtain ⟨pb, sb, g1, g2, g3, g4, g5⟩ := hS j hj
      simp only [hj, ↓reduceIte] at g4
      exact ⟨pb, sb, g1, by omega, by omega, g4, g5⟩
  rcases Nat.eq_zero_or_pos phnumN with h0 | h0
  · subst h0
    refine nf_C_w0 l b o n c hl hnc true abi abiv tyN machN entryN phoffN 0 shoffN shnumN 2 H.b1 H.b2 H.b3 H.b4 H.b5 H.b6 H.b7 H.c1 (by have := H.c3; omega) w0 a w s fb HF HM ?_
    clear HF HM a w
    intro a w HF HM
    exact nf_D_w0 l b o n c hl hnc true abi abiv tyN machN entryN phoffN 0 shoffN shnumN 2 H.b1 H.b2 H.b3 H.b4 H.b5 H.b6 H.b7 H.c1 (by have := H.c3; omega) H.p1 hp2 w0 hbl hr a w s fb HF HM hD
  · refine nf_C_w1 l b o n c hl hnc true abi abiv tyN machN entryN phoffN phnumN shoffN shnumN 2 H.b1 H.b2 H.b3 H.b4 H.b5 H.b6 H.b7 H.c1 (by have := H.c3; omega) h0 w0 a w s fb HF HM ?_
    clear HF HM a w
    intro a w HF HM
    exact nf_D_w1 l b o n c hl hnc true abi abiv tyN machN entryN phoffN phnumN shoffN shnumN 2 H.b1 H.b2 H.b3 H.b4 H.b5 H.b6 H.b7 H.c1 (by have := H.c3; omega) h0 H.p1 hp2 w0 hbl hr a w s fb HF HM hD

theorem newFile_any (l : List UInt8) (b o n c : Nat) (hl : n = l.length) (hnc : n ≤ c) (wide big : Bool) (abi abiv tyN machN entryN phoffN phnumN shoffN shnumN : Nat) (sg : Nat → SegV) (sc : Nat → SecV) (nb : Nat → List UInt8) (H : GoodFile l n wide big abi abiv tyN machN entryN phoffN phnumN shoffN shnumN sg sc nb) (w0 : World) (hbl : b < w0.heap.size) (hr : Row w0 (some ⟨b, o, none⟩) (l.map Bv)) :
    Calls Tryd.prog 78 #[.iface 178 (.slice (some ⟨b, o, none⟩) n c)] w0 fun e w' => ∃ fb pg sg_ cur scur, e = .returned (.tuple #[pt_ fb, .nilIface]) ∧ Below w0.heap.size w0 w' ∧ FileAt b o n c w0.heap.size w' wide big abi abiv tyN machN entryN phnumN shnumN sg sc nb fb pg sg_ cur scur := by
  cases wide <;> cases big
  · exact newFile_tl l b o n c hl hnc abi abiv tyN machN entryN phoffN phnumN shoffN shnumN sg sc nb H w0 hbl hr
  · exact newFile_tb l b o n c hl hnc abi abiv tyN machN entryN phoffN phnumN shoffN shnumN sg sc nb H w0 hbl hr
  · exact newFile_wl l b o n c hl hnc abi abiv tyN machN entryN phoffN phnumN shoffN shnumN sg sc nb H w0 hbl hr
  · exact newFile_wb l b o n c hl hnc abi abiv tyN machN entryN phoffN phnumN shoffN shnumN sg sc nb H w0 hbl hr
end Go.Proofs.YtdgehpocmfjbiaaDoor
namespace Go.Proofs.YtdgehpocmfjbiaaDoor
open Go.RowKit

theorem FileAt.keep {b o n c z : Nat} {w w' : World} {wide big : Bool} {abi abiv tyN machN entryN phnumN shnumN : Nat} {sg : Nat → SegV} {sc : Nat → SecV} {nb : Nat → List UInt8} {fb pg sg_ : Nat} {cur scur : Array Value} (h : FileAt b o n c z w wide big abi abiv tyN machN entryN phnumN shnumN sg sc nb fb pg sg_ cur scur) (hk : Keep [] w w') : FileAt b o n c z w' wide big abi abiv tyN machN entryN phnumN shnumN sg sc nb fb pg sg_ cur scur :=
  ⟨h.zf, h.zp, h.zs, (hk.block _ (lt_of_get h.file) (by simp)).trans h.file, (hk.block _ (lt_of_get h.progs) (by simp)).trans h.progs, h.size, h.prog.keep hk (by intro g hg; cases hg), (hk.block _ (lt_of_get h.secs) (by simp)).trans h.secs, h.ssize, h.sec.keep hk (by intro g hg; cases hg), h.ne⟩
theorem row_take_ {w : World} {A : Option Addr} {cs : List Value} (h : Row w A cs) (k : Nat) : Row w A (cs.take k) := fun i v hv => by
  rw [List.getElem?_take] at hv
  split at hv
  · exact h i v hv
  · cases hv
theorem info_u8'' : (Tryd.prog.info? 5).map (fun i => (i.zero, i.size, i.bytes)) = some (some (.int .u8 0), 1, 1) := by kernel_rfl

set_option maxRecDepth 100000 in
set_option maxHeartbeats 1000000 in
theorem open_any (l : List UInt8) (A : Option Addr) (n c : Nat) (hl : n = l.length) (hnc : n ≤ c) (wide big : Bool) (abi abiv tyN machN entryN phoffN phnumN shoffN shnumN : Nat) (sg : Nat → SegV) (sc : Nat → SecV) (nb : Nat → List UInt8) (H : GoodFile l n wide big abi abiv tyN machN entryN phoffN phnumN shoffN shnumN sg sc nb) (h47 : n ≤ 140737488355328) (w0 : World) (hr : Row w0 A (l.map Bv)) :
    Calls Tryd.prog 55 #[.slice A n c] w0 fun e w' => ∃ g cap z fb pg sg_ cur scur, e = .returned (.tuple #[pt_ fb, .bool true]) ∧ Below w0.heap.size w0 w' ∧ n ≤ cap ∧ cap ≤ maxLen ∧ w0.heap.size ≤ g ∧ w0.heap.size ≤ z ∧ Row w' (some ⟨g, 0, none⟩) (l.map Bv) ∧ FileAt g 0 n cap z w' wide big abi abiv tyN machN entryN phnumN shnumN sg sc nb fb pg sg_ cur scur := by
  have hn16 : 16 ≤ n := by
    have := H.head.len
    rw [← hl] at this
    unfold hSize at this
    split at this <;> omega
  obtain ⟨w, hw⟩ : ∃ w, w0 = w := ⟨_, rfl⟩
  have HM : Mm [] w0 w [] := hw ▸ Mm.start w0
  conv => arg 4; rw [hw]
  clear hw
  refine calls_start Tryd.func55 rfl Tryd.ntmps55 [(0, .slice A n c)] (by kernel_rfl) (Nat.le_of_ble_eq_true rfl) ?_
  intro a HF
  refine reg_sym HF HM rfl [] [(0, .slice A n c), (2, .pointer none), (3, .bool false)] [] (by kernel_rfl) ?_
  clear HF HM; intro a w HF HM
  refine wp_seq (wp_region_lit ?_)
  refine wp_sym HF HM rfl 1 [] [(0, .slice A n c), (2, .pointer none), (3, .bool false), (7, .slice A n c)] [] (by kernel_rfl) ?_
  clear HF HM; intro a w HF HM
  refine wp_append_new HF HM rfl _ _ 33 rfl rfl 5 Tryd.underlying33 info_u8'' rfl (by omega) rfl A n c (l.map Bv) rfl (by simp [hl]) (by omega) (HM.row hr) (Bv_one _) (by unfold maxLen; omega) (by omega) ?_
  intro a2 w1 g cap cb HM2 htk hcs hnc2 hcap hbel HF2; have hg0 : w0.heap.size ≤ g := HM2.ge (i := 0) rfl; clear HF HM hbel; have HM := HM2; have HF := HF2; clear HM2 HF2
  replace HF := HF.sub [(0, .slice A n c), (2, .pointer none), (3, .bool false), (7, .slice A n c), (8, sl_ g n cap)] (by kernel_rfl)
  have hrow : Row w1 (some ⟨g, 0, none⟩) (l.map Bv) := by have := row_take_ (HM.rowAt (i := 0) rfl) (n * 1); rwa [htk] at this
  refine wp_sym HF HM rfl 1 [] [(0, .slice A n c), (2, .pointer none), (3, .bool false), (9, .iface 178 (sl_ g n cap))] [(g, .cells cb 5 (0, 0))] (by kernel_rfl) ?_
  clear HF HM; intro a w HF HM
  have hrow2 : Row w (some ⟨g, 0, none⟩) (l.map Bv) := by have := row_take_ (HM.rowAt (i := 0) rfl) (n * 1); rwa [htk] at this
  refine wp_call HF (by kernel_rfl) 78 #[.iface 178 (sl_ g n cap)] (by kernel_rfl) (fun w => by kernel_rfl) (Calls.mono (newFile_any l g 0 n cap hl hnc2 wide big abi abiv tyN machN entryN phoffN phnumN shoffN shnumN sg sc nb H w (HM.lt (i := 0) rfl) hrow2) ?_)
  rintro _ w2 ⟨fb, pg, sg_, cur, scur, rfl, hb, hF⟩
  have hzz : w0.heap.size ≤ w.heap.size := HM.size
  have hrow3 := hrow2.below hb
  replace HM := HM.call hb
  refine ⟨_, rfl, ?_⟩; clear HF; intro a HF; replace HF := HF.sub [(0, .slice A n c), (2, .pointer none), (3, .bool false), (9, .iface 178 (sl_ g n cap)), (10, .tuple #[pt_ fb, .nilIface])] (by kernel_rfl)
  refine wp_pure HF HM rfl 5 [] [(0, .slice A n c), (2, .pointer none), (3, .bool false), (4, pt_ fb), (5, .nilIface)] (by kernel_rfl) ?_
  clear HF; intro a HF
  refine nil_then ?_
  refine reg_quietw (by kernel_rfl) (by kernel_rfl) ?_
  refine quiet_sym HF HM rfl 5 [] [(0, .slice A n c), (2, pt_ fb), (3, .bool true)] (by kernel_rfl) ?_
  clear HF; intro a HF
  refine quiet_end ?_
  rintro _ ⟨nq, rfl⟩
  refine wp_ret ?_
  exact ret_two HF rfl rfl rfl ⟨g, cap, w.heap.size, fb, pg, sg_, cur, scur, rfl, (HM.drewN nq).below, hnc2, hcap, hg0, hzz, hrow3, hF.keep ((Keep.refl [] _).drewN nq)⟩

end Go.Proofs.YtdgehpocmfjbiaaDoor
namespace Go.Proofs.YtdgehpocmfjbiaaDoor
open Go.RowKit

theorem flat_bound {α : Type} (f : α → List UInt8) (B : Nat) : ∀ l : List α, (∀ a ∈ l, (f a).length ≤ B) → (l.flatMap f).length ≤ l.length * B
  | [], _ => by simp
  | a :: l, h => by
    have h1 := flat_bound f B l fun b hb => h b (by simp [hb])
    have h2 := h a (by simp)
    rw [List.flatMap_cons, List.length_append, List.length_cons, Nat.succ_mul]
    omega
structure Seg.Ok (wide : Bool) (s : Seg) : Prop where
  ty : s.ty < 2147483648
  flags : s.flags < 4294967296
  vaddr : s.vaddr < 256 ^ aSz wide
  paddr : s.paddr < 256 ^ aSz wide
  memsz : s.memsz < 256 ^ aSz wide
  align : s.align < 256 ^ aSz wide
  data : s.data.length ≤ 65536
structure Part.Ok (wide : Bool) (p : Part) : Prop where
  name : p.name.length ≤ 1024
  nul : 0 ∉ p.name
  ty : p.ty < 4294967296
  flags : p.flags < 4294967296
  zip : (and32 (p.flags : Int) 2048 == 0) = true
  addr : p.addr < 256 ^ aSz wide
  link : p.link < 4294967296
  info : p.info < 4294967296
  align : p.align < 256 ^ aSz wide
  ent : p.ent < 256 ^ aSz wide
  size : p.size < 256 ^ aSz wide
  size62 : p.size < 4611686018427387904
  data : p.data.length ≤ 1100000
structure Img.Ok (x : Img) : Prop where
  abi : x.abi < 256
  abiv : x.abiv < 256
  ty : x.ty < 65536
  machine : x.machine < 65536
  entry : x.entry < 256 ^ aSz x.wide
  segs : x.segs.length ≤ 100
  parts : x.parts.length ≤ 102
  seg : ∀ s ∈ x.segs, Seg.Ok x.wide s
  part : ∀ p ∈ x.parts, Part.Ok x.wide p
def sgOf (x : Img) (i : Nat) : SegV := match x.segs[i]? with
  | some s => ⟨s.ty, s.flags, x.segPlace i, s.vaddr, s.paddr, s.data.length, s.memsz, s.align⟩
  | none => ⟨0, 0, 0, 0, 0, 0, 0, 0⟩
def scOf (x : Img) (i : Nat) : SecV := match x.all[i]? with
  | some p => ⟨x.namePlace i, p.ty, p.flags, p.addr, x.secPlace i, partSize p, p.link, p.info, p.align, p.ent⟩
  | none => ⟨0, 0, 0, 0, 0, 0, 0, 0, 0, 0⟩
def nbOf (x : Img) (i : Nat) : List UInt8 := (x.names[i]?).getD []

section
variable {x : Img}
theorem Img.Ok.names_length (h : x.Ok) : x.names.length = x.parts.length + 2 := by simp [Img.names, Img.firsts]
theorem Img.all_length (x : Img) : x.all.length = x.parts.length + 2 := by simp [Img.all, Img.firsts]
theorem Img.Ok.namesB_le (h : x.Ok) : (namesB x.names).length ≤ 110000 := by
  have hb := flat_bound (fun n : List UInt8 => n ++ [0]) 1025 x.names (by
    intro n hn
    simp only [Img.names, Img.firsts, List.map_cons, List.mem_append, List.mem_cons, List.mem_map, List.not_mem_nil, or_false] at hn
    rcases hn with (rfl | ⟨p, hp, rfl⟩) | rfl
    · simp [nonePart]
    · have := (h.part p hp).name
      simp; omega
    · simp [shstr])
  rw [h.names_length] at hb
  have := h.parts
  unfold namesB
  rw [List.length_cons]
  have : (x.parts.length + 2) * 1025 ≤ 104 * 1025 := Nat.mul_le_mul_right _ (by omega)
  omega
theorem Img.Ok.segBody_le (h : x.Ok) : x.segBody.length ≤ 6553600 := by
  have := flat_bound (fun s : Seg => s.data) 65536 x.segs fun s hs => (h.seg s hs).data
  have h2 : x.segs.length * 65536 ≤ 100 * 65536 := Nat.mul_le_mul_right _ h.segs
  unfold Img.segBody
  omega
theorem fileData_le (p : Part) : (fileData p).length ≤ p.data.length := by unfold fileData; split <;> simp
theorem Img.Ok.secBody_le (h : x.Ok) : x.secBody.length ≤ 114400000 := by
  have := flat_bound fileData 1100000 x.all (by
    intro p hp
    refine Nat.le_trans (fileData_le p) ?_
    simp only [Img.all, Img.firsts, List.mem_append, List.mem_cons, List.not_mem_nil, or_false] at hp
    rcases hp with (rfl | hp) | rfl
    · simp [nonePart]
    · have := (h.part p hp).data
      omega
    · have := h.namesB_le
      show (namesB x.names).length ≤ 1100000
      omega)
  have h2 : x.all.length * 1100000 ≤ 104 * 1100000 := Nat.mul_le_mul_right _ (by rw [Img.all_length]; have := h.parts; omega)
  unfold Img.secBody
  omega
theorem Img.Ok.at0_le (h : x.Ok) : x.at0 ≤ 5664 := by
  have := h.segs
  unfold Img.at0 hSize pSize
  split <;> omega
theorem Img.Ok.shoff_le (h : x.Ok) : x.shoff ≤ 121000000 := by
  have h1 := h.at0_le
  have h2 := h.segBody_le
  have h3 := h.secBody_le
  unfold Img.shoff
  rw [List.length_append]
  omega
theorem Img.Ok.length_le (h : x.Ok) : x.file.length ≤ 122000000 := by
  rw [Img.file_length, Img.all_length]
  have h1 := h.shoff_le
  have h2 := h.parts
  have : (x.parts.length + 2) * sSize x.wide ≤ 104 * 64 := Nat.mul_le_mul (by omega) (by unfold sSize; split <;> omega)
  omega
theorem Img.segPlace_le (x : Img) (i : Nat) : x.segPlace i ≤ x.shoff := by
  have := flat_le (·.data) x.segs i
  unfold Img.segPlace Img.shoff Img.segBody
  rw [List.length_append]
  omega
theorem Img.secPlace_le (x : Img) (i : Nat) : x.secPlace i ≤ x.shoff := by
  have := flat_le fileData x.all i
  unfold Img.secPlace Img.shoff Img.secBody
  rw [List.length_append]
  split <;> omega
theorem aSz_big (wide : Bool) : 4294967296 ≤ 256 ^ aSz wide := by cases wide <;> decide
theorem aSz_top (wide : Bool) : 256 ^ aSz wide ≤ 18446744073709551616 := by cases wide <;> decide

structure Part.Fit (wide : Bool) (p : Part) : Prop where
  ty : p.ty < 4294967296
  flags : p.flags < 4294967296
  zip : (and32 (p.flags : Int) 2048 == 0) = true
  addr : p.addr < 256 ^ aSz wide
  link : p.link < 4294967296
  info : p.info < 4294967296
  align : p.align < 256 ^ aSz wide
  ent : p.ent < 256 ^ aSz wide
  size : partSize p < 256 ^ aSz wide
  size62 : partSize p < 4611686018427387904
theorem and32_zero : (and32 ((0 : Nat) : Int) 2048 == 0) = true := by decide
theorem Img.Ok.fit (h : x.Ok) : ∀ p ∈ x.all, Part.Fit x.wide p := by
  intro p hp
  have hb := aSz_big x.wide
  simp only [Img.all, Img.firsts, List.mem_append, List.mem_cons, List.not_mem_nil, or_false] at hp
  rcases hp with (rfl | hp) | rfl
  · exact ⟨by decide, by decide, and32_zero, by show 0 < _; omega, by decide, by decide, by show 0 < _; omega, by show 0 < _; omega, by show 0 < _; omega, by decide⟩
  · have o := h.part p hp
    have h1 := o.size
    have h2 := o.size62
    have h3 := o.data
    refine ⟨o.ty, o.flags, o.zip, o.addr, o.link, o.info, o.align, o.ent, ?_, ?_⟩
    · unfold partSize sizeB; split <;> omega
    · unfold partSize sizeB; split <;> omega
  · have hn := h.namesB_le
    refine ⟨by show 3 < _; omega, by show 0 < _; omega, and32_zero, by show 0 < _; omega, by show 0 < _; omega, by show 0 < _; omega, by show 1 < _; omega, by show 0 < _; omega, ?_, ?_⟩
    · show (namesB x.names).length < _; omega
    · show (namesB x.names).length < _; omega
theorem scOf_get (x : Img) (i : Nat) (hi : i < x.all.length) : scOf x i = ⟨x.namePlace i, x.all[i].ty, x.all[i].flags, x.all[i].addr, x.secPlace i, partSize x.all[i], x.all[i].link, x.all[i].info, x.all[i].align, x.all[i].ent⟩ := by
  simp [scOf, hi]
theorem sgOf_get (x : Img) (i : Nat) (hi : i < x.segs.length) : sgOf x i = ⟨x.segs[i].ty, x.segs[i].flags, x.segPlace i, x.segs[i].vaddr, x.segs[i].paddr, x.segs[i].data.length, x.segs[i].memsz, x.segs[i].align⟩ := by
  simp [sgOf, hi]
theorem Img.last (x : Img) : x.all[x.all.length - 1]? = some x.strPart := by
  have : x.all.length - 1 = x.firsts.length := by simp [Img.all]
  rw [this]
  simp [Img.all]
theorem scOf_last (x : Img) : scOf x (x.all.length - 1) = ⟨x.namePlace (x.all.length - 1), 3, 0, 0, x.secPlace (x.all.length - 1), (namesB x.names).length, 0, 0, 1, 0⟩ := by
  unfold scOf
  rw [Img.last]
  rfl
theorem Img.Ok.namePlace_lt (h : x.Ok) (i : Nat) (hi : i < x.all.length) : x.namePlace i < 4294967296 := by
  unfold Img.namePlace
  split
  · omega
  · have := nameAt_lt x.names i (by rw [h.names_length]; rw [Img.all_length] at hi; exact hi)
    have := h.namesB_le
    omega
theorem Img.names_at (x : Img) : ∃ r, x.file.drop (x.secPlace (x.all.length - 1)) = namesB x.names ++ r := by
  have hl := Img.all_length x
  obtain ⟨r, e⟩ := x.sec_at (x.all.length - 1) (by omega) (by omega)
  have hg : x.all[x.all.length - 1]'(by omega) = x.strPart := by
    have := x.last
    rw [List.getElem?_eq_getElem (by omega)] at this
    exact Option.some.inj this
  rw [hg] at e
  exact ⟨r, e⟩
theorem Img.Ok.nul (h : x.Ok) : ∀ n ∈ x.names, 0 ∉ n := by
  intro n hn
  simp only [Img.names, Img.firsts, List.map_cons, List.mem_append, List.mem_cons, List.mem_map, List.not_mem_nil, or_false] at hn
  rcases hn with (rfl | ⟨p, hp, rfl⟩) | rfl
  · simp [nonePart]
  · exact (h.part p hp).nul
  · decide
theorem good_file (h : x.Ok) : GoodFile x.file x.file.length x.wide x.big x.abi x.abiv x.ty x.machine x.entry (hSize x.wide) x.segs.length x.shoff x.all.length (sgOf x) (scOf x) (nbOf x) := by
  have hb := aSz_big x.wide
  have ht := aSz_top x.wide
  have hH : hSize x.wide ≤ 64 := by unfold hSize; split <;> omega
  have hH0 : 52 ≤ hSize x.wide := by unfold hSize; split <;> omega
  have hS0 : 40 ≤ sSize x.wide := by unfold sSize; split <;> omega
  have hal := Img.all_length x
  have hsh := h.shoff_le
  have hsg := h.segs
  have hpt := h.parts
  have hlen := h.length_le
  have hfl := x.file_length
  have h0 : x.at0 ≤ x.shoff := by unfold Img.shoff; omega
  have h00 : x.at0 = hSize x.wide + pSize x.wide * x.segs.length := rfl
  have hmul : 1 * 40 ≤ x.all.length * sSize x.wide := Nat.mul_le_mul (by omega) hS0
  have hen := h.entry
  have hlast := scOf_last x
  obtain ⟨rn, en⟩ := x.names_at
  have hnl := congrArg List.length en
  rw [List.length_drop, List.length_append] at hnl
  have hnb := h.namesB_le
  refine ⟨?_, h.abi, h.abiv, h.ty, h.machine, by omega, by omega, by omega, by omega, by omega, by omega, by omega, by omega, ?_, by omega, ?_, by omega, ?_, ?_, ?_, ?_, ?_, ?_, ?_, ?_, ?_, ?_, ?_, ?_, ?_, ?_⟩
  · obtain ⟨r, e⟩ := x.take_head
    rw [e]
    exact head_ok x.wide x.big x.abi x.abiv x.ty x.machine x.entry x.segs.length (hSize x.wide) x.all.length x.shoff r h.ty h.machine h.entry (by omega) (by omega) (by omega) (by omega)
  · show hSize x.wide + x.segs.length * pSize x.wide ≤ _
    rw [Nat.mul_comm]; omega
  · show x.shoff + x.all.length * sSize x.wide ≤ _
    omega
  · intro i hi
    have e1 : (x.file.drop (hSize x.wide)).take (x.segs.length * pSize x.wide) = rowsFrom x.segRow 0 x.segs := by
      rw [x.drop_head, List.take_left' (by rw [x.segRows_length, Nat.mul_comm])]
    obtain ⟨r, e2⟩ := rowsFrom_drop x.segRow (pSize x.wide) x.segs (fun j a _ => segB_length ..) i hi
    have o := h.seg _ (List.getElem_mem hi)
    have hd := o.data
    have hp := x.segPlace_le i
    rw [sgOf_get x i hi]
    show SegOk (((x.file.drop (hSize x.wide)).take (x.segs.length * pSize x.wide)).drop (i * pSize x.wide)) _ _ _ _ _ _ _ _ _ _
    rw [e1, e2]
    have hty := o.ty
    exact seg_ok x.wide x.big _ _ _ _ _ _ _ _ r (by omega) o.flags o.vaddr o.paddr o.memsz o.align (by omega) (by omega)
  · intro i hi; have o := (h.seg _ (List.getElem_mem hi)).ty; rw [sgOf_get x i hi]; show x.segs[i].ty < _; omega
  · intro i hi; have o := (h.seg _ (List.getElem_mem hi)).data; have := x.segPlace_le i; rw [sgOf_get x i hi]; show x.segPlace i + x.segs[i].data.length < _; omega
  · intro i hi; have o := (h.seg _ (List.getElem_mem hi)).vaddr; rw [sgOf_get x i hi]; show x.segs[i].vaddr ≤ _; omega
  · intro i hi; have o := (h.seg _ (List.getElem_mem hi)).paddr; rw [sgOf_get x i hi]; show x.segs[i].paddr ≤ _; omega
  · intro i hi; have o := (h.seg _ (List.getElem_mem hi)).memsz; rw [sgOf_get x i hi]; show x.segs[i].memsz ≤ _; omega
  · intro i hi; have o := (h.seg _ (List.getElem_mem hi)).align; rw [sgOf_get x i hi]; show x.segs[i].align ≤ _; omega
  · intro i hi
    have e1 : (x.file.drop x.shoff).take (x.all.length * sSize x.wide) = rowsFrom x.secRow 0 x.all := by
      rw [x.drop_shoff, List.take_of_length_le (by rw [x.secRows_length]; exact Nat.le_refl _)]
    obtain ⟨r, e2⟩ := rowsFrom_drop x.secRow (sSize x.wide) x.all (fun j a _ => secB_length ..) i hi
    have o := h.fit _ (List.getElem_mem hi)
    have hp := x.secPlace_le i
    rw [scOf_get x i hi]
    show SecOk (((x.file.drop x.shoff).take (x.all.length * sSize x.wide)).drop (i * sSize x.wide)) _ _ _ _ _ _ _ _ _ _ _ _
    rw [e1, e2]
    exact sec_ok x.wide x.big _ _ _ _ _ _ _ _ _ _ r (h.namePlace_lt i hi) o.ty o.flags o.addr (by omega) o.size o.link o.info o.align o.ent
  · intro i hi
    have o := h.fit _ (List.getElem_mem hi)
    have hp := x.secPlace_le i
    have a1 := o.addr
    have a2 := o.align
    have a3 := o.ent
    rw [scOf_get x i hi]
    exact ⟨h.namePlace_lt i hi, o.ty, o.flags, by show x.secPlace i < _; omega, o.size62, by show x.all[i].addr ≤ _; omega, by show x.all[i].align ≤ _; omega, by show x.all[i].ent ≤ _; omega, o.zip⟩
  · rw [hlast]
  · rw [hlast]; show 0 < (namesB x.names).length; simp [namesB]
  · rw [hlast]; show (namesB x.names).length < _; omega
  · rw [hlast]
    show x.secPlace (x.all.length - 1) + (namesB x.names).length ≤ _
    have := x.secPlace_le (x.all.length - 1)
    omega
  · intro i hi
    rw [hlast, scOf_get x i hi]
    show strAt ((x.file.drop (x.secPlace (x.all.length - 1))).take (namesB x.names).length) (x.namePlace i) = _
    rw [en, List.take_left]
    have hin : i < x.names.length := by rw [h.names_length, ← hal]; exact hi
    have hnb : nbOf x i = x.names[i] := by simp [nbOf, hin]
    rw [hnb]
    unfold Img.namePlace
    split
    · rename_i hi0
      subst hi0
      rfl
    · exact names_read x.names i hin (h.nul _ (List.getElem_mem hin))
end
end Go.Proofs.YtdgehpocmfjbiaaDoor
