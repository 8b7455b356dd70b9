/- elf.NewFile: the loop over the sections. · elf.NewFile: the table of the sections' names is read. · elf.NewFile: the sections are named. · elf.NewFile -/
import Derived.Test.YtdgehpocmfjbiaaDoorTe
import Derived.Test.YtdgehpocmfjbiaaDoorTa
set_option linter.unusedVariables false
set_option linter.unusedSimpArgs false
set_option maxRecDepth 100000
set_option maxHeartbeats 2000000
namespace Go.Proofs.YtdgehpocmfjbiaaDoor
open Go.RowKit

/-- the first k sections, in memory, with the names nf -/
def iy (b o n c : Nat) (z : Nat) (w : World) (sc : Nat → iM) (nf : Nat → ByteArray) (k : Nat) (cur : Array Value) : Prop :=
 ∀ j, j < k → ∃ pb sb, cur[j]? = some (aC pb) ∧ z ≤ pb ∧ z ≤ sb ∧ w.heap[pb]? = some (.cells #[.string (nf j), aX (sc j).ty, aX (sc j).flags, aJ (sc j).addr, aJ (sc j).off, aJ (sc j).bH, aX (sc j).link, aX (sc j).info, aJ (sc j).align, aJ (sc j).ent, aJ (sc j).bH, .iface 144 (aC sb), aC sb, .int .i64 0, .int .i64 0] 153 (0, 0)) ∧ w.heap[sb]? = some (.cells #[.iface 178 (.slice (some ⟨b, o, none⟩) n c), aA (sc j).off, aA (sc j).off, .int .i64 ((((sc j).bH : Nat) : Int) + (((sc j).off : Nat) : Int)), aA (sc j).bH] 246 (0, 0))
theorem iy.keep {b o n c z : Nat} {w w' : World} {sc : Nat → iM} {nf : Nat → ByteArray} {k : Nat} {cur : Array Value} {G : List Nat} (h : iy b o n c z w sc nf k cur) (hk : Keep G w w') (hG : ∀ g ∈ G, ∃ cs t f, w.heap[g]? = some (.cells cs t f) ∧ t ≠ 153 ∧ t ≠ 246) : iy b o n c z w' sc nf k cur := fun j hj => by
 obtain ⟨pb, sb, h1, h2, h3, h4, h5⟩ := h j hj
 refine ⟨pb, sb, h1, h2, h3, (hk.block pb (jL h4) fun hm => ?_).trans h4, (hk.block sb (jL h5) fun hm => ?_).trans h5⟩
 ·obtain ⟨cs, t, f, e, n1, n2⟩ := hG pb hm
  exact cu h4 e (Ne.symm n1) rfl
 ·obtain ⟨cs, t, f, e, n1, n2⟩ := hG sb hm
  exact cu h5 e (Ne.symm n2) rfl
theorem yL {cur cur' : Array Value} {k j : Nat} {v : Value} (hs : k < cur.size) (ht : cur'.toList.take (k + 1) = cur.toList.take k ++ [v]) (hj : j < k + 1) : cur'[j]? = if j < k then cur[j]? else some v := by
 have hget : cur'[j]? = (cur'.toList.take (k + 1))[j]? := by rw [List.getElem?_take, if_pos hj]; simp
 have hlen : (cur.toList.take k).length = k := by simp; omega
 rw [ht] at hget
 split
 ·rename_i hlt
  rw [hget, List.getElem?_append_left (by omega), List.getElem?_take, if_pos hlt]
  simp
 ·rw [hget, List.getElem?_append_right (by omega), hlen, show j - k = 0 by omega]
  rfl
theorem iy.next {b o n c z : Nat} {w : World} {sc : Nat → iM} {nf : Nat → ByteArray} {k : Nat} {cur cur' : Array Value} {pb sb : Nat} (h : iy b o n c z w sc nf k cur) (hs : k < cur.size) (ht : cur'.toList.take (k + 1) = cur.toList.take k ++ [aC pb]) (h2 : z ≤ pb) (h3 : z ≤ sb)
  (h4 : w.heap[pb]? = some (.cells #[.string (nf k), aX (sc k).ty, aX (sc k).flags, aJ (sc k).addr, aJ (sc k).off, aJ (sc k).bH, aX (sc k).link, aX (sc k).info, aJ (sc k).align, aJ (sc k).ent, aJ (sc k).bH, .iface 144 (aC sb), aC sb, .int .i64 0, .int .i64 0] 153 (0, 0))) (h5 : w.heap[sb]? = some (.cells #[.iface 178 (.slice (some ⟨b, o, none⟩) n c), aA (sc k).off, aA (sc k).off, .int .i64 ((((sc k).bH : Nat) : Int) + (((sc k).off : Nat) : Int)), aA (sc k).bH] 246 (0, 0))) : iy b o n c z w sc nf (k + 1) cur' := fun j hj => by
 have hget := yL hs ht hj
 rcases Nat.lt_or_ge j k with hlt | hge
 ·obtain ⟨pb', sb', g1, g2⟩ := h j hlt
  exact ⟨pb', sb', by rw [hget, if_pos hlt, g1], g2⟩
 ·obtain rfl : j = k := by omega
  exact ⟨pb, sb, by rw [hget, if_neg (Nat.lt_irrefl _)], h2, h3, h4, h5⟩
def kF (sc : Nat → iM) (k : Nat) (nms : Array Value) : Prop := ∀ j, j < k → nms[j]? = some (aX (sc j).name)
theorem kF.next {sc : Nat → iM} {k : Nat} {nms fK : Array Value} (h : kF sc k nms) (hs : k < nms.size) (ht : fK.toList.take (k + 1) = nms.toList.take k ++ [aX (sc k).name]) : kF sc (k + 1) fK := fun j hj => by
 have hget := yL hs ht hj
 rcases Nat.lt_or_ge j k with hlt | hge
 ·rw [hget, if_pos hlt, h j hlt]
 ·obtain rfl : j = k := by omega
  rw [hget, if_neg (Nat.lt_irrefl _)]
/-- the pointers differ -/
def mJ (k : Nat) (cur : Array Value) : Prop := ∀ i j, i < j → j < k → cur[i]? ≠ cur[j]?
theorem mJ.next {k : Nat} {cur cur' : Array Value} {v : Value} (h : mJ k cur) (hs : k < cur.size) (ht : cur'.toList.take (k + 1) = cur.toList.take k ++ [v]) (hne : ∀ i, i < k → cur[i]? ≠ some v) : mJ (k + 1) cur' := fun i j hij hj => by
 have h1 := yL hs ht (j := i) (by omega)
 have h2 := yL hs ht hj
 rw [h1, h2, if_pos (by omega : i < k)]
 split
 ·rename_i hlt; exact h i j hij hlt
 ·exact hne i (by omega)
structure rD (v : iM) : Prop where
 v1 : v.name < 4294967296
 v2 : v.ty < 4294967296
 v3 : v.flags < 4294967296
 v4 : v.off < 4611686018427387904
 v5 : v.bH < 4611686018427387904
 v6 : v.addr ≤ 18446744073709551615
 v7 : v.align ≤ 18446744073709551615
 v8 : v.ent ≤ 18446744073709551615
 v9 : (oC (v.flags : Int) 2048 == 0) = true

theorem MW (l : List UInt8) (b o n c : Nat) (hl : n = l.length) (hnc : n ≤ c) (big : Bool) (abi aF aS aG aB ak aj au ah : Nat) (dat : Int) (b1 : aS < 65536) (b2 : aG < 65536) (b3 : aB ≤ 18446744073709551615) (b4 : ak < 4611686018427387904) (b5 : au < 4611686018427387904) (b6 : aj < 200) (b7 : ah < 200) (X : List UInt8) (nI : X.length = (ah * 40)) (sc : Nat → iM) (hv : ∀ i, i < ah → uo (X.drop (i * 40)) false big (sc i).name (sc i).ty (sc i).flags (sc i).addr (sc i).off (sc i).bH (sc i).link (sc i).info (sc i).align (sc i).ent) (bd : ∀ i, i < ah → rD (sc i)) (G : List Nat) (w0 : World) (s fb pg aW aT sd : Nat) {KK : Act → World → Prop} {QQ : Exit → Act → World → Prop} {KR : Act → World → Prop}
  (K : ∀ a w cur nms, cur.size = ah → nms.size = ah → iy b o n c w0.heap.size w sc (fun _ => ⟨#[]⟩) ah cur → kF sc ah nms → mJ ah cur → Fr 1287 a [(0, .iface 178 (.slice (some ⟨b, o, none⟩) n c)), (4, aC s), (8, aC fb), (9, (aP big)), (10, aA ak), (11, .int .i64 32), (12, aA aj), (13, aA au), (14, .int .i64 40), (15, aA ah), (16, aA (ah - 1)), (26, .int .i64 40), (41, aH aT ah ah), (42, aH sd (ah * 40) (ah * 40))] → Mm G w0 w [(sd, .cells (X.map Bv).toArray 5 (0, 0)), (aT, .cells nms 36 (0, 0)), (aW, .cells cur 133 (0, 0)), (fb, .cells #[.int .u8 1, .int .u8 dat, .int .u8 1, aV abi, aV aF, (aP big), bf aS, bf aG, aJ aB, aH aW ah ah, aH pg aj aj, .slice none 0 0, .slice none 0 0, .slice none 0 0] 131 (0, 0)), (s, .cells #[.iface 178 (.slice (some ⟨b, o, none⟩) n c), .int .i64 0, .int .i64 0, .int .i64 9223372036854775807, .int .i64 9223372036854775807] 246 (0, 0))] → KK a w) (a : Act) (w : World) (cur nms : Array Value) (hcs : cur.size = ah) (hns : nms.size = ah) (hP : iy b o n c w0.heap.size w sc (fun _ => ⟨#[]⟩) ah cur) (hN : kF sc ah nms) (hD : mJ ah cur) (HF : Fr 1287 a [(0, .iface 178 (.slice (some ⟨b, o, none⟩) n c)), (4, aC s), (8, aC fb), (9, (aP big)), (10, aA ak), (11, .int .i64 32), (12, aA aj), (13, aA au), (14, .int .i64 40), (15, aA ah), (16, aA (ah - 1)), (26, .int .i64 40), (41, aH aT ah ah), (42, aH sd (ah * 40) (ah * 40)), (43, aA ah)]) (HM : Mm G w0 w [(sd, .cells (X.map Bv).toArray 5 (0, 0)), (aT, .cells nms 36 (0, 0)), (aW, .cells cur 133 (0, 0)), (fb, .cells #[.int .u8 1, .int .u8 dat, .int .u8 1, aV abi, aV aF, (aP big), bf aS, bf aG, aJ aB, aH aW ah ah, aH pg aj aj, .slice none 0 0, .slice none 0 0, .slice none 0 0] 131 (0, 0)), (s, .cells #[.iface 178 (.slice (some ⟨b, o, none⟩) n c), .int .i64 0, .int .i64 0, .int .i64 9223372036854775807, .int .i64 9223372036854775807] 246 (0, 0))]) :
  (oG (spine Tryd.f78 44)).wp Tryd.prog (Exit.then KR (Exit.inBlock 8 (Exit.then KK QQ))) a w := by
 refine wp_seq ?_
 refine wp_seq (wp_region_lit ?_)
 refine wp_pure HF HM rfl 3 [] [(0, .iface 178 (.slice (some ⟨b, o, none⟩) n c)), (4, aC s), (8, aC fb), (9, (aP big)), (10, aA ak), (11, .int .i64 32), (12, aA aj), (13, aA au), (14, .int .i64 40), (15, aA ah), (16, aA (ah - 1)), (26, .int .i64 40), (41, aH aT ah ah), (42, aH sd (ah * 40) (ah * 40)), (43, aA ah), (859, .bool (decide (((ah : Nat) : Int) < ((ah : Nat) : Int))))] (by kernel_rfl) ?_
 clear HF; intro a HF
 rw [show decide (((ah : Nat) : Int) < ((ah : Nat) : Int)) = false from dI (by omega)] at HF
 refine aI ?_
 refine aZ HF rfl ?_
 replace HF := HF.sub [(0, .iface 178 (.slice (some ⟨b, o, none⟩) n c)), (4, aC s), (8, aC fb), (9, (aP big)), (10, aA ak), (11, .int .i64 32), (12, aA aj), (13, aA au), (14, .int .i64 40), (15, aA ah), (16, aA (ah - 1)), (26, .int .i64 40), (41, aH aT ah ah), (42, aH sd (ah * 40) (ah * 40)), (43, aA ah)] (by kernel_rfl)
 refine wp_exit (iW (iW (kL (aQ ?_))))
 replace HF := HF.sub [(0, .iface 178 (.slice (some ⟨b, o, none⟩) n c)), (4, aC s), (8, aC fb), (9, (aP big)), (10, aA ak), (11, .int .i64 32), (12, aA aj), (13, aA au), (14, .int .i64 40), (15, aA ah), (16, aA (ah - 1)), (26, .int .i64 40), (41, aH aT ah ah), (42, aH sd (ah * 40) (ah * 40))] (by kernel_rfl)
 exact K a _ cur nms hcs hns hP hN hD HF HM
abbrev uY := fun (s : Nat) (b : Nat) (o : Nat) (n : Nat) (c : Nat) => ((s, .cells #[.iface 178 (.slice (some ⟨b, o, none⟩) n c), ay 0, ay 0, ay 9223372036854775807, ay 9223372036854775807] 246 (0, 0)) : Nat × Obj)
abbrev yV := fun (fb : Nat) (dat : Int) (abi : Nat) (aF : Nat) (big : Bool) (aS : Nat) (aG : Nat) (aB : Nat) (aW : Nat) (i : Nat) (ah : Nat) (pg : Nat) (aj : Nat) => ((fb, .cells #[aK 1, .int .u8 dat, aK 1, aV abi, aV aF, (aP big), bf aS, bf aG, aJ aB, aH aW i ah, aH pg aj aj, aN, aN, aN] 131 (0, 0)) : Nat × Obj)
theorem Io (l : List UInt8) (b o n c : Nat) (hl : n = l.length) (hnc : n ≤ c) (big : Bool) (abi aF aS aG aB ak aj au ah : Nat) (dat : Int) (b1 : aS < 65536) (b2 : aG < 65536) (b3 : aB ≤ 18446744073709551615) (b4 : ak < 4611686018427387904) (b5 : au < 4611686018427387904) (b6 : aj < 200) (b7 : ah < 200) (X : List UInt8) (nI : X.length = (ah * 40)) (sc : Nat → iM) (hv : ∀ i, i < ah → uo (X.drop (i * 40)) false big (sc i).name (sc i).ty (sc i).flags (sc i).addr (sc i).off (sc i).bH (sc i).link (sc i).info (sc i).align (sc i).ent) (bd : ∀ i, i < ah → rD (sc i)) (G : List Nat) (w0 : World) (s fb pg aW aT sd : Nat) {KK : Act → World → Prop} {QQ : Exit → Act → World → Prop}
  (K : ∀ a w cur nms, cur.size = ah → nms.size = ah → iy b o n c w0.heap.size w sc (fun _ => ⟨#[]⟩) ah cur → kF sc ah nms → mJ ah cur → Fr 1287 a [(0, .iface 178 (.slice (some ⟨b, o, none⟩) n c)), (4, aC s), (8, aC fb), (9, (aP big)), (10, aA ak), (11, ay 32), (12, aA aj), (13, aA au), (14, ay 40), (15, aA ah), (16, aA (ah - 1)), (26, ay 40), (41, aH aT ah ah), (42, aH sd (ah * 40) (ah * 40))] → Mm G w0 w [(sd, .cells (X.map Bv).toArray 5 (0, 0)), (aT, .cells nms 36 (0, 0)), (aW, .cells cur 133 (0, 0)), (fb, .cells #[aK 1, .int .u8 dat, aK 1, aV abi, aV aF, (aP big), bf aS, bf aG, aJ aB, aH aW ah ah, aH pg aj aj, aN, aN, aN] 131 (0, 0)), uY s b o n c] → KK a w) :
  ∀ (r i : Nat), i + r = ah → ∀ (a : Act) (w : World) (cur nms : Array Value), cur.size = ah → nms.size = ah → iy b o n c w0.heap.size w sc (fun _ => ⟨#[]⟩) i cur → kF sc i nms → mJ i cur → Fr 1287 a [(0, .iface 178 (.slice (some ⟨b, o, none⟩) n c)), (4, aC s), (8, aC fb), (9, (aP big)), (10, aA ak), (11, ay 32), (12, aA aj), (13, aA au), (14, ay 40), (15, aA ah), (16, aA (ah - 1)), (26, ay 40), (41, aH aT i ah), (42, aH sd (ah * 40) (ah * 40)), (43, aA i)] → Mm G w0 w [(sd, .cells (X.map Bv).toArray 5 (0, 0)), (aT, .cells nms 36 (0, 0)), (aW, .cells cur 133 (0, 0)), yV fb dat abi aF big aS aG aB aW i ah pg aj, uY s b o n c] →
  Code.rounds Tryd.prog (oG (spine Tryd.f78 44)) (Exit.inBlock 8 (Exit.then KK QQ)) (r + 1) a w
 | 0, i, hr, a, w, cur, nms, hcs, hns, hP, hN, hD, HF, HM => by
  obtain rfl : i = ah := by omega
  rw [rounds_succ]
  exact MW l b o n c hl hnc big abi aF aS aG aB ak aj au i dat b1 b2 b3 b4 b5 b6 b7 X nI sc hv bd G w0 s fb pg aW aT sd K a w cur nms hcs hns hP hN hD HF HM
 | r + 1, i, hr, a, w, cur, nms, hcs, hns, hP, hN, hD, HF, HM => by
  have hi : i < ah := by omega
  rw [rounds_succ]
  have B := bd i hi
  have G_ : Mm [sd, aT, aW, fb, s] w w [(sd, .cells (X.map Bv).toArray 5 (0, 0)), (aT, .cells nms 36 (0, 0)), (aW, .cells cur 133 (0, 0)), yV fb dat abi aF big aS aG aB aW i ah pg aj, uY s b o n c] := HM.restart
  have HM1 : Mm [fb, aW, aT, sd] w w [yV fb dat abi aF big aS aG aB aW i ah pg aj, (aW, .cells cur 133 (0, 0)), (aT, .cells nms 36 (0, 0)), (sd, .cells (X.map Bv).toArray 5 (0, 0))] := by
   refine ⟨Keep.refl _ _, fun p hp => ?_, ?_⟩
   ·simp only [List.mem_cons, List.not_mem_nil, or_false] at hp
    rcases hp with rfl | rfl | rfl | rfl
    ·exact ⟨HM.get (i := 3) rfl, .inr (by simp)⟩
    ·exact ⟨HM.get (i := 2) rfl, .inr (by simp)⟩
    ·exact ⟨HM.get (i := 1) rfl, .inr (by simp)⟩
    ·exact ⟨HM.get (i := 0) rfl, .inr (by simp)⟩
   ·have h1 := HM.ne (i := 3) (j := 2) rfl rfl (by decide)
    have h2 := HM.ne (i := 3) (j := 1) rfl rfl (by decide)
    have h3 := HM.ne (i := 3) (j := 0) rfl rfl (by decide)
    have h4 := HM.ne (i := 2) (j := 1) rfl rfl (by decide)
    have h5 := HM.ne (i := 2) (j := 0) rfl rfl (by decide)
    have h6 := HM.ne (i := 1) (j := 0) rfl rfl (by decide)
    simp [h1, h2, h3, h4, h5, h6]
  refine NI l b o n c hl hnc big abi aF aS aG aB ak aj au ah dat b1 b2 b3 b4 b5 b6 b7 X nI i hi (sc i) (hv i hi) B.v1 B.v2 B.v3 B.v4 B.v5 B.v6 B.v7 B.v8 B.v9 a w s fb pg aW aT sd cur nms hcs hns HM1 HF ?_
  intro a' w' pb sb cur' fK hcs' Df htk htn BK iF
  have hk := iF.keep
  have hnew : ∀ p cs t, w'.heap[p]? = some (.cells cs t (0, 0)) → t = 153 ∨ t = 246 → (w.heap.size ≤ p ∨ p ∈ [fb, aW, aT, sd]) → w.heap.size ≤ p := by
   intro p cs t hp ht ho
   refine ho.elim id fun hm => ?_
   simp only [List.mem_cons, List.not_mem_nil, or_false] at hm
   exfalso
   rcases ht with rfl | rfl <;> rcases hm with rfl | rfl | rfl | rfl
   ·exact cu hp (iF.get (i := 2) rfl) (by decide) rfl
   ·exact cu hp (iF.get (i := 3) rfl) (by decide) rfl
   ·exact cu hp (iF.get (i := 4) rfl) (by decide) rfl
   ·exact cu hp (iF.get (i := 5) rfl) (by decide) rfl
   ·exact cu hp (iF.get (i := 2) rfl) (by decide) rfl
   ·exact cu hp (iF.get (i := 3) rfl) (by decide) rfl
   ·exact cu hp (iF.get (i := 4) rfl) (by decide) rfl
   ·exact cu hp (iF.get (i := 5) rfl) (by decide) rfl
  have hpb := hnew pb _ _ (iF.get (i := 1) rfl) (.inl rfl) (iF.own (i := 1) rfl)
  have hsb := hnew sb _ _ (iF.get (i := 0) rfl) (.inr rfl) (iF.own (i := 0) rfl)
  have hsz := HM.size
  have hP2 : iy b o n c w0.heap.size w' sc (fun _ => ⟨#[]⟩) i cur := hP.keep hk (by
   intro g hg
   simp only [List.mem_cons, List.not_mem_nil, or_false] at hg
   rcases hg with rfl | rfl | rfl | rfl
   ·exact ⟨_, _, _, HM.get (i := 3) rfl, by decide, by decide⟩
   ·exact ⟨_, _, _, HM.get (i := 2) rfl, by decide, by decide⟩
   ·exact ⟨_, _, _, HM.get (i := 1) rfl, by decide, by decide⟩
   ·exact ⟨_, _, _, HM.get (i := 0) rfl, by decide, by decide⟩)
  have hP3 := hP2.next (nf := (fun _ => ⟨#[]⟩)) (by omega) htk (by omega) (by omega) (iF.get (i := 1) rfl) (iF.get (i := 0) rfl)
  have bU : Mm G w0 w' [(sd, .cells (X.map Bv).toArray 5 (0, 0)), (aT, .cells fK 36 (0, 0)), (aW, .cells cur' 133 (0, 0)), (fb, .cells #[aK 1, .int .u8 dat, aK 1, aV abi, aV aF, (aP big), bf aS, bf aG, aJ aB, aH aW (i + 1) ah, aH pg aj aj, aN, aN, aN] 131 (0, 0)), uY s b o n c] := HM.after hk (by
   intro g hg
   simp only [List.mem_cons, List.not_mem_nil, or_false] at hg
   rcases hg with rfl | rfl | rfl | rfl
   ·exact HM.own (i := 3) rfl
   ·exact HM.own (i := 2) rfl
   ·exact HM.own (i := 1) rfl
   ·exact HM.own (i := 0) rfl) rfl (by
   intro p hp
   simp only [List.mem_cons, List.not_mem_nil, or_false] at hp
   rcases hp with rfl | rfl | rfl | rfl | rfl
   ·exact iF.get (i := 5) rfl
   ·exact iF.get (i := 4) rfl
   ·exact iF.get (i := 3) rfl
   ·exact iF.get (i := 2) rfl
   ·refine (hk.block s (HM.lt (i := 4) rfl) ?_).trans (HM.get (i := 4) rfl)
    simp only [List.mem_cons, List.not_mem_nil, or_false, not_or]
    exact ⟨HM.ne (i := 4) (j := 3) rfl rfl (by decide), HM.ne (i := 4) (j := 2) rfl rfl (by decide), HM.ne (i := 4) (j := 1) rfl rfl (by decide), HM.ne (i := 4) (j := 0) rfl rfl (by decide)⟩)
  exact Io l b o n c hl hnc big abi aF aS aG aB ak aj au ah dat b1 b2 b3 b4 b5 b6 b7 X nI sc hv bd G w0 s fb pg aW aT sd K r (i + 1) (by omega) a' w' cur' fK hcs' Df hP3 (hN.next (by omega) htn) (hD.next (by omega) htk fun j hj e => by
   obtain ⟨pbj, _, g1, _, _, g4, _⟩ := hP j hj
   rw [g1] at e
   injection e with e
   injection e with e
   injection e with e
   injection e with e
   have := jL g4
   omega) BK bU

theorem JZ (l : List UInt8) (b o n c : Nat) (hl : n = l.length) (hnc : n ≤ c) (big : Bool) (abi aF aS aG aB ak aj au ah : Nat) (dat : Int) (b1 : aS < 65536) (b2 : aG < 65536) (b3 : aB ≤ 18446744073709551615) (b4 : ak < 4611686018427387904) (b5 : au < 4611686018427387904) (b6 : aj < 200) (b7 : ah < 200) (X : List UInt8) (nI : X.length = (ah * 40)) (sc : Nat → iM) (hv : ∀ i, i < ah → uo (X.drop (i * 40)) false big (sc i).name (sc i).ty (sc i).flags (sc i).addr (sc i).off (sc i).bH (sc i).link (sc i).info (sc i).align (sc i).ent) (bd : ∀ i, i < ah → rD (sc i)) (G : List Nat) (w0 : World) (s fb pg aW aT sd : Nat) {Q : Exit → Act → World → Prop} (a : Act) (w : World) (cur nms : Array Value) (hcs : cur.size = ah) (hns : nms.size = ah) (HF : Fr 1287 a [(0, .iface 178 (.slice (some ⟨b, o, none⟩) n c)), (4, aC s), (8, aC fb), (9, (aP big)), (10, aA ak), (11, .int .i64 32), (12, aA aj), (13, aA au), (14, .int .i64 40), (15, aA ah), (16, aA (ah - 1)), (26, .int .i64 40), (41, aH aT 0 ah), (42, aH sd (ah * 40) (ah * 40))]) (HM : Mm G w0 w [(sd, .cells (X.map Bv).toArray 5 (0, 0)), (aT, .cells nms 36 (0, 0)), (aW, .cells cur 133 (0, 0)), (fb, .cells #[.int .u8 1, .int .u8 dat, .int .u8 1, aV abi, aV aF, (aP big), bf aS, bf aG, aJ aB, aH aW 0 ah, aH pg aj aj, .slice none 0 0, .slice none 0 0, .slice none 0 0] 131 (0, 0)), (s, .cells #[.iface 178 (.slice (some ⟨b, o, none⟩) n c), .int .i64 0, .int .i64 0, .int .i64 9223372036854775807, .int .i64 9223372036854775807] 246 (0, 0))])
  (K : ∀ a w cur nms, cur.size = ah → nms.size = ah → iy b o n c w0.heap.size w sc (fun _ => ⟨#[]⟩) ah cur → kF sc ah nms → mJ ah cur → Fr 1287 a [(0, .iface 178 (.slice (some ⟨b, o, none⟩) n c)), (4, aC s), (8, aC fb), (9, (aP big)), (10, aA ak), (11, .int .i64 32), (12, aA aj), (13, aA au), (14, .int .i64 40), (15, aA ah), (16, aA (ah - 1)), (26, .int .i64 40), (41, aH aT ah ah), (42, aH sd (ah * 40) (ah * 40))] → Mm G w0 w [(sd, .cells (X.map Bv).toArray 5 (0, 0)), (aT, .cells nms 36 (0, 0)), (aW, .cells cur 133 (0, 0)), (fb, .cells #[.int .u8 1, .int .u8 dat, .int .u8 1, aV abi, aV aF, (aP big), bf aS, bf aG, aJ aB, aH aW ah ah, aH pg aj aj, .slice none 0 0, .slice none 0 0, .slice none 0 0] 131 (0, 0)), (s, .cells #[.iface 178 (.slice (some ⟨b, o, none⟩) n c), .int .i64 0, .int .i64 0, .int .i64 9223372036854775807, .int .i64 9223372036854775807] 246 (0, 0))] → (spine Tryd.f78 45).wp Tryd.prog Q a w) : (spine Tryd.f78 44).wp Tryd.prog Q a w := by
 refine wp_seq ?_
 refine bC HF HM rfl [] [(0, .iface 178 (.slice (some ⟨b, o, none⟩) n c)), (4, aC s), (8, aC fb), (9, (aP big)), (10, aA ak), (11, .int .i64 32), (12, aA aj), (13, aA au), (14, .int .i64 40), (15, aA ah), (16, aA (ah - 1)), (26, .int .i64 40), (41, aH aT 0 ah), (42, aH sd (ah * 40) (ah * 40)), (43, aA 0)] [(sd, .cells (X.map Bv).toArray 5 (0, 0)), (aT, .cells nms 36 (0, 0)), (aW, .cells cur 133 (0, 0)), (fb, .cells #[.int .u8 1, .int .u8 dat, .int .u8 1, aV abi, aV aF, (aP big), bf aS, bf aG, aJ aB, aH aW 0 ah, aH pg aj aj, .slice none 0 0, .slice none 0 0, .slice none 0 0] 131 (0, 0)), (s, .cells #[.iface 178 (.slice (some ⟨b, o, none⟩) n c), .int .i64 0, .int .i64 0, .int .i64 9223372036854775807, .int .i64 9223372036854775807] 246 (0, 0))] (by kernel_rfl) ?_
 clear HF HM; intro a w HF HM
 refine wp_block (wp_loop_rounds (ah + 1) ?_)
 exact Io l b o n c hl hnc big abi aF aS aG aB ak aj au ah dat b1 b2 b3 b4 b5 b6 b7 X nI sc hv bd G w0 s fb pg aW aT sd K ah 0 (by omega) a w cur nms hcs hns (fun j hj => absurd hj (Nat.not_lt_zero j)) (fun j hj => absurd hj (Nat.not_lt_zero j)) (fun i j _ hj => absurd hj (Nat.not_lt_zero j)) HF HM

theorem MV (l : List UInt8) (b o n c : Nat) (hl : n = l.length) (hnc : n ≤ c) (big : Bool) (abi aF aS aG aB ak aj au ah : Nat) (dat : Int) (b1 : aS < 65536) (b2 : aG < 65536) (b3 : aB ≤ 18446744073709551615) (b4 : ak < 4611686018427387904) (b5 : au < 4611686018427387904) (b6 : aj < 200) (b7 : ah < 200) (X : List UInt8) (nI : X.length = (ah * 64)) (sc : Nat → iM) (hv : ∀ i, i < ah → uo (X.drop (i * 64)) true big (sc i).name (sc i).ty (sc i).flags (sc i).addr (sc i).off (sc i).bH (sc i).link (sc i).info (sc i).align (sc i).ent) (bd : ∀ i, i < ah → rD (sc i)) (G : List Nat) (w0 : World) (s fb pg aW aT sd : Nat) {KK : Act → World → Prop} {QQ : Exit → Act → World → Prop} {KR : Act → World → Prop}
  (K : ∀ a w cur nms, cur.size = ah → nms.size = ah → iy b o n c w0.heap.size w sc (fun _ => ⟨#[]⟩) ah cur → kF sc ah nms → mJ ah cur → Fr 1287 a [(0, .iface 178 (.slice (some ⟨b, o, none⟩) n c)), (4, aC s), (8, aC fb), (9, (aP big)), (10, aA ak), (11, .int .i64 56), (12, aA aj), (13, aA au), (14, .int .i64 64), (15, aA ah), (16, aA (ah - 1)), (26, .int .i64 64), (41, aH aT ah ah), (42, aH sd (ah * 64) (ah * 64))] → Mm G w0 w [(sd, .cells (X.map Bv).toArray 5 (0, 0)), (aT, .cells nms 36 (0, 0)), (aW, .cells cur 133 (0, 0)), (fb, .cells #[.int .u8 2, .int .u8 dat, .int .u8 1, aV abi, aV aF, (aP big), bf aS, bf aG, aJ aB, aH aW ah ah, aH pg aj aj, .slice none 0 0, .slice none 0 0, .slice none 0 0] 131 (0, 0)), (s, .cells #[.iface 178 (.slice (some ⟨b, o, none⟩) n c), .int .i64 0, .int .i64 0, .int .i64 9223372036854775807, .int .i64 9223372036854775807] 246 (0, 0))] → KK a w) (a : Act) (w : World) (cur nms : Array Value) (hcs : cur.size = ah) (hns : nms.size = ah) (hP : iy b o n c w0.heap.size w sc (fun _ => ⟨#[]⟩) ah cur) (hN : kF sc ah nms) (hD : mJ ah cur) (HF : Fr 1287 a [(0, .iface 178 (.slice (some ⟨b, o, none⟩) n c)), (4, aC s), (8, aC fb), (9, (aP big)), (10, aA ak), (11, .int .i64 56), (12, aA aj), (13, aA au), (14, .int .i64 64), (15, aA ah), (16, aA (ah - 1)), (26, .int .i64 64), (41, aH aT ah ah), (42, aH sd (ah * 64) (ah * 64)), (43, aA ah)]) (HM : Mm G w0 w [(sd, .cells (X.map Bv).toArray 5 (0, 0)), (aT, .cells nms 36 (0, 0)), (aW, .cells cur 133 (0, 0)), (fb, .cells #[.int .u8 2, .int .u8 dat, .int .u8 1, aV abi, aV aF, (aP big), bf aS, bf aG, aJ aB, aH aW ah ah, aH pg aj aj, .slice none 0 0, .slice none 0 0, .slice none 0 0] 131 (0, 0)), (s, .cells #[.iface 178 (.slice (some ⟨b, o, none⟩) n c), .int .i64 0, .int .i64 0, .int .i64 9223372036854775807, .int .i64 9223372036854775807] 246 (0, 0))]) :
  (oG (spine Tryd.f78 44)).wp Tryd.prog (Exit.then KR (Exit.inBlock 8 (Exit.then KK QQ))) a w := by
 refine wp_seq ?_
 refine wp_seq (wp_region_lit ?_)
 refine wp_pure HF HM rfl 3 [] [(0, .iface 178 (.slice (some ⟨b, o, none⟩) n c)), (4, aC s), (8, aC fb), (9, (aP big)), (10, aA ak), (11, .int .i64 56), (12, aA aj), (13, aA au), (14, .int .i64 64), (15, aA ah), (16, aA (ah - 1)), (26, .int .i64 64), (41, aH aT ah ah), (42, aH sd (ah * 64) (ah * 64)), (43, aA ah), (859, .bool (decide (((ah : Nat) : Int) < ((ah : Nat) : Int))))] (by kernel_rfl) ?_
 clear HF; intro a HF
 rw [show decide (((ah : Nat) : Int) < ((ah : Nat) : Int)) = false from dI (by omega)] at HF
 refine aI ?_
 refine aZ HF rfl ?_
 replace HF := HF.sub [(0, .iface 178 (.slice (some ⟨b, o, none⟩) n c)), (4, aC s), (8, aC fb), (9, (aP big)), (10, aA ak), (11, .int .i64 56), (12, aA aj), (13, aA au), (14, .int .i64 64), (15, aA ah), (16, aA (ah - 1)), (26, .int .i64 64), (41, aH aT ah ah), (42, aH sd (ah * 64) (ah * 64)), (43, aA ah)] (by kernel_rfl)
 refine wp_exit (iW (iW (kL (aQ ?_))))
 replace HF := HF.sub [(0, .iface 178 (.slice (some ⟨b, o, none⟩) n c)), (4, aC s), (8, aC fb), (9, (aP big)), (10, aA ak), (11, .int .i64 56), (12, aA aj), (13, aA au), (14, .int .i64 64), (15, aA ah), (16, aA (ah - 1)), (26, .int .i64 64), (41, aH aT ah ah), (42, aH sd (ah * 64) (ah * 64))] (by kernel_rfl)
 exact K a _ cur nms hcs hns hP hN hD HF HM
abbrev uX := fun (s : Nat) (b : Nat) (o : Nat) (n : Nat) (c : Nat) => ((s, .cells #[.iface 178 (.slice (some ⟨b, o, none⟩) n c), ay 0, ay 0, ay 9223372036854775807, ay 9223372036854775807] 246 (0, 0)) : Nat × Obj)
abbrev yU := fun (fb : Nat) (dat : Int) (abi : Nat) (aF : Nat) (big : Bool) (aS : Nat) (aG : Nat) (aB : Nat) (aW : Nat) (i : Nat) (ah : Nat) (pg : Nat) (aj : Nat) => ((fb, .cells #[aK 2, .int .u8 dat, aK 1, aV abi, aV aF, (aP big), bf aS, bf aG, aJ aB, aH aW i ah, aH pg aj aj, aN, aN, aN] 131 (0, 0)) : Nat × Obj)
theorem Il (l : List UInt8) (b o n c : Nat) (hl : n = l.length) (hnc : n ≤ c) (big : Bool) (abi aF aS aG aB ak aj au ah : Nat) (dat : Int) (b1 : aS < 65536) (b2 : aG < 65536) (b3 : aB ≤ 18446744073709551615) (b4 : ak < 4611686018427387904) (b5 : au < 4611686018427387904) (b6 : aj < 200) (b7 : ah < 200) (X : List UInt8) (nI : X.length = (ah * 64)) (sc : Nat → iM) (hv : ∀ i, i < ah → uo (X.drop (i * 64)) true big (sc i).name (sc i).ty (sc i).flags (sc i).addr (sc i).off (sc i).bH (sc i).link (sc i).info (sc i).align (sc i).ent) (bd : ∀ i, i < ah → rD (sc i)) (G : List Nat) (w0 : World) (s fb pg aW aT sd : Nat) {KK : Act → World → Prop} {QQ : Exit → Act → World → Prop}
  (K : ∀ a w cur nms, cur.size = ah → nms.size = ah → iy b o n c w0.heap.size w sc (fun _ => ⟨#[]⟩) ah cur → kF sc ah nms → mJ ah cur → Fr 1287 a [(0, .iface 178 (.slice (some ⟨b, o, none⟩) n c)), (4, aC s), (8, aC fb), (9, (aP big)), (10, aA ak), (11, ay 56), (12, aA aj), (13, aA au), (14, ay 64), (15, aA ah), (16, aA (ah - 1)), (26, ay 64), (41, aH aT ah ah), (42, aH sd (ah * 64) (ah * 64))] → Mm G w0 w [(sd, .cells (X.map Bv).toArray 5 (0, 0)), (aT, .cells nms 36 (0, 0)), (aW, .cells cur 133 (0, 0)), (fb, .cells #[aK 2, .int .u8 dat, aK 1, aV abi, aV aF, (aP big), bf aS, bf aG, aJ aB, aH aW ah ah, aH pg aj aj, aN, aN, aN] 131 (0, 0)), uX s b o n c] → KK a w) :
  ∀ (r i : Nat), i + r = ah → ∀ (a : Act) (w : World) (cur nms : Array Value), cur.size = ah → nms.size = ah → iy b o n c w0.heap.size w sc (fun _ => ⟨#[]⟩) i cur → kF sc i nms → mJ i cur → Fr 1287 a [(0, .iface 178 (.slice (some ⟨b, o, none⟩) n c)), (4, aC s), (8, aC fb), (9, (aP big)), (10, aA ak), (11, ay 56), (12, aA aj), (13, aA au), (14, ay 64), (15, aA ah), (16, aA (ah - 1)), (26, ay 64), (41, aH aT i ah), (42, aH sd (ah * 64) (ah * 64)), (43, aA i)] → Mm G w0 w [(sd, .cells (X.map Bv).toArray 5 (0, 0)), (aT, .cells nms 36 (0, 0)), (aW, .cells cur 133 (0, 0)), yU fb dat abi aF big aS aG aB aW i ah pg aj, uX s b o n c] →
  Code.rounds Tryd.prog (oG (spine Tryd.f78 44)) (Exit.inBlock 8 (Exit.then KK QQ)) (r + 1) a w
 | 0, i, hr, a, w, cur, nms, hcs, hns, hP, hN, hD, HF, HM => by
  obtain rfl : i = ah := by omega
  rw [rounds_succ]
  exact MV l b o n c hl hnc big abi aF aS aG aB ak aj au i dat b1 b2 b3 b4 b5 b6 b7 X nI sc hv bd G w0 s fb pg aW aT sd K a w cur nms hcs hns hP hN hD HF HM
 | r + 1, i, hr, a, w, cur, nms, hcs, hns, hP, hN, hD, HF, HM => by
  have hi : i < ah := by omega
  rw [rounds_succ]
  have B := bd i hi
  have G_ : Mm [sd, aT, aW, fb, s] w w [(sd, .cells (X.map Bv).toArray 5 (0, 0)), (aT, .cells nms 36 (0, 0)), (aW, .cells cur 133 (0, 0)), yU fb dat abi aF big aS aG aB aW i ah pg aj, uX s b o n c] := HM.restart
  have HM1 : Mm [fb, aW, aT, sd] w w [yU fb dat abi aF big aS aG aB aW i ah pg aj, (aW, .cells cur 133 (0, 0)), (aT, .cells nms 36 (0, 0)), (sd, .cells (X.map Bv).toArray 5 (0, 0))] := by
   refine ⟨Keep.refl _ _, fun p hp => ?_, ?_⟩
   ·simp only [List.mem_cons, List.not_mem_nil, or_false] at hp
    rcases hp with rfl | rfl | rfl | rfl
    ·exact ⟨HM.get (i := 3) rfl, .inr (by simp)⟩
    ·exact ⟨HM.get (i := 2) rfl, .inr (by simp)⟩
    ·exact ⟨HM.get (i := 1) rfl, .inr (by simp)⟩
    ·exact ⟨HM.get (i := 0) rfl, .inr (by simp)⟩
   ·have h1 := HM.ne (i := 3) (j := 2) rfl rfl (by decide)
    have h2 := HM.ne (i := 3) (j := 1) rfl rfl (by decide)
    have h3 := HM.ne (i := 3) (j := 0) rfl rfl (by decide)
    have h4 := HM.ne (i := 2) (j := 1) rfl rfl (by decide)
    have h5 := HM.ne (i := 2) (j := 0) rfl rfl (by decide)
    have h6 := HM.ne (i := 1) (j := 0) rfl rfl (by decide)
    simp [h1, h2, h3, h4, h5, h6]
  refine NH l b o n c hl hnc big abi aF aS aG aB ak aj au ah dat b1 b2 b3 b4 b5 b6 b7 X nI i hi (sc i) (hv i hi) B.v1 B.v2 B.v3 B.v4 B.v5 B.v6 B.v7 B.v8 B.v9 a w s fb pg aW aT sd cur nms hcs hns HM1 HF ?_
  intro a' w' pb sb cur' fK hcs' Df htk htn BK iF
  have hk := iF.keep
  have hnew : ∀ p cs t, w'.heap[p]? = some (.cells cs t (0, 0)) → t = 153 ∨ t = 246 → (w.heap.size ≤ p ∨ p ∈ [fb, aW, aT, sd]) → w.heap.size ≤ p := by
   intro p cs t hp ht ho
   refine ho.elim id fun hm => ?_
   simp only [List.mem_cons, List.not_mem_nil, or_false] at hm
   exfalso
   rcases ht with rfl | rfl <;> rcases hm with rfl | rfl | rfl | rfl
   ·exact cu hp (iF.get (i := 2) rfl) (by decide) rfl
   ·exact cu hp (iF.get (i := 3) rfl) (by decide) rfl
   ·exact cu hp (iF.get (i := 4) rfl) (by decide) rfl
   ·exact cu hp (iF.get (i := 5) rfl) (by decide) rfl
   ·exact cu hp (iF.get (i := 2) rfl) (by decide) rfl
   ·exact cu hp (iF.get (i := 3) rfl) (by decide) rfl
   ·exact cu hp (iF.get (i := 4) rfl) (by decide) rfl
   ·exact cu hp (iF.get (i := 5) rfl) (by decide) rfl
  have hpb := hnew pb _ _ (iF.get (i := 1) rfl) (.inl rfl) (iF.own (i := 1) rfl)
  have hsb := hnew sb _ _ (iF.get (i := 0) rfl) (.inr rfl) (iF.own (i := 0) rfl)
  have hsz := HM.size
  have hP2 : iy b o n c w0.heap.size w' sc (fun _ => ⟨#[]⟩) i cur := hP.keep hk (by
   intro g hg
   simp only [List.mem_cons, List.not_mem_nil, or_false] at hg
   rcases hg with rfl | rfl | rfl | rfl
   ·exact ⟨_, _, _, HM.get (i := 3) rfl, by decide, by decide⟩
   ·exact ⟨_, _, _, HM.get (i := 2) rfl, by decide, by decide⟩
   ·exact ⟨_, _, _, HM.get (i := 1) rfl, by decide, by decide⟩
   ·exact ⟨_, _, _, HM.get (i := 0) rfl, by decide, by decide⟩)
  have hP3 := hP2.next (nf := (fun _ => ⟨#[]⟩)) (by omega) htk (by omega) (by omega) (iF.get (i := 1) rfl) (iF.get (i := 0) rfl)
  have bU : Mm G w0 w' [(sd, .cells (X.map Bv).toArray 5 (0, 0)), (aT, .cells fK 36 (0, 0)), (aW, .cells cur' 133 (0, 0)), (fb, .cells #[aK 2, .int .u8 dat, aK 1, aV abi, aV aF, (aP big), bf aS, bf aG, aJ aB, aH aW (i + 1) ah, aH pg aj aj, aN, aN, aN] 131 (0, 0)), uX s b o n c] := HM.after hk (by
   intro g hg
   simp only [List.mem_cons, List.not_mem_nil, or_false] at hg
   rcases hg with rfl | rfl | rfl | rfl
   ·exact HM.own (i := 3) rfl
   ·exact HM.own (i := 2) rfl
   ·exact HM.own (i := 1) rfl
   ·exact HM.own (i := 0) rfl) rfl (by
   intro p hp
   simp only [List.mem_cons, List.not_mem_nil, or_false] at hp
   rcases hp with rfl | rfl | rfl | rfl | rfl
   ·exact iF.get (i := 5) rfl
   ·exact iF.get (i := 4) rfl
   ·exact iF.get (i := 3) rfl
   ·exact iF.get (i := 2) rfl
   ·refine (hk.block s (HM.lt (i := 4) rfl) ?_).trans (HM.get (i := 4) rfl)
    simp only [List.mem_cons, List.not_mem_nil, or_false, not_or]
    exact ⟨HM.ne (i := 4) (j := 3) rfl rfl (by decide), HM.ne (i := 4) (j := 2) rfl rfl (by decide), HM.ne (i := 4) (j := 1) rfl rfl (by decide), HM.ne (i := 4) (j := 0) rfl rfl (by decide)⟩)
  exact Il l b o n c hl hnc big abi aF aS aG aB ak aj au ah dat b1 b2 b3 b4 b5 b6 b7 X nI sc hv bd G w0 s fb pg aW aT sd K r (i + 1) (by omega) a' w' cur' fK hcs' Df hP3 (hN.next (by omega) htn) (hD.next (by omega) htk fun j hj e => by
   obtain ⟨pbj, _, g1, _, _, g4, _⟩ := hP j hj
   rw [g1] at e
   injection e with e
   injection e with e
   injection e with e
   injection e with e
   have := jL g4
   omega) BK bU

theorem JY (l : List UInt8) (b o n c : Nat) (hl : n = l.length) (hnc : n ≤ c) (big : Bool) (abi aF aS aG aB ak aj au ah : Nat) (dat : Int) (b1 : aS < 65536) (b2 : aG < 65536) (b3 : aB ≤ 18446744073709551615) (b4 : ak < 4611686018427387904) (b5 : au < 4611686018427387904) (b6 : aj < 200) (b7 : ah < 200) (X : List UInt8) (nI : X.length = (ah * 64)) (sc : Nat → iM) (hv : ∀ i, i < ah → uo (X.drop (i * 64)) true big (sc i).name (sc i).ty (sc i).flags (sc i).addr (sc i).off (sc i).bH (sc i).link (sc i).info (sc i).align (sc i).ent) (bd : ∀ i, i < ah → rD (sc i)) (G : List Nat) (w0 : World) (s fb pg aW aT sd : Nat) {Q : Exit → Act → World → Prop} (a : Act) (w : World) (cur nms : Array Value) (hcs : cur.size = ah) (hns : nms.size = ah) (HF : Fr 1287 a [(0, .iface 178 (.slice (some ⟨b, o, none⟩) n c)), (4, aC s), (8, aC fb), (9, (aP big)), (10, aA ak), (11, .int .i64 56), (12, aA aj), (13, aA au), (14, .int .i64 64), (15, aA ah), (16, aA (ah - 1)), (26, .int .i64 64), (41, aH aT 0 ah), (42, aH sd (ah * 64) (ah * 64))]) (HM : Mm G w0 w [(sd, .cells (X.map Bv).toArray 5 (0, 0)), (aT, .cells nms 36 (0, 0)), (aW, .cells cur 133 (0, 0)), (fb, .cells #[.int .u8 2, .int .u8 dat, .int .u8 1, aV abi, aV aF, (aP big), bf aS, bf aG, aJ aB, aH aW 0 ah, aH pg aj aj, .slice none 0 0, .slice none 0 0, .slice none 0 0] 131 (0, 0)), (s, .cells #[.iface 178 (.slice (some ⟨b, o, none⟩) n c), .int .i64 0, .int .i64 0, .int .i64 9223372036854775807, .int .i64 9223372036854775807] 246 (0, 0))])
  (K : ∀ a w cur nms, cur.size = ah → nms.size = ah → iy b o n c w0.heap.size w sc (fun _ => ⟨#[]⟩) ah cur → kF sc ah nms → mJ ah cur → Fr 1287 a [(0, .iface 178 (.slice (some ⟨b, o, none⟩) n c)), (4, aC s), (8, aC fb), (9, (aP big)), (10, aA ak), (11, .int .i64 56), (12, aA aj), (13, aA au), (14, .int .i64 64), (15, aA ah), (16, aA (ah - 1)), (26, .int .i64 64), (41, aH aT ah ah), (42, aH sd (ah * 64) (ah * 64))] → Mm G w0 w [(sd, .cells (X.map Bv).toArray 5 (0, 0)), (aT, .cells nms 36 (0, 0)), (aW, .cells cur 133 (0, 0)), (fb, .cells #[.int .u8 2, .int .u8 dat, .int .u8 1, aV abi, aV aF, (aP big), bf aS, bf aG, aJ aB, aH aW ah ah, aH pg aj aj, .slice none 0 0, .slice none 0 0, .slice none 0 0] 131 (0, 0)), (s, .cells #[.iface 178 (.slice (some ⟨b, o, none⟩) n c), .int .i64 0, .int .i64 0, .int .i64 9223372036854775807, .int .i64 9223372036854775807] 246 (0, 0))] → (spine Tryd.f78 45).wp Tryd.prog Q a w) : (spine Tryd.f78 44).wp Tryd.prog Q a w := by
 refine wp_seq ?_
 refine bC HF HM rfl [] [(0, .iface 178 (.slice (some ⟨b, o, none⟩) n c)), (4, aC s), (8, aC fb), (9, (aP big)), (10, aA ak), (11, .int .i64 56), (12, aA aj), (13, aA au), (14, .int .i64 64), (15, aA ah), (16, aA (ah - 1)), (26, .int .i64 64), (41, aH aT 0 ah), (42, aH sd (ah * 64) (ah * 64)), (43, aA 0)] [(sd, .cells (X.map Bv).toArray 5 (0, 0)), (aT, .cells nms 36 (0, 0)), (aW, .cells cur 133 (0, 0)), (fb, .cells #[.int .u8 2, .int .u8 dat, .int .u8 1, aV abi, aV aF, (aP big), bf aS, bf aG, aJ aB, aH aW 0 ah, aH pg aj aj, .slice none 0 0, .slice none 0 0, .slice none 0 0] 131 (0, 0)), (s, .cells #[.iface 178 (.slice (some ⟨b, o, none⟩) n c), .int .i64 0, .int .i64 0, .int .i64 9223372036854775807, .int .i64 9223372036854775807] 246 (0, 0))] (by kernel_rfl) ?_
 clear HF HM; intro a w HF HM
 refine wp_block (wp_loop_rounds (ah + 1) ?_)
 exact Il l b o n c hl hnc big abi aF aS aG aB ak aj au ah dat b1 b2 b3 b4 b5 b6 b7 X nI sc hv bd G w0 s fb pg aW aT sd K ah 0 (by omega) a w cur nms hcs hns (fun j hj => absurd hj (Nat.not_lt_zero j)) (fun j hj => absurd hj (Nat.not_lt_zero j)) (fun i j _ hj => absurd hj (Nat.not_lt_zero j)) HF HM

end Go.Proofs.YtdgehpocmfjbiaaDoor
namespace Go.Proofs.YtdgehpocmfjbiaaDoor
open Go.RowKit

theorem rO {P : Program} {w : World} {t e : TypeId} {info : TypeInfo} (ht : P.underlying t = some (.slice e)) (hi : P.info? e = some info) (hs : info.size = 1) {ρ : Operand → Value} {o : Oper} {x ix : Operand} (ho : o.op = .indexAddr t x ix) {b n c : Nat} (j : Nat) {k : IntKind} (hx : ρ x = aH b n c) (hj : ρ ix = .int k (j : Int)) (h : j < n) :
  (execOp ρ o).run P w = .ok (.value (.pointer (some ⟨b, j, none⟩))) w := by
 unfold execOp
 simp only [ho, hx, hj]
 simp [Instr.indexAt, run_underlying ht, asIntOf, sizeOf, typeInfo, hi, hs, h, Addr.add]
 exact fun h => h.symm
theorem BO : ∃ i, Tryd.prog.info? 133 = some i ∧ i.size = 1 := by
 obtain ⟨i, h1, _, h3, _⟩ := info_parts yD
 exact ⟨i, h1, h3⟩
theorem FU : ∃ i, Tryd.prog.info? 36 = some i ∧ i.size = 1 := by
 obtain ⟨i, h1, _, h3, _⟩ := info_parts wO
 exact ⟨i, h1, h3⟩

abbrev jo := fun (b : Nat) (o : Nat) (n : Nat) (c : Nat) (s : Nat) (fb : Nat) (big : Bool) (ak : Nat) (aj : Nat) (au : Nat) (ah : Nat) (aT : Nat) (sd : Nat) => ([(0, .iface 178 (.slice (some ⟨b, o, none⟩) n c)), (4, aC s), (8, aC fb), (9, (aP big)), (10, aA ak), (11, ay 32), (12, aA aj), (13, aA au), (14, ay 40), (15, aA ah), (16, aA (ah - 1)), (26, ay 40), (41, aH aT ah ah), (42, aH sd (ah * 40) (ah * 40))] : Slots)
theorem Ku (l : List UInt8) (b o n c : Nat) (hl : n = l.length) (hnc : n ≤ c) (big : Bool) (abi aF aS aG aB ak aj au ah : Nat) (dat : Int) (b1 : aS < 65536) (b2 : aG < 65536) (b3 : aB ≤ 18446744073709551615) (b4 : ak < 4611686018427387904) (b5 : au < 4611686018427387904) (b6 : aj < 200) (b7 : ah < 200) (X : List UInt8) (sc : Nat → iM) (c3 : 1 < ah) (hty : (sc (ah - 1)).ty = 3) (hfl : (oC ((((sc (ah - 1)).flags : Nat) : Int)) 2048 == 0) = true) (f1 : 0 < (sc (ah - 1)).bH) (f2 : (sc (ah - 1)).bH < 10485760) (f3 : (sc (ah - 1)).off + (sc (ah - 1)).bH ≤ n) (f4 : n ≤ 4611686018427387904) (G : List Nat) (w0 : World) (hbl : b < w0.heap.size) (hr : Row w0 (some ⟨b, o, none⟩) (l.map Bv)) (tY : b ∉ G) (s fb pg aW aT sd : Nat) {Q : Exit → Act → World → Prop} (a : Act) (w : World) (cur nms : Array Value) (hP : iy b o n c w0.heap.size w sc (fun _ => ⟨#[]⟩) ah cur) (HF : Fr 1287 a (jo b o n c s fb big ak aj au ah aT sd)) (HM : Mm G w0 w [(sd, .cells (X.map Bv).toArray 5 (0, 0)), (aT, .cells nms 36 (0, 0)), (aW, .cells cur 133 (0, 0)), (fb, .cells #[aK 1, .int .u8 dat, aK 1, aV abi, aV aF, (aP big), bf aS, bf aG, aJ aB, aH aW ah ah, aH pg aj aj, aN, aN, aN] 131 (0, 0)), (s, .cells #[.iface 178 (.slice (some ⟨b, o, none⟩) n c), ay 0, ay 0, ay 9223372036854775807, ay 9223372036854775807] 246 (0, 0))])
  (K : ∀ a w' dJ, iy b o n c w0.heap.size w' sc (fun _ => ⟨#[]⟩) ah cur → Fr 1287 a ((jo b o n c s fb big ak aj au ah aT sd) ++ [(53, aH dJ (sc (ah - 1)).bH (sc (ah - 1)).bH)]) → Mm G w0 w' [(dJ, .cells (((l.drop (sc (ah - 1)).off).take (sc (ah - 1)).bH).map Bv).toArray 5 (0, 0)), (sd, .cells (X.map Bv).toArray 5 (0, 0)), (aT, .cells nms 36 (0, 0)), (aW, .cells cur 133 (0, 0)), (fb, .cells #[aK 1, .int .u8 dat, aK 1, aV abi, aV aF, (aP big), bf aS, bf aG, aJ aB, aH aW ah ah, aH pg aj aj, aN, aN, aN] 131 (0, 0)), (s, .cells #[.iface 178 (.slice (some ⟨b, o, none⟩) n c), ay 0, ay 0, ay 9223372036854775807, ay 9223372036854775807] 246 (0, 0))] → (spine Tryd.f78 51).wp Tryd.prog Q a w') : (spine Tryd.f78 45).wp Tryd.prog Q a w := by
 obtain ⟨i0, his, hss⟩ := BO
 obtain ⟨pq, sq, q1, q2, q3, q4, q5⟩ := hP (ah - 1) (by omega)
 refine wp_seq ?_
 refine wp_seq (wp_region_lit ?_)
 refine wp_pure HF HM rfl 6 [[1], []] ((jo b o n c s fb big ak aj au ah aT sd) ++ [(1206, .bool (((ah : Nat) : Int) == 0))]) (by kernel_rfl) ?_
 clear HF; intro a HF
 rw [show (((ah : Nat) : Int) == 0) = false from beq_eq_false_iff_ne.2 (by omega)] at HF
 refine aI ?_
 refine aZ HF rfl ?_
 refine wp_skip ?_
 repeat (first | refine aQ ?_ | refine aU ?_)
 replace HF := HF.sub (jo b o n c s fb big ak aj au ah aT sd) (by kernel_rfl)
 refine wp_seq ?_
 refine wp_seq (wp_region_lit ?_)
 refine wp_pure HF HM rfl 2 [] ((jo b o n c s fb big ak aj au ah aT sd) ++ [(1209, .bool ((((ah - 1) : Nat) : Int) == 0))]) (by kernel_rfl) ?_
 clear HF; intro a HF
 rw [show ((((ah - 1) : Nat) : Int) == 0) = false from beq_eq_false_iff_ne.2 (by omega)] at HF
 refine aI ?_
 refine aZ HF rfl ?_
 refine wp_skip ?_
 repeat (first | refine aQ ?_ | refine aU ?_)
 replace HF := HF.sub (jo b o n c s fb big ak aj au ah aT sd) (by kernel_rfl)
 refine wp_seq (wp_region_lit ?_)
 refine wp_pure HF HM rfl 5 [[1]] ((jo b o n c s fb big ak aj au ah aT sd) ++ [(1214, aH aW ah ah), (1215, aA (ah - 1))]) (by kernel_rfl) ?_
 clear HF; intro a HF
 refine eY HF (by kernel_rfl) (.pointer (some ⟨aW, ah - 1, none⟩)) (by kernel_rfl) (rO (t := 126) Tryd.underlying126 his hss rfl (ah - 1) rfl rfl (by omega)) ?_
 clear HF; intro a HF; replace HF := HF.sub ((jo b o n c s fb big ak aj au ah aT sd) ++ [(1214, aH aW ah ah), (1215, aA (ah - 1)), (1216, .pointer (some ⟨aW, ah - 1, none⟩))]) (by kernel_rfl)
 refine eY HF (by kernel_rfl) (aC pq) (by kernel_rfl) (iE rfl rfl (by kernel_rfl) (HM.cellAt (i := 2) (k := ah - 1) rfl q1)) ?_
 clear HF; intro a HF; replace HF := HF.sub ((jo b o n c s fb big ak aj au ah aT sd) ++ [(1214, aH aW ah ah), (1215, aA (ah - 1)), (1216, .pointer (some ⟨aW, ah - 1, none⟩)), (1217, aC pq)]) (by kernel_rfl)
 refine wp_pure HF HM rfl 1 [] ((jo b o n c s fb big ak aj au ah aT sd) ++ [(52, aC pq)]) (by kernel_rfl) ?_
 clear HF; intro a HF
 refine aI ?_
 refine wp_seq ?_
 refine wp_seq (wp_region_lit ?_)
 refine wp_pure HF HM rfl 4 [] ((jo b o n c s fb big ak aj au ah aT sd) ++ [(52, aC pq), (1221, .pointer (some ⟨pq, 1, none⟩))]) (by kernel_rfl) ?_
 clear HF; intro a HF
 refine eY HF (by kernel_rfl) (aX (sc (ah - 1)).ty) (by kernel_rfl) (iE rfl rfl (by kernel_rfl) (by rw [cell_of_row _ pq 1 _ _ _ q4]; rfl)) ?_
 clear HF; intro a HF; replace HF := HF.sub ((jo b o n c s fb big ak aj au ah aT sd) ++ [(52, aC pq), (1221, .pointer (some ⟨pq, 1, none⟩)), (1222, aX (sc (ah - 1)).ty)]) (by kernel_rfl)
 refine wp_pure HF HM rfl 1 [] ((jo b o n c s fb big ak aj au ah aT sd) ++ [(52, aC pq), (1223, .bool ((((sc (ah - 1)).ty : Nat) : Int) != 3))]) (by kernel_rfl) ?_
 clear HF; intro a HF
 rw [show ((((sc (ah - 1)).ty : Nat) : Int) != 3) = false from by rw [hty]; rfl] at HF
 refine aI ?_
 refine aZ HF rfl ?_
 refine wp_skip ?_
 repeat (first | refine aQ ?_ | refine aU ?_)
 replace HF := HF.sub ((jo b o n c s fb big ak aj au ah aT sd) ++ [(52, aC pq)]) (by kernel_rfl)
 refine wp_seq (wp_region_lit ?_)
 refine wp_pure HF HM rfl 1 [] ((jo b o n c s fb big ak aj au ah aT sd) ++ [(52, aC pq), (1239, aC pq)]) (by kernel_rfl) ?_
 clear HF; intro a HF
 refine bn HF (by kernel_rfl) 63 #[aC pq] (by kernel_rfl) (fun w => by kernel_rfl) (Calls.mono (Ah ⟨#[]⟩ (((sc (ah - 1)).ty : Nat) : Int) (((sc (ah - 1)).flags : Nat) : Int) (((sc (ah - 1)).addr : Nat) : Int) (((sc (ah - 1)).off : Nat) : Int) (((sc (ah - 1)).link : Nat) : Int) (((sc (ah - 1)).info : Nat) : Int) (((sc (ah - 1)).align : Nat) : Int) (((sc (ah - 1)).ent : Nat) : Int) (((sc (ah - 1)).bH : Nat) : Int) (.iface 144 (aC sq)) (ay 0) (ay 0) pq sq (by rw [hty]; rfl) hfl (.inl (by decide)) l b o n c hl hnc (sc (ah - 1)).bH (sc (ah - 1)).off (((sc (ah - 1)).off : Nat) : Int) ((((sc (ah - 1)).bH : Nat) : Int) + (((sc (ah - 1)).off : Nat) : Int)) (((sc (ah - 1)).bH : Nat) : Int) (by omega) (by omega) (by omega) (by omega) (by omega) (by omega) (by omega) w q4 q5 (Nat.lt_of_lt_of_le hbl HM.size) (by omega) (by omega) (cu q4 q5 (by decide)) (HM.row hr (by intro b' o' s' e; injection e with e; injection e with e; subst e; exact tY))) ?_)
 rintro _ w1 ⟨dJ, rfl, hb, hge, hgn⟩
 replace HM : Mm G w0 w1 [(dJ, .cells (((l.drop ((sc (ah - 1)).off + 0)).take (sc (ah - 1)).bH).map Bv).toArray 5 (0, 0)), (sd, .cells (X.map Bv).toArray 5 (0, 0)), (aT, .cells nms 36 (0, 0)), (aW, .cells cur 133 (0, 0)), (fb, .cells #[aK 1, .int .u8 dat, aK 1, aV abi, aV aF, (aP big), bf aS, bf aG, aJ aB, aH aW ah ah, aH pg aj aj, aN, aN, aN] 131 (0, 0)), (s, .cells #[.iface 178 (.slice (some ⟨b, o, none⟩) n c), ay 0, ay 0, ay 9223372036854775807, ay 9223372036854775807] 246 (0, 0))] := HM.push hb hge hgn
 clear hge hgn
 refine ⟨_, rfl, ?_⟩; clear HF; intro a HF; replace HF := HF.sub ((jo b o n c s fb big ak aj au ah aT sd) ++ [(52, aC pq), (1239, aC pq), (1240, .tuple #[aH dJ (sc (ah - 1)).bH (sc (ah - 1)).bH, .nilIface])]) (by kernel_rfl)
 refine wp_pure HF HM rfl 5 [] ((jo b o n c s fb big ak aj au ah aT sd) ++ [(52, aC pq), (53, aH dJ (sc (ah - 1)).bH (sc (ah - 1)).bH), (37, .nilIface)]) (by kernel_rfl) ?_
 clear HF; intro a HF
 refine aI ?_
 refine wp_seq ?_
 refine wp_seq (wp_region_lit ?_)
 refine wp_pure HF HM rfl 2 [] ((jo b o n c s fb big ak aj au ah aT sd) ++ [(52, aC pq), (53, aH dJ (sc (ah - 1)).bH (sc (ah - 1)).bH), (37, .nilIface), (1244, .bool false)]) (by kernel_rfl) ?_
 clear HF; intro a HF
 refine aI ?_
 refine aZ HF rfl ?_
 refine wp_skip ?_
 repeat (first | refine aQ ?_ | refine aU ?_)
 replace HF := HF.sub ((jo b o n c s fb big ak aj au ah aT sd) ++ [(53, aH dJ (sc (ah - 1)).bH (sc (ah - 1)).bH)]) (by kernel_rfl)
 replace HF := HF.sub ((jo b o n c s fb big ak aj au ah aT sd) ++ [(53, aH dJ (sc (ah - 1)).bH (sc (ah - 1)).bH)]) (by kernel_rfl)
 rw [Nat.add_zero] at HM
 exact K a w1 dJ (hP.keep (Keep.of_below hb) (by intro g hg; cases hg)) HF HM

abbrev jm := fun (b : Nat) (o : Nat) (n : Nat) (c : Nat) (s : Nat) (fb : Nat) (big : Bool) (ak : Nat) (aj : Nat) (au : Nat) (ah : Nat) (aT : Nat) (sd : Nat) => ([(0, .iface 178 (.slice (some ⟨b, o, none⟩) n c)), (4, aC s), (8, aC fb), (9, (aP big)), (10, aA ak), (11, ay 56), (12, aA aj), (13, aA au), (14, ay 64), (15, aA ah), (16, aA (ah - 1)), (26, ay 64), (41, aH aT ah ah), (42, aH sd (ah * 64) (ah * 64))] : Slots)
theorem Kr (l : List UInt8) (b o n c : Nat) (hl : n = l.length) (hnc : n ≤ c) (big : Bool) (abi aF aS aG aB ak aj au ah : Nat) (dat : Int) (b1 : aS < 65536) (b2 : aG < 65536) (b3 : aB ≤ 18446744073709551615) (b4 : ak < 4611686018427387904) (b5 : au < 4611686018427387904) (b6 : aj < 200) (b7 : ah < 200) (X : List UInt8) (sc : Nat → iM) (c3 : 1 < ah) (hty : (sc (ah - 1)).ty = 3) (hfl : (oC ((((sc (ah - 1)).flags : Nat) : Int)) 2048 == 0) = true) (f1 : 0 < (sc (ah - 1)).bH) (f2 : (sc (ah - 1)).bH < 10485760) (f3 : (sc (ah - 1)).off + (sc (ah - 1)).bH ≤ n) (f4 : n ≤ 4611686018427387904) (G : List Nat) (w0 : World) (hbl : b < w0.heap.size) (hr : Row w0 (some ⟨b, o, none⟩) (l.map Bv)) (tY : b ∉ G) (s fb pg aW aT sd : Nat) {Q : Exit → Act → World → Prop} (a : Act) (w : World) (cur nms : Array Value) (hP : iy b o n c w0.heap.size w sc (fun _ => ⟨#[]⟩) ah cur) (HF : Fr 1287 a (jm b o n c s fb big ak aj au ah aT sd)) (HM : Mm G w0 w [(sd, .cells (X.map Bv).toArray 5 (0, 0)), (aT, .cells nms 36 (0, 0)), (aW, .cells cur 133 (0, 0)), (fb, .cells #[aK 2, .int .u8 dat, aK 1, aV abi, aV aF, (aP big), bf aS, bf aG, aJ aB, aH aW ah ah, aH pg aj aj, aN, aN, aN] 131 (0, 0)), (s, .cells #[.iface 178 (.slice (some ⟨b, o, none⟩) n c), ay 0, ay 0, ay 9223372036854775807, ay 9223372036854775807] 246 (0, 0))])
  (K : ∀ a w' dJ, iy b o n c w0.heap.size w' sc (fun _ => ⟨#[]⟩) ah cur → Fr 1287 a ((jm b o n c s fb big ak aj au ah aT sd) ++ [(53, aH dJ (sc (ah - 1)).bH (sc (ah - 1)).bH)]) → Mm G w0 w' [(dJ, .cells (((l.drop (sc (ah - 1)).off).take (sc (ah - 1)).bH).map Bv).toArray 5 (0, 0)), (sd, .cells (X.map Bv).toArray 5 (0, 0)), (aT, .cells nms 36 (0, 0)), (aW, .cells cur 133 (0, 0)), (fb, .cells #[aK 2, .int .u8 dat, aK 1, aV abi, aV aF, (aP big), bf aS, bf aG, aJ aB, aH aW ah ah, aH pg aj aj, aN, aN, aN] 131 (0, 0)), (s, .cells #[.iface 178 (.slice (some ⟨b, o, none⟩) n c), ay 0, ay 0, ay 9223372036854775807, ay 9223372036854775807] 246 (0, 0))] → (spine Tryd.f78 51).wp Tryd.prog Q a w') : (spine Tryd.f78 45).wp Tryd.prog Q a w := by
 obtain ⟨i0, his, hss⟩ := BO
 obtain ⟨pq, sq, q1, q2, q3, q4, q5⟩ := hP (ah - 1) (by omega)
 refine wp_seq ?_
 refine wp_seq (wp_region_lit ?_)
 refine wp_pure HF HM rfl 6 [[1], []] ((jm b o n c s fb big ak aj au ah aT sd) ++ [(1206, .bool (((ah : Nat) : Int) == 0))]) (by kernel_rfl) ?_
 clear HF; intro a HF
 rw [show (((ah : Nat) : Int) == 0) = false from beq_eq_false_iff_ne.2 (by omega)] at HF
 refine aI ?_
 refine aZ HF rfl ?_
 refine wp_skip ?_
 repeat (first | refine aQ ?_ | refine aU ?_)
 replace HF := HF.sub (jm b o n c s fb big ak aj au ah aT sd) (by kernel_rfl)
 refine wp_seq ?_
 refine wp_seq (wp_region_lit ?_)
 refine wp_pure HF HM rfl 2 [] ((jm b o n c s fb big ak aj au ah aT sd) ++ [(1209, .bool ((((ah - 1) : Nat) : Int) == 0))]) (by kernel_rfl) ?_
 clear HF; intro a HF
 rw [show ((((ah - 1) : Nat) : Int) == 0) = false from beq_eq_false_iff_ne.2 (by omega)] at HF
 refine aI ?_
 refine aZ HF rfl ?_
 refine wp_skip ?_
 repeat (first | refine aQ ?_ | refine aU ?_)
 replace HF := HF.sub (jm b o n c s fb big ak aj au ah aT sd) (by kernel_rfl)
 refine wp_seq (wp_region_lit ?_)
 refine wp_pure HF HM rfl 5 [[1]] ((jm b o n c s fb big ak aj au ah aT sd) ++ [(1214, aH aW ah ah), (1215, aA (ah - 1))]) (by kernel_rfl) ?_
 clear HF; intro a HF
 refine eY HF (by kernel_rfl) (.pointer (some ⟨aW, ah - 1, none⟩)) (by kernel_rfl) (rO (t := 126) Tryd.underlying126 his hss rfl (ah - 1) rfl rfl (by omega)) ?_
 clear HF; intro a HF; replace HF := HF.sub ((jm b o n c s fb big ak aj au ah aT sd) ++ [(1214, aH aW ah ah), (1215, aA (ah - 1)), (1216, .pointer (some ⟨aW, ah - 1, none⟩))]) (by kernel_rfl)
 refine eY HF (by kernel_rfl) (aC pq) (by kernel_rfl) (iE rfl rfl (by kernel_rfl) (HM.cellAt (i := 2) (k := ah - 1) rfl q1)) ?_
 clear HF; intro a HF; replace HF := HF.sub ((jm b o n c s fb big ak aj au ah aT sd) ++ [(1214, aH aW ah ah), (1215, aA (ah - 1)), (1216, .pointer (some ⟨aW, ah - 1, none⟩)), (1217, aC pq)]) (by kernel_rfl)
 refine wp_pure HF HM rfl 1 [] ((jm b o n c s fb big ak aj au ah aT sd) ++ [(52, aC pq)]) (by kernel_rfl) ?_
 clear HF; intro a HF
 refine aI ?_
 refine wp_seq ?_
 refine wp_seq (wp_region_lit ?_)
 refine wp_pure HF HM rfl 4 [] ((jm b o n c s fb big ak aj au ah aT sd) ++ [(52, aC pq), (1221, .pointer (some ⟨pq, 1, none⟩))]) (by kernel_rfl) ?_
 clear HF; intro a HF
 refine eY HF (by kernel_rfl) (aX (sc (ah - 1)).ty) (by kernel_rfl) (iE rfl rfl (by kernel_rfl) (by rw [cell_of_row _ pq 1 _ _ _ q4]; rfl)) ?_
 clear HF; intro a HF; replace HF := HF.sub ((jm b o n c s fb big ak aj au ah aT sd) ++ [(52, aC pq), (1221, .pointer (some ⟨pq, 1, none⟩)), (1222, aX (sc (ah - 1)).ty)]) (by kernel_rfl)
 refine wp_pure HF HM rfl 1 [] ((jm b o n c s fb big ak aj au ah aT sd) ++ [(52, aC pq), (1223, .bool ((((sc (ah - 1)).ty : Nat) : Int) != 3))]) (by kernel_rfl) ?_
 clear HF; intro a HF
 rw [show ((((sc (ah - 1)).ty : Nat) : Int) != 3) = false from by rw [hty]; rfl] at HF
 refine aI ?_
 refine aZ HF rfl ?_
 refine wp_skip ?_
 repeat (first | refine aQ ?_ | refine aU ?_)
 replace HF := HF.sub ((jm b o n c s fb big ak aj au ah aT sd) ++ [(52, aC pq)]) (by kernel_rfl)
 refine wp_seq (wp_region_lit ?_)
 refine wp_pure HF HM rfl 1 [] ((jm b o n c s fb big ak aj au ah aT sd) ++ [(52, aC pq), (1239, aC pq)]) (by kernel_rfl) ?_
 clear HF; intro a HF
 refine bn HF (by kernel_rfl) 63 #[aC pq] (by kernel_rfl) (fun w => by kernel_rfl) (Calls.mono (Ah ⟨#[]⟩ (((sc (ah - 1)).ty : Nat) : Int) (((sc (ah - 1)).flags : Nat) : Int) (((sc (ah - 1)).addr : Nat) : Int) (((sc (ah - 1)).off : Nat) : Int) (((sc (ah - 1)).link : Nat) : Int) (((sc (ah - 1)).info : Nat) : Int) (((sc (ah - 1)).align : Nat) : Int) (((sc (ah - 1)).ent : Nat) : Int) (((sc (ah - 1)).bH : Nat) : Int) (.iface 144 (aC sq)) (ay 0) (ay 0) pq sq (by rw [hty]; rfl) hfl (.inl (by decide)) l b o n c hl hnc (sc (ah - 1)).bH (sc (ah - 1)).off (((sc (ah - 1)).off : Nat) : Int) ((((sc (ah - 1)).bH : Nat) : Int) + (((sc (ah - 1)).off : Nat) : Int)) (((sc (ah - 1)).bH : Nat) : Int) (by omega) (by omega) (by omega) (by omega) (by omega) (by omega) (by omega) w q4 q5 (Nat.lt_of_lt_of_le hbl HM.size) (by omega) (by omega) (cu q4 q5 (by decide)) (HM.row hr (by intro b' o' s' e; injection e with e; injection e with e; subst e; exact tY))) ?_)
 rintro _ w1 ⟨dJ, rfl, hb, hge, hgn⟩
 replace HM : Mm G w0 w1 [(dJ, .cells (((l.drop ((sc (ah - 1)).off + 0)).take (sc (ah - 1)).bH).map Bv).toArray 5 (0, 0)), (sd, .cells (X.map Bv).toArray 5 (0, 0)), (aT, .cells nms 36 (0, 0)), (aW, .cells cur 133 (0, 0)), (fb, .cells #[aK 2, .int .u8 dat, aK 1, aV abi, aV aF, (aP big), bf aS, bf aG, aJ aB, aH aW ah ah, aH pg aj aj, aN, aN, aN] 131 (0, 0)), (s, .cells #[.iface 178 (.slice (some ⟨b, o, none⟩) n c), ay 0, ay 0, ay 9223372036854775807, ay 9223372036854775807] 246 (0, 0))] := HM.push hb hge hgn
 clear hge hgn
 refine ⟨_, rfl, ?_⟩; clear HF; intro a HF; replace HF := HF.sub ((jm b o n c s fb big ak aj au ah aT sd) ++ [(52, aC pq), (1239, aC pq), (1240, .tuple #[aH dJ (sc (ah - 1)).bH (sc (ah - 1)).bH, .nilIface])]) (by kernel_rfl)
 refine wp_pure HF HM rfl 5 [] ((jm b o n c s fb big ak aj au ah aT sd) ++ [(52, aC pq), (53, aH dJ (sc (ah - 1)).bH (sc (ah - 1)).bH), (37, .nilIface)]) (by kernel_rfl) ?_
 clear HF; intro a HF
 refine aI ?_
 refine wp_seq ?_
 refine wp_seq (wp_region_lit ?_)
 refine wp_pure HF HM rfl 2 [] ((jm b o n c s fb big ak aj au ah aT sd) ++ [(52, aC pq), (53, aH dJ (sc (ah - 1)).bH (sc (ah - 1)).bH), (37, .nilIface), (1244, .bool false)]) (by kernel_rfl) ?_
 clear HF; intro a HF
 refine aI ?_
 refine aZ HF rfl ?_
 refine wp_skip ?_
 repeat (first | refine aQ ?_ | refine aU ?_)
 replace HF := HF.sub ((jm b o n c s fb big ak aj au ah aT sd) ++ [(53, aH dJ (sc (ah - 1)).bH (sc (ah - 1)).bH)]) (by kernel_rfl)
 replace HF := HF.sub ((jm b o n c s fb big ak aj au ah aT sd) ++ [(53, aH dJ (sc (ah - 1)).bH (sc (ah - 1)).bH)]) (by kernel_rfl)
 rw [Nat.add_zero] at HM
 exact K a w1 dJ (hP.keep (Keep.of_below hb) (by intro g hg; cases hg)) HF HM

end Go.Proofs.YtdgehpocmfjbiaaDoor
namespace Go.Proofs.YtdgehpocmfjbiaaDoor
open Go.RowKit

theorem iy.named {b o n c z : Nat} {w w' : World} {sc : Nat → iM} {nb : Nat → List UInt8} {k i : Nat} {cur : Array Value} {pb sb : Nat} (h : iy b o n c z w sc (fun j => if j < i then ⟨(nb j).toArray⟩ else ⟨#[]⟩) k cur) (hD : mJ k cur) (hi : i < k) (hc : cur[i]? = some (aC pb)) (hsb : w.heap[pb]? = some (.cells #[.string ⟨#[]⟩, aX (sc i).ty, aX (sc i).flags, aJ (sc i).addr, aJ (sc i).off, aJ (sc i).bH, aX (sc i).link, aX (sc i).info, aJ (sc i).align, aJ (sc i).ent, aJ (sc i).bH, .iface 144 (aC sb), aC sb, .int .i64 0, .int .i64 0] 153 (0, 0)))
  (hk : Keep [pb] w w') (hn : w'.heap[pb]? = some (.cells #[.string ⟨(nb i).toArray⟩, aX (sc i).ty, aX (sc i).flags, aJ (sc i).addr, aJ (sc i).off, aJ (sc i).bH, aX (sc i).link, aX (sc i).info, aJ (sc i).align, aJ (sc i).ent, aJ (sc i).bH, .iface 144 (aC sb), aC sb, .int .i64 0, .int .i64 0] 153 (0, 0))) : iy b o n c z w' sc (fun j => if j < (i + 1) then ⟨(nb j).toArray⟩ else ⟨#[]⟩) k cur := fun j hj => by
 obtain ⟨pj, sj, h1, h2, h3, h4, h5⟩ := h j hj
 have h5' : w'.heap[sj]? = w.heap[sj]? := hk.block sj (jL h5) (by simpa using cu h5 hsb (by decide))
 by_cases hji : j = i
 ·subst hji
  rw [hc] at h1
  injection h1 with h1
  injection h1 with h1
  injection h1 with h1
  injection h1 with h1
  subst h1
  simp only [Nat.lt_irrefl, ↓reduceIte] at h4
  rw [hsb] at h4
  refine ⟨pb, sj, hc, h2, h3, ?_, h5'.trans h5⟩
  simp only [Nat.lt_add_one, ↓reduceIte]
  rw [hn]
  injection h4 with h4
  injection h4 with h4
  have e := congrArg (fun a => a[12]?) h4
  simp only [List.getElem?_toArray] at e
  injection e with e
  injection e with e
  injection e with e
  injection e with e
  subst e
  rfl
 ·have hne : pj ≠ pb := fun e => by
   subst e
   rcases Nat.lt_or_ge j i with hlt | hge
   ·exact hD j i hlt hi (h1.trans hc.symm)
   ·exact hD i j (by omega) hj (hc.trans h1.symm)
  refine ⟨pj, sj, h1, h2, h3, ?_, h5'.trans h5⟩
  rw [hk.block pj (jL h4) (by simpa using hne), h4]
  have : (j < i + 1) = (j < i) := propext ⟨fun h => by omega, fun h => by omega⟩
  simp only [this]

abbrev kR := fun (b : Nat) (o : Nat) (n : Nat) (c : Nat) (s : Nat) (fb : Nat) (big : Bool) (ak : Nat) (aj : Nat) (au : Nat) (ah : Nat) (aT : Nat) (sd : Nat) (dJ : Nat) (tm : Nat) (aW : Nat) => ([(0, .iface 178 (.slice (some ⟨b, o, none⟩) n c)), (4, aC s), (8, aC fb), (9, (aP big)), (10, aA ak), (11, ay 32), (12, aA aj), (13, aA au), (14, ay 40), (15, aA ah), (16, aA (ah - 1)), (26, ay 40), (41, aH aT ah ah), (42, aH sd (ah * 40) (ah * 40)), (53, aH dJ tm tm), (1249, aH aW ah ah), (1250, aA ah)] : Slots)
abbrev rX := fun (b : Nat) (o : Nat) (n : Nat) (c : Nat) (s : Nat) (fb : Nat) (big : Bool) (ak : Nat) (aj : Nat) (au : Nat) (ah : Nat) (aT : Nat) (sd : Nat) (dJ : Nat) (tm : Nat) (aW : Nat) (i : Nat) (pb : Nat) => ((kR b o n c s fb big ak aj au ah aT sd dJ tm aW) ++ [(1251, aA i), (54, aA i), (55, aC pb), (56, .bool false)] : Slots)
abbrev xM := fun (pb : Nat) (nb : Nat → List UInt8) (i : Nat) (sc : Nat → iM) (sb : Nat) => ((pb, .cells #[.string ⟨(nb i).toArray⟩, aX (sc i).ty, aX (sc i).flags, aJ (sc i).addr, aJ (sc i).off, aJ (sc i).bH, aX (sc i).link, aX (sc i).info, aJ (sc i).align, aJ (sc i).ent, aJ (sc i).bH, .iface 144 (aC sb), aC sb, ay 0, ay 0] 153 (0, 0)) : Nat × Obj)
theorem NP (l : List UInt8) (b o n c : Nat) (hl : n = l.length) (hnc : n ≤ c) (big : Bool) (ak aj au ah : Nat) (b7 : ah < 200) (sc : Nat → iM) (nb : Nat → List UInt8) (Y : List UInt8) (tm : Nat) (hY : tm = Y.length) (uN : tm ≤ maxLen) (i : Nat) (hi : i < ah) (hv : (sc i).name < 4294967296) (hstr : mD Y (sc i).name = some (nb i)) (s fb pg aW aT sd dJ pb sb : Nat) (cur nms : Array Value) {K0 : Act → World → Prop} {Q : Exit → Act → World → Prop} (a : Act) (W1 : World)
  (hc : cur[i]? = some (aC pb)) (hN : kF sc ah nms) (LH : W1.heap[aW]? = some (.cells cur 133 (0, 0))) (LK : W1.heap[aT]? = some (.cells nms 36 (0, 0))) (LD : W1.heap[dJ]? = some (.cells (Y.map Bv).toArray 5 (0, 0))) (hpb : W1.heap[pb]? = some (.cells #[.string ⟨#[]⟩, aX (sc i).ty, aX (sc i).flags, aJ (sc i).addr, aJ (sc i).off, aJ (sc i).bH, aX (sc i).link, aX (sc i).info, aJ (sc i).align, aJ (sc i).ent, aJ (sc i).bH, .iface 144 (aC sb), aC sb, ay 0, ay 0] 153 (0, 0))) (HF : Fr 1287 a ((kR b o n c s fb big ak aj au ah aT sd dJ tm aW) ++ [(1251, aA i)]))
  (K : ∀ a w', Keep [pb] W1 w' → w'.heap[pb]? = some (.cells #[.string ⟨(nb i).toArray⟩, aX (sc i).ty, aX (sc i).flags, aJ (sc i).addr, aJ (sc i).off, aJ (sc i).bH, aX (sc i).link, aX (sc i).info, aJ (sc i).align, aJ (sc i).ent, aJ (sc i).bH, .iface 144 (aC sb), aC sb, ay 0, ay 0] 153 (0, 0)) → Fr 1287 a ((kR b o n c s fb big ak aj au ah aT sd dJ tm aW) ++ [(1251, aA (i + 1))]) → K0 a w') : (oG (spine Tryd.f78 51)).wp Tryd.prog (Exit.then K0 Q) a W1 := by
 obtain ⟨i0, his, hss⟩ := BO
 obtain ⟨i1, hiu, hsu⟩ := FU
 obtain ⟨w, hw⟩ : ∃ w, W1 = w := ⟨_, rfl⟩
 have HM : Mm [pb] W1 w [(pb, .cells #[.string ⟨#[]⟩, aX (sc i).ty, aX (sc i).flags, aJ (sc i).addr, aJ (sc i).off, aJ (sc i).bH, aX (sc i).link, aX (sc i).info, aJ (sc i).align, aJ (sc i).ent, aJ (sc i).bH, .iface 144 (aC sb), aC sb, ay 0, ay 0] 153 (0, 0))] := hw ▸ Mm.yu hpb
 have hsg := hw ▸ LH
 have hnm := hw ▸ LK
 have htb := hw ▸ LD
 conv => arg 5; rw [hw]
 clear hw
 refine wp_seq (wp_region_lit ?_)
 refine wp_pure HF HM rfl 1 [] ((kR b o n c s fb big ak aj au ah aT sd dJ tm aW) ++ [(1251, aA i), (1252, .bool (decide (((i : Nat) : Int) < ((ah : Nat) : Int))))]) (by kernel_rfl) ?_
 clear HF; intro a HF
 rw [show decide (((i : Nat) : Int) < ((ah : Nat) : Int)) = true from fC (by omega)] at HF
 refine aI ?_
 refine wp_seq ?_
 refine bF HF rfl ?_
 refine wp_skip ?_
 repeat (first | refine aQ ?_ | refine aU ?_)
 replace HF := HF.sub ((kR b o n c s fb big ak aj au ah aT sd dJ tm aW) ++ [(1251, aA i)]) (by kernel_rfl)
 refine wp_seq (wp_block ?_)
 refine wp_seq (wp_region_lit ?_)
 refine wp_pure HF HM rfl 1 [] ((kR b o n c s fb big ak aj au ah aT sd dJ tm aW) ++ [(1251, aA i), (1253, aA i)]) (by kernel_rfl) ?_
 clear HF; intro a HF
 refine eY HF (by kernel_rfl) (.pointer (some ⟨aW, i, none⟩)) (by kernel_rfl) (rO (t := 126) Tryd.underlying126 his hss rfl i rfl rfl (by omega)) ?_
 clear HF; intro a HF; replace HF := HF.sub ((kR b o n c s fb big ak aj au ah aT sd dJ tm aW) ++ [(1251, aA i), (1253, aA i), (1254, .pointer (some ⟨aW, i, none⟩))]) (by kernel_rfl)
 refine eY HF (by kernel_rfl) (aC pb) (by kernel_rfl) (iE rfl rfl (by kernel_rfl) ((cell_of_row w aW i _ _ _ hsg).trans hc)) ?_
 clear HF; intro a HF; replace HF := HF.sub ((kR b o n c s fb big ak aj au ah aT sd dJ tm aW) ++ [(1251, aA i), (1253, aA i), (1254, .pointer (some ⟨aW, i, none⟩)), (1255, aC pb)]) (by kernel_rfl)
 refine wp_pure HF HM rfl 2 [] ((kR b o n c s fb big ak aj au ah aT sd dJ tm aW) ++ [(1251, aA i), (54, aA i), (55, aC pb)]) (by kernel_rfl) ?_
 clear HF; intro a HF
 refine aI ?_
 refine nG HF HM rfl [] (rX b o n c s fb big ak aj au ah aT sd dJ tm aW i pb) (by kernel_rfl) ?_
 clear HF; intro a HF
 refine wp_seq (wp_region_lit ?_)
 refine wp_pure HF HM rfl 4 [] ((rX b o n c s fb big ak aj au ah aT sd dJ tm aW i pb) ++ [(1257, aC pb), (1258, aH dJ tm tm), (1259, aH aT ah ah), (1260, aA i)]) (by kernel_rfl) ?_
 clear HF; intro a HF
 refine eY HF (by kernel_rfl) (.pointer (some ⟨aT, i, none⟩)) (by kernel_rfl) (rO (t := 222) Tryd.underlying222 hiu hsu rfl i rfl rfl (by omega)) ?_
 clear HF; intro a HF; replace HF := HF.sub ((rX b o n c s fb big ak aj au ah aT sd dJ tm aW i pb) ++ [(1257, aC pb), (1258, aH dJ tm tm), (1259, aH aT ah ah), (1260, aA i), (1261, .pointer (some ⟨aT, i, none⟩))]) (by kernel_rfl)
 refine eY HF (by kernel_rfl) (aX (sc i).name) (by kernel_rfl) (iE rfl rfl (by kernel_rfl) ((cell_of_row w aT i _ _ _ hnm).trans (hN i hi))) ?_
 clear HF; intro a HF; replace HF := HF.sub ((rX b o n c s fb big ak aj au ah aT sd dJ tm aW i pb) ++ [(1257, aC pb), (1258, aH dJ tm tm), (1259, aH aT ah ah), (1260, aA i), (1261, .pointer (some ⟨aT, i, none⟩)), (1262, aX (sc i).name)]) (by kernel_rfl)
 refine wp_pure HF HM rfl 1 [] ((rX b o n c s fb big ak aj au ah aT sd dJ tm aW i pb) ++ [(1257, aC pb), (1258, aH dJ tm tm), (1263, ay (IntKind.i64.wrap (((sc i).name : Nat) : Int)))]) (by kernel_rfl) ?_
 clear HF; intro a HF
 rw [show IntKind.i64.wrap (((sc i).name : Nat) : Int) = (((sc i).name : Nat) : Int) from IntWalk.i64_in _ (by omega)] at HF
 refine bn HF (by kernel_rfl) 91 #[aH dJ tm tm, aA (sc i).name] (by kernel_rfl) (fun w => by kernel_rfl) (Calls.mono (z_ (some ⟨dJ, 0, none⟩) Y tm tm (((sc i).name : Nat) : Int) hY (Nat.le_refl _) uN w (qC htb)) ?_)
 rintro _ w1 ⟨rfl, hq⟩
 obtain rfl : w1 = w := hq.symm
 rw [show yt Y (((sc i).name : Nat) : Int) = some (nb i) from (if_neg (by omega)).trans hstr]
 refine ⟨_, rfl, ?_⟩; clear HF; intro a HF; replace HF := HF.sub ((rX b o n c s fb big ak aj au ah aT sd dJ tm aW i pb) ++ [(1257, aC pb), (1258, aH dJ tm tm), (1263, aA (sc i).name), (1264, .tuple #[.string ⟨(nb i).toArray⟩, .bool true])]) (by kernel_rfl)
 refine aO HF HM rfl 8 [[0]] ((kR b o n c s fb big ak aj au ah aT sd dJ tm aW) ++ [(1251, aA i), (54, aA i), (55, aC pb), (56, .bool true)]) [xM pb nb i sc sb] (by kernel_rfl) ?_
 clear HF HM; intro a w HF HM
 refine aI ?_
 refine wp_seq (wp_region_lit ?_)
 refine aO HF HM rfl 2 [] ((kR b o n c s fb big ak aj au ah aT sd dJ tm aW) ++ [(1251, aA i), (54, aA i), (55, aC pb), (56, .bool true), (1271, .bool false)]) [xM pb nb i sc sb] (by kernel_rfl) ?_
 clear HF HM; intro a w HF HM
 refine aI ?_
 refine aZ HF rfl ?_
 refine wp_skip ?_
 repeat (first | refine aQ ?_ | refine aU ?_)
 replace HF := HF.sub ((kR b o n c s fb big ak aj au ah aT sd dJ tm aW) ++ [(1251, aA i)]) (by kernel_rfl)
 refine wp_region_lit ?_
 refine aO HF HM rfl 1 [] ((kR b o n c s fb big ak aj au ah aT sd dJ tm aW) ++ [(1251, aA i), (1285, ay (IntKind.i64.wrap (((i : Nat) : Int) + 1)))]) [xM pb nb i sc sb] (by kernel_rfl) ?_
 clear HF HM; intro a w HF HM
 rw [show IntKind.i64.wrap (((i : Nat) : Int) + 1) = (((i + 1) : Nat) : Int) from (IntWalk.i64_in _ (by omega)).trans (by omega)] at HF
 refine aO HF HM rfl 1 [] ((kR b o n c s fb big ak aj au ah aT sd dJ tm aW) ++ [(1251, aA (i + 1))]) [xM pb nb i sc sb] (by kernel_rfl) ?_
 clear HF HM; intro a w HF HM
 refine wpList_nil ?_
 repeat (first | refine aQ ?_ | refine aU ?_)
 replace HF := HF.sub ((kR b o n c s fb big ak aj au ah aT sd dJ tm aW) ++ [(1251, aA (i + 1))]) (by kernel_rfl)
 exact K a w HM.keep (HM.get (i := 0) rfl) HF

abbrev kQ := fun (b : Nat) (o : Nat) (n : Nat) (c : Nat) (s : Nat) (fb : Nat) (big : Bool) (ak : Nat) (aj : Nat) (au : Nat) (ah : Nat) (aT : Nat) (sd : Nat) (dJ : Nat) (tm : Nat) (aW : Nat) => ([(0, .iface 178 (.slice (some ⟨b, o, none⟩) n c)), (4, aC s), (8, aC fb), (9, (aP big)), (10, aA ak), (11, ay 56), (12, aA aj), (13, aA au), (14, ay 64), (15, aA ah), (16, aA (ah - 1)), (26, ay 64), (41, aH aT ah ah), (42, aH sd (ah * 64) (ah * 64)), (53, aH dJ tm tm), (1249, aH aW ah ah), (1250, aA ah)] : Slots)
abbrev rW := fun (b : Nat) (o : Nat) (n : Nat) (c : Nat) (s : Nat) (fb : Nat) (big : Bool) (ak : Nat) (aj : Nat) (au : Nat) (ah : Nat) (aT : Nat) (sd : Nat) (dJ : Nat) (tm : Nat) (aW : Nat) (i : Nat) (pb : Nat) => ((kQ b o n c s fb big ak aj au ah aT sd dJ tm aW) ++ [(1251, aA i), (54, aA i), (55, aC pb), (56, .bool false)] : Slots)
abbrev xK := fun (pb : Nat) (nb : Nat → List UInt8) (i : Nat) (sc : Nat → iM) (sb : Nat) => ((pb, .cells #[.string ⟨(nb i).toArray⟩, aX (sc i).ty, aX (sc i).flags, aJ (sc i).addr, aJ (sc i).off, aJ (sc i).bH, aX (sc i).link, aX (sc i).info, aJ (sc i).align, aJ (sc i).ent, aJ (sc i).bH, .iface 144 (aC sb), aC sb, ay 0, ay 0] 153 (0, 0)) : Nat × Obj)
theorem NM (l : List UInt8) (b o n c : Nat) (hl : n = l.length) (hnc : n ≤ c) (big : Bool) (ak aj au ah : Nat) (b7 : ah < 200) (sc : Nat → iM) (nb : Nat → List UInt8) (Y : List UInt8) (tm : Nat) (hY : tm = Y.length) (uN : tm ≤ maxLen) (i : Nat) (hi : i < ah) (hv : (sc i).name < 4294967296) (hstr : mD Y (sc i).name = some (nb i)) (s fb pg aW aT sd dJ pb sb : Nat) (cur nms : Array Value) {K0 : Act → World → Prop} {Q : Exit → Act → World → Prop} (a : Act) (W1 : World)
  (hc : cur[i]? = some (aC pb)) (hN : kF sc ah nms) (LH : W1.heap[aW]? = some (.cells cur 133 (0, 0))) (LK : W1.heap[aT]? = some (.cells nms 36 (0, 0))) (LD : W1.heap[dJ]? = some (.cells (Y.map Bv).toArray 5 (0, 0))) (hpb : W1.heap[pb]? = some (.cells #[.string ⟨#[]⟩, aX (sc i).ty, aX (sc i).flags, aJ (sc i).addr, aJ (sc i).off, aJ (sc i).bH, aX (sc i).link, aX (sc i).info, aJ (sc i).align, aJ (sc i).ent, aJ (sc i).bH, .iface 144 (aC sb), aC sb, ay 0, ay 0] 153 (0, 0))) (HF : Fr 1287 a ((kQ b o n c s fb big ak aj au ah aT sd dJ tm aW) ++ [(1251, aA i)]))
  (K : ∀ a w', Keep [pb] W1 w' → w'.heap[pb]? = some (.cells #[.string ⟨(nb i).toArray⟩, aX (sc i).ty, aX (sc i).flags, aJ (sc i).addr, aJ (sc i).off, aJ (sc i).bH, aX (sc i).link, aX (sc i).info, aJ (sc i).align, aJ (sc i).ent, aJ (sc i).bH, .iface 144 (aC sb), aC sb, ay 0, ay 0] 153 (0, 0)) → Fr 1287 a ((kQ b o n c s fb big ak aj au ah aT sd dJ tm aW) ++ [(1251, aA (i + 1))]) → K0 a w') : (oG (spine Tryd.f78 51)).wp Tryd.prog (Exit.then K0 Q) a W1 := by
 obtain ⟨i0, his, hss⟩ := BO
 obtain ⟨i1, hiu, hsu⟩ := FU
 obtain ⟨w, hw⟩ : ∃ w, W1 = w := ⟨_, rfl⟩
 have HM : Mm [pb] W1 w [(pb, .cells #[.string ⟨#[]⟩, aX (sc i).ty, aX (sc i).flags, aJ (sc i).addr, aJ (sc i).off, aJ (sc i).bH, aX (sc i).link, aX (sc i).info, aJ (sc i).align, aJ (sc i).ent, aJ (sc i).bH, .iface 144 (aC sb), aC sb, ay 0, ay 0] 153 (0, 0))] := hw ▸ Mm.yu hpb
 have hsg := hw ▸ LH
 have hnm := hw ▸ LK
 have htb := hw ▸ LD
 conv => arg 5; rw [hw]
 clear hw
 refine wp_seq (wp_region_lit ?_)
 refine wp_pure HF HM rfl 1 [] ((kQ b o n c s fb big ak aj au ah aT sd dJ tm aW) ++ [(1251, aA i), (1252, .bool (decide (((i : Nat) : Int) < ((ah : Nat) : Int))))]) (by kernel_rfl) ?_
 clear HF; intro a HF
 rw [show decide (((i : Nat) : Int) < ((ah : Nat) : Int)) = true from fC (by omega)] at HF
 refine aI ?_
 refine wp_seq ?_
 refine bF HF rfl ?_
 refine wp_skip ?_
 repeat (first | refine aQ ?_ | refine aU ?_)
 replace HF := HF.sub ((kQ b o n c s fb big ak aj au ah aT sd dJ tm aW) ++ [(1251, aA i)]) (by kernel_rfl)
 refine wp_seq (wp_block ?_)
 refine wp_seq (wp_region_lit ?_)
 refine wp_pure HF HM rfl 1 [] ((kQ b o n c s fb big ak aj au ah aT sd dJ tm aW) ++ [(1251, aA i), (1253, aA i)]) (by kernel_rfl) ?_
 clear HF; intro a HF
 refine eY HF (by kernel_rfl) (.pointer (some ⟨aW, i, none⟩)) (by kernel_rfl) (rO (t := 126) Tryd.underlying126 his hss rfl i rfl rfl (by omega)) ?_
 clear HF; intro a HF; replace HF := HF.sub ((kQ b o n c s fb big ak aj au ah aT sd dJ tm aW) ++ [(1251, aA i), (1253, aA i), (1254, .pointer (some ⟨aW, i, none⟩))]) (by kernel_rfl)
 refine eY HF (by kernel_rfl) (aC pb) (by kernel_rfl) (iE rfl rfl (by kernel_rfl) ((cell_of_row w aW i _ _ _ hsg).trans hc)) ?_
 clear HF; intro a HF; replace HF := HF.sub ((kQ b o n c s fb big ak aj au ah aT sd dJ tm aW) ++ [(1251, aA i), (1253, aA i), (1254, .pointer (some ⟨aW, i, none⟩)), (1255, aC pb)]) (by kernel_rfl)
 refine wp_pure HF HM rfl 2 [] ((kQ b o n c s fb big ak aj au ah aT sd dJ tm aW) ++ [(1251, aA i), (54, aA i), (55, aC pb)]) (by kernel_rfl) ?_
 clear HF; intro a HF
 refine aI ?_
 refine nG HF HM rfl [] (rW b o n c s fb big ak aj au ah aT sd dJ tm aW i pb) (by kernel_rfl) ?_
 clear HF; intro a HF
 refine wp_seq (wp_region_lit ?_)
 refine wp_pure HF HM rfl 4 [] ((rW b o n c s fb big ak aj au ah aT sd dJ tm aW i pb) ++ [(1257, aC pb), (1258, aH dJ tm tm), (1259, aH aT ah ah), (1260, aA i)]) (by kernel_rfl) ?_
 clear HF; intro a HF
 refine eY HF (by kernel_rfl) (.pointer (some ⟨aT, i, none⟩)) (by kernel_rfl) (rO (t := 222) Tryd.underlying222 hiu hsu rfl i rfl rfl (by omega)) ?_
 clear HF; intro a HF; replace HF := HF.sub ((rW b o n c s fb big ak aj au ah aT sd dJ tm aW i pb) ++ [(1257, aC pb), (1258, aH dJ tm tm), (1259, aH aT ah ah), (1260, aA i), (1261, .pointer (some ⟨aT, i, none⟩))]) (by kernel_rfl)
 refine eY HF (by kernel_rfl) (aX (sc i).name) (by kernel_rfl) (iE rfl rfl (by kernel_rfl) ((cell_of_row w aT i _ _ _ hnm).trans (hN i hi))) ?_
 clear HF; intro a HF; replace HF := HF.sub ((rW b o n c s fb big ak aj au ah aT sd dJ tm aW i pb) ++ [(1257, aC pb), (1258, aH dJ tm tm), (1259, aH aT ah ah), (1260, aA i), (1261, .pointer (some ⟨aT, i, none⟩)), (1262, aX (sc i).name)]) (by kernel_rfl)
 refine wp_pure HF HM rfl 1 [] ((rW b o n c s fb big ak aj au ah aT sd dJ tm aW i pb) ++ [(1257, aC pb), (1258, aH dJ tm tm), (1263, ay (IntKind.i64.wrap (((sc i).name : Nat) : Int)))]) (by kernel_rfl) ?_
 clear HF; intro a HF
 rw [show IntKind.i64.wrap (((sc i).name : Nat) : Int) = (((sc i).name : Nat) : Int) from IntWalk.i64_in _ (by omega)] at HF
 refine bn HF (by kernel_rfl) 91 #[aH dJ tm tm, aA (sc i).name] (by kernel_rfl) (fun w => by kernel_rfl) (Calls.mono (z_ (some ⟨dJ, 0, none⟩) Y tm tm (((sc i).name : Nat) : Int) hY (Nat.le_refl _) uN w (qC htb)) ?_)
 rintro _ w1 ⟨rfl, hq⟩
 obtain rfl : w1 = w := hq.symm
 rw [show yt Y (((sc i).name : Nat) : Int) = some (nb i) from (if_neg (by omega)).trans hstr]
 refine ⟨_, rfl, ?_⟩; clear HF; intro a HF; replace HF := HF.sub ((rW b o n c s fb big ak aj au ah aT sd dJ tm aW i pb) ++ [(1257, aC pb), (1258, aH dJ tm tm), (1263, aA (sc i).name), (1264, .tuple #[.string ⟨(nb i).toArray⟩, .bool true])]) (by kernel_rfl)
 refine aO HF HM rfl 8 [[0]] ((kQ b o n c s fb big ak aj au ah aT sd dJ tm aW) ++ [(1251, aA i), (54, aA i), (55, aC pb), (56, .bool true)]) [xK pb nb i sc sb] (by kernel_rfl) ?_
 clear HF HM; intro a w HF HM
 refine aI ?_
 refine wp_seq (wp_region_lit ?_)
 refine aO HF HM rfl 2 [] ((kQ b o n c s fb big ak aj au ah aT sd dJ tm aW) ++ [(1251, aA i), (54, aA i), (55, aC pb), (56, .bool true), (1271, .bool false)]) [xK pb nb i sc sb] (by kernel_rfl) ?_
 clear HF HM; intro a w HF HM
 refine aI ?_
 refine aZ HF rfl ?_
 refine wp_skip ?_
 repeat (first | refine aQ ?_ | refine aU ?_)
 replace HF := HF.sub ((kQ b o n c s fb big ak aj au ah aT sd dJ tm aW) ++ [(1251, aA i)]) (by kernel_rfl)
 refine wp_region_lit ?_
 refine aO HF HM rfl 1 [] ((kQ b o n c s fb big ak aj au ah aT sd dJ tm aW) ++ [(1251, aA i), (1285, ay (IntKind.i64.wrap (((i : Nat) : Int) + 1)))]) [xK pb nb i sc sb] (by kernel_rfl) ?_
 clear HF HM; intro a w HF HM
 rw [show IntKind.i64.wrap (((i : Nat) : Int) + 1) = (((i + 1) : Nat) : Int) from (IntWalk.i64_in _ (by omega)).trans (by omega)] at HF
 refine aO HF HM rfl 1 [] ((kQ b o n c s fb big ak aj au ah aT sd dJ tm aW) ++ [(1251, aA (i + 1))]) [xK pb nb i sc sb] (by kernel_rfl) ?_
 clear HF HM; intro a w HF HM
 refine wpList_nil ?_
 repeat (first | refine aQ ?_ | refine aU ?_)
 replace HF := HF.sub ((kQ b o n c s fb big ak aj au ah aT sd dJ tm aW) ++ [(1251, aA (i + 1))]) (by kernel_rfl)
 exact K a w HM.keep (HM.get (i := 0) rfl) HF

end Go.Proofs.YtdgehpocmfjbiaaDoor
namespace Go.Proofs.YtdgehpocmfjbiaaDoor
open Go.RowKit


theorem Na (l : List UInt8) (b o n c : Nat) (hl : n = l.length) (hnc : n ≤ c) (big : Bool) (abi aF aS aG aB ak aj au ah : Nat) (dat : Int) (b7 : ah < 200) (X : List UInt8) (sc : Nat → iM) (bd : ∀ i, i < ah → rD (sc i)) (nb : Nat → List UInt8) (Y : List UInt8) (tm : Nat) (hY : tm = Y.length) (uN : tm ≤ maxLen) (hstr : ∀ i, i < ah → mD Y (sc i).name = some (nb i)) (G : List Nat) (w0 : World) (s fb pg aW aT sd dJ : Nat) (cur nms : Array Value) (hN : kF sc ah nms) (hD : mJ ah cur) {KK : Act → World → Prop} {QQ : Exit → Act → World → Prop} {KR : Act → World → Prop} (K : ∀ a w, iy b o n c w0.heap.size w sc (fun j => if j < ah then ⟨(nb j).toArray⟩ else ⟨#[]⟩) ah cur → Fr 1287 a [(0, .iface 178 (.slice (some ⟨b, o, none⟩) n c)), (4, aC s), (8, aC fb), (9, (aP big)), (10, aA ak), (11, .int .i64 32), (12, aA aj), (13, aA au), (14, .int .i64 40), (15, aA ah), (16, aA (ah - 1)), (26, .int .i64 40), (41, aH aT ah ah), (42, aH sd (ah * 40) (ah * 40)), (53, aH dJ tm tm)] → Mm G w0 w [(dJ, .cells (Y.map Bv).toArray 5 (0, 0)), (sd, .cells (X.map Bv).toArray 5 (0, 0)), (aT, .cells nms 36 (0, 0)), (aW, .cells cur 133 (0, 0)), (fb, .cells #[.int .u8 1, .int .u8 dat, .int .u8 1, aV abi, aV aF, (aP big), bf aS, bf aG, aJ aB, aH aW ah ah, aH pg aj aj, .slice none 0 0, .slice none 0 0, .slice none 0 0] 131 (0, 0)), (s, .cells #[.iface 178 (.slice (some ⟨b, o, none⟩) n c), .int .i64 0, .int .i64 0, .int .i64 9223372036854775807, .int .i64 9223372036854775807] 246 (0, 0))] → KK a w) (a : Act) (w : World) (hP : iy b o n c w0.heap.size w sc (fun j => if j < ah then ⟨(nb j).toArray⟩ else ⟨#[]⟩) ah cur) (HF : Fr 1287 a [(0, .iface 178 (.slice (some ⟨b, o, none⟩) n c)), (4, aC s), (8, aC fb), (9, (aP big)), (10, aA ak), (11, .int .i64 32), (12, aA aj), (13, aA au), (14, .int .i64 40), (15, aA ah), (16, aA (ah - 1)), (26, .int .i64 40), (41, aH aT ah ah), (42, aH sd (ah * 40) (ah * 40)), (53, aH dJ tm tm), (1249, aH aW ah ah), (1250, aA ah), (1251, aA ah)]) (HM : Mm G w0 w [(dJ, .cells (Y.map Bv).toArray 5 (0, 0)), (sd, .cells (X.map Bv).toArray 5 (0, 0)), (aT, .cells nms 36 (0, 0)), (aW, .cells cur 133 (0, 0)), (fb, .cells #[.int .u8 1, .int .u8 dat, .int .u8 1, aV abi, aV aF, (aP big), bf aS, bf aG, aJ aB, aH aW ah ah, aH pg aj aj, .slice none 0 0, .slice none 0 0, .slice none 0 0] 131 (0, 0)), (s, .cells #[.iface 178 (.slice (some ⟨b, o, none⟩) n c), .int .i64 0, .int .i64 0, .int .i64 9223372036854775807, .int .i64 9223372036854775807] 246 (0, 0))]) :
  (oG (spine Tryd.f78 51)).wp Tryd.prog (Exit.then KR (Exit.inBlock 12 (Exit.then KK QQ))) a w := by
 refine wp_seq (wp_region_lit ?_)
 refine wp_pure HF HM rfl 1 [] [(0, .iface 178 (.slice (some ⟨b, o, none⟩) n c)), (4, aC s), (8, aC fb), (9, (aP big)), (10, aA ak), (11, .int .i64 32), (12, aA aj), (13, aA au), (14, .int .i64 40), (15, aA ah), (16, aA (ah - 1)), (26, .int .i64 40), (41, aH aT ah ah), (42, aH sd (ah * 40) (ah * 40)), (53, aH dJ tm tm), (1249, aH aW ah ah), (1250, aA ah), (1251, aA ah), (1252, .bool (decide (((ah : Nat) : Int) < ((ah : Nat) : Int))))] (by kernel_rfl) ?_
 clear HF; intro a HF
 rw [show decide (((ah : Nat) : Int) < ((ah : Nat) : Int)) = false from dI (by omega)] at HF
 refine aI ?_
 refine wp_seq ?_
 refine aZ HF rfl ?_
 replace HF := HF.sub [(0, .iface 178 (.slice (some ⟨b, o, none⟩) n c)), (4, aC s), (8, aC fb), (9, (aP big)), (10, aA ak), (11, .int .i64 32), (12, aA aj), (13, aA au), (14, .int .i64 40), (15, aA ah), (16, aA (ah - 1)), (26, .int .i64 40), (41, aH aT ah ah), (42, aH sd (ah * 40) (ah * 40)), (53, aH dJ tm tm), (1249, aH aW ah ah), (1250, aA ah), (1251, aA ah)] (by kernel_rfl)
 refine wp_exit ?_
 repeat (first | refine iW ?_ | refine kL ?_ | refine aQ ?_)
 replace HF := HF.sub [(0, .iface 178 (.slice (some ⟨b, o, none⟩) n c)), (4, aC s), (8, aC fb), (9, (aP big)), (10, aA ak), (11, .int .i64 32), (12, aA aj), (13, aA au), (14, .int .i64 40), (15, aA ah), (16, aA (ah - 1)), (26, .int .i64 40), (41, aH aT ah ah), (42, aH sd (ah * 40) (ah * 40)), (53, aH dJ tm tm)] (by kernel_rfl)
 exact K a _ hP HF HM
theorem Iu (l : List UInt8) (b o n c : Nat) (hl : n = l.length) (hnc : n ≤ c) (big : Bool) (abi aF aS aG aB ak aj au ah : Nat) (dat : Int) (b7 : ah < 200) (X : List UInt8) (sc : Nat → iM) (bd : ∀ i, i < ah → rD (sc i)) (nb : Nat → List UInt8) (Y : List UInt8) (tm : Nat) (hY : tm = Y.length) (uN : tm ≤ maxLen) (hstr : ∀ i, i < ah → mD Y (sc i).name = some (nb i)) (G : List Nat) (w0 : World) (s fb pg aW aT sd dJ : Nat) (cur nms : Array Value) (hN : kF sc ah nms) (hD : mJ ah cur) {KK : Act → World → Prop} {QQ : Exit → Act → World → Prop} (K : ∀ a w, iy b o n c w0.heap.size w sc (fun j => if j < ah then ⟨(nb j).toArray⟩ else ⟨#[]⟩) ah cur → Fr 1287 a [(0, .iface 178 (.slice (some ⟨b, o, none⟩) n c)), (4, aC s), (8, aC fb), (9, (aP big)), (10, aA ak), (11, .int .i64 32), (12, aA aj), (13, aA au), (14, .int .i64 40), (15, aA ah), (16, aA (ah - 1)), (26, .int .i64 40), (41, aH aT ah ah), (42, aH sd (ah * 40) (ah * 40)), (53, aH dJ tm tm)] → Mm G w0 w [(dJ, .cells (Y.map Bv).toArray 5 (0, 0)), (sd, .cells (X.map Bv).toArray 5 (0, 0)), (aT, .cells nms 36 (0, 0)), (aW, .cells cur 133 (0, 0)), (fb, .cells #[.int .u8 1, .int .u8 dat, .int .u8 1, aV abi, aV aF, (aP big), bf aS, bf aG, aJ aB, aH aW ah ah, aH pg aj aj, .slice none 0 0, .slice none 0 0, .slice none 0 0] 131 (0, 0)), (s, .cells #[.iface 178 (.slice (some ⟨b, o, none⟩) n c), .int .i64 0, .int .i64 0, .int .i64 9223372036854775807, .int .i64 9223372036854775807] 246 (0, 0))] → KK a w) :
  ∀ (r i : Nat), i + r = ah → ∀ (a : Act) (w : World), iy b o n c w0.heap.size w sc (fun j => if j < i then ⟨(nb j).toArray⟩ else ⟨#[]⟩) ah cur → Fr 1287 a [(0, .iface 178 (.slice (some ⟨b, o, none⟩) n c)), (4, aC s), (8, aC fb), (9, (aP big)), (10, aA ak), (11, .int .i64 32), (12, aA aj), (13, aA au), (14, .int .i64 40), (15, aA ah), (16, aA (ah - 1)), (26, .int .i64 40), (41, aH aT ah ah), (42, aH sd (ah * 40) (ah * 40)), (53, aH dJ tm tm), (1249, aH aW ah ah), (1250, aA ah), (1251, aA i)] → Mm G w0 w [(dJ, .cells (Y.map Bv).toArray 5 (0, 0)), (sd, .cells (X.map Bv).toArray 5 (0, 0)), (aT, .cells nms 36 (0, 0)), (aW, .cells cur 133 (0, 0)), (fb, .cells #[.int .u8 1, .int .u8 dat, .int .u8 1, aV abi, aV aF, (aP big), bf aS, bf aG, aJ aB, aH aW ah ah, aH pg aj aj, .slice none 0 0, .slice none 0 0, .slice none 0 0] 131 (0, 0)), (s, .cells #[.iface 178 (.slice (some ⟨b, o, none⟩) n c), .int .i64 0, .int .i64 0, .int .i64 9223372036854775807, .int .i64 9223372036854775807] 246 (0, 0))] →
  Code.rounds Tryd.prog (oG (spine Tryd.f78 51)) (Exit.inBlock 12 (Exit.then KK QQ)) (r + 1) a w
 | 0, i, hr, a, w, hP, HF, HM => by
  obtain rfl : i = ah := by omega
  rw [rounds_succ]
  exact Na l b o n c hl hnc big abi aF aS aG aB ak aj au i dat b7 X sc bd nb Y tm hY uN hstr G w0 s fb pg aW aT sd dJ cur nms hN hD K a w hP HF HM
 | r + 1, i, hr, a, w, hP, HF, HM => by
  have hi : i < ah := by omega
  rw [rounds_succ]
  obtain ⟨pb, sb, g1, g2, g3, g4, g5⟩ := hP i hi
  simp only [Nat.lt_irrefl, ↓reduceIte] at g4
  refine NP l b o n c hl hnc big ak aj au ah b7 sc nb Y tm hY uN i hi (bd i hi).v1 (hstr i hi) s fb pg aW aT sd dJ pb sb cur nms a w g1 hN (HM.get (i := 3) rfl) (HM.get (i := 2) rfl) (HM.get (i := 0) rfl) g4 HF ?_
  intro a' w' hk hn BK
  have bU : Mm G w0 w' [(dJ, .cells (Y.map Bv).toArray 5 (0, 0)), (sd, .cells (X.map Bv).toArray 5 (0, 0)), (aT, .cells nms 36 (0, 0)), (aW, .cells cur 133 (0, 0)), (fb, .cells #[.int .u8 1, .int .u8 dat, .int .u8 1, aV abi, aV aF, (aP big), bf aS, bf aG, aJ aB, aH aW ah ah, aH pg aj aj, .slice none 0 0, .slice none 0 0, .slice none 0 0] 131 (0, 0)), (s, .cells #[.iface 178 (.slice (some ⟨b, o, none⟩) n c), .int .i64 0, .int .i64 0, .int .i64 9223372036854775807, .int .i64 9223372036854775807] 246 (0, 0))] := HM.after hk (by
   intro g hg
   simp only [List.mem_cons, List.not_mem_nil, or_false] at hg
   subst hg
   exact .inl g2) rfl (by
   intro p hp
   simp only [List.mem_cons, List.not_mem_nil, or_false] at hp
   rcases hp with rfl | rfl | rfl | rfl | rfl | rfl
   ·exact (hk.block dJ (HM.lt (i := 0) rfl) (by simpa using cu (HM.get (i := 0) rfl) g4 (by decide))).trans (HM.get (i := 0) rfl)
   ·exact (hk.block sd (HM.lt (i := 1) rfl) (by simpa using cu (HM.get (i := 1) rfl) g4 (by decide))).trans (HM.get (i := 1) rfl)
   ·exact (hk.block aT (HM.lt (i := 2) rfl) (by simpa using cu (HM.get (i := 2) rfl) g4 (by decide))).trans (HM.get (i := 2) rfl)
   ·exact (hk.block aW (HM.lt (i := 3) rfl) (by simpa using cu (HM.get (i := 3) rfl) g4 (by decide))).trans (HM.get (i := 3) rfl)
   ·exact (hk.block fb (HM.lt (i := 4) rfl) (by simpa using cu (HM.get (i := 4) rfl) g4 (by decide))).trans (HM.get (i := 4) rfl)
   ·exact (hk.block s (HM.lt (i := 5) rfl) (by simpa using cu (HM.get (i := 5) rfl) g4 (by decide))).trans (HM.get (i := 5) rfl))
  exact Iu l b o n c hl hnc big abi aF aS aG aB ak aj au ah dat b7 X sc bd nb Y tm hY uN hstr G w0 s fb pg aW aT sd dJ cur nms hN hD K r (i + 1) (by omega) a' w' (hP.named hD hi g1 g4 hk hn) BK bU

theorem Kq (l : List UInt8) (b o n c : Nat) (hl : n = l.length) (hnc : n ≤ c) (big : Bool) (abi aF aS aG aB ak aj au ah : Nat) (dat : Int) (b7 : ah < 200) (X : List UInt8) (sc : Nat → iM) (bd : ∀ i, i < ah → rD (sc i)) (nb : Nat → List UInt8) (Y : List UInt8) (tm : Nat) (hY : tm = Y.length) (uN : tm ≤ maxLen) (hstr : ∀ i, i < ah → mD Y (sc i).name = some (nb i)) (G : List Nat) (w0 : World) (s fb pg aW aT sd dJ : Nat) (cur nms : Array Value) (hN : kF sc ah nms) (hD : mJ ah cur) {Q : Exit → Act → World → Prop} (a : Act) (w : World) (hP : iy b o n c w0.heap.size w sc (fun _ => ⟨#[]⟩) ah cur) (HF : Fr 1287 a [(0, .iface 178 (.slice (some ⟨b, o, none⟩) n c)), (4, aC s), (8, aC fb), (9, (aP big)), (10, aA ak), (11, .int .i64 32), (12, aA aj), (13, aA au), (14, .int .i64 40), (15, aA ah), (16, aA (ah - 1)), (26, .int .i64 40), (41, aH aT ah ah), (42, aH sd (ah * 40) (ah * 40)), (53, aH dJ tm tm)]) (HM : Mm G w0 w [(dJ, .cells (Y.map Bv).toArray 5 (0, 0)), (sd, .cells (X.map Bv).toArray 5 (0, 0)), (aT, .cells nms 36 (0, 0)), (aW, .cells cur 133 (0, 0)), (fb, .cells #[.int .u8 1, .int .u8 dat, .int .u8 1, aV abi, aV aF, (aP big), bf aS, bf aG, aJ aB, aH aW ah ah, aH pg aj aj, .slice none 0 0, .slice none 0 0, .slice none 0 0] 131 (0, 0)), (s, .cells #[.iface 178 (.slice (some ⟨b, o, none⟩) n c), .int .i64 0, .int .i64 0, .int .i64 9223372036854775807, .int .i64 9223372036854775807] 246 (0, 0))])
  (K : ∀ a w, iy b o n c w0.heap.size w sc (fun j => if j < ah then ⟨(nb j).toArray⟩ else ⟨#[]⟩) ah cur → Fr 1287 a [(0, .iface 178 (.slice (some ⟨b, o, none⟩) n c)), (4, aC s), (8, aC fb), (9, (aP big)), (10, aA ak), (11, .int .i64 32), (12, aA aj), (13, aA au), (14, .int .i64 40), (15, aA ah), (16, aA (ah - 1)), (26, .int .i64 40), (41, aH aT ah ah), (42, aH sd (ah * 40) (ah * 40)), (53, aH dJ tm tm)] → Mm G w0 w [(dJ, .cells (Y.map Bv).toArray 5 (0, 0)), (sd, .cells (X.map Bv).toArray 5 (0, 0)), (aT, .cells nms 36 (0, 0)), (aW, .cells cur 133 (0, 0)), (fb, .cells #[.int .u8 1, .int .u8 dat, .int .u8 1, aV abi, aV aF, (aP big), bf aS, bf aG, aJ aB, aH aW ah ah, aH pg aj aj, .slice none 0 0, .slice none 0 0, .slice none 0 0] 131 (0, 0)), (s, .cells #[.iface 178 (.slice (some ⟨b, o, none⟩) n c), .int .i64 0, .int .i64 0, .int .i64 9223372036854775807, .int .i64 9223372036854775807] 246 (0, 0))] → (spine Tryd.f78 52).wp Tryd.prog Q a w) : (spine Tryd.f78 51).wp Tryd.prog Q a w := by
 refine wp_seq (wp_seq (wp_region_lit ?_))
 refine wp_pure HF HM rfl 6 [[1], []] [(0, .iface 178 (.slice (some ⟨b, o, none⟩) n c)), (4, aC s), (8, aC fb), (9, (aP big)), (10, aA ak), (11, .int .i64 32), (12, aA aj), (13, aA au), (14, .int .i64 40), (15, aA ah), (16, aA (ah - 1)), (26, .int .i64 40), (41, aH aT ah ah), (42, aH sd (ah * 40) (ah * 40)), (53, aH dJ tm tm), (1249, aH aW ah ah), (1250, aA ah), (1251, aA 0)] (by kernel_rfl) ?_
 clear HF; intro a HF
 refine aI ?_
 refine wp_block (wp_loop_rounds (ah + 1) ?_)
 exact Iu l b o n c hl hnc big abi aF aS aG aB ak aj au ah dat b7 X sc bd nb Y tm hY uN hstr G w0 s fb pg aW aT sd dJ cur nms hN hD K ah 0 (by omega) a w (by simpa only [Nat.not_lt_zero, ↓reduceIte] using hP) HF HM

theorem M_ (l : List UInt8) (b o n c : Nat) (hl : n = l.length) (hnc : n ≤ c) (big : Bool) (abi aF aS aG aB ak aj au ah : Nat) (dat : Int) (b7 : ah < 200) (X : List UInt8) (sc : Nat → iM) (bd : ∀ i, i < ah → rD (sc i)) (nb : Nat → List UInt8) (Y : List UInt8) (tm : Nat) (hY : tm = Y.length) (uN : tm ≤ maxLen) (hstr : ∀ i, i < ah → mD Y (sc i).name = some (nb i)) (G : List Nat) (w0 : World) (s fb pg aW aT sd dJ : Nat) (cur nms : Array Value) (hN : kF sc ah nms) (hD : mJ ah cur) {KK : Act → World → Prop} {QQ : Exit → Act → World → Prop} {KR : Act → World → Prop} (K : ∀ a w, iy b o n c w0.heap.size w sc (fun j => if j < ah then ⟨(nb j).toArray⟩ else ⟨#[]⟩) ah cur → Fr 1287 a [(0, .iface 178 (.slice (some ⟨b, o, none⟩) n c)), (4, aC s), (8, aC fb), (9, (aP big)), (10, aA ak), (11, .int .i64 56), (12, aA aj), (13, aA au), (14, .int .i64 64), (15, aA ah), (16, aA (ah - 1)), (26, .int .i64 64), (41, aH aT ah ah), (42, aH sd (ah * 64) (ah * 64)), (53, aH dJ tm tm)] → Mm G w0 w [(dJ, .cells (Y.map Bv).toArray 5 (0, 0)), (sd, .cells (X.map Bv).toArray 5 (0, 0)), (aT, .cells nms 36 (0, 0)), (aW, .cells cur 133 (0, 0)), (fb, .cells #[.int .u8 2, .int .u8 dat, .int .u8 1, aV abi, aV aF, (aP big), bf aS, bf aG, aJ aB, aH aW ah ah, aH pg aj aj, .slice none 0 0, .slice none 0 0, .slice none 0 0] 131 (0, 0)), (s, .cells #[.iface 178 (.slice (some ⟨b, o, none⟩) n c), .int .i64 0, .int .i64 0, .int .i64 9223372036854775807, .int .i64 9223372036854775807] 246 (0, 0))] → KK a w) (a : Act) (w : World) (hP : iy b o n c w0.heap.size w sc (fun j => if j < ah then ⟨(nb j).toArray⟩ else ⟨#[]⟩) ah cur) (HF : Fr 1287 a [(0, .iface 178 (.slice (some ⟨b, o, none⟩) n c)), (4, aC s), (8, aC fb), (9, (aP big)), (10, aA ak), (11, .int .i64 56), (12, aA aj), (13, aA au), (14, .int .i64 64), (15, aA ah), (16, aA (ah - 1)), (26, .int .i64 64), (41, aH aT ah ah), (42, aH sd (ah * 64) (ah * 64)), (53, aH dJ tm tm), (1249, aH aW ah ah), (1250, aA ah), (1251, aA ah)]) (HM : Mm G w0 w [(dJ, .cells (Y.map Bv).toArray 5 (0, 0)), (sd, .cells (X.map Bv).toArray 5 (0, 0)), (aT, .cells nms 36 (0, 0)), (aW, .cells cur 133 (0, 0)), (fb, .cells #[.int .u8 2, .int .u8 dat, .int .u8 1, aV abi, aV aF, (aP big), bf aS, bf aG, aJ aB, aH aW ah ah, aH pg aj aj, .slice none 0 0, .slice none 0 0, .slice none 0 0] 131 (0, 0)), (s, .cells #[.iface 178 (.slice (some ⟨b, o, none⟩) n c), .int .i64 0, .int .i64 0, .int .i64 9223372036854775807, .int .i64 9223372036854775807] 246 (0, 0))]) :
  (oG (spine Tryd.f78 51)).wp Tryd.prog (Exit.then KR (Exit.inBlock 12 (Exit.then KK QQ))) a w := by
 refine wp_seq (wp_region_lit ?_)
 refine wp_pure HF HM rfl 1 [] [(0, .iface 178 (.slice (some ⟨b, o, none⟩) n c)), (4, aC s), (8, aC fb), (9, (aP big)), (10, aA ak), (11, .int .i64 56), (12, aA aj), (13, aA au), (14, .int .i64 64), (15, aA ah), (16, aA (ah - 1)), (26, .int .i64 64), (41, aH aT ah ah), (42, aH sd (ah * 64) (ah * 64)), (53, aH dJ tm tm), (1249, aH aW ah ah), (1250, aA ah), (1251, aA ah), (1252, .bool (decide (((ah : Nat) : Int) < ((ah : Nat) : Int))))] (by kernel_rfl) ?_
 clear HF; intro a HF
 rw [show decide (((ah : Nat) : Int) < ((ah : Nat) : Int)) = false from dI (by omega)] at HF
 refine aI ?_
 refine wp_seq ?_
 refine aZ HF rfl ?_
 replace HF := HF.sub [(0, .iface 178 (.slice (some ⟨b, o, none⟩) n c)), (4, aC s), (8, aC fb), (9, (aP big)), (10, aA ak), (11, .int .i64 56), (12, aA aj), (13, aA au), (14, .int .i64 64), (15, aA ah), (16, aA (ah - 1)), (26, .int .i64 64), (41, aH aT ah ah), (42, aH sd (ah * 64) (ah * 64)), (53, aH dJ tm tm), (1249, aH aW ah ah), (1250, aA ah), (1251, aA ah)] (by kernel_rfl)
 refine wp_exit ?_
 repeat (first | refine iW ?_ | refine kL ?_ | refine aQ ?_)
 replace HF := HF.sub [(0, .iface 178 (.slice (some ⟨b, o, none⟩) n c)), (4, aC s), (8, aC fb), (9, (aP big)), (10, aA ak), (11, .int .i64 56), (12, aA aj), (13, aA au), (14, .int .i64 64), (15, aA ah), (16, aA (ah - 1)), (26, .int .i64 64), (41, aH aT ah ah), (42, aH sd (ah * 64) (ah * 64)), (53, aH dJ tm tm)] (by kernel_rfl)
 exact K a _ hP HF HM
theorem Ir (l : List UInt8) (b o n c : Nat) (hl : n = l.length) (hnc : n ≤ c) (big : Bool) (abi aF aS aG aB ak aj au ah : Nat) (dat : Int) (b7 : ah < 200) (X : List UInt8) (sc : Nat → iM) (bd : ∀ i, i < ah → rD (sc i)) (nb : Nat → List UInt8) (Y : List UInt8) (tm : Nat) (hY : tm = Y.length) (uN : tm ≤ maxLen) (hstr : ∀ i, i < ah → mD Y (sc i).name = some (nb i)) (G : List Nat) (w0 : World) (s fb pg aW aT sd dJ : Nat) (cur nms : Array Value) (hN : kF sc ah nms) (hD : mJ ah cur) {KK : Act → World → Prop} {QQ : Exit → Act → World → Prop} (K : ∀ a w, iy b o n c w0.heap.size w sc (fun j => if j < ah then ⟨(nb j).toArray⟩ else ⟨#[]⟩) ah cur → Fr 1287 a [(0, .iface 178 (.slice (some ⟨b, o, none⟩) n c)), (4, aC s), (8, aC fb), (9, (aP big)), (10, aA ak), (11, .int .i64 56), (12, aA aj), (13, aA au), (14, .int .i64 64), (15, aA ah), (16, aA (ah - 1)), (26, .int .i64 64), (41, aH aT ah ah), (42, aH sd (ah * 64) (ah * 64)), (53, aH dJ tm tm)] → Mm G w0 w [(dJ, .cells (Y.map Bv).toArray 5 (0, 0)), (sd, .cells (X.map Bv).toArray 5 (0, 0)), (aT, .cells nms 36 (0, 0)), (aW, .cells cur 133 (0, 0)), (fb, .cells #[.int .u8 2, .int .u8 dat, .int .u8 1, aV abi, aV aF, (aP big), bf aS, bf aG, aJ aB, aH aW ah ah, aH pg aj aj, .slice none 0 0, .slice none 0 0, .slice none 0 0] 131 (0, 0)), (s, .cells #[.iface 178 (.slice (some ⟨b, o, none⟩) n c), .int .i64 0, .int .i64 0, .int .i64 9223372036854775807, .int .i64 9223372036854775807] 246 (0, 0))] → KK a w) :
  ∀ (r i : Nat), i + r = ah → ∀ (a : Act) (w : World), iy b o n c w0.heap.size w sc (fun j => if j < i then ⟨(nb j).toArray⟩ else ⟨#[]⟩) ah cur → Fr 1287 a [(0, .iface 178 (.slice (some ⟨b, o, none⟩) n c)), (4, aC s), (8, aC fb), (9, (aP big)), (10, aA ak), (11, .int .i64 56), (12, aA aj), (13, aA au), (14, .int .i64 64), (15, aA ah), (16, aA (ah - 1)), (26, .int .i64 64), (41, aH aT ah ah), (42, aH sd (ah * 64) (ah * 64)), (53, aH dJ tm tm), (1249, aH aW ah ah), (1250, aA ah), (1251, aA i)] → Mm G w0 w [(dJ, .cells (Y.map Bv).toArray 5 (0, 0)), (sd, .cells (X.map Bv).toArray 5 (0, 0)), (aT, .cells nms 36 (0, 0)), (aW, .cells cur 133 (0, 0)), (fb, .cells #[.int .u8 2, .int .u8 dat, .int .u8 1, aV abi, aV aF, (aP big), bf aS, bf aG, aJ aB, aH aW ah ah, aH pg aj aj, .slice none 0 0, .slice none 0 0, .slice none 0 0] 131 (0, 0)), (s, .cells #[.iface 178 (.slice (some ⟨b, o, none⟩) n c), .int .i64 0, .int .i64 0, .int .i64 9223372036854775807, .int .i64 9223372036854775807] 246 (0, 0))] →
  Code.rounds Tryd.prog (oG (spine Tryd.f78 51)) (Exit.inBlock 12 (Exit.then KK QQ)) (r + 1) a w
 | 0, i, hr, a, w, hP, HF, HM => by
  obtain rfl : i = ah := by omega
  rw [rounds_succ]
  exact M_ l b o n c hl hnc big abi aF aS aG aB ak aj au i dat b7 X sc bd nb Y tm hY uN hstr G w0 s fb pg aW aT sd dJ cur nms hN hD K a w hP HF HM
 | r + 1, i, hr, a, w, hP, HF, HM => by
  have hi : i < ah := by omega
  rw [rounds_succ]
  obtain ⟨pb, sb, g1, g2, g3, g4, g5⟩ := hP i hi
  simp only [Nat.lt_irrefl, ↓reduceIte] at g4
  refine NM l b o n c hl hnc big ak aj au ah b7 sc nb Y tm hY uN i hi (bd i hi).v1 (hstr i hi) s fb pg aW aT sd dJ pb sb cur nms a w g1 hN (HM.get (i := 3) rfl) (HM.get (i := 2) rfl) (HM.get (i := 0) rfl) g4 HF ?_
  intro a' w' hk hn BK
  have bU : Mm G w0 w' [(dJ, .cells (Y.map Bv).toArray 5 (0, 0)), (sd, .cells (X.map Bv).toArray 5 (0, 0)), (aT, .cells nms 36 (0, 0)), (aW, .cells cur 133 (0, 0)), (fb, .cells #[.int .u8 2, .int .u8 dat, .int .u8 1, aV abi, aV aF, (aP big), bf aS, bf aG, aJ aB, aH aW ah ah, aH pg aj aj, .slice none 0 0, .slice none 0 0, .slice none 0 0] 131 (0, 0)), (s, .cells #[.iface 178 (.slice (some ⟨b, o, none⟩) n c), .int .i64 0, .int .i64 0, .int .i64 9223372036854775807, .int .i64 9223372036854775807] 246 (0, 0))] := HM.after hk (by
   intro g hg
   simp only [List.mem_cons, List.not_mem_nil, or_false] at hg
   subst hg
   exact .inl g2) rfl (by
   intro p hp
   simp only [List.mem_cons, List.not_mem_nil, or_false] at hp
   rcases hp with rfl | rfl | rfl | rfl | rfl | rfl
   ·exact (hk.block dJ (HM.lt (i := 0) rfl) (by simpa using cu (HM.get (i := 0) rfl) g4 (by decide))).trans (HM.get (i := 0) rfl)
   ·exact (hk.block sd (HM.lt (i := 1) rfl) (by simpa using cu (HM.get (i := 1) rfl) g4 (by decide))).trans (HM.get (i := 1) rfl)
   ·exact (hk.block aT (HM.lt (i := 2) rfl) (by simpa using cu (HM.get (i := 2) rfl) g4 (by decide))).trans (HM.get (i := 2) rfl)
   ·exact (hk.block aW (HM.lt (i := 3) rfl) (by simpa using cu (HM.get (i := 3) rfl) g4 (by decide))).trans (HM.get (i := 3) rfl)
   ·exact (hk.block fb (HM.lt (i := 4) rfl) (by simpa using cu (HM.get (i := 4) rfl) g4 (by decide))).trans (HM.get (i := 4) rfl)
   ·exact (hk.block s (HM.lt (i := 5) rfl) (by simpa using cu (HM.get (i := 5) rfl) g4 (by decide))).trans (HM.get (i := 5) rfl))
  exact Ir l b o n c hl hnc big abi aF aS aG aB ak aj au ah dat b7 X sc bd nb Y tm hY uN hstr G w0 s fb pg aW aT sd dJ cur nms hN hD K r (i + 1) (by omega) a' w' (hP.named hD hi g1 g4 hk hn) BK bU

theorem Ko (l : List UInt8) (b o n c : Nat) (hl : n = l.length) (hnc : n ≤ c) (big : Bool) (abi aF aS aG aB ak aj au ah : Nat) (dat : Int) (b7 : ah < 200) (X : List UInt8) (sc : Nat → iM) (bd : ∀ i, i < ah → rD (sc i)) (nb : Nat → List UInt8) (Y : List UInt8) (tm : Nat) (hY : tm = Y.length) (uN : tm ≤ maxLen) (hstr : ∀ i, i < ah → mD Y (sc i).name = some (nb i)) (G : List Nat) (w0 : World) (s fb pg aW aT sd dJ : Nat) (cur nms : Array Value) (hN : kF sc ah nms) (hD : mJ ah cur) {Q : Exit → Act → World → Prop} (a : Act) (w : World) (hP : iy b o n c w0.heap.size w sc (fun _ => ⟨#[]⟩) ah cur) (HF : Fr 1287 a [(0, .iface 178 (.slice (some ⟨b, o, none⟩) n c)), (4, aC s), (8, aC fb), (9, (aP big)), (10, aA ak), (11, .int .i64 56), (12, aA aj), (13, aA au), (14, .int .i64 64), (15, aA ah), (16, aA (ah - 1)), (26, .int .i64 64), (41, aH aT ah ah), (42, aH sd (ah * 64) (ah * 64)), (53, aH dJ tm tm)]) (HM : Mm G w0 w [(dJ, .cells (Y.map Bv).toArray 5 (0, 0)), (sd, .cells (X.map Bv).toArray 5 (0, 0)), (aT, .cells nms 36 (0, 0)), (aW, .cells cur 133 (0, 0)), (fb, .cells #[.int .u8 2, .int .u8 dat, .int .u8 1, aV abi, aV aF, (aP big), bf aS, bf aG, aJ aB, aH aW ah ah, aH pg aj aj, .slice none 0 0, .slice none 0 0, .slice none 0 0] 131 (0, 0)), (s, .cells #[.iface 178 (.slice (some ⟨b, o, none⟩) n c), .int .i64 0, .int .i64 0, .int .i64 9223372036854775807, .int .i64 9223372036854775807] 246 (0, 0))])
  (K : ∀ a w, iy b o n c w0.heap.size w sc (fun j => if j < ah then ⟨(nb j).toArray⟩ else ⟨#[]⟩) ah cur → Fr 1287 a [(0, .iface 178 (.slice (some ⟨b, o, none⟩) n c)), (4, aC s), (8, aC fb), (9, (aP big)), (10, aA ak), (11, .int .i64 56), (12, aA aj), (13, aA au), (14, .int .i64 64), (15, aA ah), (16, aA (ah - 1)), (26, .int .i64 64), (41, aH aT ah ah), (42, aH sd (ah * 64) (ah * 64)), (53, aH dJ tm tm)] → Mm G w0 w [(dJ, .cells (Y.map Bv).toArray 5 (0, 0)), (sd, .cells (X.map Bv).toArray 5 (0, 0)), (aT, .cells nms 36 (0, 0)), (aW, .cells cur 133 (0, 0)), (fb, .cells #[.int .u8 2, .int .u8 dat, .int .u8 1, aV abi, aV aF, (aP big), bf aS, bf aG, aJ aB, aH aW ah ah, aH pg aj aj, .slice none 0 0, .slice none 0 0, .slice none 0 0] 131 (0, 0)), (s, .cells #[.iface 178 (.slice (some ⟨b, o, none⟩) n c), .int .i64 0, .int .i64 0, .int .i64 9223372036854775807, .int .i64 9223372036854775807] 246 (0, 0))] → (spine Tryd.f78 52).wp Tryd.prog Q a w) : (spine Tryd.f78 51).wp Tryd.prog Q a w := by
 refine wp_seq (wp_seq (wp_region_lit ?_))
 refine wp_pure HF HM rfl 6 [[1], []] [(0, .iface 178 (.slice (some ⟨b, o, none⟩) n c)), (4, aC s), (8, aC fb), (9, (aP big)), (10, aA ak), (11, .int .i64 56), (12, aA aj), (13, aA au), (14, .int .i64 64), (15, aA ah), (16, aA (ah - 1)), (26, .int .i64 64), (41, aH aT ah ah), (42, aH sd (ah * 64) (ah * 64)), (53, aH dJ tm tm), (1249, aH aW ah ah), (1250, aA ah), (1251, aA 0)] (by kernel_rfl) ?_
 clear HF; intro a HF
 refine aI ?_
 refine wp_block (wp_loop_rounds (ah + 1) ?_)
 exact Ir l b o n c hl hnc big abi aF aS aG aB ak aj au ah dat b7 X sc bd nb Y tm hY uN hstr G w0 s fb pg aW aT sd dJ cur nms hN hD K ah 0 (by omega) a w (by simpa only [Nat.not_lt_zero, ↓reduceIte] using hP) HF HM

theorem Jh {Q : Exit → Act → World → Prop} (fb : Nat) (a : Act) (w : World) (HF : Fr 1287 a [(8, aC fb)]) (K : ∀ {a}, Fr 1287 a [(2, aC fb), (3, .nilIface)] → Q .ret a w) : (spine Tryd.f78 52).wp Tryd.prog Q a w := by
 have HM : Mm [] w w [] := Mm.start w
 refine wp_seq (wp_region_lit ?_)
 refine wp_pure HF HM rfl 3 [] [(2, aC fb), (3, .nilIface)] (by kernel_rfl) ?_
 clear HF; intro a HF
 refine aI ?_
 exact wp_ret (K HF)

end Go.Proofs.YtdgehpocmfjbiaaDoor
namespace Go.Proofs.YtdgehpocmfjbiaaDoor
open Go.RowKit

/-- a file that has been read, in memory -/
structure oZ (b o n c : Nat) (z : Nat) (w : World) (wide big : Bool) (abi aF aS aG aB aj ah : Nat) (sg : Nat → lD) (sc : Nat → iM) (nb : Nat → List UInt8) (fb pg aW : Nat) (cur jq : Array Value) : Prop where
 zf : z ≤ fb
 zp : z ≤ pg
 zs : z ≤ aW
 file : w.heap[fb]? = some (.cells #[.int .u8 (if wide then 2 else 1 : Int), .int .u8 (if big then 2 else 1 : Int), .int .u8 1, aV abi, aV aF, (aP big), bf aS, bf aG, aJ aB, aH aW ah ah, aH pg aj aj, .slice none 0 0, .slice none 0 0, .slice none 0 0] 131 (0, 0))
 Mc : w.heap[pg]? = some (.cells cur 136 (0, 0))
 size : cur.size = aj
 prog : lu b o n c z w sg aj cur
 secs : w.heap[aW]? = some (.cells jq 133 (0, 0))
 ssize : jq.size = ah
 sec : iy b o n c z w sc (fun j => ⟨(nb j).toArray⟩) ah jq
 ne : mJ ah jq
/-- what NewFile asks of the bytes -/
structure qK (l : List UInt8) (n : Nat) (wide big : Bool) (abi aF aS aG aB ak aj au ah : Nat) (sg : Nat → lD) (sc : Nat → iM) (nb : Nat → List UInt8) : Prop where
 head : DV l wide big abi aF aS aG aB ak aj au ah
 a1 : abi < 256
 a2 : aF < 256
 b1 : aS < 65536
 b2 : aG < 65536
 b3 : aB ≤ 18446744073709551615
 b4 : ak < 4611686018427387904
 b5 : au < 4611686018427387904
 b6 : aj < 200
 b7 : ah < 200
 c1 : 0 < au
 c3 : 1 < ah
 p1 : ak < n
 p2 : ak + aj * (if wide then 56 else 32) ≤ n
 s1 : au < n
 s2 : au + ah * (if wide then 64 else 40) ≤ n
 nn : n ≤ 4611686018427387904
 seg : ∀ i, i < aj → um (((l.drop ak).take (aj * (if wide then 56 else 32))).drop (i * (if wide then 56 else 32))) wide big (sg i).ty (sg i).flags (sg i).bI (sg i).bJ (sg i).bM (sg i).align (sg i).bH (sg i).off
 v1 : ∀ i, i < aj → (sg i).ty < 4294967296
 v2 : ∀ i, i < aj → (sg i).off + (sg i).bH < 4611686018427387904
 v3 : ∀ i, i < aj → (sg i).bI ≤ 18446744073709551615
 v4 : ∀ i, i < aj → (sg i).bJ ≤ 18446744073709551615
 v5 : ∀ i, i < aj → (sg i).bM ≤ 18446744073709551615
 v6 : ∀ i, i < aj → (sg i).align ≤ 18446744073709551615
 sec : ∀ i, i < ah → uo (((l.drop au).take (ah * (if wide then 64 else 40))).drop (i * (if wide then 64 else 40))) wide big (sc i).name (sc i).ty (sc i).flags (sc i).addr (sc i).off (sc i).bH (sc i).link (sc i).info (sc i).align (sc i).ent
 bd : ∀ i, i < ah → rD (sc i)
 str : (sc (ah - 1)).ty = 3
 f1 : 0 < (sc (ah - 1)).bH
 f2 : (sc (ah - 1)).bH < 10485760
 f3 : (sc (ah - 1)).off + (sc (ah - 1)).bH ≤ n
 name : ∀ i, i < ah → mD ((l.drop (sc (ah - 1)).off).take (sc (ah - 1)).bH) (sc i).name = some (nb i)
theorem zM {l : List UInt8} {wide big : Bool} {abi aF : Nat} (h : ∃ r, l = tV wide big abi aF ++ r) (h1 : abi < 256) (h2 : aF < 256) : (((l.drop 0).take 16).map Bv).toArray = #[.int .u8 127, .int .u8 69, .int .u8 76, .int .u8 70, .int .u8 (if wide then 2 else 1 : Int), .int .u8 (if big then 2 else 1 : Int), .int .u8 1, .int .u8 (abi : Nat), .int .u8 (aF : Nat), .int .u8 0, .int .u8 0, .int .u8 0, .int .u8 0, .int .u8 0, .int .u8 0, .int .u8 0] := by
 obtain ⟨r, rfl⟩ := h
 have e1 : (UInt8.ofNat abi).toNat = abi := by simp; omega
 have e2 : (UInt8.ofNat aF).toNat = aF := by simp; omega
 cases wide <;> cases big <;> simp [tV, Bv, e1, e2, List.take]

theorem Jk (l : List UInt8) (b o n c : Nat) (hl : n = l.length) (hnc : n ≤ c) (abi aF aS aG aB ak aj au ah : Nat) (sg : Nat → lD) (sc : Nat → iM) (nb : Nat → List UInt8) (H : qK l n false false abi aF aS aG aB ak aj au ah sg sc nb) (w0 : World) (hbl : b < w0.heap.size) (hr : Row w0 (some ⟨b, o, none⟩) (l.map Bv)) :
  Calls Tryd.prog 78 #[.iface 178 (.slice (some ⟨b, o, none⟩) n c)] w0 fun e w' => ∃ fb pg aW cur jq, e = .returned (.tuple #[aC fb, .nilIface]) ∧ Below w0.heap.size w0 w' ∧ oZ b o n c w0.heap.size w' false false abi aF aS aG aB aj ah sg sc nb fb pg aW cur jq := by
 have hlen : 52 ≤ n := hl ▸ H.head.len
 have hp2 : ak + aj * 32 ≤ n := H.p2
 have hs2 : au + ah * 40 ≤ n := H.s2
 refine dD (c := spine Tryd.f78 0) Tryd.func78 rfl Tryd.ntmps78 [(0, .iface 178 (.slice (some ⟨b, o, none⟩) n c))] (by kernel_rfl) (Nat.le_of_ble_eq_true rfl) ?_
 intro a HF
 refine Nh l b o n c hl hnc (by omega) abi aF (zM H.head.id H.a1 H.a2) w0 hbl hr a w0 HF (Mm.start w0) ?_
 clear HF
 intro a w s fb HF HM
 refine Kz l b o n c hl hnc hlen false abi aF aS aG aB ak aj au ah 1 H.head H.b1 H.b2 H.b3 H.b4 H.b5 H.b6 H.b7 w0 hbl hr a w s fb HF HM ?_
 clear HF HM
 intro a w HF HM
 have hD : ∀ (a : Act) (w : World) (pg : Nat) (cur : Array Value) (pd : Nat), cur.size = aj → Fr 1287 a [(0, .iface 178 (.slice (some ⟨b, o, none⟩) n c)), (4, aC s), (8, aC fb), (9, (aP false)), (10, aA ak), (11, ay 32), (12, aA aj), (13, aA au), (14, ay 40), (15, aA ah), (16, aA (ah - 1)), (26, ay 40), (36, aH pd (aj * 32) (aj * 32))] → Mm [] w0 w [(pd, .cells (((l.drop ak).take (aj * 32)).map Bv).toArray 5 (0, 0)), (pg, .cells cur 136 (0, 0)), (fb, .cells #[aK 1, aK 1, aK 1, aV abi, aV aF, (aP false), bf aS, bf aG, aJ aB, aN, aH pg 0 aj, aN, aN, aN] 131 (0, 0)), (s, .cells #[.iface 178 (.slice (some ⟨b, o, none⟩) n c), ay 0, ay 0, ay 9223372036854775807, ay 9223372036854775807] 246 (0, 0))] → (spine Tryd.f78 35).wp Tryd.prog (bodyPost Tryd.prog Tryd.f78 fun e w' => ∃ fb pg aW cur jq, e = .returned (.tuple #[aC fb, .nilIface]) ∧ Below w0.heap.size w0 w' ∧ oZ b o n c w0.heap.size w' false false abi aF aS aG aB aj ah sg sc nb fb pg aW cur jq) a w := by
  clear HF HM a w
  intro a w pg cur pd hcs HF HM
  refine J6 l b o n c hl hnc false abi aF aS aG aB ak aj au ah 1 H.b1 H.b2 H.b3 H.b4 H.b5 H.b6 H.b7 _ (by simp; omega) sg H.seg H.v1 H.v2 H.v3 H.v4 H.v5 H.v6 w0 s fb pg pd a w cur hcs HF HM ?_
  clear HF HM hcs cur a w
  intro a w cur hcs hP HF HM
  have hbs : b ≠ s := fun e => absurd hbl (Nat.not_lt_of_le (e ▸ HM.ge (i := 3) rfl))
  have hbf : b ≠ fb := fun e => absurd hbl (Nat.not_lt_of_le (e ▸ HM.ge (i := 2) rfl))
  have BJ : Mm [s, fb] w w [(fb, .cells #[aK 1, aK 1, aK 1, aV abi, aV aF, (aP false), bf aS, bf aG, aJ aB, aN, aH pg aj aj, aN, aN, aN] 131 (0, 0)), (s, .cells #[.iface 178 (.slice (some ⟨b, o, none⟩) n c), ay 0, ay 0, ay 9223372036854775807, ay 9223372036854775807] 246 (0, 0))] :=
   ⟨Keep.refl _ _, fun p hp => by
    simp only [List.mem_cons, List.not_mem_nil, or_false] at hp
    rcases hp with rfl | rfl
    ·exact ⟨HM.get (i := 2) rfl, .inr (by simp)⟩
    ·exact ⟨HM.get (i := 3) rfl, .inr (by simp)⟩, by
    have := HM.ne (i := 2) (j := 3) rfl rfl (by decide)
    simp [this]⟩
  have hr2 := HM.row hr
  have wR : b < w.heap.size := Nat.lt_of_lt_of_le hbl HM.size
  have tY : b ∉ [s, fb] := by simp [hbs, hbf]
  refine Kw l b o n c hl hnc false abi aF aS aG aB ak aj au ah 1 H.b1 H.b2 H.b3 H.b4 H.b5 H.b6 H.b7 H.c1 (by have := H.c3; omega) H.s1 hs2 w wR hr2 [s, fb] tY a w s fb pg hbs (HF.sub _ (by kernel_rfl)) BJ ?_
  clear HF BJ a
  intro a w2 aW jZ aT kN sd hs1 hs3 HF bU
  refine JZ l b o n c hl hnc false abi aF aS aG aB ak aj au ah 1 H.b1 H.b2 H.b3 H.b4 H.b5 H.b6 H.b7 _ (by simp; omega) sc H.sec H.bd [s, fb] w s fb pg aW aT sd a w2 jZ kN hs1 hs3 HF bU ?_
  clear HF bU hs1 hs3 a w2 jZ kN
  intro a w2 jq nms hs1 hs3 hS hN hD HF bU
  refine Ku l b o n c hl hnc false abi aF aS aG aB ak aj au ah 1 H.b1 H.b2 H.b3 H.b4 H.b5 H.b6 H.b7 _ sc H.c3 H.str (H.bd _ (by have := H.c3; omega)).v9 H.f1 H.f2 H.f3 H.nn [s, fb] w wR hr2 tY s fb pg aW aT sd a w2 jq nms hS HF bU ?_
  clear HF bU hS a w2
  intro a w2 dJ hS HF bU
  have hf2 := H.f2
  have hf3 := H.f3
  refine Kq l b o n c hl hnc false abi aF aS aG aB ak aj au ah 1 H.b7 _ sc H.bd nb ((l.drop (sc (ah - 1)).off).take (sc (ah - 1)).bH) (sc (ah - 1)).bH (by simp; omega) (by unfold maxLen; omega) H.name [s, fb] w s fb pg aW aT sd dJ jq nms hN hD a w2 hS HF bU ?_
  clear HF bU hS a w2
  intro a w2 hS HF bU
  refine Jh fb a w2 (HF.sub _ (by kernel_rfl)) ?_
  intro a HF
  have hk := bU.keep
  have hk2 : Keep [fb] w w2 := hk.less ((bU.get (i := 5) rfl).trans (HM.get (i := 3) rfl).symm)
  have hkw : Keep [] w0 w2 := HM.keep.step hk2 (by intro g hg; simp only [List.mem_cons, List.not_mem_nil, or_false] at hg; subst hg; exact HM.own (i := 2) rfl)
  have hz := HM.size
  refine jk HF rfl rfl rfl ⟨fb, pg, aW, cur, jq, rfl, hkw.below, ⟨HM.ge (i := 2) rfl, HM.ge (i := 1) rfl, ?_, bU.get (i := 4) rfl, ?_, hcs, hP.keep hk2 ?_, bU.get (i := 3) rfl, hs1, ?_, hD⟩⟩
  ·refine Nat.le_trans hz ((bU.own (i := 3) rfl).elim id fun hm => ?_)
   simp only [List.mem_cons, List.not_mem_nil, or_false] at hm
   rcases hm with e | e
   ·exact absurd e (bU.ne (i := 3) (j := 5) rfl rfl (by decide))
   ·exact absurd e (bU.ne (i := 3) (j := 4) rfl rfl (by decide))
  ·exact (hk2.block pg (HM.lt (i := 1) rfl) (by simpa using HM.ne (i := 1) (j := 2) rfl rfl (by decide))).trans (HM.get (i := 1) rfl)
  ·intro g hg
   simp only [List.mem_cons, List.not_mem_nil, or_false] at hg
   subst hg
   exact ⟨_, _, _, HM.get (i := 2) rfl, by decide, by decide⟩
  ·intro j hj
   obtain ⟨pb, sb, g1, g2, g3, g4, g5⟩ := hS j hj
   simp only [hj, ↓reduceIte] at g4
   exact ⟨pb, sb, g1, by omega, by omega, g4, g5⟩
 rcases Nat.eq_zero_or_pos aj with h0 | h0
 ·subst h0
  refine II l b o n c hl hnc false abi aF aS aG aB ak 0 au ah 1 H.b1 H.b2 H.b3 H.b4 H.b5 H.b6 H.b7 H.c1 (by have := H.c3; omega) w0 a w s fb HF HM ?_
  clear HF HM a w
  intro a w HF HM
  exact IB l b o n c hl hnc false abi aF aS aG aB ak 0 au ah 1 H.b1 H.b2 H.b3 H.b4 H.b5 H.b6 H.b7 H.c1 (by have := H.c3; omega) H.p1 hp2 w0 hbl hr a w s fb HF HM hD
 ·refine IG l b o n c hl hnc false abi aF aS aG aB ak aj au ah 1 H.b1 H.b2 H.b3 H.b4 H.b5 H.b6 H.b7 H.c1 (by have := H.c3; omega) h0 w0 a w s fb HF HM ?_
  clear HF HM a w
  intro a w HF HM
  exact Iz l b o n c hl hnc false abi aF aS aG aB ak aj au ah 1 H.b1 H.b2 H.b3 H.b4 H.b5 H.b6 H.b7 H.c1 (by have := H.c3; omega) h0 H.p1 hp2 w0 hbl hr a w s fb HF HM hD

theorem Jl (l : List UInt8) (b o n c : Nat) (hl : n = l.length) (hnc : n ≤ c) (abi aF aS aG aB ak aj au ah : Nat) (sg : Nat → lD) (sc : Nat → iM) (nb : Nat → List UInt8) (H : qK l n false true abi aF aS aG aB ak aj au ah sg sc nb) (w0 : World) (hbl : b < w0.heap.size) (hr : Row w0 (some ⟨b, o, none⟩) (l.map Bv)) :
  Calls Tryd.prog 78 #[.iface 178 (.slice (some ⟨b, o, none⟩) n c)] w0 fun e w' => ∃ fb pg aW cur jq, e = .returned (.tuple #[aC fb, .nilIface]) ∧ Below w0.heap.size w0 w' ∧ oZ b o n c w0.heap.size w' false true abi aF aS aG aB aj ah sg sc nb fb pg aW cur jq := by
 have hlen : 52 ≤ n := hl ▸ H.head.len
 have hp2 : ak + aj * 32 ≤ n := H.p2
 have hs2 : au + ah * 40 ≤ n := H.s2
 refine dD (c := spine Tryd.f78 0) Tryd.func78 rfl Tryd.ntmps78 [(0, .iface 178 (.slice (some ⟨b, o, none⟩) n c))] (by kernel_rfl) (Nat.le_of_ble_eq_true rfl) ?_
 intro a HF
 refine Nj l b o n c hl hnc (by omega) abi aF (zM H.head.id H.a1 H.a2) w0 hbl hr a w0 HF (Mm.start w0) ?_
 clear HF
 intro a w s fb HF HM
 refine Kz l b o n c hl hnc hlen true abi aF aS aG aB ak aj au ah 2 H.head H.b1 H.b2 H.b3 H.b4 H.b5 H.b6 H.b7 w0 hbl hr a w s fb HF HM ?_
 clear HF HM
 intro a w HF HM
 have hD : ∀ (a : Act) (w : World) (pg : Nat) (cur : Array Value) (pd : Nat), cur.size = aj → Fr 1287 a [(0, .iface 178 (.slice (some ⟨b, o, none⟩) n c)), (4, aC s), (8, aC fb), (9, (aP true)), (10, aA ak), (11, ay 32), (12, aA aj), (13, aA au), (14, ay 40), (15, aA ah), (16, aA (ah - 1)), (26, ay 40), (36, aH pd (aj * 32) (aj * 32))] → Mm [] w0 w [(pd, .cells (((l.drop ak).take (aj * 32)).map Bv).toArray 5 (0, 0)), (pg, .cells cur 136 (0, 0)), (fb, .cells #[aK 1, aK 2, aK 1, aV abi, aV aF, (aP true), bf aS, bf aG, aJ aB, aN, aH pg 0 aj, aN, aN, aN] 131 (0, 0)), (s, .cells #[.iface 178 (.slice (some ⟨b, o, none⟩) n c), ay 0, ay 0, ay 9223372036854775807, ay 9223372036854775807] 246 (0, 0))] → (spine Tryd.f78 35).wp Tryd.prog (bodyPost Tryd.prog Tryd.f78 fun e w' => ∃ fb pg aW cur jq, e = .returned (.tuple #[aC fb, .nilIface]) ∧ Below w0.heap.size w0 w' ∧ oZ b o n c w0.heap.size w' false true abi aF aS aG aB aj ah sg sc nb fb pg aW cur jq) a w := by
  clear HF HM a w
  intro a w pg cur pd hcs HF HM
  refine J6 l b o n c hl hnc true abi aF aS aG aB ak aj au ah 2 H.b1 H.b2 H.b3 H.b4 H.b5 H.b6 H.b7 _ (by simp; omega) sg H.seg H.v1 H.v2 H.v3 H.v4 H.v5 H.v6 w0 s fb pg pd a w cur hcs HF HM ?_
  clear HF HM hcs cur a w
  intro a w cur hcs hP HF HM
  have hbs : b ≠ s := fun e => absurd hbl (Nat.not_lt_of_le (e ▸ HM.ge (i := 3) rfl))
  have hbf : b ≠ fb := fun e => absurd hbl (Nat.not_lt_of_le (e ▸ HM.ge (i := 2) rfl))
  have BJ : Mm [s, fb] w w [(fb, .cells #[aK 1, aK 2, aK 1, aV abi, aV aF, (aP true), bf aS, bf aG, aJ aB, aN, aH pg aj aj, aN, aN, aN] 131 (0, 0)), (s, .cells #[.iface 178 (.slice (some ⟨b, o, none⟩) n c), ay 0, ay 0, ay 9223372036854775807, ay 9223372036854775807] 246 (0, 0))] :=
   ⟨Keep.refl _ _, fun p hp => by
    simp only [List.mem_cons, List.not_mem_nil, or_false] at hp
    rcases hp with rfl | rfl
    ·exact ⟨HM.get (i := 2) rfl, .inr (by simp)⟩
    ·exact ⟨HM.get (i := 3) rfl, .inr (by simp)⟩, by
    have := HM.ne (i := 2) (j := 3) rfl rfl (by decide)
    simp [this]⟩
  have hr2 := HM.row hr
  have wR : b < w.heap.size := Nat.lt_of_lt_of_le hbl HM.size
  have tY : b ∉ [s, fb] := by simp [hbs, hbf]
  refine Kw l b o n c hl hnc true abi aF aS aG aB ak aj au ah 2 H.b1 H.b2 H.b3 H.b4 H.b5 H.b6 H.b7 H.c1 (by have := H.c3; omega) H.s1 hs2 w wR hr2 [s, fb] tY a w s fb pg hbs (HF.sub _ (by kernel_rfl)) BJ ?_
  clear HF BJ a
  intro a w2 aW jZ aT kN sd hs1 hs3 HF bU
  refine JZ l b o n c hl hnc true abi aF aS aG aB ak aj au ah 2 H.b1 H.b2 H.b3 H.b4 H.b5 H.b6 H.b7 _ (by simp; omega) sc H.sec H.bd [s, fb] w s fb pg aW aT sd a w2 jZ kN hs1 hs3 HF bU ?_
  clear HF bU hs1 hs3 a w2 jZ kN
  intro a w2 jq nms hs1 hs3 hS hN hD HF bU
  refine Ku l b o n c hl hnc true abi aF aS aG aB ak aj au ah 2 H.b1 H.b2 H.b3 H.b4 H.b5 H.b6 H.b7 _ sc H.c3 H.str (H.bd _ (by have := H.c3; omega)).v9 H.f1 H.f2 H.f3 H.nn [s, fb] w wR hr2 tY s fb pg aW aT sd a w2 jq nms hS HF bU ?_
  clear HF bU hS a w2
  intro a w2 dJ hS HF bU
  have hf2 := H.f2
  have hf3 := H.f3
  refine Kq l b o n c hl hnc true abi aF aS aG aB ak aj au ah 2 H.b7 _ sc H.bd nb ((l.drop (sc (ah - 1)).off).take (sc (ah - 1)).bH) (sc (ah - 1)).bH (by simp; omega) (by unfold maxLen; omega) H.name [s, fb] w s fb pg aW aT sd dJ jq nms hN hD a w2 hS HF bU ?_
  clear HF bU hS a w2
  intro a w2 hS HF bU
  refine Jh fb a w2 (HF.sub _ (by kernel_rfl)) ?_
  intro a HF
  have hk := bU.keep
  have hk2 : Keep [fb] w w2 := hk.less ((bU.get (i := 5) rfl).trans (HM.get (i := 3) rfl).symm)
  have hkw : Keep [] w0 w2 := HM.keep.step hk2 (by intro g hg; simp only [List.mem_cons, List.not_mem_nil, or_false] at hg; subst hg; exact HM.own (i := 2) rfl)
  have hz := HM.size
  refine jk HF rfl rfl rfl ⟨fb, pg, aW, cur, jq, rfl, hkw.below, ⟨HM.ge (i := 2) rfl, HM.ge (i := 1) rfl, ?_, bU.get (i := 4) rfl, ?_, hcs, hP.keep hk2 ?_, bU.get (i := 3) rfl, hs1, ?_, hD⟩⟩
  ·refine Nat.le_trans hz ((bU.own (i := 3) rfl).elim id fun hm => ?_)
   simp only [List.mem_cons, List.not_mem_nil, or_false] at hm
   rcases hm with e | e
   ·exact absurd e (bU.ne (i := 3) (j := 5) rfl rfl (by decide))
   ·exact absurd e (bU.ne (i := 3) (j := 4) rfl rfl (by decide))
  ·exact (hk2.block pg (HM.lt (i := 1) rfl) (by simpa using HM.ne (i := 1) (j := 2) rfl rfl (by decide))).trans (HM.get (i := 1) rfl)
  ·intro g hg
   simp only [List.mem_cons, List.not_mem_nil, or_false] at hg
   subst hg
   exact ⟨_, _, _, HM.get (i := 2) rfl, by decide, by decide⟩
  ·intro j hj
   obtain ⟨pb, sb, g1, g2, g3, g4, g5⟩ := hS j hj
   simp only [hj, ↓reduceIte] at g4
   exact ⟨pb, sb, g1, by omega, by omega, g4, g5⟩
 rcases Nat.eq_zero_or_pos aj with h0 | h0
 ·subst h0
  refine II l b o n c hl hnc true abi aF aS aG aB ak 0 au ah 2 H.b1 H.b2 H.b3 H.b4 H.b5 H.b6 H.b7 H.c1 (by have := H.c3; omega) w0 a w s fb HF HM ?_
  clear HF HM a w
  intro a w HF HM
  exact IB l b o n c hl hnc true abi aF aS aG aB ak 0 au ah 2 H.b1 H.b2 H.b3 H.b4 H.b5 H.b6 H.b7 H.c1 (by have := H.c3; omega) H.p1 hp2 w0 hbl hr a w s fb HF HM hD
 ·refine IG l b o n c hl hnc true abi aF aS aG aB ak aj au ah 2 H.b1 H.b2 H.b3 H.b4 H.b5 H.b6 H.b7 H.c1 (by have := H.c3; omega) h0 w0 a w s fb HF HM ?_
  clear HF HM a w
  intro a w HF HM
  exact Iz l b o n c hl hnc true abi aF aS aG aB ak aj au ah 2 H.b1 H.b2 H.b3 H.b4 H.b5 H.b6 H.b7 H.c1 (by have := H.c3; omega) h0 H.p1 hp2 w0 hbl hr a w s fb HF HM hD

theorem Ji (l : List UInt8) (b o n c : Nat) (hl : n = l.length) (hnc : n ≤ c) (abi aF aS aG aB ak aj au ah : Nat) (sg : Nat → lD) (sc : Nat → iM) (nb : Nat → List UInt8) (H : qK l n true false abi aF aS aG aB ak aj au ah sg sc nb) (w0 : World) (hbl : b < w0.heap.size) (hr : Row w0 (some ⟨b, o, none⟩) (l.map Bv)) :
  Calls Tryd.prog 78 #[.iface 178 (.slice (some ⟨b, o, none⟩) n c)] w0 fun e w' => ∃ fb pg aW cur jq, e = .returned (.tuple #[aC fb, .nilIface]) ∧ Below w0.heap.size w0 w' ∧ oZ b o n c w0.heap.size w' true false abi aF aS aG aB aj ah sg sc nb fb pg aW cur jq := by
 have hlen : 64 ≤ n := hl ▸ H.head.len
 have hp2 : ak + aj * 56 ≤ n := H.p2
 have hs2 : au + ah * 64 ≤ n := H.s2
 refine dD (c := spine Tryd.f78 0) Tryd.func78 rfl Tryd.ntmps78 [(0, .iface 178 (.slice (some ⟨b, o, none⟩) n c))] (by kernel_rfl) (Nat.le_of_ble_eq_true rfl) ?_
 intro a HF
 refine Nb l b o n c hl hnc (by omega) abi aF (zM H.head.id H.a1 H.a2) w0 hbl hr a w0 HF (Mm.start w0) ?_
 clear HF
 intro a w s fb HF HM
 refine Ky l b o n c hl hnc hlen false abi aF aS aG aB ak aj au ah 1 H.head H.b1 H.b2 H.b3 H.b4 H.b5 H.b6 H.b7 w0 hbl hr a w s fb HF HM ?_
 clear HF HM
 intro a w HF HM
 have hD : ∀ (a : Act) (w : World) (pg : Nat) (cur : Array Value) (pd : Nat), cur.size = aj → Fr 1287 a [(0, .iface 178 (.slice (some ⟨b, o, none⟩) n c)), (4, aC s), (8, aC fb), (9, (aP false)), (10, aA ak), (11, ay 56), (12, aA aj), (13, aA au), (14, ay 64), (15, aA ah), (16, aA (ah - 1)), (26, ay 64), (36, aH pd (aj * 56) (aj * 56))] → Mm [] w0 w [(pd, .cells (((l.drop ak).take (aj * 56)).map Bv).toArray 5 (0, 0)), (pg, .cells cur 136 (0, 0)), (fb, .cells #[aK 2, aK 1, aK 1, aV abi, aV aF, (aP false), bf aS, bf aG, aJ aB, aN, aH pg 0 aj, aN, aN, aN] 131 (0, 0)), (s, .cells #[.iface 178 (.slice (some ⟨b, o, none⟩) n c), ay 0, ay 0, ay 9223372036854775807, ay 9223372036854775807] 246 (0, 0))] → (spine Tryd.f78 35).wp Tryd.prog (bodyPost Tryd.prog Tryd.f78 fun e w' => ∃ fb pg aW cur jq, e = .returned (.tuple #[aC fb, .nilIface]) ∧ Below w0.heap.size w0 w' ∧ oZ b o n c w0.heap.size w' true false abi aF aS aG aB aj ah sg sc nb fb pg aW cur jq) a w := by
  clear HF HM a w
  intro a w pg cur pd hcs HF HM
  refine J5 l b o n c hl hnc false abi aF aS aG aB ak aj au ah 1 H.b1 H.b2 H.b3 H.b4 H.b5 H.b6 H.b7 _ (by simp; omega) sg H.seg H.v1 H.v2 H.v3 H.v4 H.v5 H.v6 w0 s fb pg pd a w cur hcs HF HM ?_
  clear HF HM hcs cur a w
  intro a w cur hcs hP HF HM
  have hbs : b ≠ s := fun e => absurd hbl (Nat.not_lt_of_le (e ▸ HM.ge (i := 3) rfl))
  have hbf : b ≠ fb := fun e => absurd hbl (Nat.not_lt_of_le (e ▸ HM.ge (i := 2) rfl))
  have BJ : Mm [s, fb] w w [(fb, .cells #[aK 2, aK 1, aK 1, aV abi, aV aF, (aP false), bf aS, bf aG, aJ aB, aN, aH pg aj aj, aN, aN, aN] 131 (0, 0)), (s, .cells #[.iface 178 (.slice (some ⟨b, o, none⟩) n c), ay 0, ay 0, ay 9223372036854775807, ay 9223372036854775807] 246 (0, 0))] :=
   ⟨Keep.refl _ _, fun p hp => by
    simp only [List.mem_cons, List.not_mem_nil, or_false] at hp
    rcases hp with rfl | rfl
    ·exact ⟨HM.get (i := 2) rfl, .inr (by simp)⟩
    ·exact ⟨HM.get (i := 3) rfl, .inr (by simp)⟩, by
    have := HM.ne (i := 2) (j := 3) rfl rfl (by decide)
    simp [this]⟩
  have hr2 := HM.row hr
  have wR : b < w.heap.size := Nat.lt_of_lt_of_le hbl HM.size
  have tY : b ∉ [s, fb] := by simp [hbs, hbf]
  refine Kv l b o n c hl hnc false abi aF aS aG aB ak aj au ah 1 H.b1 H.b2 H.b3 H.b4 H.b5 H.b6 H.b7 H.c1 (by have := H.c3; omega) H.s1 hs2 w wR hr2 [s, fb] tY a w s fb pg hbs (HF.sub _ (by kernel_rfl)) BJ ?_
  clear HF BJ a
  intro a w2 aW jZ aT kN sd hs1 hs3 HF bU
  refine JY l b o n c hl hnc false abi aF aS aG aB ak aj au ah 1 H.b1 H.b2 H.b3 H.b4 H.b5 H.b6 H.b7 _ (by simp; omega) sc H.sec H.bd [s, fb] w s fb pg aW aT sd a w2 jZ kN hs1 hs3 HF bU ?_
  clear HF bU hs1 hs3 a w2 jZ kN
  intro a w2 jq nms hs1 hs3 hS hN hD HF bU
  refine Kr l b o n c hl hnc false abi aF aS aG aB ak aj au ah 1 H.b1 H.b2 H.b3 H.b4 H.b5 H.b6 H.b7 _ sc H.c3 H.str (H.bd _ (by have := H.c3; omega)).v9 H.f1 H.f2 H.f3 H.nn [s, fb] w wR hr2 tY s fb pg aW aT sd a w2 jq nms hS HF bU ?_
  clear HF bU hS a w2
  intro a w2 dJ hS HF bU
  have hf2 := H.f2
  have hf3 := H.f3
  refine Ko l b o n c hl hnc false abi aF aS aG aB ak aj au ah 1 H.b7 _ sc H.bd nb ((l.drop (sc (ah - 1)).off).take (sc (ah - 1)).bH) (sc (ah - 1)).bH (by simp; omega) (by unfold maxLen; omega) H.name [s, fb] w s fb pg aW aT sd dJ jq nms hN hD a w2 hS HF bU ?_
  clear HF bU hS a w2
  intro a w2 hS HF bU
  refine Jh fb a w2 (HF.sub _ (by kernel_rfl)) ?_
  intro a HF
  have hk := bU.keep
  have hk2 : Keep [fb] w w2 := hk.less ((bU.get (i := 5) rfl).trans (HM.get (i := 3) rfl).symm)
  have hkw : Keep [] w0 w2 := HM.keep.step hk2 (by intro g hg; simp only [List.mem_cons, List.not_mem_nil, or_false] at hg; subst hg; exact HM.own (i := 2) rfl)
  have hz := HM.size
  refine jk HF rfl rfl rfl ⟨fb, pg, aW, cur, jq, rfl, hkw.below, ⟨HM.ge (i := 2) rfl, HM.ge (i := 1) rfl, ?_, bU.get (i := 4) rfl, ?_, hcs, hP.keep hk2 ?_, bU.get (i := 3) rfl, hs1, ?_, hD⟩⟩
  ·refine Nat.le_trans hz ((bU.own (i := 3) rfl).elim id fun hm => ?_)
   simp only [List.mem_cons, List.not_mem_nil, or_false] at hm
   rcases hm with e | e
   ·exact absurd e (bU.ne (i := 3) (j := 5) rfl rfl (by decide))
   ·exact absurd e (bU.ne (i := 3) (j := 4) rfl rfl (by decide))
  ·exact (hk2.block pg (HM.lt (i := 1) rfl) (by simpa using HM.ne (i := 1) (j := 2) rfl rfl (by decide))).trans (HM.get (i := 1) rfl)
  ·intro g hg
   simp only [List.mem_cons, List.not_mem_nil, or_false] at hg
   subst hg
   exact ⟨_, _, _, HM.get (i := 2) rfl, by decide, by decide⟩
  ·intro j hj
   obtain ⟨pb, sb, g1, g2, g3, g4, g5⟩ := hS j hj
   simp only [hj, ↓reduceIte] at g4
   exact ⟨pb, sb, g1, by omega, by omega, g4, g5⟩
 rcases Nat.eq_zero_or_pos aj with h0 | h0
 ·subst h0
  refine IE l b o n c hl hnc false abi aF aS aG aB ak 0 au ah 1 H.b1 H.b2 H.b3 H.b4 H.b5 H.b6 H.b7 H.c1 (by have := H.c3; omega) w0 a w s fb HF HM ?_
  clear HF HM a w
  intro a w HF HM
  exact Iy l b o n c hl hnc false abi aF aS aG aB ak 0 au ah 1 H.b1 H.b2 H.b3 H.b4 H.b5 H.b6 H.b7 H.c1 (by have := H.c3; omega) H.p1 hp2 w0 hbl hr a w s fb HF HM hD
 ·refine IC l b o n c hl hnc false abi aF aS aG aB ak aj au ah 1 H.b1 H.b2 H.b3 H.b4 H.b5 H.b6 H.b7 H.c1 (by have := H.c3; omega) h0 w0 a w s fb HF HM ?_
  clear HF HM a w
  intro a w HF HM
  exact Iw l b o n c hl hnc false abi aF aS aG aB ak aj au ah 1 H.b1 H.b2 H.b3 H.b4 H.b5 H.b6 H.b7 H.c1 (by have := H.c3; omega) h0 H.p1 hp2 w0 hbl hr a w s fb HF HM hD

theorem Jj (l : List UInt8) (b o n c : Nat) (hl : n = l.length) (hnc : n ≤ c) (abi aF aS aG aB ak aj au ah : Nat) (sg : Nat → lD) (sc : Nat → iM) (nb : Nat → List UInt8) (H : qK l n true true abi aF aS aG aB ak aj au ah sg sc nb) (w0 : World) (hbl : b < w0.heap.size) (hr : Row w0 (some ⟨b, o, none⟩) (l.map Bv)) :
  Calls Tryd.prog 78 #[.iface 178 (.slice (some ⟨b, o, none⟩) n c)] w0 fun e w' => ∃ fb pg aW cur jq, e = .returned (.tuple #[aC fb, .nilIface]) ∧ Below w0.heap.size w0 w' ∧ oZ b o n c w0.heap.size w' true true abi aF aS aG aB aj ah sg sc nb fb pg aW cur jq := by
 have hlen : 64 ≤ n := hl ▸ H.head.len
 have hp2 : ak + aj * 56 ≤ n := H.p2
 have hs2 : au + ah * 64 ≤ n := H.s2
 refine dD (c := spine Tryd.f78 0) Tryd.func78 rfl Tryd.ntmps78 [(0, .iface 178 (.slice (some ⟨b, o, none⟩) n c))] (by kernel_rfl) (Nat.le_of_ble_eq_true rfl) ?_
 intro a HF
 refine Nc l b o n c hl hnc (by omega) abi aF (zM H.head.id H.a1 H.a2) w0 hbl hr a w0 HF (Mm.start w0) ?_
 clear HF
 intro a w s fb HF HM
 refine Ky l b o n c hl hnc hlen true abi aF aS aG aB ak aj au ah 2 H.head H.b1 H.b2 H.b3 H.b4 H.b5 H.b6 H.b7 w0 hbl hr a w s fb HF HM ?_
 clear HF HM
 intro a w HF HM
 have hD : ∀ (a : Act) (w : World) (pg : Nat) (cur : Array Value) (pd : Nat), cur.size = aj → Fr 1287 a [(0, .iface 178 (.slice (some ⟨b, o, none⟩) n c)), (4, aC s), (8, aC fb), (9, (aP true)), (10, aA ak), (11, ay 56), (12, aA aj), (13, aA au), (14, ay 64), (15, aA ah), (16, aA (ah - 1)), (26, ay 64), (36, aH pd (aj * 56) (aj * 56))] → Mm [] w0 w [(pd, .cells (((l.drop ak).take (aj * 56)).map Bv).toArray 5 (0, 0)), (pg, .cells cur 136 (0, 0)), (fb, .cells #[aK 2, aK 2, aK 1, aV abi, aV aF, (aP true), bf aS, bf aG, aJ aB, aN, aH pg 0 aj, aN, aN, aN] 131 (0, 0)), (s, .cells #[.iface 178 (.slice (some ⟨b, o, none⟩) n c), ay 0, ay 0, ay 9223372036854775807, ay 9223372036854775807] 246 (0, 0))] → (spine Tryd.f78 35).wp Tryd.prog (bodyPost Tryd.prog Tryd.f78 fun e w' => ∃ fb pg aW cur jq, e = .returned (.tuple #[aC fb, .nilIface]) ∧ Below w0.heap.size w0 w' ∧ oZ b o n c w0.heap.size w' true true abi aF aS aG aB aj ah sg sc nb fb pg aW cur jq) a w := by
  clear HF HM a w
  intro a w pg cur pd hcs HF HM
  refine J5 l b o n c hl hnc true abi aF aS aG aB ak aj au ah 2 H.b1 H.b2 H.b3 H.b4 H.b5 H.b6 H.b7 _ (by simp; omega) sg H.seg H.v1 H.v2 H.v3 H.v4 H.v5 H.v6 w0 s fb pg pd a w cur hcs HF HM ?_
  clear HF HM hcs cur a w
  intro a w cur hcs hP HF HM
  have hbs : b ≠ s := fun e => absurd hbl (Nat.not_lt_of_le (e ▸ HM.ge (i := 3) rfl))
  have hbf : b ≠ fb := fun e => absurd hbl (Nat.not_lt_of_le (e ▸ HM.ge (i := 2) rfl))
  have BJ : Mm [s, fb] w w [(fb, .cells #[aK 2, aK 2, aK 1, aV abi, aV aF, (aP true), bf aS, bf aG, aJ aB, aN, aH pg aj aj, aN, aN, aN] 131 (0, 0)), (s, .cells #[.iface 178 (.slice (some ⟨b, o, none⟩) n c), ay 0, ay 0, ay 9223372036854775807, ay 9223372036854775807] 246 (0, 0))] :=
   ⟨Keep.refl _ _, fun p hp => by
    simp only [List.mem_cons, List.not_mem_nil, or_false] at hp
    rcases hp with rfl | rfl
    ·exact ⟨HM.get (i := 2) rfl, .inr (by simp)⟩
    ·exact ⟨HM.get (i := 3) rfl, .inr (by simp)⟩, by
    have := HM.ne (i := 2) (j := 3) rfl rfl (by decide)
    simp [this]⟩
  have hr2 := HM.row hr
  have wR : b < w.heap.size := Nat.lt_of_lt_of_le hbl HM.size
  have tY : b ∉ [s, fb] := by simp [hbs, hbf]
  refine Kv l b o n c hl hnc true abi aF aS aG aB ak aj au ah 2 H.b1 H.b2 H.b3 H.b4 H.b5 H.b6 H.b7 H.c1 (by have := H.c3; omega) H.s1 hs2 w wR hr2 [s, fb] tY a w s fb pg hbs (HF.sub _ (by kernel_rfl)) BJ ?_
  clear HF BJ a
  intro a w2 aW jZ aT kN sd hs1 hs3 HF bU
  refine JY l b o n c hl hnc true abi aF aS aG aB ak aj au ah 2 H.b1 H.b2 H.b3 H.b4 H.b5 H.b6 H.b7 _ (by simp; omega) sc H.sec H.bd [s, fb] w s fb pg aW aT sd a w2 jZ kN hs1 hs3 HF bU ?_
  clear HF bU hs1 hs3 a w2 jZ kN
  intro a w2 jq nms hs1 hs3 hS hN hD HF bU
  refine Kr l b o n c hl hnc true abi aF aS aG aB ak aj au ah 2 H.b1 H.b2 H.b3 H.b4 H.b5 H.b6 H.b7 _ sc H.c3 H.str (H.bd _ (by have := H.c3; omega)).v9 H.f1 H.f2 H.f3 H.nn [s, fb] w wR hr2 tY s fb pg aW aT sd a w2 jq nms hS HF bU ?_
  clear HF bU hS a w2
  intro a w2 dJ hS HF bU
  have hf2 := H.f2
  have hf3 := H.f3
  refine Ko l b o n c hl hnc true abi aF aS aG aB ak aj au ah 2 H.b7 _ sc H.bd nb ((l.drop (sc (ah - 1)).off).take (sc (ah - 1)).bH) (sc (ah - 1)).bH (by simp; omega) (by unfold maxLen; omega) H.name [s, fb] w s fb pg aW aT sd dJ jq nms hN hD a w2 hS HF bU ?_
  clear HF bU hS a w2
  intro a w2 hS HF bU
  refine Jh fb a w2 (HF.sub _ (by kernel_rfl)) ?_
  intro a HF
  have hk := bU.keep
  have hk2 : Keep [fb] w w2 := hk.less ((bU.get (i := 5) rfl).trans (HM.get (i := 3) rfl).symm)
  have hkw : Keep [] w0 w2 := HM.keep.step hk2 (by intro g hg; simp only [List.mem_cons, List.not_mem_nil, or_false] at hg; subst hg; exact HM.own (i := 2) rfl)
  have hz := HM.size
  refine jk HF rfl rfl rfl ⟨fb, pg, aW, cur, jq, rfl, hkw.below, ⟨HM.ge (i := 2) rfl, HM.ge (i := 1) rfl, ?_, bU.get (i := 4) rfl, ?_, hcs, hP.keep hk2 ?_, bU.get (i := 3) rfl, hs1, ?_, hD⟩⟩
  ·refine Nat.le_trans hz ((bU.own (i := 3) rfl).elim id fun hm => ?_)
   simp only [List.mem_cons, List.not_mem_nil, or_false] at hm
   rcases hm with e | e
   ·exact absurd e (bU.ne (i := 3) (j := 5) rfl rfl (by decide))
   ·exact absurd e (bU.ne (i := 3) (j := 4) rfl rfl (by decide))
  ·exact (hk2.block pg (HM.lt (i := 1) rfl) (by simpa using HM.ne (i := 1) (j := 2) rfl rfl (by decide))).trans (HM.get (i := 1) rfl)
  ·intro g hg
   simp only [List.mem_cons, List.not_mem_nil, or_false] at hg
   subst hg
   exact ⟨_, _, _, HM.get (i := 2) rfl, by decide, by decide⟩
  ·intro j hj
   obtain ⟨pb, sb, g1, g2, g3, g4, g5⟩ := hS j hj
   simp only [hj, ↓reduceIte] at g4
   exact ⟨pb, sb, g1, by omega, by omega, g4, g5⟩
 rcases Nat.eq_zero_or_pos aj with h0 | h0
 ·subst h0
  refine IE l b o n c hl hnc true abi aF aS aG aB ak 0 au ah 2 H.b1 H.b2 H.b3 H.b4 H.b5 H.b6 H.b7 H.c1 (by have := H.c3; omega) w0 a w s fb HF HM ?_
  clear HF HM a w
  intro a w HF HM
  exact Iy l b o n c hl hnc true abi aF aS aG aB ak 0 au ah 2 H.b1 H.b2 H.b3 H.b4 H.b5 H.b6 H.b7 H.c1 (by have := H.c3; omega) H.p1 hp2 w0 hbl hr a w s fb HF HM hD
 ·refine IC l b o n c hl hnc true abi aF aS aG aB ak aj au ah 2 H.b1 H.b2 H.b3 H.b4 H.b5 H.b6 H.b7 H.c1 (by have := H.c3; omega) h0 w0 a w s fb HF HM ?_
  clear HF HM a w
  intro a w HF HM
  exact Iw l b o n c hl hnc true abi aF aS aG aB ak aj au ah 2 H.b1 H.b2 H.b3 H.b4 H.b5 H.b6 H.b7 H.c1 (by have := H.c3; omega) h0 H.p1 hp2 w0 hbl hr a w s fb HF HM hD

theorem H_ (l : List UInt8) (b o n c : Nat) (hl : n = l.length) (hnc : n ≤ c) (wide big : Bool) (abi aF aS aG aB ak aj au ah : Nat) (sg : Nat → lD) (sc : Nat → iM) (nb : Nat → List UInt8) (H : qK l n wide big abi aF aS aG aB ak aj au ah sg sc nb) (w0 : World) (hbl : b < w0.heap.size) (hr : Row w0 (some ⟨b, o, none⟩) (l.map Bv)) :
  Calls Tryd.prog 78 #[.iface 178 (.slice (some ⟨b, o, none⟩) n c)] w0 fun e w' => ∃ fb pg aW cur jq, e = .returned (.tuple #[aC fb, .nilIface]) ∧ Below w0.heap.size w0 w' ∧ oZ b o n c w0.heap.size w' wide big abi aF aS aG aB aj ah sg sc nb fb pg aW cur jq := by
 cases wide <;> cases big
 ·exact Jk l b o n c hl hnc abi aF aS aG aB ak aj au ah sg sc nb H w0 hbl hr
 ·exact Jl l b o n c hl hnc abi aF aS aG aB ak aj au ah sg sc nb H w0 hbl hr
 ·exact Ji l b o n c hl hnc abi aF aS aG aB ak aj au ah sg sc nb H w0 hbl hr
 ·exact Jj l b o n c hl hnc abi aF aS aG aB ak aj au ah sg sc nb H w0 hbl hr
end Go.Proofs.YtdgehpocmfjbiaaDoor
namespace Go.Proofs.YtdgehpocmfjbiaaDoor
open Go.RowKit

theorem results_cell_tmp {P : Program} {fn : Func} {p t : Tmp} {ty T : TypeId} {g : Nat} {cs : Array Value} {fs : Array Field} {w : World} {tmps : Array Value} {vt : Value} (h : fn.results = #[.cell p ty, .tmp t]) (hp : tmps.getD p undef = aC g) (ht : tmps.getD t undef = vt) (ho : w.heap[g]? = some (.cells cs T (0, 0))) (hu : P.underlying ty = some (.struct fs)) (hi : (P.info? ty).map (·.size) = some cs.size) :
  (results fn tmps).run P w = .ok (.tuple #[.agg cs, vt]) w := by
 have hl := run_loadVar_row (P := P) w g T ty cs (0, 0) _ ho hu rfl hi
 have hp' : tmps[p]?.getD undef = aC g := by simpa using hp
 have ht' : tmps[t]?.getD undef = vt := by simpa using ht
 simp only [results, h]
 simp [hp', ht', asAddr, hl]
theorem oZ.keep {b o n c z : Nat} {w w' : World} {wide big : Bool} {abi aF aS aG aB aj ah : Nat} {sg : Nat → lD} {sc : Nat → iM} {nb : Nat → List UInt8} {fb pg aW : Nat} {cur jq : Array Value} (h : oZ b o n c z w wide big abi aF aS aG aB aj ah sg sc nb fb pg aW cur jq) (hk : Keep [] w w') : oZ b o n c z w' wide big abi aF aS aG aB aj ah sg sc nb fb pg aW cur jq :=
 ⟨h.zf, h.zp, h.zs, (hk.block _ (jL h.file) (by simp)).trans h.file, (hk.block _ (jL h.Mc) (by simp)).trans h.Mc, h.size, h.prog.keep hk (by intro g hg; cases hg), (hk.block _ (jL h.secs) (by simp)).trans h.secs, h.ssize, h.sec.keep hk (by intro g hg; cases hg), h.ne⟩
theorem Es {w : World} {A : Option Addr} {cs : List Value} (h : Row w A cs) (k : Nat) : Row w A (cs.take k) := fun i v hv => by
 rw [List.getElem?_take] at hv
 split at hv
 ·exact h i v hv
 ·cases hv
theorem ED : (Tryd.prog.info? 5).map (fun i => (i.zero, i.size, i.bytes)) = some (some (.int .u8 0), 1, 1) := by kernel_rfl

theorem open_any (l : List UInt8) (A : Option Addr) (n c : Nat) (hl : n = l.length) (hnc : n ≤ c) (wide big : Bool) (abi aF aS aG aB ak aj au ah : Nat) (sg : Nat → lD) (sc : Nat → iM) (nb : Nat → List UInt8) (H : qK l n wide big abi aF aS aG aB ak aj au ah sg sc nb) (h47 : n ≤ 140737488355328) (w0 : World) (hr : Row w0 A (l.map Bv)) :
  Calls Tryd.prog 55 #[.slice A n c] w0 fun e w' => ∃ g cap z fb pg aW cur jq, e = .returned (.tuple #[aC fb, .bool true]) ∧ Below w0.heap.size w0 w' ∧ n ≤ cap ∧ cap ≤ maxLen ∧ w0.heap.size ≤ g ∧ w0.heap.size ≤ z ∧ Row w' (some ⟨g, 0, none⟩) (l.map Bv) ∧ oZ g 0 n cap z w' wide big abi aF aS aG aB aj ah sg sc nb fb pg aW cur jq := by
 have hn16 : 16 ≤ n := by
  have := H.head.len
  rw [← hl] at this
  unfold fF at this
  split at this <;> omega
 obtain ⟨w, hw⟩ : ∃ w, w0 = w := ⟨_, rfl⟩
 have HM : Mm [] w0 w [] := hw ▸ Mm.start w0
 conv => arg 4; rw [hw]
 clear hw
 refine dD Tryd.func55 rfl Tryd.ntmps55 [(0, .slice A n c)] (by kernel_rfl) (Nat.le_of_ble_eq_true rfl) ?_
 intro a HF
 refine bC HF HM rfl [] [(0, .slice A n c), (2, .pointer none), (3, .bool false)] [] (by kernel_rfl) ?_
 clear HF HM; intro a w HF HM
 refine wp_seq (wp_region_lit ?_)
 refine aO HF HM rfl 1 [] [(0, .slice A n c), (2, .pointer none), (3, .bool false), (7, .slice A n c)] [] (by kernel_rfl) ?_
 clear HF HM; intro a w HF HM
 refine zT HF HM rfl _ _ 33 rfl rfl 5 Tryd.underlying33 ED rfl (by omega) rfl A n c (l.map Bv) rfl (by simp [hl]) (by omega) (HM.row hr) (qL _) (by unfold maxLen; omega) (by omega) ?_
 intro a2 w1 g cap cb bU htk hcs uP hcap hbel HF2; have hg0 : w0.heap.size ≤ g := bU.ge (i := 0) rfl; clear HF HM hbel; have HM := bU; have HF := HF2; clear bU HF2
 replace HF := HF.sub [(0, .slice A n c), (2, .pointer none), (3, .bool false), (7, .slice A n c), (8, aH g n cap)] (by kernel_rfl)
 have hrow : Row w1 (some ⟨g, 0, none⟩) (l.map Bv) := by have := Es (HM.rowAt (i := 0) rfl) (n * 1); rwa [htk] at this
 refine aO HF HM rfl 1 [] [(0, .slice A n c), (2, .pointer none), (3, .bool false), (9, .iface 178 (aH g n cap))] [(g, .cells cb 5 (0, 0))] (by kernel_rfl) ?_
 clear HF HM; intro a w HF HM
 have hrow2 : Row w (some ⟨g, 0, none⟩) (l.map Bv) := by have := Es (HM.rowAt (i := 0) rfl) (n * 1); rwa [htk] at this
 refine bn HF (by kernel_rfl) 78 #[.iface 178 (aH g n cap)] (by kernel_rfl) (fun w => by kernel_rfl) (Calls.mono (H_ l g 0 n cap hl uP wide big abi aF aS aG aB ak aj au ah sg sc nb H w (HM.lt (i := 0) rfl) hrow2) ?_)
 rintro _ w2 ⟨fb, pg, aW, cur, jq, rfl, hb, hF⟩
 have hzz : w0.heap.size ≤ w.heap.size := HM.size
 have hrow3 := hrow2.below hb
 replace HM := HM.call hb
 refine ⟨_, rfl, ?_⟩; clear HF; intro a HF; replace HF := HF.sub [(0, .slice A n c), (2, .pointer none), (3, .bool false), (9, .iface 178 (aH g n cap)), (10, .tuple #[aC fb, .nilIface])] (by kernel_rfl)
 refine wp_pure HF HM rfl 5 [] [(0, .slice A n c), (2, .pointer none), (3, .bool false), (4, aC fb), (5, .nilIface)] (by kernel_rfl) ?_
 clear HF; intro a HF
 refine aI ?_
 refine sG (by kernel_rfl) (by kernel_rfl) ?_
 refine rU HF HM rfl 5 [] [(0, .slice A n c), (2, aC fb), (3, .bool true)] (by kernel_rfl) ?_
 clear HF; intro a HF
 refine uJ ?_
 rintro _ ⟨nq, rfl⟩
 refine wp_ret ?_
 exact jk HF rfl rfl rfl ⟨g, cap, w.heap.size, fb, pg, aW, cur, jq, rfl, (HM.drewN nq).below, uP, hcap, hg0, hzz, hrow3, hF.keep ((Keep.refl [] _).drewN nq)⟩

abbrev jr := fun (A : Option Addr) (n : Nat) (c : Nat) z1 => ([(0, .slice A n c), (2, aC z1), (3, .bool false)] : Slots)
abbrev yc := fun fb (wide : Bool) (big : Bool) (abi : Nat) (aF : Nat) (aS : Nat) (aG : Nat) (aB : Nat) aW (ah : Nat) pg (aj : Nat) => ((fb, .cells #[aK (if wide then 2 else 1 : Int), aK (if big then 2 else 1 : Int), aK 1, aV abi, aV aF, (aP big), bf aS, bf aG, aJ aB, aH aW ah ah, aH pg aj aj, aN, aN, aN] 131 (0, 0)) : Nat × Obj)
theorem Di (l : List UInt8) (A : Option Addr) (n c : Nat) (hl : n = l.length) (hnc : n ≤ c) (wide big : Bool) (abi aF aS aG aB ak aj au ah : Nat) (sg : Nat → lD) (sc : Nat → iM) (nb : Nat → List UInt8) (H : qK l n wide big abi aF aS aG aB ak aj au ah sg sc nb) (h47 : n ≤ 140737488355328) (w0 : World) (hr : Row w0 A (l.map Bv)) :
  Calls Tryd.prog 31 #[.slice A n c] w0 fun e w' => e = .returned (.tuple #[.agg #[ay (if wide then 2 else 1 : Int), ay (if big then 2 else 1 : Int), ay 1, aA abi, aA aF, aA aS, aA aG, aJ aB], .bool true]) ∧ Below w0.heap.size w0 w' := by
 obtain ⟨w, hw⟩ : ∃ w, w0 = w := ⟨_, rfl⟩
 have HM : Mm [] w0 w [] := hw ▸ Mm.start w0
 conv => arg 4; rw [hw]
 clear hw
 refine dD Tryd.func31 rfl Tryd.ntmps31 [(0, .slice A n c)] (by kernel_rfl) (Nat.le_of_ble_eq_true rfl) ?_
 intro a HF
 obtain ⟨z1, hz1⟩ : ∃ z, w.heap.size = z := ⟨_, rfl⟩
 refine bC HF HM hz1 [] (jr A n c z1) [(z1, .cells #[ay 0, ay 0, ay 0, ay 0, ay 0, ay 0, ay 0, bG 0] 48 (0, 0))] (by kernel_rfl) ?_
 clear HF HM hz1; intro a w HF HM
 refine wp_seq (wp_region_lit ?_)
 refine aO HF HM rfl 1 [] ((jr A n c z1) ++ [(7, .slice A n c)]) [(z1, .cells #[ay 0, ay 0, ay 0, ay 0, ay 0, ay 0, ay 0, bG 0] 48 (0, 0))] (by kernel_rfl) ?_
 clear HF HM; intro a w HF HM
 refine bn HF (by kernel_rfl) 55 #[.slice A n c] (by kernel_rfl) (fun w => by kernel_rfl) (Calls.mono (open_any l A n c hl hnc wide big abi aF aS aG aB ak aj au ah sg sc nb H h47 w (HM.row hr)) ?_)
 rintro _ w1 ⟨g, cap, z, fb, pg, aW, cur, jq, rfl, hb, uP, hcap, hg0, hz0, hrow, MJ⟩
 have hzz := HM.size
 replace HM : Mm [] w0 w1 [yc fb wide big abi aF aS aG aB aW ah pg aj, (z1, .cells #[ay 0, ay 0, ay 0, ay 0, ay 0, ay 0, ay 0, bG 0] 48 (0, 0))] := HM.push hb (Nat.le_trans hz0 MJ.zf) MJ.file
 clear hb
 refine ⟨_, rfl, ?_⟩; clear HF; intro a HF; replace HF := HF.sub ((jr A n c z1) ++ [(7, .slice A n c), (8, .tuple #[aC fb, .bool true])]) (by kernel_rfl)
 refine wp_pure HF HM rfl 5 [] ((jr A n c z1) ++ [(4, aC fb), (5, .bool true)]) (by kernel_rfl) ?_
 clear HF; intro a HF
 refine aI ?_
 refine wp_seq ?_
 refine wp_seq (wp_region_lit ?_)
 refine wp_pure HF HM rfl 2 [] ((jr A n c z1) ++ [(4, aC fb), (5, .bool true), (12, .bool false)]) (by kernel_rfl) ?_
 clear HF; intro a HF
 refine aI ?_
 refine aZ HF rfl ?_
 refine wp_skip ?_
 repeat (first | refine aQ ?_ | refine aU ?_)
 replace HF := HF.sub ((jr A n c z1) ++ [(4, aC fb)]) (by kernel_rfl)
 refine jO HM (by kernel_rfl) [yc fb wide big abi aF aS aG aB aW ah pg aj] [(0, false), (1, false), (2, false), (3, false), (4, false), (5, false), (6, false), (7, false), (8, false), (9, false), (10, false), (11, false), (12, false), (13, false), (14, false), (15, false), (16, false), (17, false), (18, false), (19, false), (20, false), (21, false), (22, false), (23, false), (24, false), (25, false), (26, false), (27, false), (28, false), (29, false), (30, false), (31, false), (32, false), (33, false), (34, false), (35, false), (36, false), (37, false), (38, false), (39, false), (40, false), (41, false), (42, false), (43, false), (44, false), (45, false), (46, false), (47, false), (48, true), (49, false)] (by kernel_rfl) ?_
 clear HM; intro w2 HM
 refine bD HF (HM.told [0] rfl) 6 [[0]] ((jr A n c z1) ++ [(4, aC fb), (19, ay (IntKind.i64.wrap (if wide then 2 else 1 : Int)))]) (by kernel_rfl) ?_
 clear HF; intro a HF
 rw [show IntKind.i64.wrap (if wide then 2 else 1 : Int) = (if wide then 2 else 1 : Int) from IntWalk.i64_in _ (by cases wide <;> simp)] at HF
 refine bD HF (HM.told [0] rfl) 6 [[0]] ((jr A n c z1) ++ [(4, aC fb), (19, ay (if wide then 2 else 1 : Int)), (25, ay (IntKind.i64.wrap (if big then 2 else 1 : Int)))]) (by kernel_rfl) ?_
 clear HF; intro a HF
 rw [show IntKind.i64.wrap (if big then 2 else 1 : Int) = (if big then 2 else 1 : Int) from IntWalk.i64_in _ (by cases big <;> simp)] at HF
 refine bD HF (HM.told [0] rfl) 6 [[0]] ((jr A n c z1) ++ [(4, aC fb), (19, ay (if wide then 2 else 1 : Int)), (25, ay (if big then 2 else 1 : Int)), (31, ay 1)]) (by kernel_rfl) ?_
 clear HF; intro a HF
 refine bD HF (HM.told [0] rfl) 6 [[0]] ((jr A n c z1) ++ [(4, aC fb), (19, ay (if wide then 2 else 1 : Int)), (25, ay (if big then 2 else 1 : Int)), (31, ay 1), (37, ay (IntKind.i64.wrap ((abi : Nat) : Int)))]) (by kernel_rfl) ?_
 clear HF; intro a HF
 rw [show IntKind.i64.wrap ((abi : Nat) : Int) = ((abi : Nat) : Int) from IntWalk.i64_in _ (by have := H.a1; omega)] at HF
 refine bD HF (HM.told [0] rfl) 6 [[0]] ((jr A n c z1) ++ [(4, aC fb), (19, ay (if wide then 2 else 1 : Int)), (25, ay (if big then 2 else 1 : Int)), (31, ay 1), (37, aA abi), (43, ay (IntKind.i64.wrap ((aF : Nat) : Int)))]) (by kernel_rfl) ?_
 clear HF; intro a HF
 rw [show IntKind.i64.wrap ((aF : Nat) : Int) = ((aF : Nat) : Int) from IntWalk.i64_in _ (by have := H.a2; omega)] at HF
 refine bD HF (HM.told [0] rfl) 6 [[0]] ((jr A n c z1) ++ [(4, aC fb), (19, ay (if wide then 2 else 1 : Int)), (25, ay (if big then 2 else 1 : Int)), (31, ay 1), (37, aA abi), (43, aA aF), (49, ay (IntKind.i64.wrap ((aS : Nat) : Int)))]) (by kernel_rfl) ?_
 clear HF; intro a HF
 rw [show IntKind.i64.wrap ((aS : Nat) : Int) = ((aS : Nat) : Int) from IntWalk.i64_in _ (by have := H.b1; omega)] at HF
 refine bD HF (HM.told [0] rfl) 6 [[0]] ((jr A n c z1) ++ [(4, aC fb), (19, ay (if wide then 2 else 1 : Int)), (25, ay (if big then 2 else 1 : Int)), (31, ay 1), (37, aA abi), (43, aA aF), (49, aA aS), (55, ay (IntKind.i64.wrap ((aG : Nat) : Int)))]) (by kernel_rfl) ?_
 clear HF; intro a HF
 rw [show IntKind.i64.wrap ((aG : Nat) : Int) = ((aG : Nat) : Int) from IntWalk.i64_in _ (by have := H.b2; omega)] at HF
 refine bD HF (HM.told [0] rfl) 6 [[0]] ((jr A n c z1) ++ [(4, aC fb), (19, ay (if wide then 2 else 1 : Int)), (25, ay (if big then 2 else 1 : Int)), (31, ay 1), (37, aA abi), (43, aA aF), (49, aA aS), (55, aA aG), (61, .agg #[ay (if wide then 2 else 1 : Int), ay (if big then 2 else 1 : Int), ay 1, aA abi, aA aF, aA aS, aA aG, aJ aB])]) (by kernel_rfl) ?_
 clear HF; intro a HF
 replace HF := HF.sub ((jr A n c z1) ++ [(4, aC fb), (61, .agg #[ay (if wide then 2 else 1 : Int), ay (if big then 2 else 1 : Int), ay 1, aA abi, aA aF, aA aS, aA aG, aJ aB])]) (by kernel_rfl)
 refine bQ rfl ?_
 refine aO HF HM rfl 1 [[0, 0, 0, 0, 0, 0, 0, 0]] ((jr A n c z1) ++ [(4, aC fb)]) [yc fb wide big abi aF aS aG aB aW ah pg aj, (z1, .cells #[ay (if wide then 2 else 1 : Int), ay (if big then 2 else 1 : Int), ay 1, aA abi, aA aF, aA aS, aA aG, aJ aB] 48 (0, 0))] (by kernel_rfl) ?_
 clear HF HM; intro a w HF HM
 refine cZ (HM.told [0] rfl) ?_
 refine bD HF (HM.told [0] rfl) 1 [] [(0, .slice A n c), (2, aC z1), (4, aC fb), (3, .bool true)] (by kernel_rfl) ?_
 clear HF; intro a HF
 refine iP ?_
 refine aQ ?_
 refine wp_ret ?_
 exact bodyPost_ret (results_cell_tmp rfl (HF.getD rfl) (HF.getD rfl) (HM.get (i := 1) rfl) Tryd.underlying48 (by kernel_rfl)) HF.1 ⟨rfl, HM.below⟩

end Go.Proofs.YtdgehpocmfjbiaaDoor
namespace Go.Proofs.YtdgehpocmfjbiaaDoor
open Go.RowKit

theorem vY {α : Type} (f : α → List UInt8) (B : Nat) : ∀ l : List α, (∀ a ∈ l, (f a).length ≤ B) → (l.flatMap f).length ≤ l.length * B
 | [], _ => by simp
 | a :: l, h => by
  have h1 := vY f B l fun b hb => h b (by simp [hb])
  have h2 := h a (by simp)
  rw [List.flatMap_cons, List.length_append, List.length_cons, Nat.succ_mul]
  omega
structure Seg.Ok (wide : Bool) (s : Seg) : Prop where
 ty : s.ty < 2147483648
 flags : s.flags < 4294967296
 bI : s.bI < 256 ^ iw wide
 bJ : s.bJ < 256 ^ iw wide
 bM : s.bM < 256 ^ iw wide
 align : s.align < 256 ^ iw wide
 data : s.data.length ≤ 65536
structure Part.Ok (wide : Bool) (p : Part) : Prop where
 name : p.name.length ≤ 1024
 nul : 0 ∉ p.name
 ty : p.ty < 4294967296
 flags : p.flags < 4294967296
 zip : (oC (p.flags : Int) 2048 == 0) = true
 addr : p.addr < 256 ^ iw wide
 link : p.link < 4294967296
 info : p.info < 4294967296
 align : p.align < 256 ^ iw wide
 ent : p.ent < 256 ^ iw wide
 size : p.size < 256 ^ iw wide
 FV : p.size < 4611686018427387904
 data : p.data.length ≤ 1100000
structure dK.Ok (x : dK) : Prop where
 abi : x.abi < 256
 aF : x.aF < 256
 ty : x.ty < 65536
 machine : x.machine < 65536
 entry : x.entry < 256 ^ iw x.wide
 cO : x.cO.length ≤ 100
 parts : x.parts.length ≤ 102
 seg : ∀ s ∈ x.cO, Seg.Ok x.wide s
 part : ∀ p ∈ x.parts, Part.Ok x.wide p
def DZ (x : dK) (i : Nat) : lD := match x.cO[i]? with
 | some s => ⟨s.ty, s.flags, x.jG i, s.bI, s.bJ, s.data.length, s.bM, s.align⟩
 | none => ⟨0, 0, 0, 0, 0, 0, 0, 0⟩
def Ai (x : dK) (i : Nat) : iM := match x.all[i]? with
 | some p => ⟨x.jX i, p.ty, p.flags, p.addr, x.iO i, rH p, p.link, p.info, p.align, p.ent⟩
 | none => ⟨0, 0, 0, 0, 0, 0, 0, 0, 0, 0⟩
def Eb (x : dK) (i : Nat) : List UInt8 := (x.names[i]?).getD []

section
variable {x : dK}
theorem dK.Ok.wH (h : x.Ok) : x.names.length = x.parts.length + 2 := by simp [dK.names, dK.firsts]
theorem dK.uh (x : dK) : x.all.length = x.parts.length + 2 := by simp [dK.all, dK.firsts]
theorem dK.Ok.o_ (h : x.Ok) : (dA x.names).length ≤ 110000 := by
 have hb := vY (fun n : List UInt8 => n ++ [0]) 1025 x.names (by
  intro n hn
  simp only [dK.names, dK.firsts, List.map_cons, List.mem_append, List.mem_cons, List.mem_map, List.not_mem_nil, or_false] at hn
  rcases hn with (rfl | ⟨p, hp, rfl⟩) | rfl
  ·simp [uy]
  ·have := (h.part p hp).name
   simp; omega
  ·simp [wZ])
 rw [h.wH] at hb
 have := h.parts
 unfold dA
 rw [List.length_cons]
 have : (x.parts.length + 2) * 1025 ≤ 104 * 1025 := Nat.mul_le_mul_right _ (by omega)
 omega
theorem dK.Ok.yN (h : x.Ok) : x.kZ.length ≤ 6553600 := by
 have := vY (fun s : Seg => s.data) 65536 x.cO fun s hs => (h.seg s hs).data
 have h2 : x.cO.length * 65536 ≤ 100 * 65536 := Nat.mul_le_mul_right _ h.cO
 unfold dK.kZ
 omega
theorem Ij (p : Part) : (lY p).length ≤ p.data.length := by unfold lY; split <;> simp
theorem dK.Ok.yO (h : x.Ok) : x.lZ.length ≤ 114400000 := by
 have := vY lY 1100000 x.all (by
  intro p hp
  refine Nat.le_trans (Ij p) ?_
  simp only [dK.all, dK.firsts, List.mem_append, List.mem_cons, List.not_mem_nil, or_false] at hp
  rcases hp with (rfl | hp) | rfl
  ·simp [uy]
  ·have := (h.part p hp).data
   omega
  ·have := h.o_
   show (dA x.names).length ≤ 1100000
   omega)
 have h2 : x.all.length * 1100000 ≤ 104 * 1100000 := Nat.mul_le_mul_right _ (by rw [dK.uh]; have := h.parts; omega)
 unfold dK.lZ
 omega
theorem dK.Ok.G7 (h : x.Ok) : x.at0 ≤ 5664 := by
 have := h.cO
 unfold dK.at0 fF gQ
 split <;> omega
theorem dK.Ok.CV (h : x.Ok) : x.kM ≤ 121000000 := by
 have h1 := h.G7
 have h2 := h.yN
 have h3 := h.yO
 unfold dK.kM
 rw [List.length_append]
 omega
theorem dK.Ok.length_le (h : x.Ok) : x.file.length ≤ 122000000 := by
 rw [dK.CP, dK.uh]
 have h1 := h.CV
 have h2 := h.parts
 have : (x.parts.length + 2) * h_ x.wide ≤ 104 * 64 := Nat.mul_le_mul (by omega) (by unfold h_; split <;> omega)
 omega
theorem dK.xY (x : dK) (i : Nat) : x.jG i ≤ x.kM := by
 have := yF (·.data) x.cO i
 unfold dK.jG dK.kM dK.kZ
 rw [List.length_append]
 omega
theorem dK.uD (x : dK) (i : Nat) : x.iO i ≤ x.kM := by
 have := yF lY x.all i
 unfold dK.iO dK.kM dK.lZ
 rw [List.length_append]
 split <;> omega
theorem IV (wide : Bool) : 4294967296 ≤ 256 ^ iw wide := by cases wide <;> decide
theorem Nu (wide : Bool) : 256 ^ iw wide ≤ 18446744073709551616 := by cases wide <;> decide

structure Part.Fit (wide : Bool) (p : Part) : Prop where
 ty : p.ty < 4294967296
 flags : p.flags < 4294967296
 zip : (oC (p.flags : Int) 2048 == 0) = true
 addr : p.addr < 256 ^ iw wide
 link : p.link < 4294967296
 info : p.info < 4294967296
 align : p.align < 256 ^ iw wide
 ent : p.ent < 256 ^ iw wide
 size : rH p < 256 ^ iw wide
 FV : rH p < 4611686018427387904
theorem DR : (oC ((0 : Nat) : Int) 2048 == 0) = true := by decide
theorem dK.Ok.fit (h : x.Ok) : ∀ p ∈ x.all, Part.Fit x.wide p := by
 intro p hp
 have hb := IV x.wide
 simp only [dK.all, dK.firsts, List.mem_append, List.mem_cons, List.not_mem_nil, or_false] at hp
 rcases hp with (rfl | hp) | rfl
 ·exact ⟨by decide, by decide, DR, by show 0 < _; omega, by decide, by decide, by show 0 < _; omega, by show 0 < _; omega, by show 0 < _; omega, by decide⟩
 ·have o := h.part p hp
  have h1 := o.size
  have h2 := o.FV
  have h3 := o.data
  refine ⟨o.ty, o.flags, o.zip, o.addr, o.link, o.info, o.align, o.ent, ?_, ?_⟩
  ·unfold rH qp; split <;> omega
  ·unfold rH qp; split <;> omega
 ·have hn := h.o_
  refine ⟨by show 3 < _; omega, by show 0 < _; omega, DR, by show 0 < _; omega, by show 0 < _; omega, by show 0 < _; omega, by show 1 < _; omega, by show 0 < _; omega, ?_, ?_⟩
  ·show (dA x.names).length < _; omega
  ·show (dA x.names).length < _; omega
theorem CW (x : dK) (i : Nat) (hi : i < x.all.length) : Ai x i = ⟨x.jX i, x.all[i].ty, x.all[i].flags, x.all[i].addr, x.iO i, rH x.all[i], x.all[i].link, x.all[i].info, x.all[i].align, x.all[i].ent⟩ := by
 simp [Ai, hi]
theorem rF (x : dK) (i : Nat) (hi : i < x.cO.length) : DZ x i = ⟨x.cO[i].ty, x.cO[i].flags, x.jG i, x.cO[i].bI, x.cO[i].bJ, x.cO[i].data.length, x.cO[i].bM, x.cO[i].align⟩ := by
 simp [DZ, hi]
theorem dK.last (x : dK) : x.all[x.all.length - 1]? = some x.BN := by
 have : x.all.length - 1 = x.firsts.length := by simp [dK.all]
 rw [this]
 simp [dK.all]
theorem JO (x : dK) : Ai x (x.all.length - 1) = ⟨x.jX (x.all.length - 1), 3, 0, 0, x.iO (x.all.length - 1), (dA x.names).length, 0, 0, 1, 0⟩ := by
 unfold Ai
 rw [dK.last]
 rfl
theorem dK.Ok.wK (h : x.Ok) (i : Nat) (hi : i < x.all.length) : x.jX i < 4294967296 := by
 unfold dK.jX
 split
 ·omega
 ·have := KC x.names i (by rw [h.wH]; rw [dK.uh] at hi; exact hi)
  have := h.o_
  omega
theorem dK.Ls (x : dK) : ∃ r, x.file.drop (x.iO (x.all.length - 1)) = dA x.names ++ r := by
 have hl := dK.uh x
 obtain ⟨r, e⟩ := x.Nz (x.all.length - 1) (by omega) (by omega)
 have hg : x.all[x.all.length - 1]'(by omega) = x.BN := by
  have := x.last
  rw [List.getElem?_eq_getElem (by omega)] at this
  exact Option.some.inj this
 rw [hg] at e
 exact ⟨r, e⟩
theorem dK.Ok.nul (h : x.Ok) : ∀ n ∈ x.names, 0 ∉ n := by
 intro n hn
 simp only [dK.names, dK.firsts, List.map_cons, List.mem_append, List.mem_cons, List.mem_map, List.not_mem_nil, or_false] at hn
 rcases hn with (rfl | ⟨p, hp, rfl⟩) | rfl
 ·simp [uy]
 ·exact (h.part p hp).nul
 ·decide
theorem qG (h : x.Ok) : qK x.file x.file.length x.wide x.big x.abi x.aF x.ty x.machine x.entry (fF x.wide) x.cO.length x.kM x.all.length (DZ x) (Ai x) (Eb x) := by
 have hb := IV x.wide
 have ht := Nu x.wide
 have hH : fF x.wide ≤ 64 := by unfold fF; split <;> omega
 have hH0 : 52 ≤ fF x.wide := by unfold fF; split <;> omega
 have hS0 : 40 ≤ h_ x.wide := by unfold h_; split <;> omega
 have hal := dK.uh x
 have hsh := h.CV
 have hsg := h.cO
 have hpt := h.parts
 have hlen := h.length_le
 have hfl := x.CP
 have h0 : x.at0 ≤ x.kM := by unfold dK.kM; omega
 have h00 : x.at0 = fF x.wide + gQ x.wide * x.cO.length := rfl
 have hmul : 1 * 40 ≤ x.all.length * h_ x.wide := Nat.mul_le_mul (by omega) hS0
 have hen := h.entry
 have hlast := JO x
 obtain ⟨rn, en⟩ := x.Ls
 have hnl := congrArg List.length en
 rw [List.length_drop, List.length_append] at hnl
 have hnb := h.o_
 refine ⟨?_, h.abi, h.aF, h.ty, h.machine, by omega, by omega, by omega, by omega, by omega, by omega, by omega, by omega, ?_, by omega, ?_, by omega, ?_, ?_, ?_, ?_, ?_, ?_, ?_, ?_, ?_, ?_, ?_, ?_, ?_, ?_⟩
 ·obtain ⟨r, e⟩ := x.JJ
  rw [e]
  exact Np x.wide x.big x.abi x.aF x.ty x.machine x.entry x.cO.length (fF x.wide) x.all.length x.kM r h.ty h.machine h.entry (by omega) (by omega) (by omega) (by omega)
 ·show fF x.wide + x.cO.length * gQ x.wide ≤ _
  rw [Nat.mul_comm]; omega
 ·show x.kM + x.all.length * h_ x.wide ≤ _
  omega
 ·intro i hi
  have e1 : (x.file.drop (fF x.wide)).take (x.cO.length * gQ x.wide) = dR x.oq 0 x.cO := by
   rw [x.KL, List.take_left' (by rw [x.qM, Nat.mul_comm])]
  obtain ⟨r, e2⟩ := zX x.oq (gQ x.wide) x.cO (fun j a _ => pX ..) i hi
  have o := h.seg _ (List.getElem_mem hi)
  have hd := o.data
  have hp := x.xY i
  rw [rF x i hi]
  show um (((x.file.drop (fF x.wide)).take (x.cO.length * gQ x.wide)).drop (i * gQ x.wide)) _ _ _ _ _ _ _ _ _ _
  rw [e1, e2]
  have hty := o.ty
  exact Nw x.wide x.big _ _ _ _ _ _ _ _ r (by omega) o.flags o.bI o.bJ o.bM o.align (by omega) (by omega)
 ·intro i hi; have o := (h.seg _ (List.getElem_mem hi)).ty; rw [rF x i hi]; show x.cO[i].ty < _; omega
 ·intro i hi; have o := (h.seg _ (List.getElem_mem hi)).data; have := x.xY i; rw [rF x i hi]; show x.jG i + x.cO[i].data.length < _; omega
 ·intro i hi; have o := (h.seg _ (List.getElem_mem hi)).bI; rw [rF x i hi]; show x.cO[i].bI ≤ _; omega
 ·intro i hi; have o := (h.seg _ (List.getElem_mem hi)).bJ; rw [rF x i hi]; show x.cO[i].bJ ≤ _; omega
 ·intro i hi; have o := (h.seg _ (List.getElem_mem hi)).bM; rw [rF x i hi]; show x.cO[i].bM ≤ _; omega
 ·intro i hi; have o := (h.seg _ (List.getElem_mem hi)).align; rw [rF x i hi]; show x.cO[i].align ≤ _; omega
 ·intro i hi
  have e1 : (x.file.drop x.kM).take (x.all.length * h_ x.wide) = dR x.mP 0 x.all := by
   rw [x.JB, List.take_of_length_le (by rw [x.yw]; exact Nat.le_refl _)]
  obtain ⟨r, e2⟩ := zX x.mP (h_ x.wide) x.all (fun j a _ => pY ..) i hi
  have o := h.fit _ (List.getElem_mem hi)
  have hp := x.uD i
  rw [CW x i hi]
  show uo (((x.file.drop x.kM).take (x.all.length * h_ x.wide)).drop (i * h_ x.wide)) _ _ _ _ _ _ _ _ _ _ _ _
  rw [e1, e2]
  exact Ny x.wide x.big _ _ _ _ _ _ _ _ _ _ r (h.wK i hi) o.ty o.flags o.addr (by omega) o.size o.link o.info o.align o.ent
 ·intro i hi
  have o := h.fit _ (List.getElem_mem hi)
  have hp := x.uD i
  have a1 := o.addr
  have a2 := o.align
  have a3 := o.ent
  rw [CW x i hi]
  exact ⟨h.wK i hi, o.ty, o.flags, by show x.iO i < _; omega, o.FV, by show x.all[i].addr ≤ _; omega, by show x.all[i].align ≤ _; omega, by show x.all[i].ent ≤ _; omega, o.zip⟩
 ·rw [hlast]
 ·rw [hlast]; show 0 < (dA x.names).length; simp [dA]
 ·rw [hlast]; show (dA x.names).length < _; omega
 ·rw [hlast]
  show x.iO (x.all.length - 1) + (dA x.names).length ≤ _
  have := x.uD (x.all.length - 1)
  omega
 ·intro i hi
  rw [hlast, CW x i hi]
  show mD ((x.file.drop (x.iO (x.all.length - 1))).take (dA x.names).length) (x.jX i) = _
  rw [en, List.take_left]
  have hin : i < x.names.length := by rw [h.wH, ← hal]; exact hi
  have hnb : Eb x i = x.names[i] := by simp [Eb, hin]
  rw [hnb]
  unfold dK.jX
  split
  ·rename_i hi0
   subst hi0
   rfl
  ·exact Jm x.names i hin (h.nul _ (List.getElem_mem hin))
end
end Go.Proofs.YtdgehpocmfjbiaaDoor
