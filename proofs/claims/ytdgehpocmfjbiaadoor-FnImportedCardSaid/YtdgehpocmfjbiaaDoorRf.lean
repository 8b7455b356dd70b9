/- elf.NewFile: the loop over the sections. · elf.NewFile: the table of the sections' names is read. · elf.NewFile: the sections are named. · elf.NewFile -/
import Derived.Test.YtdgehpocmfjbiaaDoorRe
import Derived.Test.YtdgehpocmfjbiaaDoorRa
set_option linter.unusedVariables false
set_option linter.unusedSimpArgs false
set_option maxRecDepth 100000
set_option maxHeartbeats 2000000
namespace Go.Proofs.YtdgehpocmfjbiaaDoor
open Go.RowKit

/-- the first k sections, in memory, with the names nf -/
def jo (b o n c : Nat) (z : Nat) (w : World) (sc : Nat → jG) (nf : Nat → ByteArray) (k : Nat) (cur : Array Value) : Prop :=
 ∀ j, j < k → ∃ pb sb, cur[j]? = some (aA pb) ∧ z ≤ pb ∧ z ≤ sb ∧ w.heap[pb]? = some (.cells #[.string (nf j), aX (sc j).ty, aX (sc j).flags, aI (sc j).addr, aI (sc j).off, aI (sc j).bP, aX (sc j).link, aX (sc j).info, aI (sc j).align, aI (sc j).ent, aI (sc j).bP, .iface 144 (aA sb), aA sb, .int .i64 0, .int .i64 0] 153 (0, 0)) ∧ w.heap[sb]? = some (.cells #[.iface 178 (.slice (some ⟨b, o, none⟩) n c), ay (sc j).off, ay (sc j).off, .int .i64 ((((sc j).bP : Nat) : Int) + (((sc j).off : Nat) : Int)), ay (sc j).bP] 246 (0, 0))
theorem jo.keep {b o n c z : Nat} {w w' : World} {sc : Nat → jG} {nf : Nat → ByteArray} {k : Nat} {cur : Array Value} {G : List Nat} (h : jo b o n c z w sc nf k cur) (hk : Keep G w w') (hG : ∀ g ∈ G, ∃ cs t f, w.heap[g]? = some (.cells cs t f) ∧ t ≠ 153 ∧ t ≠ 246) : jo b o n c z w' sc nf k cur := fun j hj => by
 obtain ⟨pb, sb, h1, h2, h3, h4, h5⟩ := h j hj
 refine ⟨pb, sb, h1, h2, h3, (hk.block pb (kM h4) fun hm => ?_).trans h4, (hk.block sb (kM h5) fun hm => ?_).trans h5⟩
 ·obtain ⟨cs, t, f, e, n1, n2⟩ := hG pb hm
  exact dK h4 e (Ne.symm n1) rfl
 ·obtain ⟨cs, t, f, e, n1, n2⟩ := hG sb hm
  exact dK h5 e (Ne.symm n2) rfl
theorem DC {cur cur' : Array Value} {k j : Nat} {v : Value} (hs : k < cur.size) (ht : cur'.toList.take (k + 1) = cur.toList.take k ++ [v]) (hj : j < k + 1) : cur'[j]? = if j < k then cur[j]? else some v := by
 have hget : cur'[j]? = (cur'.toList.take (k + 1))[j]? := by rw [List.getElem?_take, if_pos hj]; simp
 have hlen : (cur.toList.take k).length = k := by simp; omega
 rw [ht] at hget
 split
 ·rename_i hlt
  rw [hget, List.getElem?_append_left (by omega), List.getElem?_take, if_pos hlt]
  simp
 ·rw [hget, List.getElem?_append_right (by omega), hlen, show j - k = 0 by omega]
  rfl
theorem jo.next {b o n c z : Nat} {w : World} {sc : Nat → jG} {nf : Nat → ByteArray} {k : Nat} {cur cur' : Array Value} {pb sb : Nat} (h : jo b o n c z w sc nf k cur) (hs : k < cur.size) (ht : cur'.toList.take (k + 1) = cur.toList.take k ++ [aA pb]) (h2 : z ≤ pb) (h3 : z ≤ sb)
  (h4 : w.heap[pb]? = some (.cells #[.string (nf k), aX (sc k).ty, aX (sc k).flags, aI (sc k).addr, aI (sc k).off, aI (sc k).bP, aX (sc k).link, aX (sc k).info, aI (sc k).align, aI (sc k).ent, aI (sc k).bP, .iface 144 (aA sb), aA sb, .int .i64 0, .int .i64 0] 153 (0, 0))) (h5 : w.heap[sb]? = some (.cells #[.iface 178 (.slice (some ⟨b, o, none⟩) n c), ay (sc k).off, ay (sc k).off, .int .i64 ((((sc k).bP : Nat) : Int) + (((sc k).off : Nat) : Int)), ay (sc k).bP] 246 (0, 0))) : jo b o n c z w sc nf (k + 1) cur' := fun j hj => by
 have hget := DC hs ht hj
 rcases Nat.lt_or_ge j k with hlt | hge
 ·obtain ⟨pb', sb', g1, g2⟩ := h j hlt
  exact ⟨pb', sb', by rw [hget, if_pos hlt, g1], g2⟩
 ·obtain rfl : j = k := by omega
  exact ⟨pb, sb, by rw [hget, if_neg (Nat.lt_irrefl _)], h2, h3, h4, h5⟩
def lK (sc : Nat → jG) (k : Nat) (nms : Array Value) : Prop := ∀ j, j < k → nms[j]? = some (aX (sc j).name)
theorem lK.next {sc : Nat → jG} {k : Nat} {nms h_ : Array Value} (h : lK sc k nms) (hs : k < nms.size) (ht : h_.toList.take (k + 1) = nms.toList.take k ++ [aX (sc k).name]) : lK sc (k + 1) h_ := fun j hj => by
 have hget := DC hs ht hj
 rcases Nat.lt_or_ge j k with hlt | hge
 ·rw [hget, if_pos hlt, h j hlt]
 ·obtain rfl : j = k := by omega
  rw [hget, if_neg (Nat.lt_irrefl _)]
/-- the pointers differ -/
def oV (k : Nat) (cur : Array Value) : Prop := ∀ i j, i < j → j < k → cur[i]? ≠ cur[j]?
theorem oV.next {k : Nat} {cur cur' : Array Value} {v : Value} (h : oV k cur) (hs : k < cur.size) (ht : cur'.toList.take (k + 1) = cur.toList.take k ++ [v]) (hne : ∀ i, i < k → cur[i]? ≠ some v) : oV (k + 1) cur' := fun i j hij hj => by
 have h1 := DC hs ht (j := i) (by omega)
 have h2 := DC hs ht hj
 rw [h1, h2, if_pos (by omega : i < k)]
 split
 ·rename_i hlt; exact h i j hij hlt
 ·exact hne i (by omega)
structure vN (v : jG) : Prop where
 v1 : v.name < 4294967296
 v2 : v.ty < 4294967296
 v3 : v.flags < 4294967296
 v4 : v.off < 4611686018427387904
 v5 : v.bP < 4611686018427387904
 v6 : v.addr ≤ 18446744073709551615
 v7 : v.align ≤ 18446744073709551615
 v8 : v.ent ≤ 18446744073709551615
 v9 : (qP (v.flags : Int) 2048 == 0) = true

theorem TU (l : List UInt8) (b o n c : Nat) (hl : n = l.length) (hnc : n ≤ c) (big : Bool) (abi aH aW aJ aG ak aj au ah : Nat) (dat : Int) (b1 : aW < 65536) (b2 : aJ < 65536) (b3 : aG ≤ 18446744073709551615) (b4 : ak < 4611686018427387904) (b5 : au < 4611686018427387904) (b6 : aj < 200) (b7 : ah < 200) (X : List UInt8) (qh : X.length = (ah * 40)) (sc : Nat → jG) (hv : ∀ i, i < ah → yj (X.drop (i * 40)) false big (sc i).name (sc i).ty (sc i).flags (sc i).addr (sc i).off (sc i).bP (sc i).link (sc i).info (sc i).align (sc i).ent) (bd : ∀ i, i < ah → vN (sc i)) (G : List Nat) (w0 : World) (s fb pg aV aY sd : Nat) {KK : Act → World → Prop} {QQ : Exit → Act → World → Prop} {KR : Act → World → Prop}
  (K : ∀ a w cur nms, cur.size = ah → nms.size = ah → jo b o n c w0.heap.size w sc (fun _ => ⟨#[]⟩) ah cur → lK sc ah nms → oV ah cur → Fr 1287 a [(0, .iface 178 (.slice (some ⟨b, o, none⟩) n c)), (4, aA s), (8, aA fb), (9, (aU big)), (10, ay ak), (11, .int .i64 32), (12, ay aj), (13, ay au), (14, .int .i64 40), (15, ay ah), (16, ay (ah - 1)), (26, .int .i64 40), (41, aC aY ah ah), (42, aC sd (ah * 40) (ah * 40))] → Mm G w0 w [(sd, .cells (X.map Bv).toArray 5 (0, 0)), (aY, .cells nms 36 (0, 0)), (aV, .cells cur 133 (0, 0)), (fb, .cells #[.int .u8 1, .int .u8 dat, .int .u8 1, aT abi, aT aH, (aU big), bn aW, bn aJ, aI aG, aC aV ah ah, aC pg aj aj, .slice none 0 0, .slice none 0 0, .slice none 0 0] 131 (0, 0)), (s, .cells #[.iface 178 (.slice (some ⟨b, o, none⟩) n c), .int .i64 0, .int .i64 0, .int .i64 9223372036854775807, .int .i64 9223372036854775807] 246 (0, 0))] → KK a w) (a : Act) (w : World) (cur nms : Array Value) (hcs : cur.size = ah) (hns : nms.size = ah) (hP : jo b o n c w0.heap.size w sc (fun _ => ⟨#[]⟩) ah cur) (hN : lK sc ah nms) (hD : oV ah cur) (HF : Fr 1287 a [(0, .iface 178 (.slice (some ⟨b, o, none⟩) n c)), (4, aA s), (8, aA fb), (9, (aU big)), (10, ay ak), (11, .int .i64 32), (12, ay aj), (13, ay au), (14, .int .i64 40), (15, ay ah), (16, ay (ah - 1)), (26, .int .i64 40), (41, aC aY ah ah), (42, aC sd (ah * 40) (ah * 40)), (43, ay ah)]) (HM : Mm G w0 w [(sd, .cells (X.map Bv).toArray 5 (0, 0)), (aY, .cells nms 36 (0, 0)), (aV, .cells cur 133 (0, 0)), (fb, .cells #[.int .u8 1, .int .u8 dat, .int .u8 1, aT abi, aT aH, (aU big), bn aW, bn aJ, aI aG, aC aV ah ah, aC pg aj aj, .slice none 0 0, .slice none 0 0, .slice none 0 0] 131 (0, 0)), (s, .cells #[.iface 178 (.slice (some ⟨b, o, none⟩) n c), .int .i64 0, .int .i64 0, .int .i64 9223372036854775807, .int .i64 9223372036854775807] 246 (0, 0))]) :
  (oP (spine Tryd.f78 44)).wp Tryd.prog (Exit.then KR (Exit.inBlock 8 (Exit.then KK QQ))) a w := by
 refine wp_seq ?_
 refine wp_seq (wp_region_lit ?_)
 refine wp_pure HF HM rfl 3 [] [(0, .iface 178 (.slice (some ⟨b, o, none⟩) n c)), (4, aA s), (8, aA fb), (9, (aU big)), (10, ay ak), (11, .int .i64 32), (12, ay aj), (13, ay au), (14, .int .i64 40), (15, ay ah), (16, ay (ah - 1)), (26, .int .i64 40), (41, aC aY ah ah), (42, aC sd (ah * 40) (ah * 40)), (43, ay ah), (859, .bool (decide (((ah : Nat) : Int) < ((ah : Nat) : Int))))] (by kernel_rfl) ?_
 clear HF; intro a HF
 rw [show decide (((ah : Nat) : Int) < ((ah : Nat) : Int)) = false from dI (by omega)] at HF
 refine aB ?_
 refine aZ HF rfl ?_
 replace HF := HF.sub [(0, .iface 178 (.slice (some ⟨b, o, none⟩) n c)), (4, aA s), (8, aA fb), (9, (aU big)), (10, ay ak), (11, .int .i64 32), (12, ay aj), (13, ay au), (14, .int .i64 40), (15, ay ah), (16, ay (ah - 1)), (26, .int .i64 40), (41, aC aY ah ah), (42, aC sd (ah * 40) (ah * 40)), (43, ay ah)] (by kernel_rfl)
 refine wp_exit (fG (fG (iD (aK ?_))))
 replace HF := HF.sub [(0, .iface 178 (.slice (some ⟨b, o, none⟩) n c)), (4, aA s), (8, aA fb), (9, (aU big)), (10, ay ak), (11, .int .i64 32), (12, ay aj), (13, ay au), (14, .int .i64 40), (15, ay ah), (16, ay (ah - 1)), (26, .int .i64 40), (41, aC aY ah ah), (42, aC sd (ah * 40) (ah * 40))] (by kernel_rfl)
 exact K a _ cur nms hcs hns hP hN hD HF HM
abbrev zM := fun (s : Nat) (b : Nat) (o : Nat) (n : Nat) (c : Nat) => ((s, .cells #[.iface 178 (.slice (some ⟨b, o, none⟩) n c), aF 0, aF 0, aF 9223372036854775807, aF 9223372036854775807] 246 (0, 0)) : Nat × Obj)
abbrev DX := fun (fb : Nat) (dat : Int) (abi : Nat) (aH : Nat) (big : Bool) (aW : Nat) (aJ : Nat) (aG : Nat) (aV : Nat) (i : Nat) (ah : Nat) (pg : Nat) (aj : Nat) => ((fb, .cells #[aO 1, .int .u8 dat, aO 1, aT abi, aT aH, (aU big), bn aW, bn aJ, aI aG, aC aV i ah, aC pg aj aj, aQ, aQ, aQ] 131 (0, 0)) : Nat × Obj)
theorem OA (l : List UInt8) (b o n c : Nat) (hl : n = l.length) (hnc : n ≤ c) (big : Bool) (abi aH aW aJ aG ak aj au ah : Nat) (dat : Int) (b1 : aW < 65536) (b2 : aJ < 65536) (b3 : aG ≤ 18446744073709551615) (b4 : ak < 4611686018427387904) (b5 : au < 4611686018427387904) (b6 : aj < 200) (b7 : ah < 200) (X : List UInt8) (qh : X.length = (ah * 40)) (sc : Nat → jG) (hv : ∀ i, i < ah → yj (X.drop (i * 40)) false big (sc i).name (sc i).ty (sc i).flags (sc i).addr (sc i).off (sc i).bP (sc i).link (sc i).info (sc i).align (sc i).ent) (bd : ∀ i, i < ah → vN (sc i)) (G : List Nat) (w0 : World) (s fb pg aV aY sd : Nat) {KK : Act → World → Prop} {QQ : Exit → Act → World → Prop}
  (K : ∀ a w cur nms, cur.size = ah → nms.size = ah → jo b o n c w0.heap.size w sc (fun _ => ⟨#[]⟩) ah cur → lK sc ah nms → oV ah cur → Fr 1287 a [(0, .iface 178 (.slice (some ⟨b, o, none⟩) n c)), (4, aA s), (8, aA fb), (9, (aU big)), (10, ay ak), (11, aF 32), (12, ay aj), (13, ay au), (14, aF 40), (15, ay ah), (16, ay (ah - 1)), (26, aF 40), (41, aC aY ah ah), (42, aC sd (ah * 40) (ah * 40))] → Mm G w0 w [(sd, .cells (X.map Bv).toArray 5 (0, 0)), (aY, .cells nms 36 (0, 0)), (aV, .cells cur 133 (0, 0)), (fb, .cells #[aO 1, .int .u8 dat, aO 1, aT abi, aT aH, (aU big), bn aW, bn aJ, aI aG, aC aV ah ah, aC pg aj aj, aQ, aQ, aQ] 131 (0, 0)), zM s b o n c] → KK a w) :
  ∀ (r i : Nat), i + r = ah → ∀ (a : Act) (w : World) (cur nms : Array Value), cur.size = ah → nms.size = ah → jo b o n c w0.heap.size w sc (fun _ => ⟨#[]⟩) i cur → lK sc i nms → oV i cur → Fr 1287 a [(0, .iface 178 (.slice (some ⟨b, o, none⟩) n c)), (4, aA s), (8, aA fb), (9, (aU big)), (10, ay ak), (11, aF 32), (12, ay aj), (13, ay au), (14, aF 40), (15, ay ah), (16, ay (ah - 1)), (26, aF 40), (41, aC aY i ah), (42, aC sd (ah * 40) (ah * 40)), (43, ay i)] → Mm G w0 w [(sd, .cells (X.map Bv).toArray 5 (0, 0)), (aY, .cells nms 36 (0, 0)), (aV, .cells cur 133 (0, 0)), DX fb dat abi aH big aW aJ aG aV i ah pg aj, zM s b o n c] →
  Code.rounds Tryd.prog (oP (spine Tryd.f78 44)) (Exit.inBlock 8 (Exit.then KK QQ)) (r + 1) a w
 | 0, i, hr, a, w, cur, nms, hcs, hns, hP, hN, hD, HF, HM => by
  obtain rfl : i = ah := by omega
  rw [rounds_succ]
  exact TU l b o n c hl hnc big abi aH aW aJ aG ak aj au i dat b1 b2 b3 b4 b5 b6 b7 X qh sc hv bd G w0 s fb pg aV aY sd K a w cur nms hcs hns hP hN hD HF HM
 | r + 1, i, hr, a, w, cur, nms, hcs, hns, hP, hN, hD, HF, HM => by
  have hi : i < ah := by omega
  rw [rounds_succ]
  have B := bd i hi
  have Nu : Mm [sd, aY, aV, fb, s] w w [(sd, .cells (X.map Bv).toArray 5 (0, 0)), (aY, .cells nms 36 (0, 0)), (aV, .cells cur 133 (0, 0)), DX fb dat abi aH big aW aJ aG aV i ah pg aj, zM s b o n c] := HM.restart
  have HM1 : Mm [fb, aV, aY, sd] w w [DX fb dat abi aH big aW aJ aG aV i ah pg aj, (aV, .cells cur 133 (0, 0)), (aY, .cells nms 36 (0, 0)), (sd, .cells (X.map Bv).toArray 5 (0, 0))] := by
   refine ⟨Keep.refl _ _, fun p hp => ?_, ?_⟩
   ·simp only [List.mem_cons, List.not_mem_nil, or_false] at hp
    rcases hp with rfl | rfl | rfl | rfl
    ·exact ⟨HM.get (i := 3) rfl, .inr (by simp)⟩
    ·exact ⟨HM.get (i := 2) rfl, .inr (by simp)⟩
    ·exact ⟨HM.get (i := 1) rfl, .inr (by simp)⟩
    ·exact ⟨HM.get (i := 0) rfl, .inr (by simp)⟩
   ·have h1 := HM.ne (i := 3) (j := 2) rfl rfl (by decide)
    have h2 := HM.ne (i := 3) (j := 1) rfl rfl (by decide)
    have h3 := HM.ne (i := 3) (j := 0) rfl rfl (by decide)
    have h4 := HM.ne (i := 2) (j := 1) rfl rfl (by decide)
    have h5 := HM.ne (i := 2) (j := 0) rfl rfl (by decide)
    have h6 := HM.ne (i := 1) (j := 0) rfl rfl (by decide)
    simp [h1, h2, h3, h4, h5, h6]
  refine UC l b o n c hl hnc big abi aH aW aJ aG ak aj au ah dat b1 b2 b3 b4 b5 b6 b7 X qh i hi (sc i) (hv i hi) B.v1 B.v2 B.v3 B.v4 B.v5 B.v6 B.v7 B.v8 B.v9 a w s fb pg aV aY sd cur nms hcs hns HM1 HF ?_
  intro a' w' pb sb cur' h_ hcs' Hu htk htn F8 jA
  have hk := jA.keep
  have hnew : ∀ p cs t, w'.heap[p]? = some (.cells cs t (0, 0)) → t = 153 ∨ t = 246 → (w.heap.size ≤ p ∨ p ∈ [fb, aV, aY, sd]) → w.heap.size ≤ p := by
   intro p cs t hp ht ho
   refine ho.elim id fun hm => ?_
   simp only [List.mem_cons, List.not_mem_nil, or_false] at hm
   exfalso
   rcases ht with rfl | rfl <;> rcases hm with rfl | rfl | rfl | rfl
   ·exact dK hp (jA.get (i := 2) rfl) (by decide) rfl
   ·exact dK hp (jA.get (i := 3) rfl) (by decide) rfl
   ·exact dK hp (jA.get (i := 4) rfl) (by decide) rfl
   ·exact dK hp (jA.get (i := 5) rfl) (by decide) rfl
   ·exact dK hp (jA.get (i := 2) rfl) (by decide) rfl
   ·exact dK hp (jA.get (i := 3) rfl) (by decide) rfl
   ·exact dK hp (jA.get (i := 4) rfl) (by decide) rfl
   ·exact dK hp (jA.get (i := 5) rfl) (by decide) rfl
  have hpb := hnew pb _ _ (jA.get (i := 1) rfl) (.inl rfl) (jA.own (i := 1) rfl)
  have hsb := hnew sb _ _ (jA.get (i := 0) rfl) (.inr rfl) (jA.own (i := 0) rfl)
  have hsz := HM.size
  have hP2 : jo b o n c w0.heap.size w' sc (fun _ => ⟨#[]⟩) i cur := hP.keep hk (by
   intro g hg
   simp only [List.mem_cons, List.not_mem_nil, or_false] at hg
   rcases hg with rfl | rfl | rfl | rfl
   ·exact ⟨_, _, _, HM.get (i := 3) rfl, by decide, by decide⟩
   ·exact ⟨_, _, _, HM.get (i := 2) rfl, by decide, by decide⟩
   ·exact ⟨_, _, _, HM.get (i := 1) rfl, by decide, by decide⟩
   ·exact ⟨_, _, _, HM.get (i := 0) rfl, by decide, by decide⟩)
  have hP3 := hP2.next (nf := (fun _ => ⟨#[]⟩)) (by omega) htk (by omega) (by omega) (jA.get (i := 1) rfl) (jA.get (i := 0) rfl)
  have bJ : Mm G w0 w' [(sd, .cells (X.map Bv).toArray 5 (0, 0)), (aY, .cells h_ 36 (0, 0)), (aV, .cells cur' 133 (0, 0)), (fb, .cells #[aO 1, .int .u8 dat, aO 1, aT abi, aT aH, (aU big), bn aW, bn aJ, aI aG, aC aV (i + 1) ah, aC pg aj aj, aQ, aQ, aQ] 131 (0, 0)), zM s b o n c] := HM.after hk (by
   intro g hg
   simp only [List.mem_cons, List.not_mem_nil, or_false] at hg
   rcases hg with rfl | rfl | rfl | rfl
   ·exact HM.own (i := 3) rfl
   ·exact HM.own (i := 2) rfl
   ·exact HM.own (i := 1) rfl
   ·exact HM.own (i := 0) rfl) rfl (by
   intro p hp
   simp only [List.mem_cons, List.not_mem_nil, or_false] at hp
   rcases hp with rfl | rfl | rfl | rfl | rfl
   ·exact jA.get (i := 5) rfl
   ·exact jA.get (i := 4) rfl
   ·exact jA.get (i := 3) rfl
   ·exact jA.get (i := 2) rfl
   ·refine (hk.block s (HM.lt (i := 4) rfl) ?_).trans (HM.get (i := 4) rfl)
    simp only [List.mem_cons, List.not_mem_nil, or_false, not_or]
    exact ⟨HM.ne (i := 4) (j := 3) rfl rfl (by decide), HM.ne (i := 4) (j := 2) rfl rfl (by decide), HM.ne (i := 4) (j := 1) rfl rfl (by decide), HM.ne (i := 4) (j := 0) rfl rfl (by decide)⟩)
  exact OA l b o n c hl hnc big abi aH aW aJ aG ak aj au ah dat b1 b2 b3 b4 b5 b6 b7 X qh sc hv bd G w0 s fb pg aV aY sd K r (i + 1) (by omega) a' w' cur' h_ hcs' Hu hP3 (hN.next (by omega) htn) (hD.next (by omega) htk fun j hj e => by
   obtain ⟨pbj, _, g1, _, _, g4, _⟩ := hP j hj
   rw [g1] at e
   injection e with e
   injection e with e
   injection e with e
   injection e with e
   have := kM g4
   omega) F8 bJ

theorem QH (l : List UInt8) (b o n c : Nat) (hl : n = l.length) (hnc : n ≤ c) (big : Bool) (abi aH aW aJ aG ak aj au ah : Nat) (dat : Int) (b1 : aW < 65536) (b2 : aJ < 65536) (b3 : aG ≤ 18446744073709551615) (b4 : ak < 4611686018427387904) (b5 : au < 4611686018427387904) (b6 : aj < 200) (b7 : ah < 200) (X : List UInt8) (qh : X.length = (ah * 40)) (sc : Nat → jG) (hv : ∀ i, i < ah → yj (X.drop (i * 40)) false big (sc i).name (sc i).ty (sc i).flags (sc i).addr (sc i).off (sc i).bP (sc i).link (sc i).info (sc i).align (sc i).ent) (bd : ∀ i, i < ah → vN (sc i)) (G : List Nat) (w0 : World) (s fb pg aV aY sd : Nat) {Q : Exit → Act → World → Prop} (a : Act) (w : World) (cur nms : Array Value) (hcs : cur.size = ah) (hns : nms.size = ah) (HF : Fr 1287 a [(0, .iface 178 (.slice (some ⟨b, o, none⟩) n c)), (4, aA s), (8, aA fb), (9, (aU big)), (10, ay ak), (11, .int .i64 32), (12, ay aj), (13, ay au), (14, .int .i64 40), (15, ay ah), (16, ay (ah - 1)), (26, .int .i64 40), (41, aC aY 0 ah), (42, aC sd (ah * 40) (ah * 40))]) (HM : Mm G w0 w [(sd, .cells (X.map Bv).toArray 5 (0, 0)), (aY, .cells nms 36 (0, 0)), (aV, .cells cur 133 (0, 0)), (fb, .cells #[.int .u8 1, .int .u8 dat, .int .u8 1, aT abi, aT aH, (aU big), bn aW, bn aJ, aI aG, aC aV 0 ah, aC pg aj aj, .slice none 0 0, .slice none 0 0, .slice none 0 0] 131 (0, 0)), (s, .cells #[.iface 178 (.slice (some ⟨b, o, none⟩) n c), .int .i64 0, .int .i64 0, .int .i64 9223372036854775807, .int .i64 9223372036854775807] 246 (0, 0))])
  (K : ∀ a w cur nms, cur.size = ah → nms.size = ah → jo b o n c w0.heap.size w sc (fun _ => ⟨#[]⟩) ah cur → lK sc ah nms → oV ah cur → Fr 1287 a [(0, .iface 178 (.slice (some ⟨b, o, none⟩) n c)), (4, aA s), (8, aA fb), (9, (aU big)), (10, ay ak), (11, .int .i64 32), (12, ay aj), (13, ay au), (14, .int .i64 40), (15, ay ah), (16, ay (ah - 1)), (26, .int .i64 40), (41, aC aY ah ah), (42, aC sd (ah * 40) (ah * 40))] → Mm G w0 w [(sd, .cells (X.map Bv).toArray 5 (0, 0)), (aY, .cells nms 36 (0, 0)), (aV, .cells cur 133 (0, 0)), (fb, .cells #[.int .u8 1, .int .u8 dat, .int .u8 1, aT abi, aT aH, (aU big), bn aW, bn aJ, aI aG, aC aV ah ah, aC pg aj aj, .slice none 0 0, .slice none 0 0, .slice none 0 0] 131 (0, 0)), (s, .cells #[.iface 178 (.slice (some ⟨b, o, none⟩) n c), .int .i64 0, .int .i64 0, .int .i64 9223372036854775807, .int .i64 9223372036854775807] 246 (0, 0))] → (spine Tryd.f78 45).wp Tryd.prog Q a w) : (spine Tryd.f78 44).wp Tryd.prog Q a w := by
 refine wp_seq ?_
 refine bG HF HM rfl [] [(0, .iface 178 (.slice (some ⟨b, o, none⟩) n c)), (4, aA s), (8, aA fb), (9, (aU big)), (10, ay ak), (11, .int .i64 32), (12, ay aj), (13, ay au), (14, .int .i64 40), (15, ay ah), (16, ay (ah - 1)), (26, .int .i64 40), (41, aC aY 0 ah), (42, aC sd (ah * 40) (ah * 40)), (43, ay 0)] [(sd, .cells (X.map Bv).toArray 5 (0, 0)), (aY, .cells nms 36 (0, 0)), (aV, .cells cur 133 (0, 0)), (fb, .cells #[.int .u8 1, .int .u8 dat, .int .u8 1, aT abi, aT aH, (aU big), bn aW, bn aJ, aI aG, aC aV 0 ah, aC pg aj aj, .slice none 0 0, .slice none 0 0, .slice none 0 0] 131 (0, 0)), (s, .cells #[.iface 178 (.slice (some ⟨b, o, none⟩) n c), .int .i64 0, .int .i64 0, .int .i64 9223372036854775807, .int .i64 9223372036854775807] 246 (0, 0))] (by kernel_rfl) ?_
 clear HF HM; intro a w HF HM
 refine wp_block (wp_loop_rounds (ah + 1) ?_)
 exact OA l b o n c hl hnc big abi aH aW aJ aG ak aj au ah dat b1 b2 b3 b4 b5 b6 b7 X qh sc hv bd G w0 s fb pg aV aY sd K ah 0 (by omega) a w cur nms hcs hns (fun j hj => absurd hj (Nat.not_lt_zero j)) (fun j hj => absurd hj (Nat.not_lt_zero j)) (fun i j _ hj => absurd hj (Nat.not_lt_zero j)) HF HM

theorem TT (l : List UInt8) (b o n c : Nat) (hl : n = l.length) (hnc : n ≤ c) (big : Bool) (abi aH aW aJ aG ak aj au ah : Nat) (dat : Int) (b1 : aW < 65536) (b2 : aJ < 65536) (b3 : aG ≤ 18446744073709551615) (b4 : ak < 4611686018427387904) (b5 : au < 4611686018427387904) (b6 : aj < 200) (b7 : ah < 200) (X : List UInt8) (qh : X.length = (ah * 64)) (sc : Nat → jG) (hv : ∀ i, i < ah → yj (X.drop (i * 64)) true big (sc i).name (sc i).ty (sc i).flags (sc i).addr (sc i).off (sc i).bP (sc i).link (sc i).info (sc i).align (sc i).ent) (bd : ∀ i, i < ah → vN (sc i)) (G : List Nat) (w0 : World) (s fb pg aV aY sd : Nat) {KK : Act → World → Prop} {QQ : Exit → Act → World → Prop} {KR : Act → World → Prop}
  (K : ∀ a w cur nms, cur.size = ah → nms.size = ah → jo b o n c w0.heap.size w sc (fun _ => ⟨#[]⟩) ah cur → lK sc ah nms → oV ah cur → Fr 1287 a [(0, .iface 178 (.slice (some ⟨b, o, none⟩) n c)), (4, aA s), (8, aA fb), (9, (aU big)), (10, ay ak), (11, .int .i64 56), (12, ay aj), (13, ay au), (14, .int .i64 64), (15, ay ah), (16, ay (ah - 1)), (26, .int .i64 64), (41, aC aY ah ah), (42, aC sd (ah * 64) (ah * 64))] → Mm G w0 w [(sd, .cells (X.map Bv).toArray 5 (0, 0)), (aY, .cells nms 36 (0, 0)), (aV, .cells cur 133 (0, 0)), (fb, .cells #[.int .u8 2, .int .u8 dat, .int .u8 1, aT abi, aT aH, (aU big), bn aW, bn aJ, aI aG, aC aV ah ah, aC pg aj aj, .slice none 0 0, .slice none 0 0, .slice none 0 0] 131 (0, 0)), (s, .cells #[.iface 178 (.slice (some ⟨b, o, none⟩) n c), .int .i64 0, .int .i64 0, .int .i64 9223372036854775807, .int .i64 9223372036854775807] 246 (0, 0))] → KK a w) (a : Act) (w : World) (cur nms : Array Value) (hcs : cur.size = ah) (hns : nms.size = ah) (hP : jo b o n c w0.heap.size w sc (fun _ => ⟨#[]⟩) ah cur) (hN : lK sc ah nms) (hD : oV ah cur) (HF : Fr 1287 a [(0, .iface 178 (.slice (some ⟨b, o, none⟩) n c)), (4, aA s), (8, aA fb), (9, (aU big)), (10, ay ak), (11, .int .i64 56), (12, ay aj), (13, ay au), (14, .int .i64 64), (15, ay ah), (16, ay (ah - 1)), (26, .int .i64 64), (41, aC aY ah ah), (42, aC sd (ah * 64) (ah * 64)), (43, ay ah)]) (HM : Mm G w0 w [(sd, .cells (X.map Bv).toArray 5 (0, 0)), (aY, .cells nms 36 (0, 0)), (aV, .cells cur 133 (0, 0)), (fb, .cells #[.int .u8 2, .int .u8 dat, .int .u8 1, aT abi, aT aH, (aU big), bn aW, bn aJ, aI aG, aC aV ah ah, aC pg aj aj, .slice none 0 0, .slice none 0 0, .slice none 0 0] 131 (0, 0)), (s, .cells #[.iface 178 (.slice (some ⟨b, o, none⟩) n c), .int .i64 0, .int .i64 0, .int .i64 9223372036854775807, .int .i64 9223372036854775807] 246 (0, 0))]) :
  (oP (spine Tryd.f78 44)).wp Tryd.prog (Exit.then KR (Exit.inBlock 8 (Exit.then KK QQ))) a w := by
 refine wp_seq ?_
 refine wp_seq (wp_region_lit ?_)
 refine wp_pure HF HM rfl 3 [] [(0, .iface 178 (.slice (some ⟨b, o, none⟩) n c)), (4, aA s), (8, aA fb), (9, (aU big)), (10, ay ak), (11, .int .i64 56), (12, ay aj), (13, ay au), (14, .int .i64 64), (15, ay ah), (16, ay (ah - 1)), (26, .int .i64 64), (41, aC aY ah ah), (42, aC sd (ah * 64) (ah * 64)), (43, ay ah), (859, .bool (decide (((ah : Nat) : Int) < ((ah : Nat) : Int))))] (by kernel_rfl) ?_
 clear HF; intro a HF
 rw [show decide (((ah : Nat) : Int) < ((ah : Nat) : Int)) = false from dI (by omega)] at HF
 refine aB ?_
 refine aZ HF rfl ?_
 replace HF := HF.sub [(0, .iface 178 (.slice (some ⟨b, o, none⟩) n c)), (4, aA s), (8, aA fb), (9, (aU big)), (10, ay ak), (11, .int .i64 56), (12, ay aj), (13, ay au), (14, .int .i64 64), (15, ay ah), (16, ay (ah - 1)), (26, .int .i64 64), (41, aC aY ah ah), (42, aC sd (ah * 64) (ah * 64)), (43, ay ah)] (by kernel_rfl)
 refine wp_exit (fG (fG (iD (aK ?_))))
 replace HF := HF.sub [(0, .iface 178 (.slice (some ⟨b, o, none⟩) n c)), (4, aA s), (8, aA fb), (9, (aU big)), (10, ay ak), (11, .int .i64 56), (12, ay aj), (13, ay au), (14, .int .i64 64), (15, ay ah), (16, ay (ah - 1)), (26, .int .i64 64), (41, aC aY ah ah), (42, aC sd (ah * 64) (ah * 64))] (by kernel_rfl)
 exact K a _ cur nms hcs hns hP hN hD HF HM
abbrev zL := fun (s : Nat) (b : Nat) (o : Nat) (n : Nat) (c : Nat) => ((s, .cells #[.iface 178 (.slice (some ⟨b, o, none⟩) n c), aF 0, aF 0, aF 9223372036854775807, aF 9223372036854775807] 246 (0, 0)) : Nat × Obj)
abbrev DW := fun (fb : Nat) (dat : Int) (abi : Nat) (aH : Nat) (big : Bool) (aW : Nat) (aJ : Nat) (aG : Nat) (aV : Nat) (i : Nat) (ah : Nat) (pg : Nat) (aj : Nat) => ((fb, .cells #[aO 2, .int .u8 dat, aO 1, aT abi, aT aH, (aU big), bn aW, bn aJ, aI aG, aC aV i ah, aC pg aj aj, aQ, aQ, aQ] 131 (0, 0)) : Nat × Obj)
theorem Oz (l : List UInt8) (b o n c : Nat) (hl : n = l.length) (hnc : n ≤ c) (big : Bool) (abi aH aW aJ aG ak aj au ah : Nat) (dat : Int) (b1 : aW < 65536) (b2 : aJ < 65536) (b3 : aG ≤ 18446744073709551615) (b4 : ak < 4611686018427387904) (b5 : au < 4611686018427387904) (b6 : aj < 200) (b7 : ah < 200) (X : List UInt8) (qh : X.length = (ah * 64)) (sc : Nat → jG) (hv : ∀ i, i < ah → yj (X.drop (i * 64)) true big (sc i).name (sc i).ty (sc i).flags (sc i).addr (sc i).off (sc i).bP (sc i).link (sc i).info (sc i).align (sc i).ent) (bd : ∀ i, i < ah → vN (sc i)) (G : List Nat) (w0 : World) (s fb pg aV aY sd : Nat) {KK : Act → World → Prop} {QQ : Exit → Act → World → Prop}
  (K : ∀ a w cur nms, cur.size = ah → nms.size = ah → jo b o n c w0.heap.size w sc (fun _ => ⟨#[]⟩) ah cur → lK sc ah nms → oV ah cur → Fr 1287 a [(0, .iface 178 (.slice (some ⟨b, o, none⟩) n c)), (4, aA s), (8, aA fb), (9, (aU big)), (10, ay ak), (11, aF 56), (12, ay aj), (13, ay au), (14, aF 64), (15, ay ah), (16, ay (ah - 1)), (26, aF 64), (41, aC aY ah ah), (42, aC sd (ah * 64) (ah * 64))] → Mm G w0 w [(sd, .cells (X.map Bv).toArray 5 (0, 0)), (aY, .cells nms 36 (0, 0)), (aV, .cells cur 133 (0, 0)), (fb, .cells #[aO 2, .int .u8 dat, aO 1, aT abi, aT aH, (aU big), bn aW, bn aJ, aI aG, aC aV ah ah, aC pg aj aj, aQ, aQ, aQ] 131 (0, 0)), zL s b o n c] → KK a w) :
  ∀ (r i : Nat), i + r = ah → ∀ (a : Act) (w : World) (cur nms : Array Value), cur.size = ah → nms.size = ah → jo b o n c w0.heap.size w sc (fun _ => ⟨#[]⟩) i cur → lK sc i nms → oV i cur → Fr 1287 a [(0, .iface 178 (.slice (some ⟨b, o, none⟩) n c)), (4, aA s), (8, aA fb), (9, (aU big)), (10, ay ak), (11, aF 56), (12, ay aj), (13, ay au), (14, aF 64), (15, ay ah), (16, ay (ah - 1)), (26, aF 64), (41, aC aY i ah), (42, aC sd (ah * 64) (ah * 64)), (43, ay i)] → Mm G w0 w [(sd, .cells (X.map Bv).toArray 5 (0, 0)), (aY, .cells nms 36 (0, 0)), (aV, .cells cur 133 (0, 0)), DW fb dat abi aH big aW aJ aG aV i ah pg aj, zL s b o n c] →
  Code.rounds Tryd.prog (oP (spine Tryd.f78 44)) (Exit.inBlock 8 (Exit.then KK QQ)) (r + 1) a w
 | 0, i, hr, a, w, cur, nms, hcs, hns, hP, hN, hD, HF, HM => by
  obtain rfl : i = ah := by omega
  rw [rounds_succ]
  exact TT l b o n c hl hnc big abi aH aW aJ aG ak aj au i dat b1 b2 b3 b4 b5 b6 b7 X qh sc hv bd G w0 s fb pg aV aY sd K a w cur nms hcs hns hP hN hD HF HM
 | r + 1, i, hr, a, w, cur, nms, hcs, hns, hP, hN, hD, HF, HM => by
  have hi : i < ah := by omega
  rw [rounds_succ]
  have B := bd i hi
  have Nu : Mm [sd, aY, aV, fb, s] w w [(sd, .cells (X.map Bv).toArray 5 (0, 0)), (aY, .cells nms 36 (0, 0)), (aV, .cells cur 133 (0, 0)), DW fb dat abi aH big aW aJ aG aV i ah pg aj, zL s b o n c] := HM.restart
  have HM1 : Mm [fb, aV, aY, sd] w w [DW fb dat abi aH big aW aJ aG aV i ah pg aj, (aV, .cells cur 133 (0, 0)), (aY, .cells nms 36 (0, 0)), (sd, .cells (X.map Bv).toArray 5 (0, 0))] := by
   refine ⟨Keep.refl _ _, fun p hp => ?_, ?_⟩
   ·simp only [List.mem_cons, List.not_mem_nil, or_false] at hp
    rcases hp with rfl | rfl | rfl | rfl
    ·exact ⟨HM.get (i := 3) rfl, .inr (by simp)⟩
    ·exact ⟨HM.get (i := 2) rfl, .inr (by simp)⟩
    ·exact ⟨HM.get (i := 1) rfl, .inr (by simp)⟩
    ·exact ⟨HM.get (i := 0) rfl, .inr (by simp)⟩
   ·have h1 := HM.ne (i := 3) (j := 2) rfl rfl (by decide)
    have h2 := HM.ne (i := 3) (j := 1) rfl rfl (by decide)
    have h3 := HM.ne (i := 3) (j := 0) rfl rfl (by decide)
    have h4 := HM.ne (i := 2) (j := 1) rfl rfl (by decide)
    have h5 := HM.ne (i := 2) (j := 0) rfl rfl (by decide)
    have h6 := HM.ne (i := 1) (j := 0) rfl rfl (by decide)
    simp [h1, h2, h3, h4, h5, h6]
  refine UA l b o n c hl hnc big abi aH aW aJ aG ak aj au ah dat b1 b2 b3 b4 b5 b6 b7 X qh i hi (sc i) (hv i hi) B.v1 B.v2 B.v3 B.v4 B.v5 B.v6 B.v7 B.v8 B.v9 a w s fb pg aV aY sd cur nms hcs hns HM1 HF ?_
  intro a' w' pb sb cur' h_ hcs' Hu htk htn F8 jA
  have hk := jA.keep
  have hnew : ∀ p cs t, w'.heap[p]? = some (.cells cs t (0, 0)) → t = 153 ∨ t = 246 → (w.heap.size ≤ p ∨ p ∈ [fb, aV, aY, sd]) → w.heap.size ≤ p := by
   intro p cs t hp ht ho
   refine ho.elim id fun hm => ?_
   simp only [List.mem_cons, List.not_mem_nil, or_false] at hm
   exfalso
   rcases ht with rfl | rfl <;> rcases hm with rfl | rfl | rfl | rfl
   ·exact dK hp (jA.get (i := 2) rfl) (by decide) rfl
   ·exact dK hp (jA.get (i := 3) rfl) (by decide) rfl
   ·exact dK hp (jA.get (i := 4) rfl) (by decide) rfl
   ·exact dK hp (jA.get (i := 5) rfl) (by decide) rfl
   ·exact dK hp (jA.get (i := 2) rfl) (by decide) rfl
   ·exact dK hp (jA.get (i := 3) rfl) (by decide) rfl
   ·exact dK hp (jA.get (i := 4) rfl) (by decide) rfl
   ·exact dK hp (jA.get (i := 5) rfl) (by decide) rfl
  have hpb := hnew pb _ _ (jA.get (i := 1) rfl) (.inl rfl) (jA.own (i := 1) rfl)
  have hsb := hnew sb _ _ (jA.get (i := 0) rfl) (.inr rfl) (jA.own (i := 0) rfl)
  have hsz := HM.size
  have hP2 : jo b o n c w0.heap.size w' sc (fun _ => ⟨#[]⟩) i cur := hP.keep hk (by
   intro g hg
   simp only [List.mem_cons, List.not_mem_nil, or_false] at hg
   rcases hg with rfl | rfl | rfl | rfl
   ·exact ⟨_, _, _, HM.get (i := 3) rfl, by decide, by decide⟩
   ·exact ⟨_, _, _, HM.get (i := 2) rfl, by decide, by decide⟩
   ·exact ⟨_, _, _, HM.get (i := 1) rfl, by decide, by decide⟩
   ·exact ⟨_, _, _, HM.get (i := 0) rfl, by decide, by decide⟩)
  have hP3 := hP2.next (nf := (fun _ => ⟨#[]⟩)) (by omega) htk (by omega) (by omega) (jA.get (i := 1) rfl) (jA.get (i := 0) rfl)
  have bJ : Mm G w0 w' [(sd, .cells (X.map Bv).toArray 5 (0, 0)), (aY, .cells h_ 36 (0, 0)), (aV, .cells cur' 133 (0, 0)), (fb, .cells #[aO 2, .int .u8 dat, aO 1, aT abi, aT aH, (aU big), bn aW, bn aJ, aI aG, aC aV (i + 1) ah, aC pg aj aj, aQ, aQ, aQ] 131 (0, 0)), zL s b o n c] := HM.after hk (by
   intro g hg
   simp only [List.mem_cons, List.not_mem_nil, or_false] at hg
   rcases hg with rfl | rfl | rfl | rfl
   ·exact HM.own (i := 3) rfl
   ·exact HM.own (i := 2) rfl
   ·exact HM.own (i := 1) rfl
   ·exact HM.own (i := 0) rfl) rfl (by
   intro p hp
   simp only [List.mem_cons, List.not_mem_nil, or_false] at hp
   rcases hp with rfl | rfl | rfl | rfl | rfl
   ·exact jA.get (i := 5) rfl
   ·exact jA.get (i := 4) rfl
   ·exact jA.get (i := 3) rfl
   ·exact jA.get (i := 2) rfl
   ·refine (hk.block s (HM.lt (i := 4) rfl) ?_).trans (HM.get (i := 4) rfl)
    simp only [List.mem_cons, List.not_mem_nil, or_false, not_or]
    exact ⟨HM.ne (i := 4) (j := 3) rfl rfl (by decide), HM.ne (i := 4) (j := 2) rfl rfl (by decide), HM.ne (i := 4) (j := 1) rfl rfl (by decide), HM.ne (i := 4) (j := 0) rfl rfl (by decide)⟩)
  exact Oz l b o n c hl hnc big abi aH aW aJ aG ak aj au ah dat b1 b2 b3 b4 b5 b6 b7 X qh sc hv bd G w0 s fb pg aV aY sd K r (i + 1) (by omega) a' w' cur' h_ hcs' Hu hP3 (hN.next (by omega) htn) (hD.next (by omega) htk fun j hj e => by
   obtain ⟨pbj, _, g1, _, _, g4, _⟩ := hP j hj
   rw [g1] at e
   injection e with e
   injection e with e
   injection e with e
   injection e with e
   have := kM g4
   omega) F8 bJ

theorem QG (l : List UInt8) (b o n c : Nat) (hl : n = l.length) (hnc : n ≤ c) (big : Bool) (abi aH aW aJ aG ak aj au ah : Nat) (dat : Int) (b1 : aW < 65536) (b2 : aJ < 65536) (b3 : aG ≤ 18446744073709551615) (b4 : ak < 4611686018427387904) (b5 : au < 4611686018427387904) (b6 : aj < 200) (b7 : ah < 200) (X : List UInt8) (qh : X.length = (ah * 64)) (sc : Nat → jG) (hv : ∀ i, i < ah → yj (X.drop (i * 64)) true big (sc i).name (sc i).ty (sc i).flags (sc i).addr (sc i).off (sc i).bP (sc i).link (sc i).info (sc i).align (sc i).ent) (bd : ∀ i, i < ah → vN (sc i)) (G : List Nat) (w0 : World) (s fb pg aV aY sd : Nat) {Q : Exit → Act → World → Prop} (a : Act) (w : World) (cur nms : Array Value) (hcs : cur.size = ah) (hns : nms.size = ah) (HF : Fr 1287 a [(0, .iface 178 (.slice (some ⟨b, o, none⟩) n c)), (4, aA s), (8, aA fb), (9, (aU big)), (10, ay ak), (11, .int .i64 56), (12, ay aj), (13, ay au), (14, .int .i64 64), (15, ay ah), (16, ay (ah - 1)), (26, .int .i64 64), (41, aC aY 0 ah), (42, aC sd (ah * 64) (ah * 64))]) (HM : Mm G w0 w [(sd, .cells (X.map Bv).toArray 5 (0, 0)), (aY, .cells nms 36 (0, 0)), (aV, .cells cur 133 (0, 0)), (fb, .cells #[.int .u8 2, .int .u8 dat, .int .u8 1, aT abi, aT aH, (aU big), bn aW, bn aJ, aI aG, aC aV 0 ah, aC pg aj aj, .slice none 0 0, .slice none 0 0, .slice none 0 0] 131 (0, 0)), (s, .cells #[.iface 178 (.slice (some ⟨b, o, none⟩) n c), .int .i64 0, .int .i64 0, .int .i64 9223372036854775807, .int .i64 9223372036854775807] 246 (0, 0))])
  (K : ∀ a w cur nms, cur.size = ah → nms.size = ah → jo b o n c w0.heap.size w sc (fun _ => ⟨#[]⟩) ah cur → lK sc ah nms → oV ah cur → Fr 1287 a [(0, .iface 178 (.slice (some ⟨b, o, none⟩) n c)), (4, aA s), (8, aA fb), (9, (aU big)), (10, ay ak), (11, .int .i64 56), (12, ay aj), (13, ay au), (14, .int .i64 64), (15, ay ah), (16, ay (ah - 1)), (26, .int .i64 64), (41, aC aY ah ah), (42, aC sd (ah * 64) (ah * 64))] → Mm G w0 w [(sd, .cells (X.map Bv).toArray 5 (0, 0)), (aY, .cells nms 36 (0, 0)), (aV, .cells cur 133 (0, 0)), (fb, .cells #[.int .u8 2, .int .u8 dat, .int .u8 1, aT abi, aT aH, (aU big), bn aW, bn aJ, aI aG, aC aV ah ah, aC pg aj aj, .slice none 0 0, .slice none 0 0, .slice none 0 0] 131 (0, 0)), (s, .cells #[.iface 178 (.slice (some ⟨b, o, none⟩) n c), .int .i64 0, .int .i64 0, .int .i64 9223372036854775807, .int .i64 9223372036854775807] 246 (0, 0))] → (spine Tryd.f78 45).wp Tryd.prog Q a w) : (spine Tryd.f78 44).wp Tryd.prog Q a w := by
 refine wp_seq ?_
 refine bG HF HM rfl [] [(0, .iface 178 (.slice (some ⟨b, o, none⟩) n c)), (4, aA s), (8, aA fb), (9, (aU big)), (10, ay ak), (11, .int .i64 56), (12, ay aj), (13, ay au), (14, .int .i64 64), (15, ay ah), (16, ay (ah - 1)), (26, .int .i64 64), (41, aC aY 0 ah), (42, aC sd (ah * 64) (ah * 64)), (43, ay 0)] [(sd, .cells (X.map Bv).toArray 5 (0, 0)), (aY, .cells nms 36 (0, 0)), (aV, .cells cur 133 (0, 0)), (fb, .cells #[.int .u8 2, .int .u8 dat, .int .u8 1, aT abi, aT aH, (aU big), bn aW, bn aJ, aI aG, aC aV 0 ah, aC pg aj aj, .slice none 0 0, .slice none 0 0, .slice none 0 0] 131 (0, 0)), (s, .cells #[.iface 178 (.slice (some ⟨b, o, none⟩) n c), .int .i64 0, .int .i64 0, .int .i64 9223372036854775807, .int .i64 9223372036854775807] 246 (0, 0))] (by kernel_rfl) ?_
 clear HF HM; intro a w HF HM
 refine wp_block (wp_loop_rounds (ah + 1) ?_)
 exact Oz l b o n c hl hnc big abi aH aW aJ aG ak aj au ah dat b1 b2 b3 b4 b5 b6 b7 X qh sc hv bd G w0 s fb pg aV aY sd K ah 0 (by omega) a w cur nms hcs hns (fun j hj => absurd hj (Nat.not_lt_zero j)) (fun j hj => absurd hj (Nat.not_lt_zero j)) (fun i j _ hj => absurd hj (Nat.not_lt_zero j)) HF HM

end Go.Proofs.YtdgehpocmfjbiaaDoor
namespace Go.Proofs.YtdgehpocmfjbiaaDoor
open Go.RowKit

theorem qY {P : Program} {w : World} {t e : TypeId} {info : TypeInfo} (ht : P.underlying t = some (.slice e)) (hi : P.info? e = some info) (hs : info.size = 1) {ρ : Operand → Value} {o : Oper} {x ix : Operand} (ho : o.op = .indexAddr t x ix) {b n c : Nat} (j : Nat) {k : IntKind} (hx : ρ x = aC b n c) (hj : ρ ix = .int k (j : Int)) (h : j < n) :
  (execOp ρ o).run P w = .ok (.value (.pointer (some ⟨b, j, none⟩))) w := by
 unfold execOp
 simp only [ho, hx, hj]
 simp [Instr.indexAt, run_underlying ht, asIntOf, sizeOf, typeInfo, hi, hs, h, Addr.add]
 exact fun h => h.symm
theorem wF : ∃ i, Tryd.prog.info? 133 = some i ∧ i.size = 1 := by
 obtain ⟨i, h1, _, h3, _⟩ := info_parts Dj
 exact ⟨i, h1, h3⟩
theorem LH : ∃ i, Tryd.prog.info? 36 = some i ∧ i.size = 1 := by
 obtain ⟨i, h1, _, h3, _⟩ := info_parts A_
 exact ⟨i, h1, h3⟩

abbrev kF := fun (b : Nat) (o : Nat) (n : Nat) (c : Nat) (s : Nat) (fb : Nat) (big : Bool) (ak : Nat) (aj : Nat) (au : Nat) (ah : Nat) (aY : Nat) (sd : Nat) => ([(0, .iface 178 (.slice (some ⟨b, o, none⟩) n c)), (4, aA s), (8, aA fb), (9, (aU big)), (10, ay ak), (11, aF 32), (12, ay aj), (13, ay au), (14, aF 40), (15, ay ah), (16, ay (ah - 1)), (26, aF 40), (41, aC aY ah ah), (42, aC sd (ah * 40) (ah * 40))] : Slots)
theorem QW (l : List UInt8) (b o n c : Nat) (hl : n = l.length) (hnc : n ≤ c) (big : Bool) (abi aH aW aJ aG ak aj au ah : Nat) (dat : Int) (b1 : aW < 65536) (b2 : aJ < 65536) (b3 : aG ≤ 18446744073709551615) (b4 : ak < 4611686018427387904) (b5 : au < 4611686018427387904) (b6 : aj < 200) (b7 : ah < 200) (X : List UInt8) (sc : Nat → jG) (c3 : 1 < ah) (hty : (sc (ah - 1)).ty = 3) (hfl : (qP ((((sc (ah - 1)).flags : Nat) : Int)) 2048 == 0) = true) (f1 : 0 < (sc (ah - 1)).bP) (f2 : (sc (ah - 1)).bP < 10485760) (f3 : (sc (ah - 1)).off + (sc (ah - 1)).bP ≤ n) (f4 : n ≤ 4611686018427387904) (G : List Nat) (w0 : World) (hbl : b < w0.heap.size) (hr : Row w0 (some ⟨b, o, none⟩) (l.map Bv)) (xR : b ∉ G) (s fb pg aV aY sd : Nat) {Q : Exit → Act → World → Prop} (a : Act) (w : World) (cur nms : Array Value) (hP : jo b o n c w0.heap.size w sc (fun _ => ⟨#[]⟩) ah cur) (HF : Fr 1287 a (kF b o n c s fb big ak aj au ah aY sd)) (HM : Mm G w0 w [(sd, .cells (X.map Bv).toArray 5 (0, 0)), (aY, .cells nms 36 (0, 0)), (aV, .cells cur 133 (0, 0)), (fb, .cells #[aO 1, .int .u8 dat, aO 1, aT abi, aT aH, (aU big), bn aW, bn aJ, aI aG, aC aV ah ah, aC pg aj aj, aQ, aQ, aQ] 131 (0, 0)), (s, .cells #[.iface 178 (.slice (some ⟨b, o, none⟩) n c), aF 0, aF 0, aF 9223372036854775807, aF 9223372036854775807] 246 (0, 0))])
  (K : ∀ a w' dW, jo b o n c w0.heap.size w' sc (fun _ => ⟨#[]⟩) ah cur → Fr 1287 a ((kF b o n c s fb big ak aj au ah aY sd) ++ [(53, aC dW (sc (ah - 1)).bP (sc (ah - 1)).bP)]) → Mm G w0 w' [(dW, .cells (((l.drop (sc (ah - 1)).off).take (sc (ah - 1)).bP).map Bv).toArray 5 (0, 0)), (sd, .cells (X.map Bv).toArray 5 (0, 0)), (aY, .cells nms 36 (0, 0)), (aV, .cells cur 133 (0, 0)), (fb, .cells #[aO 1, .int .u8 dat, aO 1, aT abi, aT aH, (aU big), bn aW, bn aJ, aI aG, aC aV ah ah, aC pg aj aj, aQ, aQ, aQ] 131 (0, 0)), (s, .cells #[.iface 178 (.slice (some ⟨b, o, none⟩) n c), aF 0, aF 0, aF 9223372036854775807, aF 9223372036854775807] 246 (0, 0))] → (spine Tryd.f78 51).wp Tryd.prog Q a w') : (spine Tryd.f78 45).wp Tryd.prog Q a w := by
 obtain ⟨i0, his, hss⟩ := wF
 obtain ⟨pq, sq, q1, q2, q3, q4, q5⟩ := hP (ah - 1) (by omega)
 refine wp_seq ?_
 refine wp_seq (wp_region_lit ?_)
 refine wp_pure HF HM rfl 6 [[1], []] ((kF b o n c s fb big ak aj au ah aY sd) ++ [(1206, .bool (((ah : Nat) : Int) == 0))]) (by kernel_rfl) ?_
 clear HF; intro a HF
 rw [show (((ah : Nat) : Int) == 0) = false from beq_eq_false_iff_ne.2 (by omega)] at HF
 refine aB ?_
 refine aZ HF rfl ?_
 refine wp_skip ?_
 repeat (first | refine aK ?_ | refine aS ?_)
 replace HF := HF.sub (kF b o n c s fb big ak aj au ah aY sd) (by kernel_rfl)
 refine wp_seq ?_
 refine wp_seq (wp_region_lit ?_)
 refine wp_pure HF HM rfl 2 [] ((kF b o n c s fb big ak aj au ah aY sd) ++ [(1209, .bool ((((ah - 1) : Nat) : Int) == 0))]) (by kernel_rfl) ?_
 clear HF; intro a HF
 rw [show ((((ah - 1) : Nat) : Int) == 0) = false from beq_eq_false_iff_ne.2 (by omega)] at HF
 refine aB ?_
 refine aZ HF rfl ?_
 refine wp_skip ?_
 repeat (first | refine aK ?_ | refine aS ?_)
 replace HF := HF.sub (kF b o n c s fb big ak aj au ah aY sd) (by kernel_rfl)
 refine wp_seq (wp_region_lit ?_)
 refine wp_pure HF HM rfl 5 [[1]] ((kF b o n c s fb big ak aj au ah aY sd) ++ [(1214, aC aV ah ah), (1215, ay (ah - 1))]) (by kernel_rfl) ?_
 clear HF; intro a HF
 refine bU HF (by kernel_rfl) (.pointer (some ⟨aV, ah - 1, none⟩)) (by kernel_rfl) (qY (t := 126) Tryd.underlying126 his hss rfl (ah - 1) rfl rfl (by omega)) ?_
 clear HF; intro a HF; replace HF := HF.sub ((kF b o n c s fb big ak aj au ah aY sd) ++ [(1214, aC aV ah ah), (1215, ay (ah - 1)), (1216, .pointer (some ⟨aV, ah - 1, none⟩))]) (by kernel_rfl)
 refine bU HF (by kernel_rfl) (aA pq) (by kernel_rfl) (dP rfl rfl (by kernel_rfl) (HM.cellAt (i := 2) (k := ah - 1) rfl q1)) ?_
 clear HF; intro a HF; replace HF := HF.sub ((kF b o n c s fb big ak aj au ah aY sd) ++ [(1214, aC aV ah ah), (1215, ay (ah - 1)), (1216, .pointer (some ⟨aV, ah - 1, none⟩)), (1217, aA pq)]) (by kernel_rfl)
 refine wp_pure HF HM rfl 1 [] ((kF b o n c s fb big ak aj au ah aY sd) ++ [(52, aA pq)]) (by kernel_rfl) ?_
 clear HF; intro a HF
 refine aB ?_
 refine wp_seq ?_
 refine wp_seq (wp_region_lit ?_)
 refine wp_pure HF HM rfl 4 [] ((kF b o n c s fb big ak aj au ah aY sd) ++ [(52, aA pq), (1221, .pointer (some ⟨pq, 1, none⟩))]) (by kernel_rfl) ?_
 clear HF; intro a HF
 refine bU HF (by kernel_rfl) (aX (sc (ah - 1)).ty) (by kernel_rfl) (dP rfl rfl (by kernel_rfl) (by rw [cell_of_row _ pq 1 _ _ _ q4]; rfl)) ?_
 clear HF; intro a HF; replace HF := HF.sub ((kF b o n c s fb big ak aj au ah aY sd) ++ [(52, aA pq), (1221, .pointer (some ⟨pq, 1, none⟩)), (1222, aX (sc (ah - 1)).ty)]) (by kernel_rfl)
 refine wp_pure HF HM rfl 1 [] ((kF b o n c s fb big ak aj au ah aY sd) ++ [(52, aA pq), (1223, .bool ((((sc (ah - 1)).ty : Nat) : Int) != 3))]) (by kernel_rfl) ?_
 clear HF; intro a HF
 rw [show ((((sc (ah - 1)).ty : Nat) : Int) != 3) = false from by rw [hty]; rfl] at HF
 refine aB ?_
 refine aZ HF rfl ?_
 refine wp_skip ?_
 repeat (first | refine aK ?_ | refine aS ?_)
 replace HF := HF.sub ((kF b o n c s fb big ak aj au ah aY sd) ++ [(52, aA pq)]) (by kernel_rfl)
 refine wp_seq (wp_region_lit ?_)
 refine wp_pure HF HM rfl 1 [] ((kF b o n c s fb big ak aj au ah aY sd) ++ [(52, aA pq), (1239, aA pq)]) (by kernel_rfl) ?_
 clear HF; intro a HF
 refine bf HF (by kernel_rfl) 63 #[aA pq] (by kernel_rfl) (fun w => by kernel_rfl) (Calls.mono (AO ⟨#[]⟩ (((sc (ah - 1)).ty : Nat) : Int) (((sc (ah - 1)).flags : Nat) : Int) (((sc (ah - 1)).addr : Nat) : Int) (((sc (ah - 1)).off : Nat) : Int) (((sc (ah - 1)).link : Nat) : Int) (((sc (ah - 1)).info : Nat) : Int) (((sc (ah - 1)).align : Nat) : Int) (((sc (ah - 1)).ent : Nat) : Int) (((sc (ah - 1)).bP : Nat) : Int) (.iface 144 (aA sq)) (aF 0) (aF 0) pq sq (by rw [hty]; rfl) hfl (.inl (by decide)) l b o n c hl hnc (sc (ah - 1)).bP (sc (ah - 1)).off (((sc (ah - 1)).off : Nat) : Int) ((((sc (ah - 1)).bP : Nat) : Int) + (((sc (ah - 1)).off : Nat) : Int)) (((sc (ah - 1)).bP : Nat) : Int) (by omega) (by omega) (by omega) (by omega) (by omega) (by omega) (by omega) w q4 q5 (Nat.lt_of_lt_of_le hbl HM.size) (by omega) (by omega) (dK q4 q5 (by decide)) (HM.row hr (by intro b' o' s' e; injection e with e; injection e with e; subst e; exact xR))) ?_)
 rintro _ w1 ⟨dW, rfl, hb, hge, hgn⟩
 replace HM : Mm G w0 w1 [(dW, .cells (((l.drop ((sc (ah - 1)).off + 0)).take (sc (ah - 1)).bP).map Bv).toArray 5 (0, 0)), (sd, .cells (X.map Bv).toArray 5 (0, 0)), (aY, .cells nms 36 (0, 0)), (aV, .cells cur 133 (0, 0)), (fb, .cells #[aO 1, .int .u8 dat, aO 1, aT abi, aT aH, (aU big), bn aW, bn aJ, aI aG, aC aV ah ah, aC pg aj aj, aQ, aQ, aQ] 131 (0, 0)), (s, .cells #[.iface 178 (.slice (some ⟨b, o, none⟩) n c), aF 0, aF 0, aF 9223372036854775807, aF 9223372036854775807] 246 (0, 0))] := HM.push hb hge hgn
 clear hge hgn
 refine ⟨_, rfl, ?_⟩; clear HF; intro a HF; replace HF := HF.sub ((kF b o n c s fb big ak aj au ah aY sd) ++ [(52, aA pq), (1239, aA pq), (1240, .tuple #[aC dW (sc (ah - 1)).bP (sc (ah - 1)).bP, .nilIface])]) (by kernel_rfl)
 refine wp_pure HF HM rfl 5 [] ((kF b o n c s fb big ak aj au ah aY sd) ++ [(52, aA pq), (53, aC dW (sc (ah - 1)).bP (sc (ah - 1)).bP), (37, .nilIface)]) (by kernel_rfl) ?_
 clear HF; intro a HF
 refine aB ?_
 refine wp_seq ?_
 refine wp_seq (wp_region_lit ?_)
 refine wp_pure HF HM rfl 2 [] ((kF b o n c s fb big ak aj au ah aY sd) ++ [(52, aA pq), (53, aC dW (sc (ah - 1)).bP (sc (ah - 1)).bP), (37, .nilIface), (1244, .bool false)]) (by kernel_rfl) ?_
 clear HF; intro a HF
 refine aB ?_
 refine aZ HF rfl ?_
 refine wp_skip ?_
 repeat (first | refine aK ?_ | refine aS ?_)
 replace HF := HF.sub ((kF b o n c s fb big ak aj au ah aY sd) ++ [(53, aC dW (sc (ah - 1)).bP (sc (ah - 1)).bP)]) (by kernel_rfl)
 replace HF := HF.sub ((kF b o n c s fb big ak aj au ah aY sd) ++ [(53, aC dW (sc (ah - 1)).bP (sc (ah - 1)).bP)]) (by kernel_rfl)
 rw [Nat.add_zero] at HM
 exact K a w1 dW (hP.keep (Keep.of_below hb) (by intro g hg; cases hg)) HF HM

abbrev kE := fun (b : Nat) (o : Nat) (n : Nat) (c : Nat) (s : Nat) (fb : Nat) (big : Bool) (ak : Nat) (aj : Nat) (au : Nat) (ah : Nat) (aY : Nat) (sd : Nat) => ([(0, .iface 178 (.slice (some ⟨b, o, none⟩) n c)), (4, aA s), (8, aA fb), (9, (aU big)), (10, ay ak), (11, aF 56), (12, ay aj), (13, ay au), (14, aF 64), (15, ay ah), (16, ay (ah - 1)), (26, aF 64), (41, aC aY ah ah), (42, aC sd (ah * 64) (ah * 64))] : Slots)
theorem QV (l : List UInt8) (b o n c : Nat) (hl : n = l.length) (hnc : n ≤ c) (big : Bool) (abi aH aW aJ aG ak aj au ah : Nat) (dat : Int) (b1 : aW < 65536) (b2 : aJ < 65536) (b3 : aG ≤ 18446744073709551615) (b4 : ak < 4611686018427387904) (b5 : au < 4611686018427387904) (b6 : aj < 200) (b7 : ah < 200) (X : List UInt8) (sc : Nat → jG) (c3 : 1 < ah) (hty : (sc (ah - 1)).ty = 3) (hfl : (qP ((((sc (ah - 1)).flags : Nat) : Int)) 2048 == 0) = true) (f1 : 0 < (sc (ah - 1)).bP) (f2 : (sc (ah - 1)).bP < 10485760) (f3 : (sc (ah - 1)).off + (sc (ah - 1)).bP ≤ n) (f4 : n ≤ 4611686018427387904) (G : List Nat) (w0 : World) (hbl : b < w0.heap.size) (hr : Row w0 (some ⟨b, o, none⟩) (l.map Bv)) (xR : b ∉ G) (s fb pg aV aY sd : Nat) {Q : Exit → Act → World → Prop} (a : Act) (w : World) (cur nms : Array Value) (hP : jo b o n c w0.heap.size w sc (fun _ => ⟨#[]⟩) ah cur) (HF : Fr 1287 a (kE b o n c s fb big ak aj au ah aY sd)) (HM : Mm G w0 w [(sd, .cells (X.map Bv).toArray 5 (0, 0)), (aY, .cells nms 36 (0, 0)), (aV, .cells cur 133 (0, 0)), (fb, .cells #[aO 2, .int .u8 dat, aO 1, aT abi, aT aH, (aU big), bn aW, bn aJ, aI aG, aC aV ah ah, aC pg aj aj, aQ, aQ, aQ] 131 (0, 0)), (s, .cells #[.iface 178 (.slice (some ⟨b, o, none⟩) n c), aF 0, aF 0, aF 9223372036854775807, aF 9223372036854775807] 246 (0, 0))])
  (K : ∀ a w' dW, jo b o n c w0.heap.size w' sc (fun _ => ⟨#[]⟩) ah cur → Fr 1287 a ((kE b o n c s fb big ak aj au ah aY sd) ++ [(53, aC dW (sc (ah - 1)).bP (sc (ah - 1)).bP)]) → Mm G w0 w' [(dW, .cells (((l.drop (sc (ah - 1)).off).take (sc (ah - 1)).bP).map Bv).toArray 5 (0, 0)), (sd, .cells (X.map Bv).toArray 5 (0, 0)), (aY, .cells nms 36 (0, 0)), (aV, .cells cur 133 (0, 0)), (fb, .cells #[aO 2, .int .u8 dat, aO 1, aT abi, aT aH, (aU big), bn aW, bn aJ, aI aG, aC aV ah ah, aC pg aj aj, aQ, aQ, aQ] 131 (0, 0)), (s, .cells #[.iface 178 (.slice (some ⟨b, o, none⟩) n c), aF 0, aF 0, aF 9223372036854775807, aF 9223372036854775807] 246 (0, 0))] → (spine Tryd.f78 51).wp Tryd.prog Q a w') : (spine Tryd.f78 45).wp Tryd.prog Q a w := by
 obtain ⟨i0, his, hss⟩ := wF
 obtain ⟨pq, sq, q1, q2, q3, q4, q5⟩ := hP (ah - 1) (by omega)
 refine wp_seq ?_
 refine wp_seq (wp_region_lit ?_)
 refine wp_pure HF HM rfl 6 [[1], []] ((kE b o n c s fb big ak aj au ah aY sd) ++ [(1206, .bool (((ah : Nat) : Int) == 0))]) (by kernel_rfl) ?_
 clear HF; intro a HF
 rw [show (((ah : Nat) : Int) == 0) = false from beq_eq_false_iff_ne.2 (by omega)] at HF
 refine aB ?_
 refine aZ HF rfl ?_
 refine wp_skip ?_
 repeat (first | refine aK ?_ | refine aS ?_)
 replace HF := HF.sub (kE b o n c s fb big ak aj au ah aY sd) (by kernel_rfl)
 refine wp_seq ?_
 refine wp_seq (wp_region_lit ?_)
 refine wp_pure HF HM rfl 2 [] ((kE b o n c s fb big ak aj au ah aY sd) ++ [(1209, .bool ((((ah - 1) : Nat) : Int) == 0))]) (by kernel_rfl) ?_
 clear HF; intro a HF
 rw [show ((((ah - 1) : Nat) : Int) == 0) = false from beq_eq_false_iff_ne.2 (by omega)] at HF
 refine aB ?_
 refine aZ HF rfl ?_
 refine wp_skip ?_
 repeat (first | refine aK ?_ | refine aS ?_)
 replace HF := HF.sub (kE b o n c s fb big ak aj au ah aY sd) (by kernel_rfl)
 refine wp_seq (wp_region_lit ?_)
 refine wp_pure HF HM rfl 5 [[1]] ((kE b o n c s fb big ak aj au ah aY sd) ++ [(1214, aC aV ah ah), (1215, ay (ah - 1))]) (by kernel_rfl) ?_
 clear HF; intro a HF
 refine bU HF (by kernel_rfl) (.pointer (some ⟨aV, ah - 1, none⟩)) (by kernel_rfl) (qY (t := 126) Tryd.underlying126 his hss rfl (ah - 1) rfl rfl (by omega)) ?_
 clear HF; intro a HF; replace HF := HF.sub ((kE b o n c s fb big ak aj au ah aY sd) ++ [(1214, aC aV ah ah), (1215, ay (ah - 1)), (1216, .pointer (some ⟨aV, ah - 1, none⟩))]) (by kernel_rfl)
 refine bU HF (by kernel_rfl) (aA pq) (by kernel_rfl) (dP rfl rfl (by kernel_rfl) (HM.cellAt (i := 2) (k := ah - 1) rfl q1)) ?_
 clear HF; intro a HF; replace HF := HF.sub ((kE b o n c s fb big ak aj au ah aY sd) ++ [(1214, aC aV ah ah), (1215, ay (ah - 1)), (1216, .pointer (some ⟨aV, ah - 1, none⟩)), (1217, aA pq)]) (by kernel_rfl)
 refine wp_pure HF HM rfl 1 [] ((kE b o n c s fb big ak aj au ah aY sd) ++ [(52, aA pq)]) (by kernel_rfl) ?_
 clear HF; intro a HF
 refine aB ?_
 refine wp_seq ?_
 refine wp_seq (wp_region_lit ?_)
 refine wp_pure HF HM rfl 4 [] ((kE b o n c s fb big ak aj au ah aY sd) ++ [(52, aA pq), (1221, .pointer (some ⟨pq, 1, none⟩))]) (by kernel_rfl) ?_
 clear HF; intro a HF
 refine bU HF (by kernel_rfl) (aX (sc (ah - 1)).ty) (by kernel_rfl) (dP rfl rfl (by kernel_rfl) (by rw [cell_of_row _ pq 1 _ _ _ q4]; rfl)) ?_
 clear HF; intro a HF; replace HF := HF.sub ((kE b o n c s fb big ak aj au ah aY sd) ++ [(52, aA pq), (1221, .pointer (some ⟨pq, 1, none⟩)), (1222, aX (sc (ah - 1)).ty)]) (by kernel_rfl)
 refine wp_pure HF HM rfl 1 [] ((kE b o n c s fb big ak aj au ah aY sd) ++ [(52, aA pq), (1223, .bool ((((sc (ah - 1)).ty : Nat) : Int) != 3))]) (by kernel_rfl) ?_
 clear HF; intro a HF
 rw [show ((((sc (ah - 1)).ty : Nat) : Int) != 3) = false from by rw [hty]; rfl] at HF
 refine aB ?_
 refine aZ HF rfl ?_
 refine wp_skip ?_
 repeat (first | refine aK ?_ | refine aS ?_)
 replace HF := HF.sub ((kE b o n c s fb big ak aj au ah aY sd) ++ [(52, aA pq)]) (by kernel_rfl)
 refine wp_seq (wp_region_lit ?_)
 refine wp_pure HF HM rfl 1 [] ((kE b o n c s fb big ak aj au ah aY sd) ++ [(52, aA pq), (1239, aA pq)]) (by kernel_rfl) ?_
 clear HF; intro a HF
 refine bf HF (by kernel_rfl) 63 #[aA pq] (by kernel_rfl) (fun w => by kernel_rfl) (Calls.mono (AO ⟨#[]⟩ (((sc (ah - 1)).ty : Nat) : Int) (((sc (ah - 1)).flags : Nat) : Int) (((sc (ah - 1)).addr : Nat) : Int) (((sc (ah - 1)).off : Nat) : Int) (((sc (ah - 1)).link : Nat) : Int) (((sc (ah - 1)).info : Nat) : Int) (((sc (ah - 1)).align : Nat) : Int) (((sc (ah - 1)).ent : Nat) : Int) (((sc (ah - 1)).bP : Nat) : Int) (.iface 144 (aA sq)) (aF 0) (aF 0) pq sq (by rw [hty]; rfl) hfl (.inl (by decide)) l b o n c hl hnc (sc (ah - 1)).bP (sc (ah - 1)).off (((sc (ah - 1)).off : Nat) : Int) ((((sc (ah - 1)).bP : Nat) : Int) + (((sc (ah - 1)).off : Nat) : Int)) (((sc (ah - 1)).bP : Nat) : Int) (by omega) (by omega) (by omega) (by omega) (by omega) (by omega) (by omega) w q4 q5 (Nat.lt_of_lt_of_le hbl HM.size) (by omega) (by omega) (dK q4 q5 (by decide)) (HM.row hr (by intro b' o' s' e; injection e with e; injection e with e; subst e; exact xR))) ?_)
 rintro _ w1 ⟨dW, rfl, hb, hge, hgn⟩
 replace HM : Mm G w0 w1 [(dW, .cells (((l.drop ((sc (ah - 1)).off + 0)).take (sc (ah - 1)).bP).map Bv).toArray 5 (0, 0)), (sd, .cells (X.map Bv).toArray 5 (0, 0)), (aY, .cells nms 36 (0, 0)), (aV, .cells cur 133 (0, 0)), (fb, .cells #[aO 2, .int .u8 dat, aO 1, aT abi, aT aH, (aU big), bn aW, bn aJ, aI aG, aC aV ah ah, aC pg aj aj, aQ, aQ, aQ] 131 (0, 0)), (s, .cells #[.iface 178 (.slice (some ⟨b, o, none⟩) n c), aF 0, aF 0, aF 9223372036854775807, aF 9223372036854775807] 246 (0, 0))] := HM.push hb hge hgn
 clear hge hgn
 refine ⟨_, rfl, ?_⟩; clear HF; intro a HF; replace HF := HF.sub ((kE b o n c s fb big ak aj au ah aY sd) ++ [(52, aA pq), (1239, aA pq), (1240, .tuple #[aC dW (sc (ah - 1)).bP (sc (ah - 1)).bP, .nilIface])]) (by kernel_rfl)
 refine wp_pure HF HM rfl 5 [] ((kE b o n c s fb big ak aj au ah aY sd) ++ [(52, aA pq), (53, aC dW (sc (ah - 1)).bP (sc (ah - 1)).bP), (37, .nilIface)]) (by kernel_rfl) ?_
 clear HF; intro a HF
 refine aB ?_
 refine wp_seq ?_
 refine wp_seq (wp_region_lit ?_)
 refine wp_pure HF HM rfl 2 [] ((kE b o n c s fb big ak aj au ah aY sd) ++ [(52, aA pq), (53, aC dW (sc (ah - 1)).bP (sc (ah - 1)).bP), (37, .nilIface), (1244, .bool false)]) (by kernel_rfl) ?_
 clear HF; intro a HF
 refine aB ?_
 refine aZ HF rfl ?_
 refine wp_skip ?_
 repeat (first | refine aK ?_ | refine aS ?_)
 replace HF := HF.sub ((kE b o n c s fb big ak aj au ah aY sd) ++ [(53, aC dW (sc (ah - 1)).bP (sc (ah - 1)).bP)]) (by kernel_rfl)
 replace HF := HF.sub ((kE b o n c s fb big ak aj au ah aY sd) ++ [(53, aC dW (sc (ah - 1)).bP (sc (ah - 1)).bP)]) (by kernel_rfl)
 rw [Nat.add_zero] at HM
 exact K a w1 dW (hP.keep (Keep.of_below hb) (by intro g hg; cases hg)) HF HM

end Go.Proofs.YtdgehpocmfjbiaaDoor
namespace Go.Proofs.YtdgehpocmfjbiaaDoor
open Go.RowKit

theorem jo.named {b o n c z : Nat} {w w' : World} {sc : Nat → jG} {nb : Nat → List UInt8} {k i : Nat} {cur : Array Value} {pb sb : Nat} (h : jo b o n c z w sc (fun j => if j < i then ⟨(nb j).toArray⟩ else ⟨#[]⟩) k cur) (hD : oV k cur) (hi : i < k) (hc : cur[i]? = some (aA pb)) (hsb : w.heap[pb]? = some (.cells #[.string ⟨#[]⟩, aX (sc i).ty, aX (sc i).flags, aI (sc i).addr, aI (sc i).off, aI (sc i).bP, aX (sc i).link, aX (sc i).info, aI (sc i).align, aI (sc i).ent, aI (sc i).bP, .iface 144 (aA sb), aA sb, .int .i64 0, .int .i64 0] 153 (0, 0)))
  (hk : Keep [pb] w w') (hn : w'.heap[pb]? = some (.cells #[.string ⟨(nb i).toArray⟩, aX (sc i).ty, aX (sc i).flags, aI (sc i).addr, aI (sc i).off, aI (sc i).bP, aX (sc i).link, aX (sc i).info, aI (sc i).align, aI (sc i).ent, aI (sc i).bP, .iface 144 (aA sb), aA sb, .int .i64 0, .int .i64 0] 153 (0, 0))) : jo b o n c z w' sc (fun j => if j < (i + 1) then ⟨(nb j).toArray⟩ else ⟨#[]⟩) k cur := fun j hj => by
 obtain ⟨pj, sj, h1, h2, h3, h4, h5⟩ := h j hj
 have h5' : w'.heap[sj]? = w.heap[sj]? := hk.block sj (kM h5) (by simpa using dK h5 hsb (by decide))
 by_cases hji : j = i
 ·subst hji
  rw [hc] at h1
  injection h1 with h1
  injection h1 with h1
  injection h1 with h1
  injection h1 with h1
  subst h1
  simp only [Nat.lt_irrefl, ↓reduceIte] at h4
  rw [hsb] at h4
  refine ⟨pb, sj, hc, h2, h3, ?_, h5'.trans h5⟩
  simp only [Nat.lt_add_one, ↓reduceIte]
  rw [hn]
  injection h4 with h4
  injection h4 with h4
  have e := congrArg (fun a => a[12]?) h4
  simp only [List.getElem?_toArray] at e
  injection e with e
  injection e with e
  injection e with e
  injection e with e
  subst e
  rfl
 ·have hne : pj ≠ pb := fun e => by
   subst e
   rcases Nat.lt_or_ge j i with hlt | hge
   ·exact hD j i hlt hi (h1.trans hc.symm)
   ·exact hD i j (by omega) hj (hc.trans h1.symm)
  refine ⟨pj, sj, h1, h2, h3, ?_, h5'.trans h5⟩
  rw [hk.block pj (kM h4) (by simpa using hne), h4]
  have : (j < i + 1) = (j < i) := propext ⟨fun h => by omega, fun h => by omega⟩
  simp only [this]

abbrev mJ := fun (b : Nat) (o : Nat) (n : Nat) (c : Nat) (s : Nat) (fb : Nat) (big : Bool) (ak : Nat) (aj : Nat) (au : Nat) (ah : Nat) (aY : Nat) (sd : Nat) (dW : Nat) (tm : Nat) (aV : Nat) => ([(0, .iface 178 (.slice (some ⟨b, o, none⟩) n c)), (4, aA s), (8, aA fb), (9, (aU big)), (10, ay ak), (11, aF 32), (12, ay aj), (13, ay au), (14, aF 40), (15, ay ah), (16, ay (ah - 1)), (26, aF 40), (41, aC aY ah ah), (42, aC sd (ah * 40) (ah * 40)), (53, aC dW tm tm), (1249, aC aV ah ah), (1250, ay ah)] : Slots)
abbrev wL := fun (b : Nat) (o : Nat) (n : Nat) (c : Nat) (s : Nat) (fb : Nat) (big : Bool) (ak : Nat) (aj : Nat) (au : Nat) (ah : Nat) (aY : Nat) (sd : Nat) (dW : Nat) (tm : Nat) (aV : Nat) (i : Nat) (pb : Nat) => ((mJ b o n c s fb big ak aj au ah aY sd dW tm aV) ++ [(1251, ay i), (54, ay i), (55, aA pb), (56, .bool false)] : Slots)
abbrev BZ := fun (pb : Nat) (nb : Nat → List UInt8) (i : Nat) (sc : Nat → jG) (sb : Nat) => ((pb, .cells #[.string ⟨(nb i).toArray⟩, aX (sc i).ty, aX (sc i).flags, aI (sc i).addr, aI (sc i).off, aI (sc i).bP, aX (sc i).link, aX (sc i).info, aI (sc i).align, aI (sc i).ent, aI (sc i).bP, .iface 144 (aA sb), aA sb, aF 0, aF 0] 153 (0, 0)) : Nat × Obj)
theorem UG (l : List UInt8) (b o n c : Nat) (hl : n = l.length) (hnc : n ≤ c) (big : Bool) (ak aj au ah : Nat) (b7 : ah < 200) (sc : Nat → jG) (nb : Nat → List UInt8) (Y : List UInt8) (tm : Nat) (hY : tm = Y.length) (zi : tm ≤ maxLen) (i : Nat) (hi : i < ah) (hv : (sc i).name < 4294967296) (hstr : nR Y (sc i).name = some (nb i)) (s fb pg aV aY sd dW pb sb : Nat) (cur nms : Array Value) {K0 : Act → World → Prop} {Q : Exit → Act → World → Prop} (a : Act) (W1 : World)
  (hc : cur[i]? = some (aA pb)) (hN : lK sc ah nms) (Sz : W1.heap[aV]? = some (.cells cur 133 (0, 0))) (SC : W1.heap[aY]? = some (.cells nms 36 (0, 0))) (Sr : W1.heap[dW]? = some (.cells (Y.map Bv).toArray 5 (0, 0))) (hpb : W1.heap[pb]? = some (.cells #[.string ⟨#[]⟩, aX (sc i).ty, aX (sc i).flags, aI (sc i).addr, aI (sc i).off, aI (sc i).bP, aX (sc i).link, aX (sc i).info, aI (sc i).align, aI (sc i).ent, aI (sc i).bP, .iface 144 (aA sb), aA sb, aF 0, aF 0] 153 (0, 0))) (HF : Fr 1287 a ((mJ b o n c s fb big ak aj au ah aY sd dW tm aV) ++ [(1251, ay i)]))
  (K : ∀ a w', Keep [pb] W1 w' → w'.heap[pb]? = some (.cells #[.string ⟨(nb i).toArray⟩, aX (sc i).ty, aX (sc i).flags, aI (sc i).addr, aI (sc i).off, aI (sc i).bP, aX (sc i).link, aX (sc i).info, aI (sc i).align, aI (sc i).ent, aI (sc i).bP, .iface 144 (aA sb), aA sb, aF 0, aF 0] 153 (0, 0)) → Fr 1287 a ((mJ b o n c s fb big ak aj au ah aY sd dW tm aV) ++ [(1251, ay (i + 1))]) → K0 a w') : (oP (spine Tryd.f78 51)).wp Tryd.prog (Exit.then K0 Q) a W1 := by
 obtain ⟨i0, his, hss⟩ := wF
 obtain ⟨i1, hiu, hsu⟩ := LH
 obtain ⟨w, hw⟩ : ∃ w, W1 = w := ⟨_, rfl⟩
 have HM : Mm [pb] W1 w [(pb, .cells #[.string ⟨#[]⟩, aX (sc i).ty, aX (sc i).flags, aI (sc i).addr, aI (sc i).off, aI (sc i).bP, aX (sc i).link, aX (sc i).info, aI (sc i).align, aI (sc i).ent, aI (sc i).bP, .iface 144 (aA sb), aA sb, aF 0, aF 0] 153 (0, 0))] := hw ▸ Mm.CZ hpb
 have hsg := hw ▸ Sz
 have hnm := hw ▸ SC
 have htb := hw ▸ Sr
 conv => arg 5; rw [hw]
 clear hw
 refine wp_seq (wp_region_lit ?_)
 refine wp_pure HF HM rfl 1 [] ((mJ b o n c s fb big ak aj au ah aY sd dW tm aV) ++ [(1251, ay i), (1252, .bool (decide (((i : Nat) : Int) < ((ah : Nat) : Int))))]) (by kernel_rfl) ?_
 clear HF; intro a HF
 rw [show decide (((i : Nat) : Int) < ((ah : Nat) : Int)) = true from dV (by omega)] at HF
 refine aB ?_
 refine wp_seq ?_
 refine bC HF rfl ?_
 refine wp_skip ?_
 repeat (first | refine aK ?_ | refine aS ?_)
 replace HF := HF.sub ((mJ b o n c s fb big ak aj au ah aY sd dW tm aV) ++ [(1251, ay i)]) (by kernel_rfl)
 refine wp_seq (wp_block ?_)
 refine wp_seq (wp_region_lit ?_)
 refine wp_pure HF HM rfl 1 [] ((mJ b o n c s fb big ak aj au ah aY sd dW tm aV) ++ [(1251, ay i), (1253, ay i)]) (by kernel_rfl) ?_
 clear HF; intro a HF
 refine bU HF (by kernel_rfl) (.pointer (some ⟨aV, i, none⟩)) (by kernel_rfl) (qY (t := 126) Tryd.underlying126 his hss rfl i rfl rfl (by omega)) ?_
 clear HF; intro a HF; replace HF := HF.sub ((mJ b o n c s fb big ak aj au ah aY sd dW tm aV) ++ [(1251, ay i), (1253, ay i), (1254, .pointer (some ⟨aV, i, none⟩))]) (by kernel_rfl)
 refine bU HF (by kernel_rfl) (aA pb) (by kernel_rfl) (dP rfl rfl (by kernel_rfl) ((cell_of_row w aV i _ _ _ hsg).trans hc)) ?_
 clear HF; intro a HF; replace HF := HF.sub ((mJ b o n c s fb big ak aj au ah aY sd dW tm aV) ++ [(1251, ay i), (1253, ay i), (1254, .pointer (some ⟨aV, i, none⟩)), (1255, aA pb)]) (by kernel_rfl)
 refine wp_pure HF HM rfl 2 [] ((mJ b o n c s fb big ak aj au ah aY sd dW tm aV) ++ [(1251, ay i), (54, ay i), (55, aA pb)]) (by kernel_rfl) ?_
 clear HF; intro a HF
 refine aB ?_
 refine oq HF HM rfl [] (wL b o n c s fb big ak aj au ah aY sd dW tm aV i pb) (by kernel_rfl) ?_
 clear HF; intro a HF
 refine wp_seq (wp_region_lit ?_)
 refine wp_pure HF HM rfl 4 [] ((wL b o n c s fb big ak aj au ah aY sd dW tm aV i pb) ++ [(1257, aA pb), (1258, aC dW tm tm), (1259, aC aY ah ah), (1260, ay i)]) (by kernel_rfl) ?_
 clear HF; intro a HF
 refine bU HF (by kernel_rfl) (.pointer (some ⟨aY, i, none⟩)) (by kernel_rfl) (qY (t := 222) Tryd.underlying222 hiu hsu rfl i rfl rfl (by omega)) ?_
 clear HF; intro a HF; replace HF := HF.sub ((wL b o n c s fb big ak aj au ah aY sd dW tm aV i pb) ++ [(1257, aA pb), (1258, aC dW tm tm), (1259, aC aY ah ah), (1260, ay i), (1261, .pointer (some ⟨aY, i, none⟩))]) (by kernel_rfl)
 refine bU HF (by kernel_rfl) (aX (sc i).name) (by kernel_rfl) (dP rfl rfl (by kernel_rfl) ((cell_of_row w aY i _ _ _ hnm).trans (hN i hi))) ?_
 clear HF; intro a HF; replace HF := HF.sub ((wL b o n c s fb big ak aj au ah aY sd dW tm aV i pb) ++ [(1257, aA pb), (1258, aC dW tm tm), (1259, aC aY ah ah), (1260, ay i), (1261, .pointer (some ⟨aY, i, none⟩)), (1262, aX (sc i).name)]) (by kernel_rfl)
 refine wp_pure HF HM rfl 1 [] ((wL b o n c s fb big ak aj au ah aY sd dW tm aV i pb) ++ [(1257, aA pb), (1258, aC dW tm tm), (1263, aF (IntKind.i64.wrap (((sc i).name : Nat) : Int)))]) (by kernel_rfl) ?_
 clear HF; intro a HF
 rw [show IntKind.i64.wrap (((sc i).name : Nat) : Int) = (((sc i).name : Nat) : Int) from IntWalk.i64_in _ (by omega)] at HF
 refine bf HF (by kernel_rfl) 91 #[aC dW tm tm, ay (sc i).name] (by kernel_rfl) (fun w => by kernel_rfl) (Calls.mono (EL (some ⟨dW, 0, none⟩) Y tm tm (((sc i).name : Nat) : Int) hY (Nat.le_refl _) zi w (o_ htb)) ?_)
 rintro _ w1 ⟨rfl, hq⟩
 obtain rfl : w1 = w := hq.symm
 rw [show CY Y (((sc i).name : Nat) : Int) = some (nb i) from (if_neg (by omega)).trans hstr]
 refine ⟨_, rfl, ?_⟩; clear HF; intro a HF; replace HF := HF.sub ((wL b o n c s fb big ak aj au ah aY sd dW tm aV i pb) ++ [(1257, aA pb), (1258, aC dW tm tm), (1263, ay (sc i).name), (1264, .tuple #[.string ⟨(nb i).toArray⟩, .bool true])]) (by kernel_rfl)
 refine aP HF HM rfl 8 [[0]] ((mJ b o n c s fb big ak aj au ah aY sd dW tm aV) ++ [(1251, ay i), (54, ay i), (55, aA pb), (56, .bool true)]) [BZ pb nb i sc sb] (by kernel_rfl) ?_
 clear HF HM; intro a w HF HM
 refine aB ?_
 refine wp_seq (wp_region_lit ?_)
 refine aP HF HM rfl 2 [] ((mJ b o n c s fb big ak aj au ah aY sd dW tm aV) ++ [(1251, ay i), (54, ay i), (55, aA pb), (56, .bool true), (1271, .bool false)]) [BZ pb nb i sc sb] (by kernel_rfl) ?_
 clear HF HM; intro a w HF HM
 refine aB ?_
 refine aZ HF rfl ?_
 refine wp_skip ?_
 repeat (first | refine aK ?_ | refine aS ?_)
 replace HF := HF.sub ((mJ b o n c s fb big ak aj au ah aY sd dW tm aV) ++ [(1251, ay i)]) (by kernel_rfl)
 refine wp_region_lit ?_
 refine aP HF HM rfl 1 [] ((mJ b o n c s fb big ak aj au ah aY sd dW tm aV) ++ [(1251, ay i), (1285, aF (IntKind.i64.wrap (((i : Nat) : Int) + 1)))]) [BZ pb nb i sc sb] (by kernel_rfl) ?_
 clear HF HM; intro a w HF HM
 rw [show IntKind.i64.wrap (((i : Nat) : Int) + 1) = (((i + 1) : Nat) : Int) from (IntWalk.i64_in _ (by omega)).trans (by omega)] at HF
 refine aP HF HM rfl 1 [] ((mJ b o n c s fb big ak aj au ah aY sd dW tm aV) ++ [(1251, ay (i + 1))]) [BZ pb nb i sc sb] (by kernel_rfl) ?_
 clear HF HM; intro a w HF HM
 refine wpList_nil ?_
 repeat (first | refine aK ?_ | refine aS ?_)
 replace HF := HF.sub ((mJ b o n c s fb big ak aj au ah aY sd dW tm aV) ++ [(1251, ay (i + 1))]) (by kernel_rfl)
 exact K a w HM.keep (HM.get (i := 0) rfl) HF

abbrev mG := fun (b : Nat) (o : Nat) (n : Nat) (c : Nat) (s : Nat) (fb : Nat) (big : Bool) (ak : Nat) (aj : Nat) (au : Nat) (ah : Nat) (aY : Nat) (sd : Nat) (dW : Nat) (tm : Nat) (aV : Nat) => ([(0, .iface 178 (.slice (some ⟨b, o, none⟩) n c)), (4, aA s), (8, aA fb), (9, (aU big)), (10, ay ak), (11, aF 56), (12, ay aj), (13, ay au), (14, aF 64), (15, ay ah), (16, ay (ah - 1)), (26, aF 64), (41, aC aY ah ah), (42, aC sd (ah * 64) (ah * 64)), (53, aC dW tm tm), (1249, aC aV ah ah), (1250, ay ah)] : Slots)
abbrev wK := fun (b : Nat) (o : Nat) (n : Nat) (c : Nat) (s : Nat) (fb : Nat) (big : Bool) (ak : Nat) (aj : Nat) (au : Nat) (ah : Nat) (aY : Nat) (sd : Nat) (dW : Nat) (tm : Nat) (aV : Nat) (i : Nat) (pb : Nat) => ((mG b o n c s fb big ak aj au ah aY sd dW tm aV) ++ [(1251, ay i), (54, ay i), (55, aA pb), (56, .bool false)] : Slots)
abbrev BX := fun (pb : Nat) (nb : Nat → List UInt8) (i : Nat) (sc : Nat → jG) (sb : Nat) => ((pb, .cells #[.string ⟨(nb i).toArray⟩, aX (sc i).ty, aX (sc i).flags, aI (sc i).addr, aI (sc i).off, aI (sc i).bP, aX (sc i).link, aX (sc i).info, aI (sc i).align, aI (sc i).ent, aI (sc i).bP, .iface 144 (aA sb), aA sb, aF 0, aF 0] 153 (0, 0)) : Nat × Obj)
theorem UF (l : List UInt8) (b o n c : Nat) (hl : n = l.length) (hnc : n ≤ c) (big : Bool) (ak aj au ah : Nat) (b7 : ah < 200) (sc : Nat → jG) (nb : Nat → List UInt8) (Y : List UInt8) (tm : Nat) (hY : tm = Y.length) (zi : tm ≤ maxLen) (i : Nat) (hi : i < ah) (hv : (sc i).name < 4294967296) (hstr : nR Y (sc i).name = some (nb i)) (s fb pg aV aY sd dW pb sb : Nat) (cur nms : Array Value) {K0 : Act → World → Prop} {Q : Exit → Act → World → Prop} (a : Act) (W1 : World)
  (hc : cur[i]? = some (aA pb)) (hN : lK sc ah nms) (Sz : W1.heap[aV]? = some (.cells cur 133 (0, 0))) (SC : W1.heap[aY]? = some (.cells nms 36 (0, 0))) (Sr : W1.heap[dW]? = some (.cells (Y.map Bv).toArray 5 (0, 0))) (hpb : W1.heap[pb]? = some (.cells #[.string ⟨#[]⟩, aX (sc i).ty, aX (sc i).flags, aI (sc i).addr, aI (sc i).off, aI (sc i).bP, aX (sc i).link, aX (sc i).info, aI (sc i).align, aI (sc i).ent, aI (sc i).bP, .iface 144 (aA sb), aA sb, aF 0, aF 0] 153 (0, 0))) (HF : Fr 1287 a ((mG b o n c s fb big ak aj au ah aY sd dW tm aV) ++ [(1251, ay i)]))
  (K : ∀ a w', Keep [pb] W1 w' → w'.heap[pb]? = some (.cells #[.string ⟨(nb i).toArray⟩, aX (sc i).ty, aX (sc i).flags, aI (sc i).addr, aI (sc i).off, aI (sc i).bP, aX (sc i).link, aX (sc i).info, aI (sc i).align, aI (sc i).ent, aI (sc i).bP, .iface 144 (aA sb), aA sb, aF 0, aF 0] 153 (0, 0)) → Fr 1287 a ((mG b o n c s fb big ak aj au ah aY sd dW tm aV) ++ [(1251, ay (i + 1))]) → K0 a w') : (oP (spine Tryd.f78 51)).wp Tryd.prog (Exit.then K0 Q) a W1 := by
 obtain ⟨i0, his, hss⟩ := wF
 obtain ⟨i1, hiu, hsu⟩ := LH
 obtain ⟨w, hw⟩ : ∃ w, W1 = w := ⟨_, rfl⟩
 have HM : Mm [pb] W1 w [(pb, .cells #[.string ⟨#[]⟩, aX (sc i).ty, aX (sc i).flags, aI (sc i).addr, aI (sc i).off, aI (sc i).bP, aX (sc i).link, aX (sc i).info, aI (sc i).align, aI (sc i).ent, aI (sc i).bP, .iface 144 (aA sb), aA sb, aF 0, aF 0] 153 (0, 0))] := hw ▸ Mm.CZ hpb
 have hsg := hw ▸ Sz
 have hnm := hw ▸ SC
 have htb := hw ▸ Sr
 conv => arg 5; rw [hw]
 clear hw
 refine wp_seq (wp_region_lit ?_)
 refine wp_pure HF HM rfl 1 [] ((mG b o n c s fb big ak aj au ah aY sd dW tm aV) ++ [(1251, ay i), (1252, .bool (decide (((i : Nat) : Int) < ((ah : Nat) : Int))))]) (by kernel_rfl) ?_
 clear HF; intro a HF
 rw [show decide (((i : Nat) : Int) < ((ah : Nat) : Int)) = true from dV (by omega)] at HF
 refine aB ?_
 refine wp_seq ?_
 refine bC HF rfl ?_
 refine wp_skip ?_
 repeat (first | refine aK ?_ | refine aS ?_)
 replace HF := HF.sub ((mG b o n c s fb big ak aj au ah aY sd dW tm aV) ++ [(1251, ay i)]) (by kernel_rfl)
 refine wp_seq (wp_block ?_)
 refine wp_seq (wp_region_lit ?_)
 refine wp_pure HF HM rfl 1 [] ((mG b o n c s fb big ak aj au ah aY sd dW tm aV) ++ [(1251, ay i), (1253, ay i)]) (by kernel_rfl) ?_
 clear HF; intro a HF
 refine bU HF (by kernel_rfl) (.pointer (some ⟨aV, i, none⟩)) (by kernel_rfl) (qY (t := 126) Tryd.underlying126 his hss rfl i rfl rfl (by omega)) ?_
 clear HF; intro a HF; replace HF := HF.sub ((mG b o n c s fb big ak aj au ah aY sd dW tm aV) ++ [(1251, ay i), (1253, ay i), (1254, .pointer (some ⟨aV, i, none⟩))]) (by kernel_rfl)
 refine bU HF (by kernel_rfl) (aA pb) (by kernel_rfl) (dP rfl rfl (by kernel_rfl) ((cell_of_row w aV i _ _ _ hsg).trans hc)) ?_
 clear HF; intro a HF; replace HF := HF.sub ((mG b o n c s fb big ak aj au ah aY sd dW tm aV) ++ [(1251, ay i), (1253, ay i), (1254, .pointer (some ⟨aV, i, none⟩)), (1255, aA pb)]) (by kernel_rfl)
 refine wp_pure HF HM rfl 2 [] ((mG b o n c s fb big ak aj au ah aY sd dW tm aV) ++ [(1251, ay i), (54, ay i), (55, aA pb)]) (by kernel_rfl) ?_
 clear HF; intro a HF
 refine aB ?_
 refine oq HF HM rfl [] (wK b o n c s fb big ak aj au ah aY sd dW tm aV i pb) (by kernel_rfl) ?_
 clear HF; intro a HF
 refine wp_seq (wp_region_lit ?_)
 refine wp_pure HF HM rfl 4 [] ((wK b o n c s fb big ak aj au ah aY sd dW tm aV i pb) ++ [(1257, aA pb), (1258, aC dW tm tm), (1259, aC aY ah ah), (1260, ay i)]) (by kernel_rfl) ?_
 clear HF; intro a HF
 refine bU HF (by kernel_rfl) (.pointer (some ⟨aY, i, none⟩)) (by kernel_rfl) (qY (t := 222) Tryd.underlying222 hiu hsu rfl i rfl rfl (by omega)) ?_
 clear HF; intro a HF; replace HF := HF.sub ((wK b o n c s fb big ak aj au ah aY sd dW tm aV i pb) ++ [(1257, aA pb), (1258, aC dW tm tm), (1259, aC aY ah ah), (1260, ay i), (1261, .pointer (some ⟨aY, i, none⟩))]) (by kernel_rfl)
 refine bU HF (by kernel_rfl) (aX (sc i).name) (by kernel_rfl) (dP rfl rfl (by kernel_rfl) ((cell_of_row w aY i _ _ _ hnm).trans (hN i hi))) ?_
 clear HF; intro a HF; replace HF := HF.sub ((wK b o n c s fb big ak aj au ah aY sd dW tm aV i pb) ++ [(1257, aA pb), (1258, aC dW tm tm), (1259, aC aY ah ah), (1260, ay i), (1261, .pointer (some ⟨aY, i, none⟩)), (1262, aX (sc i).name)]) (by kernel_rfl)
 refine wp_pure HF HM rfl 1 [] ((wK b o n c s fb big ak aj au ah aY sd dW tm aV i pb) ++ [(1257, aA pb), (1258, aC dW tm tm), (1263, aF (IntKind.i64.wrap (((sc i).name : Nat) : Int)))]) (by kernel_rfl) ?_
 clear HF; intro a HF
 rw [show IntKind.i64.wrap (((sc i).name : Nat) : Int) = (((sc i).name : Nat) : Int) from IntWalk.i64_in _ (by omega)] at HF
 refine bf HF (by kernel_rfl) 91 #[aC dW tm tm, ay (sc i).name] (by kernel_rfl) (fun w => by kernel_rfl) (Calls.mono (EL (some ⟨dW, 0, none⟩) Y tm tm (((sc i).name : Nat) : Int) hY (Nat.le_refl _) zi w (o_ htb)) ?_)
 rintro _ w1 ⟨rfl, hq⟩
 obtain rfl : w1 = w := hq.symm
 rw [show CY Y (((sc i).name : Nat) : Int) = some (nb i) from (if_neg (by omega)).trans hstr]
 refine ⟨_, rfl, ?_⟩; clear HF; intro a HF; replace HF := HF.sub ((wK b o n c s fb big ak aj au ah aY sd dW tm aV i pb) ++ [(1257, aA pb), (1258, aC dW tm tm), (1263, ay (sc i).name), (1264, .tuple #[.string ⟨(nb i).toArray⟩, .bool true])]) (by kernel_rfl)
 refine aP HF HM rfl 8 [[0]] ((mG b o n c s fb big ak aj au ah aY sd dW tm aV) ++ [(1251, ay i), (54, ay i), (55, aA pb), (56, .bool true)]) [BX pb nb i sc sb] (by kernel_rfl) ?_
 clear HF HM; intro a w HF HM
 refine aB ?_
 refine wp_seq (wp_region_lit ?_)
 refine aP HF HM rfl 2 [] ((mG b o n c s fb big ak aj au ah aY sd dW tm aV) ++ [(1251, ay i), (54, ay i), (55, aA pb), (56, .bool true), (1271, .bool false)]) [BX pb nb i sc sb] (by kernel_rfl) ?_
 clear HF HM; intro a w HF HM
 refine aB ?_
 refine aZ HF rfl ?_
 refine wp_skip ?_
 repeat (first | refine aK ?_ | refine aS ?_)
 replace HF := HF.sub ((mG b o n c s fb big ak aj au ah aY sd dW tm aV) ++ [(1251, ay i)]) (by kernel_rfl)
 refine wp_region_lit ?_
 refine aP HF HM rfl 1 [] ((mG b o n c s fb big ak aj au ah aY sd dW tm aV) ++ [(1251, ay i), (1285, aF (IntKind.i64.wrap (((i : Nat) : Int) + 1)))]) [BX pb nb i sc sb] (by kernel_rfl) ?_
 clear HF HM; intro a w HF HM
 rw [show IntKind.i64.wrap (((i : Nat) : Int) + 1) = (((i + 1) : Nat) : Int) from (IntWalk.i64_in _ (by omega)).trans (by omega)] at HF
 refine aP HF HM rfl 1 [] ((mG b o n c s fb big ak aj au ah aY sd dW tm aV) ++ [(1251, ay (i + 1))]) [BX pb nb i sc sb] (by kernel_rfl) ?_
 clear HF HM; intro a w HF HM
 refine wpList_nil ?_
 repeat (first | refine aK ?_ | refine aS ?_)
 replace HF := HF.sub ((mG b o n c s fb big ak aj au ah aY sd dW tm aV) ++ [(1251, ay (i + 1))]) (by kernel_rfl)
 exact K a w HM.keep (HM.get (i := 0) rfl) HF

end Go.Proofs.YtdgehpocmfjbiaaDoor
namespace Go.Proofs.YtdgehpocmfjbiaaDoor
open Go.RowKit


theorem T_ (l : List UInt8) (b o n c : Nat) (hl : n = l.length) (hnc : n ≤ c) (big : Bool) (abi aH aW aJ aG ak aj au ah : Nat) (dat : Int) (b7 : ah < 200) (X : List UInt8) (sc : Nat → jG) (bd : ∀ i, i < ah → vN (sc i)) (nb : Nat → List UInt8) (Y : List UInt8) (tm : Nat) (hY : tm = Y.length) (zi : tm ≤ maxLen) (hstr : ∀ i, i < ah → nR Y (sc i).name = some (nb i)) (G : List Nat) (w0 : World) (s fb pg aV aY sd dW : Nat) (cur nms : Array Value) (hN : lK sc ah nms) (hD : oV ah cur) {KK : Act → World → Prop} {QQ : Exit → Act → World → Prop} {KR : Act → World → Prop} (K : ∀ a w, jo b o n c w0.heap.size w sc (fun j => if j < ah then ⟨(nb j).toArray⟩ else ⟨#[]⟩) ah cur → Fr 1287 a [(0, .iface 178 (.slice (some ⟨b, o, none⟩) n c)), (4, aA s), (8, aA fb), (9, (aU big)), (10, ay ak), (11, .int .i64 32), (12, ay aj), (13, ay au), (14, .int .i64 40), (15, ay ah), (16, ay (ah - 1)), (26, .int .i64 40), (41, aC aY ah ah), (42, aC sd (ah * 40) (ah * 40)), (53, aC dW tm tm)] → Mm G w0 w [(dW, .cells (Y.map Bv).toArray 5 (0, 0)), (sd, .cells (X.map Bv).toArray 5 (0, 0)), (aY, .cells nms 36 (0, 0)), (aV, .cells cur 133 (0, 0)), (fb, .cells #[.int .u8 1, .int .u8 dat, .int .u8 1, aT abi, aT aH, (aU big), bn aW, bn aJ, aI aG, aC aV ah ah, aC pg aj aj, .slice none 0 0, .slice none 0 0, .slice none 0 0] 131 (0, 0)), (s, .cells #[.iface 178 (.slice (some ⟨b, o, none⟩) n c), .int .i64 0, .int .i64 0, .int .i64 9223372036854775807, .int .i64 9223372036854775807] 246 (0, 0))] → KK a w) (a : Act) (w : World) (hP : jo b o n c w0.heap.size w sc (fun j => if j < ah then ⟨(nb j).toArray⟩ else ⟨#[]⟩) ah cur) (HF : Fr 1287 a [(0, .iface 178 (.slice (some ⟨b, o, none⟩) n c)), (4, aA s), (8, aA fb), (9, (aU big)), (10, ay ak), (11, .int .i64 32), (12, ay aj), (13, ay au), (14, .int .i64 40), (15, ay ah), (16, ay (ah - 1)), (26, .int .i64 40), (41, aC aY ah ah), (42, aC sd (ah * 40) (ah * 40)), (53, aC dW tm tm), (1249, aC aV ah ah), (1250, ay ah), (1251, ay ah)]) (HM : Mm G w0 w [(dW, .cells (Y.map Bv).toArray 5 (0, 0)), (sd, .cells (X.map Bv).toArray 5 (0, 0)), (aY, .cells nms 36 (0, 0)), (aV, .cells cur 133 (0, 0)), (fb, .cells #[.int .u8 1, .int .u8 dat, .int .u8 1, aT abi, aT aH, (aU big), bn aW, bn aJ, aI aG, aC aV ah ah, aC pg aj aj, .slice none 0 0, .slice none 0 0, .slice none 0 0] 131 (0, 0)), (s, .cells #[.iface 178 (.slice (some ⟨b, o, none⟩) n c), .int .i64 0, .int .i64 0, .int .i64 9223372036854775807, .int .i64 9223372036854775807] 246 (0, 0))]) :
  (oP (spine Tryd.f78 51)).wp Tryd.prog (Exit.then KR (Exit.inBlock 12 (Exit.then KK QQ))) a w := by
 refine wp_seq (wp_region_lit ?_)
 refine wp_pure HF HM rfl 1 [] [(0, .iface 178 (.slice (some ⟨b, o, none⟩) n c)), (4, aA s), (8, aA fb), (9, (aU big)), (10, ay ak), (11, .int .i64 32), (12, ay aj), (13, ay au), (14, .int .i64 40), (15, ay ah), (16, ay (ah - 1)), (26, .int .i64 40), (41, aC aY ah ah), (42, aC sd (ah * 40) (ah * 40)), (53, aC dW tm tm), (1249, aC aV ah ah), (1250, ay ah), (1251, ay ah), (1252, .bool (decide (((ah : Nat) : Int) < ((ah : Nat) : Int))))] (by kernel_rfl) ?_
 clear HF; intro a HF
 rw [show decide (((ah : Nat) : Int) < ((ah : Nat) : Int)) = false from dI (by omega)] at HF
 refine aB ?_
 refine wp_seq ?_
 refine aZ HF rfl ?_
 replace HF := HF.sub [(0, .iface 178 (.slice (some ⟨b, o, none⟩) n c)), (4, aA s), (8, aA fb), (9, (aU big)), (10, ay ak), (11, .int .i64 32), (12, ay aj), (13, ay au), (14, .int .i64 40), (15, ay ah), (16, ay (ah - 1)), (26, .int .i64 40), (41, aC aY ah ah), (42, aC sd (ah * 40) (ah * 40)), (53, aC dW tm tm), (1249, aC aV ah ah), (1250, ay ah), (1251, ay ah)] (by kernel_rfl)
 refine wp_exit ?_
 repeat (first | refine fG ?_ | refine iD ?_ | refine aK ?_)
 replace HF := HF.sub [(0, .iface 178 (.slice (some ⟨b, o, none⟩) n c)), (4, aA s), (8, aA fb), (9, (aU big)), (10, ay ak), (11, .int .i64 32), (12, ay aj), (13, ay au), (14, .int .i64 40), (15, ay ah), (16, ay (ah - 1)), (26, .int .i64 40), (41, aC aY ah ah), (42, aC sd (ah * 40) (ah * 40)), (53, aC dW tm tm)] (by kernel_rfl)
 exact K a _ hP HF HM
theorem OE (l : List UInt8) (b o n c : Nat) (hl : n = l.length) (hnc : n ≤ c) (big : Bool) (abi aH aW aJ aG ak aj au ah : Nat) (dat : Int) (b7 : ah < 200) (X : List UInt8) (sc : Nat → jG) (bd : ∀ i, i < ah → vN (sc i)) (nb : Nat → List UInt8) (Y : List UInt8) (tm : Nat) (hY : tm = Y.length) (zi : tm ≤ maxLen) (hstr : ∀ i, i < ah → nR Y (sc i).name = some (nb i)) (G : List Nat) (w0 : World) (s fb pg aV aY sd dW : Nat) (cur nms : Array Value) (hN : lK sc ah nms) (hD : oV ah cur) {KK : Act → World → Prop} {QQ : Exit → Act → World → Prop} (K : ∀ a w, jo b o n c w0.heap.size w sc (fun j => if j < ah then ⟨(nb j).toArray⟩ else ⟨#[]⟩) ah cur → Fr 1287 a [(0, .iface 178 (.slice (some ⟨b, o, none⟩) n c)), (4, aA s), (8, aA fb), (9, (aU big)), (10, ay ak), (11, .int .i64 32), (12, ay aj), (13, ay au), (14, .int .i64 40), (15, ay ah), (16, ay (ah - 1)), (26, .int .i64 40), (41, aC aY ah ah), (42, aC sd (ah * 40) (ah * 40)), (53, aC dW tm tm)] → Mm G w0 w [(dW, .cells (Y.map Bv).toArray 5 (0, 0)), (sd, .cells (X.map Bv).toArray 5 (0, 0)), (aY, .cells nms 36 (0, 0)), (aV, .cells cur 133 (0, 0)), (fb, .cells #[.int .u8 1, .int .u8 dat, .int .u8 1, aT abi, aT aH, (aU big), bn aW, bn aJ, aI aG, aC aV ah ah, aC pg aj aj, .slice none 0 0, .slice none 0 0, .slice none 0 0] 131 (0, 0)), (s, .cells #[.iface 178 (.slice (some ⟨b, o, none⟩) n c), .int .i64 0, .int .i64 0, .int .i64 9223372036854775807, .int .i64 9223372036854775807] 246 (0, 0))] → KK a w) :
  ∀ (r i : Nat), i + r = ah → ∀ (a : Act) (w : World), jo b o n c w0.heap.size w sc (fun j => if j < i then ⟨(nb j).toArray⟩ else ⟨#[]⟩) ah cur → Fr 1287 a [(0, .iface 178 (.slice (some ⟨b, o, none⟩) n c)), (4, aA s), (8, aA fb), (9, (aU big)), (10, ay ak), (11, .int .i64 32), (12, ay aj), (13, ay au), (14, .int .i64 40), (15, ay ah), (16, ay (ah - 1)), (26, .int .i64 40), (41, aC aY ah ah), (42, aC sd (ah * 40) (ah * 40)), (53, aC dW tm tm), (1249, aC aV ah ah), (1250, ay ah), (1251, ay i)] → Mm G w0 w [(dW, .cells (Y.map Bv).toArray 5 (0, 0)), (sd, .cells (X.map Bv).toArray 5 (0, 0)), (aY, .cells nms 36 (0, 0)), (aV, .cells cur 133 (0, 0)), (fb, .cells #[.int .u8 1, .int .u8 dat, .int .u8 1, aT abi, aT aH, (aU big), bn aW, bn aJ, aI aG, aC aV ah ah, aC pg aj aj, .slice none 0 0, .slice none 0 0, .slice none 0 0] 131 (0, 0)), (s, .cells #[.iface 178 (.slice (some ⟨b, o, none⟩) n c), .int .i64 0, .int .i64 0, .int .i64 9223372036854775807, .int .i64 9223372036854775807] 246 (0, 0))] →
  Code.rounds Tryd.prog (oP (spine Tryd.f78 51)) (Exit.inBlock 12 (Exit.then KK QQ)) (r + 1) a w
 | 0, i, hr, a, w, hP, HF, HM => by
  obtain rfl : i = ah := by omega
  rw [rounds_succ]
  exact T_ l b o n c hl hnc big abi aH aW aJ aG ak aj au i dat b7 X sc bd nb Y tm hY zi hstr G w0 s fb pg aV aY sd dW cur nms hN hD K a w hP HF HM
 | r + 1, i, hr, a, w, hP, HF, HM => by
  have hi : i < ah := by omega
  rw [rounds_succ]
  obtain ⟨pb, sb, g1, g2, g3, g4, g5⟩ := hP i hi
  simp only [Nat.lt_irrefl, ↓reduceIte] at g4
  refine UG l b o n c hl hnc big ak aj au ah b7 sc nb Y tm hY zi i hi (bd i hi).v1 (hstr i hi) s fb pg aV aY sd dW pb sb cur nms a w g1 hN (HM.get (i := 3) rfl) (HM.get (i := 2) rfl) (HM.get (i := 0) rfl) g4 HF ?_
  intro a' w' hk hn F8
  have bJ : Mm G w0 w' [(dW, .cells (Y.map Bv).toArray 5 (0, 0)), (sd, .cells (X.map Bv).toArray 5 (0, 0)), (aY, .cells nms 36 (0, 0)), (aV, .cells cur 133 (0, 0)), (fb, .cells #[.int .u8 1, .int .u8 dat, .int .u8 1, aT abi, aT aH, (aU big), bn aW, bn aJ, aI aG, aC aV ah ah, aC pg aj aj, .slice none 0 0, .slice none 0 0, .slice none 0 0] 131 (0, 0)), (s, .cells #[.iface 178 (.slice (some ⟨b, o, none⟩) n c), .int .i64 0, .int .i64 0, .int .i64 9223372036854775807, .int .i64 9223372036854775807] 246 (0, 0))] := HM.after hk (by
   intro g hg
   simp only [List.mem_cons, List.not_mem_nil, or_false] at hg
   subst hg
   exact .inl g2) rfl (by
   intro p hp
   simp only [List.mem_cons, List.not_mem_nil, or_false] at hp
   rcases hp with rfl | rfl | rfl | rfl | rfl | rfl
   ·exact (hk.block dW (HM.lt (i := 0) rfl) (by simpa using dK (HM.get (i := 0) rfl) g4 (by decide))).trans (HM.get (i := 0) rfl)
   ·exact (hk.block sd (HM.lt (i := 1) rfl) (by simpa using dK (HM.get (i := 1) rfl) g4 (by decide))).trans (HM.get (i := 1) rfl)
   ·exact (hk.block aY (HM.lt (i := 2) rfl) (by simpa using dK (HM.get (i := 2) rfl) g4 (by decide))).trans (HM.get (i := 2) rfl)
   ·exact (hk.block aV (HM.lt (i := 3) rfl) (by simpa using dK (HM.get (i := 3) rfl) g4 (by decide))).trans (HM.get (i := 3) rfl)
   ·exact (hk.block fb (HM.lt (i := 4) rfl) (by simpa using dK (HM.get (i := 4) rfl) g4 (by decide))).trans (HM.get (i := 4) rfl)
   ·exact (hk.block s (HM.lt (i := 5) rfl) (by simpa using dK (HM.get (i := 5) rfl) g4 (by decide))).trans (HM.get (i := 5) rfl))
  exact OE l b o n c hl hnc big abi aH aW aJ aG ak aj au ah dat b7 X sc bd nb Y tm hY zi hstr G w0 s fb pg aV aY sd dW cur nms hN hD K r (i + 1) (by omega) a' w' (hP.named hD hi g1 g4 hk hn) F8 bJ

theorem QU (l : List UInt8) (b o n c : Nat) (hl : n = l.length) (hnc : n ≤ c) (big : Bool) (abi aH aW aJ aG ak aj au ah : Nat) (dat : Int) (b7 : ah < 200) (X : List UInt8) (sc : Nat → jG) (bd : ∀ i, i < ah → vN (sc i)) (nb : Nat → List UInt8) (Y : List UInt8) (tm : Nat) (hY : tm = Y.length) (zi : tm ≤ maxLen) (hstr : ∀ i, i < ah → nR Y (sc i).name = some (nb i)) (G : List Nat) (w0 : World) (s fb pg aV aY sd dW : Nat) (cur nms : Array Value) (hN : lK sc ah nms) (hD : oV ah cur) {Q : Exit → Act → World → Prop} (a : Act) (w : World) (hP : jo b o n c w0.heap.size w sc (fun _ => ⟨#[]⟩) ah cur) (HF : Fr 1287 a [(0, .iface 178 (.slice (some ⟨b, o, none⟩) n c)), (4, aA s), (8, aA fb), (9, (aU big)), (10, ay ak), (11, .int .i64 32), (12, ay aj), (13, ay au), (14, .int .i64 40), (15, ay ah), (16, ay (ah - 1)), (26, .int .i64 40), (41, aC aY ah ah), (42, aC sd (ah * 40) (ah * 40)), (53, aC dW tm tm)]) (HM : Mm G w0 w [(dW, .cells (Y.map Bv).toArray 5 (0, 0)), (sd, .cells (X.map Bv).toArray 5 (0, 0)), (aY, .cells nms 36 (0, 0)), (aV, .cells cur 133 (0, 0)), (fb, .cells #[.int .u8 1, .int .u8 dat, .int .u8 1, aT abi, aT aH, (aU big), bn aW, bn aJ, aI aG, aC aV ah ah, aC pg aj aj, .slice none 0 0, .slice none 0 0, .slice none 0 0] 131 (0, 0)), (s, .cells #[.iface 178 (.slice (some ⟨b, o, none⟩) n c), .int .i64 0, .int .i64 0, .int .i64 9223372036854775807, .int .i64 9223372036854775807] 246 (0, 0))])
  (K : ∀ a w, jo b o n c w0.heap.size w sc (fun j => if j < ah then ⟨(nb j).toArray⟩ else ⟨#[]⟩) ah cur → Fr 1287 a [(0, .iface 178 (.slice (some ⟨b, o, none⟩) n c)), (4, aA s), (8, aA fb), (9, (aU big)), (10, ay ak), (11, .int .i64 32), (12, ay aj), (13, ay au), (14, .int .i64 40), (15, ay ah), (16, ay (ah - 1)), (26, .int .i64 40), (41, aC aY ah ah), (42, aC sd (ah * 40) (ah * 40)), (53, aC dW tm tm)] → Mm G w0 w [(dW, .cells (Y.map Bv).toArray 5 (0, 0)), (sd, .cells (X.map Bv).toArray 5 (0, 0)), (aY, .cells nms 36 (0, 0)), (aV, .cells cur 133 (0, 0)), (fb, .cells #[.int .u8 1, .int .u8 dat, .int .u8 1, aT abi, aT aH, (aU big), bn aW, bn aJ, aI aG, aC aV ah ah, aC pg aj aj, .slice none 0 0, .slice none 0 0, .slice none 0 0] 131 (0, 0)), (s, .cells #[.iface 178 (.slice (some ⟨b, o, none⟩) n c), .int .i64 0, .int .i64 0, .int .i64 9223372036854775807, .int .i64 9223372036854775807] 246 (0, 0))] → (spine Tryd.f78 52).wp Tryd.prog Q a w) : (spine Tryd.f78 51).wp Tryd.prog Q a w := by
 refine wp_seq (wp_seq (wp_region_lit ?_))
 refine wp_pure HF HM rfl 6 [[1], []] [(0, .iface 178 (.slice (some ⟨b, o, none⟩) n c)), (4, aA s), (8, aA fb), (9, (aU big)), (10, ay ak), (11, .int .i64 32), (12, ay aj), (13, ay au), (14, .int .i64 40), (15, ay ah), (16, ay (ah - 1)), (26, .int .i64 40), (41, aC aY ah ah), (42, aC sd (ah * 40) (ah * 40)), (53, aC dW tm tm), (1249, aC aV ah ah), (1250, ay ah), (1251, ay 0)] (by kernel_rfl) ?_
 clear HF; intro a HF
 refine aB ?_
 refine wp_block (wp_loop_rounds (ah + 1) ?_)
 exact OE l b o n c hl hnc big abi aH aW aJ aG ak aj au ah dat b7 X sc bd nb Y tm hY zi hstr G w0 s fb pg aV aY sd dW cur nms hN hD K ah 0 (by omega) a w (by simpa only [Nat.not_lt_zero, ↓reduceIte] using hP) HF HM

theorem TY (l : List UInt8) (b o n c : Nat) (hl : n = l.length) (hnc : n ≤ c) (big : Bool) (abi aH aW aJ aG ak aj au ah : Nat) (dat : Int) (b7 : ah < 200) (X : List UInt8) (sc : Nat → jG) (bd : ∀ i, i < ah → vN (sc i)) (nb : Nat → List UInt8) (Y : List UInt8) (tm : Nat) (hY : tm = Y.length) (zi : tm ≤ maxLen) (hstr : ∀ i, i < ah → nR Y (sc i).name = some (nb i)) (G : List Nat) (w0 : World) (s fb pg aV aY sd dW : Nat) (cur nms : Array Value) (hN : lK sc ah nms) (hD : oV ah cur) {KK : Act → World → Prop} {QQ : Exit → Act → World → Prop} {KR : Act → World → Prop} (K : ∀ a w, jo b o n c w0.heap.size w sc (fun j => if j < ah then ⟨(nb j).toArray⟩ else ⟨#[]⟩) ah cur → Fr 1287 a [(0, .iface 178 (.slice (some ⟨b, o, none⟩) n c)), (4, aA s), (8, aA fb), (9, (aU big)), (10, ay ak), (11, .int .i64 56), (12, ay aj), (13, ay au), (14, .int .i64 64), (15, ay ah), (16, ay (ah - 1)), (26, .int .i64 64), (41, aC aY ah ah), (42, aC sd (ah * 64) (ah * 64)), (53, aC dW tm tm)] → Mm G w0 w [(dW, .cells (Y.map Bv).toArray 5 (0, 0)), (sd, .cells (X.map Bv).toArray 5 (0, 0)), (aY, .cells nms 36 (0, 0)), (aV, .cells cur 133 (0, 0)), (fb, .cells #[.int .u8 2, .int .u8 dat, .int .u8 1, aT abi, aT aH, (aU big), bn aW, bn aJ, aI aG, aC aV ah ah, aC pg aj aj, .slice none 0 0, .slice none 0 0, .slice none 0 0] 131 (0, 0)), (s, .cells #[.iface 178 (.slice (some ⟨b, o, none⟩) n c), .int .i64 0, .int .i64 0, .int .i64 9223372036854775807, .int .i64 9223372036854775807] 246 (0, 0))] → KK a w) (a : Act) (w : World) (hP : jo b o n c w0.heap.size w sc (fun j => if j < ah then ⟨(nb j).toArray⟩ else ⟨#[]⟩) ah cur) (HF : Fr 1287 a [(0, .iface 178 (.slice (some ⟨b, o, none⟩) n c)), (4, aA s), (8, aA fb), (9, (aU big)), (10, ay ak), (11, .int .i64 56), (12, ay aj), (13, ay au), (14, .int .i64 64), (15, ay ah), (16, ay (ah - 1)), (26, .int .i64 64), (41, aC aY ah ah), (42, aC sd (ah * 64) (ah * 64)), (53, aC dW tm tm), (1249, aC aV ah ah), (1250, ay ah), (1251, ay ah)]) (HM : Mm G w0 w [(dW, .cells (Y.map Bv).toArray 5 (0, 0)), (sd, .cells (X.map Bv).toArray 5 (0, 0)), (aY, .cells nms 36 (0, 0)), (aV, .cells cur 133 (0, 0)), (fb, .cells #[.int .u8 2, .int .u8 dat, .int .u8 1, aT abi, aT aH, (aU big), bn aW, bn aJ, aI aG, aC aV ah ah, aC pg aj aj, .slice none 0 0, .slice none 0 0, .slice none 0 0] 131 (0, 0)), (s, .cells #[.iface 178 (.slice (some ⟨b, o, none⟩) n c), .int .i64 0, .int .i64 0, .int .i64 9223372036854775807, .int .i64 9223372036854775807] 246 (0, 0))]) :
  (oP (spine Tryd.f78 51)).wp Tryd.prog (Exit.then KR (Exit.inBlock 12 (Exit.then KK QQ))) a w := by
 refine wp_seq (wp_region_lit ?_)
 refine wp_pure HF HM rfl 1 [] [(0, .iface 178 (.slice (some ⟨b, o, none⟩) n c)), (4, aA s), (8, aA fb), (9, (aU big)), (10, ay ak), (11, .int .i64 56), (12, ay aj), (13, ay au), (14, .int .i64 64), (15, ay ah), (16, ay (ah - 1)), (26, .int .i64 64), (41, aC aY ah ah), (42, aC sd (ah * 64) (ah * 64)), (53, aC dW tm tm), (1249, aC aV ah ah), (1250, ay ah), (1251, ay ah), (1252, .bool (decide (((ah : Nat) : Int) < ((ah : Nat) : Int))))] (by kernel_rfl) ?_
 clear HF; intro a HF
 rw [show decide (((ah : Nat) : Int) < ((ah : Nat) : Int)) = false from dI (by omega)] at HF
 refine aB ?_
 refine wp_seq ?_
 refine aZ HF rfl ?_
 replace HF := HF.sub [(0, .iface 178 (.slice (some ⟨b, o, none⟩) n c)), (4, aA s), (8, aA fb), (9, (aU big)), (10, ay ak), (11, .int .i64 56), (12, ay aj), (13, ay au), (14, .int .i64 64), (15, ay ah), (16, ay (ah - 1)), (26, .int .i64 64), (41, aC aY ah ah), (42, aC sd (ah * 64) (ah * 64)), (53, aC dW tm tm), (1249, aC aV ah ah), (1250, ay ah), (1251, ay ah)] (by kernel_rfl)
 refine wp_exit ?_
 repeat (first | refine fG ?_ | refine iD ?_ | refine aK ?_)
 replace HF := HF.sub [(0, .iface 178 (.slice (some ⟨b, o, none⟩) n c)), (4, aA s), (8, aA fb), (9, (aU big)), (10, ay ak), (11, .int .i64 56), (12, ay aj), (13, ay au), (14, .int .i64 64), (15, ay ah), (16, ay (ah - 1)), (26, .int .i64 64), (41, aC aY ah ah), (42, aC sd (ah * 64) (ah * 64)), (53, aC dW tm tm)] (by kernel_rfl)
 exact K a _ hP HF HM
theorem OD (l : List UInt8) (b o n c : Nat) (hl : n = l.length) (hnc : n ≤ c) (big : Bool) (abi aH aW aJ aG ak aj au ah : Nat) (dat : Int) (b7 : ah < 200) (X : List UInt8) (sc : Nat → jG) (bd : ∀ i, i < ah → vN (sc i)) (nb : Nat → List UInt8) (Y : List UInt8) (tm : Nat) (hY : tm = Y.length) (zi : tm ≤ maxLen) (hstr : ∀ i, i < ah → nR Y (sc i).name = some (nb i)) (G : List Nat) (w0 : World) (s fb pg aV aY sd dW : Nat) (cur nms : Array Value) (hN : lK sc ah nms) (hD : oV ah cur) {KK : Act → World → Prop} {QQ : Exit → Act → World → Prop} (K : ∀ a w, jo b o n c w0.heap.size w sc (fun j => if j < ah then ⟨(nb j).toArray⟩ else ⟨#[]⟩) ah cur → Fr 1287 a [(0, .iface 178 (.slice (some ⟨b, o, none⟩) n c)), (4, aA s), (8, aA fb), (9, (aU big)), (10, ay ak), (11, .int .i64 56), (12, ay aj), (13, ay au), (14, .int .i64 64), (15, ay ah), (16, ay (ah - 1)), (26, .int .i64 64), (41, aC aY ah ah), (42, aC sd (ah * 64) (ah * 64)), (53, aC dW tm tm)] → Mm G w0 w [(dW, .cells (Y.map Bv).toArray 5 (0, 0)), (sd, .cells (X.map Bv).toArray 5 (0, 0)), (aY, .cells nms 36 (0, 0)), (aV, .cells cur 133 (0, 0)), (fb, .cells #[.int .u8 2, .int .u8 dat, .int .u8 1, aT abi, aT aH, (aU big), bn aW, bn aJ, aI aG, aC aV ah ah, aC pg aj aj, .slice none 0 0, .slice none 0 0, .slice none 0 0] 131 (0, 0)), (s, .cells #[.iface 178 (.slice (some ⟨b, o, none⟩) n c), .int .i64 0, .int .i64 0, .int .i64 9223372036854775807, .int .i64 9223372036854775807] 246 (0, 0))] → KK a w) :
  ∀ (r i : Nat), i + r = ah → ∀ (a : Act) (w : World), jo b o n c w0.heap.size w sc (fun j => if j < i then ⟨(nb j).toArray⟩ else ⟨#[]⟩) ah cur → Fr 1287 a [(0, .iface 178 (.slice (some ⟨b, o, none⟩) n c)), (4, aA s), (8, aA fb), (9, (aU big)), (10, ay ak), (11, .int .i64 56), (12, ay aj), (13, ay au), (14, .int .i64 64), (15, ay ah), (16, ay (ah - 1)), (26, .int .i64 64), (41, aC aY ah ah), (42, aC sd (ah * 64) (ah * 64)), (53, aC dW tm tm), (1249, aC aV ah ah), (1250, ay ah), (1251, ay i)] → Mm G w0 w [(dW, .cells (Y.map Bv).toArray 5 (0, 0)), (sd, .cells (X.map Bv).toArray 5 (0, 0)), (aY, .cells nms 36 (0, 0)), (aV, .cells cur 133 (0, 0)), (fb, .cells #[.int .u8 2, .int .u8 dat, .int .u8 1, aT abi, aT aH, (aU big), bn aW, bn aJ, aI aG, aC aV ah ah, aC pg aj aj, .slice none 0 0, .slice none 0 0, .slice none 0 0] 131 (0, 0)), (s, .cells #[.iface 178 (.slice (some ⟨b, o, none⟩) n c), .int .i64 0, .int .i64 0, .int .i64 9223372036854775807, .int .i64 9223372036854775807] 246 (0, 0))] →
  Code.rounds Tryd.prog (oP (spine Tryd.f78 51)) (Exit.inBlock 12 (Exit.then KK QQ)) (r + 1) a w
 | 0, i, hr, a, w, hP, HF, HM => by
  obtain rfl : i = ah := by omega
  rw [rounds_succ]
  exact TY l b o n c hl hnc big abi aH aW aJ aG ak aj au i dat b7 X sc bd nb Y tm hY zi hstr G w0 s fb pg aV aY sd dW cur nms hN hD K a w hP HF HM
 | r + 1, i, hr, a, w, hP, HF, HM => by
  have hi : i < ah := by omega
  rw [rounds_succ]
  obtain ⟨pb, sb, g1, g2, g3, g4, g5⟩ := hP i hi
  simp only [Nat.lt_irrefl, ↓reduceIte] at g4
  refine UF l b o n c hl hnc big ak aj au ah b7 sc nb Y tm hY zi i hi (bd i hi).v1 (hstr i hi) s fb pg aV aY sd dW pb sb cur nms a w g1 hN (HM.get (i := 3) rfl) (HM.get (i := 2) rfl) (HM.get (i := 0) rfl) g4 HF ?_
  intro a' w' hk hn F8
  have bJ : Mm G w0 w' [(dW, .cells (Y.map Bv).toArray 5 (0, 0)), (sd, .cells (X.map Bv).toArray 5 (0, 0)), (aY, .cells nms 36 (0, 0)), (aV, .cells cur 133 (0, 0)), (fb, .cells #[.int .u8 2, .int .u8 dat, .int .u8 1, aT abi, aT aH, (aU big), bn aW, bn aJ, aI aG, aC aV ah ah, aC pg aj aj, .slice none 0 0, .slice none 0 0, .slice none 0 0] 131 (0, 0)), (s, .cells #[.iface 178 (.slice (some ⟨b, o, none⟩) n c), .int .i64 0, .int .i64 0, .int .i64 9223372036854775807, .int .i64 9223372036854775807] 246 (0, 0))] := HM.after hk (by
   intro g hg
   simp only [List.mem_cons, List.not_mem_nil, or_false] at hg
   subst hg
   exact .inl g2) rfl (by
   intro p hp
   simp only [List.mem_cons, List.not_mem_nil, or_false] at hp
   rcases hp with rfl | rfl | rfl | rfl | rfl | rfl
   ·exact (hk.block dW (HM.lt (i := 0) rfl) (by simpa using dK (HM.get (i := 0) rfl) g4 (by decide))).trans (HM.get (i := 0) rfl)
   ·exact (hk.block sd (HM.lt (i := 1) rfl) (by simpa using dK (HM.get (i := 1) rfl) g4 (by decide))).trans (HM.get (i := 1) rfl)
   ·exact (hk.block aY (HM.lt (i := 2) rfl) (by simpa using dK (HM.get (i := 2) rfl) g4 (by decide))).trans (HM.get (i := 2) rfl)
   ·exact (hk.block aV (HM.lt (i := 3) rfl) (by simpa using dK (HM.get (i := 3) rfl) g4 (by decide))).trans (HM.get (i := 3) rfl)
   ·exact (hk.block fb (HM.lt (i := 4) rfl) (by simpa using dK (HM.get (i := 4) rfl) g4 (by decide))).trans (HM.get (i := 4) rfl)
   ·exact (hk.block s (HM.lt (i := 5) rfl) (by simpa using dK (HM.get (i := 5) rfl) g4 (by decide))).trans (HM.get (i := 5) rfl))
  exact OD l b o n c hl hnc big abi aH aW aJ aG ak aj au ah dat b7 X sc bd nb Y tm hY zi hstr G w0 s fb pg aV aY sd dW cur nms hN hD K r (i + 1) (by omega) a' w' (hP.named hD hi g1 g4 hk hn) F8 bJ

theorem QT (l : List UInt8) (b o n c : Nat) (hl : n = l.length) (hnc : n ≤ c) (big : Bool) (abi aH aW aJ aG ak aj au ah : Nat) (dat : Int) (b7 : ah < 200) (X : List UInt8) (sc : Nat → jG) (bd : ∀ i, i < ah → vN (sc i)) (nb : Nat → List UInt8) (Y : List UInt8) (tm : Nat) (hY : tm = Y.length) (zi : tm ≤ maxLen) (hstr : ∀ i, i < ah → nR Y (sc i).name = some (nb i)) (G : List Nat) (w0 : World) (s fb pg aV aY sd dW : Nat) (cur nms : Array Value) (hN : lK sc ah nms) (hD : oV ah cur) {Q : Exit → Act → World → Prop} (a : Act) (w : World) (hP : jo b o n c w0.heap.size w sc (fun _ => ⟨#[]⟩) ah cur) (HF : Fr 1287 a [(0, .iface 178 (.slice (some ⟨b, o, none⟩) n c)), (4, aA s), (8, aA fb), (9, (aU big)), (10, ay ak), (11, .int .i64 56), (12, ay aj), (13, ay au), (14, .int .i64 64), (15, ay ah), (16, ay (ah - 1)), (26, .int .i64 64), (41, aC aY ah ah), (42, aC sd (ah * 64) (ah * 64)), (53, aC dW tm tm)]) (HM : Mm G w0 w [(dW, .cells (Y.map Bv).toArray 5 (0, 0)), (sd, .cells (X.map Bv).toArray 5 (0, 0)), (aY, .cells nms 36 (0, 0)), (aV, .cells cur 133 (0, 0)), (fb, .cells #[.int .u8 2, .int .u8 dat, .int .u8 1, aT abi, aT aH, (aU big), bn aW, bn aJ, aI aG, aC aV ah ah, aC pg aj aj, .slice none 0 0, .slice none 0 0, .slice none 0 0] 131 (0, 0)), (s, .cells #[.iface 178 (.slice (some ⟨b, o, none⟩) n c), .int .i64 0, .int .i64 0, .int .i64 9223372036854775807, .int .i64 9223372036854775807] 246 (0, 0))])
  (K : ∀ a w, jo b o n c w0.heap.size w sc (fun j => if j < ah then ⟨(nb j).toArray⟩ else ⟨#[]⟩) ah cur → Fr 1287 a [(0, .iface 178 (.slice (some ⟨b, o, none⟩) n c)), (4, aA s), (8, aA fb), (9, (aU big)), (10, ay ak), (11, .int .i64 56), (12, ay aj), (13, ay au), (14, .int .i64 64), (15, ay ah), (16, ay (ah - 1)), (26, .int .i64 64), (41, aC aY ah ah), (42, aC sd (ah * 64) (ah * 64)), (53, aC dW tm tm)] → Mm G w0 w [(dW, .cells (Y.map Bv).toArray 5 (0, 0)), (sd, .cells (X.map Bv).toArray 5 (0, 0)), (aY, .cells nms 36 (0, 0)), (aV, .cells cur 133 (0, 0)), (fb, .cells #[.int .u8 2, .int .u8 dat, .int .u8 1, aT abi, aT aH, (aU big), bn aW, bn aJ, aI aG, aC aV ah ah, aC pg aj aj, .slice none 0 0, .slice none 0 0, .slice none 0 0] 131 (0, 0)), (s, .cells #[.iface 178 (.slice (some ⟨b, o, none⟩) n c), .int .i64 0, .int .i64 0, .int .i64 9223372036854775807, .int .i64 9223372036854775807] 246 (0, 0))] → (spine Tryd.f78 52).wp Tryd.prog Q a w) : (spine Tryd.f78 51).wp Tryd.prog Q a w := by
 refine wp_seq (wp_seq (wp_region_lit ?_))
 refine wp_pure HF HM rfl 6 [[1], []] [(0, .iface 178 (.slice (some ⟨b, o, none⟩) n c)), (4, aA s), (8, aA fb), (9, (aU big)), (10, ay ak), (11, .int .i64 56), (12, ay aj), (13, ay au), (14, .int .i64 64), (15, ay ah), (16, ay (ah - 1)), (26, .int .i64 64), (41, aC aY ah ah), (42, aC sd (ah * 64) (ah * 64)), (53, aC dW tm tm), (1249, aC aV ah ah), (1250, ay ah), (1251, ay 0)] (by kernel_rfl) ?_
 clear HF; intro a HF
 refine aB ?_
 refine wp_block (wp_loop_rounds (ah + 1) ?_)
 exact OD l b o n c hl hnc big abi aH aW aJ aG ak aj au ah dat b7 X sc bd nb Y tm hY zi hstr G w0 s fb pg aV aY sd dW cur nms hN hD K ah 0 (by omega) a w (by simpa only [Nat.not_lt_zero, ↓reduceIte] using hP) HF HM

theorem PG {Q : Exit → Act → World → Prop} (fb : Nat) (a : Act) (w : World) (HF : Fr 1287 a [(8, aA fb)]) (K : ∀ {a}, Fr 1287 a [(2, aA fb), (3, .nilIface)] → Q .ret a w) : (spine Tryd.f78 52).wp Tryd.prog Q a w := by
 have HM : Mm [] w w [] := Mm.start w
 refine wp_seq (wp_region_lit ?_)
 refine wp_pure HF HM rfl 3 [] [(2, aA fb), (3, .nilIface)] (by kernel_rfl) ?_
 clear HF; intro a HF
 refine aB ?_
 exact wp_ret (K HF)

end Go.Proofs.YtdgehpocmfjbiaaDoor
namespace Go.Proofs.YtdgehpocmfjbiaaDoor
open Go.RowKit

/-- a file that has been read, in memory -/
structure rJ (b o n c : Nat) (z : Nat) (w : World) (wide big : Bool) (abi aH aW aJ aG aj ah : Nat) (sg : Nat → nP) (sc : Nat → jG) (nb : Nat → List UInt8) (fb pg aV : Nat) (cur dU : Array Value) : Prop where
 zf : z ≤ fb
 zp : z ≤ pg
 zs : z ≤ aV
 file : w.heap[fb]? = some (.cells #[.int .u8 (if wide then 2 else 1 : Int), .int .u8 (if big then 2 else 1 : Int), .int .u8 1, aT abi, aT aH, (aU big), bn aW, bn aJ, aI aG, aC aV ah ah, aC pg aj aj, .slice none 0 0, .slice none 0 0, .slice none 0 0] 131 (0, 0))
 Tc : w.heap[pg]? = some (.cells cur 136 (0, 0))
 size : cur.size = aj
 prog : nG b o n c z w sg aj cur
 secs : w.heap[aV]? = some (.cells dU 133 (0, 0))
 ssize : dU.size = ah
 sec : jo b o n c z w sc (fun j => ⟨(nb j).toArray⟩) ah dU
 ne : oV ah dU
/-- what NewFile asks of the bytes -/
structure wE (l : List UInt8) (n : Nat) (wide big : Bool) (abi aH aW aJ aG ak aj au ah : Nat) (sg : Nat → nP) (sc : Nat → jG) (nb : Nat → List UInt8) : Prop where
 head : I8 l wide big abi aH aW aJ aG ak aj au ah
 a1 : abi < 256
 a2 : aH < 256
 b1 : aW < 65536
 b2 : aJ < 65536
 b3 : aG ≤ 18446744073709551615
 b4 : ak < 4611686018427387904
 b5 : au < 4611686018427387904
 b6 : aj < 200
 b7 : ah < 200
 c1 : 0 < au
 c3 : 1 < ah
 p1 : ak < n
 p2 : ak + aj * (if wide then 56 else 32) ≤ n
 s1 : au < n
 s2 : au + ah * (if wide then 64 else 40) ≤ n
 nn : n ≤ 4611686018427387904
 seg : ∀ i, i < aj → yh (((l.drop ak).take (aj * (if wide then 56 else 32))).drop (i * (if wide then 56 else 32))) wide big (sg i).ty (sg i).flags (sg i).bY (sg i).b_ (sg i).dw (sg i).align (sg i).bP (sg i).off
 v1 : ∀ i, i < aj → (sg i).ty < 4294967296
 v2 : ∀ i, i < aj → (sg i).off + (sg i).bP < 4611686018427387904
 v3 : ∀ i, i < aj → (sg i).bY ≤ 18446744073709551615
 v4 : ∀ i, i < aj → (sg i).b_ ≤ 18446744073709551615
 v5 : ∀ i, i < aj → (sg i).dw ≤ 18446744073709551615
 v6 : ∀ i, i < aj → (sg i).align ≤ 18446744073709551615
 sec : ∀ i, i < ah → yj (((l.drop au).take (ah * (if wide then 64 else 40))).drop (i * (if wide then 64 else 40))) wide big (sc i).name (sc i).ty (sc i).flags (sc i).addr (sc i).off (sc i).bP (sc i).link (sc i).info (sc i).align (sc i).ent
 bd : ∀ i, i < ah → vN (sc i)
 str : (sc (ah - 1)).ty = 3
 f1 : 0 < (sc (ah - 1)).bP
 f2 : (sc (ah - 1)).bP < 10485760
 f3 : (sc (ah - 1)).off + (sc (ah - 1)).bP ≤ n
 name : ∀ i, i < ah → nR ((l.drop (sc (ah - 1)).off).take (sc (ah - 1)).bP) (sc i).name = some (nb i)
theorem Ew {l : List UInt8} {wide big : Bool} {abi aH : Nat} (h : ∃ r, l = Ba wide big abi aH ++ r) (h1 : abi < 256) (h2 : aH < 256) : (((l.drop 0).take 16).map Bv).toArray = #[.int .u8 127, .int .u8 69, .int .u8 76, .int .u8 70, .int .u8 (if wide then 2 else 1 : Int), .int .u8 (if big then 2 else 1 : Int), .int .u8 1, .int .u8 (abi : Nat), .int .u8 (aH : Nat), .int .u8 0, .int .u8 0, .int .u8 0, .int .u8 0, .int .u8 0, .int .u8 0, .int .u8 0] := by
 obtain ⟨r, rfl⟩ := h
 have e1 : (UInt8.ofNat abi).toNat = abi := by simp; omega
 have e2 : (UInt8.ofNat aH).toNat = aH := by simp; omega
 cases wide <;> cases big <;> simp [Ba, Bv, e1, e2, List.take]

theorem PL (l : List UInt8) (b o n c : Nat) (hl : n = l.length) (hnc : n ≤ c) (abi aH aW aJ aG ak aj au ah : Nat) (sg : Nat → nP) (sc : Nat → jG) (nb : Nat → List UInt8) (H : wE l n false false abi aH aW aJ aG ak aj au ah sg sc nb) (w0 : World) (hbl : b < w0.heap.size) (hr : Row w0 (some ⟨b, o, none⟩) (l.map Bv)) :
  Calls Tryd.prog 78 #[.iface 178 (.slice (some ⟨b, o, none⟩) n c)] w0 fun e w' => ∃ fb pg aV cur dU, e = .returned (.tuple #[aA fb, .nilIface]) ∧ Below w0.heap.size w0 w' ∧ rJ b o n c w0.heap.size w' false false abi aH aW aJ aG aj ah sg sc nb fb pg aV cur dU := by
 have hlen : 52 ≤ n := hl ▸ H.head.len
 have hp2 : ak + aj * 32 ≤ n := H.p2
 have hs2 : au + ah * 40 ≤ n := H.s2
 refine bI (c := spine Tryd.f78 0) Tryd.func78 rfl Tryd.ntmps78 [(0, .iface 178 (.slice (some ⟨b, o, none⟩) n c))] (by kernel_rfl) (Nat.le_of_ble_eq_true rfl) ?_
 intro a HF
 refine Uc l b o n c hl hnc (by omega) abi aH (Ew H.head.id H.a1 H.a2) w0 hbl hr a w0 HF (Mm.start w0) ?_
 clear HF
 intro a w s fb HF HM
 refine Q5 l b o n c hl hnc hlen false abi aH aW aJ aG ak aj au ah 1 H.head H.b1 H.b2 H.b3 H.b4 H.b5 H.b6 H.b7 w0 hbl hr a w s fb HF HM ?_
 clear HF HM
 intro a w HF HM
 have hD : ∀ (a : Act) (w : World) (pg : Nat) (cur : Array Value) (pd : Nat), cur.size = aj → Fr 1287 a [(0, .iface 178 (.slice (some ⟨b, o, none⟩) n c)), (4, aA s), (8, aA fb), (9, (aU false)), (10, ay ak), (11, aF 32), (12, ay aj), (13, ay au), (14, aF 40), (15, ay ah), (16, ay (ah - 1)), (26, aF 40), (36, aC pd (aj * 32) (aj * 32))] → Mm [] w0 w [(pd, .cells (((l.drop ak).take (aj * 32)).map Bv).toArray 5 (0, 0)), (pg, .cells cur 136 (0, 0)), (fb, .cells #[aO 1, aO 1, aO 1, aT abi, aT aH, (aU false), bn aW, bn aJ, aI aG, aQ, aC pg 0 aj, aQ, aQ, aQ] 131 (0, 0)), (s, .cells #[.iface 178 (.slice (some ⟨b, o, none⟩) n c), aF 0, aF 0, aF 9223372036854775807, aF 9223372036854775807] 246 (0, 0))] → (spine Tryd.f78 35).wp Tryd.prog (bodyPost Tryd.prog Tryd.f78 fun e w' => ∃ fb pg aV cur dU, e = .returned (.tuple #[aA fb, .nilIface]) ∧ Below w0.heap.size w0 w' ∧ rJ b o n c w0.heap.size w' false false abi aH aW aJ aG aj ah sg sc nb fb pg aV cur dU) a w := by
  clear HF HM a w
  intro a w pg cur pd hcs HF HM
  refine QL l b o n c hl hnc false abi aH aW aJ aG ak aj au ah 1 H.b1 H.b2 H.b3 H.b4 H.b5 H.b6 H.b7 _ (by simp; omega) sg H.seg H.v1 H.v2 H.v3 H.v4 H.v5 H.v6 w0 s fb pg pd a w cur hcs HF HM ?_
  clear HF HM hcs cur a w
  intro a w cur hcs hP HF HM
  have hbs : b ≠ s := fun e => absurd hbl (Nat.not_lt_of_le (e ▸ HM.ge (i := 3) rfl))
  have hbf : b ≠ fb := fun e => absurd hbl (Nat.not_lt_of_le (e ▸ HM.ge (i := 2) rfl))
  have F7 : Mm [s, fb] w w [(fb, .cells #[aO 1, aO 1, aO 1, aT abi, aT aH, (aU false), bn aW, bn aJ, aI aG, aQ, aC pg aj aj, aQ, aQ, aQ] 131 (0, 0)), (s, .cells #[.iface 178 (.slice (some ⟨b, o, none⟩) n c), aF 0, aF 0, aF 9223372036854775807, aF 9223372036854775807] 246 (0, 0))] :=
   ⟨Keep.refl _ _, fun p hp => by
    simp only [List.mem_cons, List.not_mem_nil, or_false] at hp
    rcases hp with rfl | rfl
    ·exact ⟨HM.get (i := 2) rfl, .inr (by simp)⟩
    ·exact ⟨HM.get (i := 3) rfl, .inr (by simp)⟩, by
    have := HM.ne (i := 2) (j := 3) rfl rfl (by decide)
    simp [this]⟩
  have hr2 := HM.row hr
  have Bj : b < w.heap.size := Nat.lt_of_lt_of_le hbl HM.size
  have xR : b ∉ [s, fb] := by simp [hbs, hbf]
  refine QY l b o n c hl hnc false abi aH aW aJ aG ak aj au ah 1 H.b1 H.b2 H.b3 H.b4 H.b5 H.b6 H.b7 H.c1 (by have := H.c3; omega) H.s1 hs2 w Bj hr2 [s, fb] xR a w s fb pg hbs (HF.sub _ (by kernel_rfl)) F7 ?_
  clear HF F7 a
  intro a w2 aV lG aY mD sd hs1 hs3 HF bJ
  refine QH l b o n c hl hnc false abi aH aW aJ aG ak aj au ah 1 H.b1 H.b2 H.b3 H.b4 H.b5 H.b6 H.b7 _ (by simp; omega) sc H.sec H.bd [s, fb] w s fb pg aV aY sd a w2 lG mD hs1 hs3 HF bJ ?_
  clear HF bJ hs1 hs3 a w2 lG mD
  intro a w2 dU nms hs1 hs3 hS hN hD HF bJ
  refine QW l b o n c hl hnc false abi aH aW aJ aG ak aj au ah 1 H.b1 H.b2 H.b3 H.b4 H.b5 H.b6 H.b7 _ sc H.c3 H.str (H.bd _ (by have := H.c3; omega)).v9 H.f1 H.f2 H.f3 H.nn [s, fb] w Bj hr2 xR s fb pg aV aY sd a w2 dU nms hS HF bJ ?_
  clear HF bJ hS a w2
  intro a w2 dW hS HF bJ
  have hf2 := H.f2
  have hf3 := H.f3
  refine QU l b o n c hl hnc false abi aH aW aJ aG ak aj au ah 1 H.b7 _ sc H.bd nb ((l.drop (sc (ah - 1)).off).take (sc (ah - 1)).bP) (sc (ah - 1)).bP (by simp; omega) (by unfold maxLen; omega) H.name [s, fb] w s fb pg aV aY sd dW dU nms hN hD a w2 hS HF bJ ?_
  clear HF bJ hS a w2
  intro a w2 hS HF bJ
  refine PG fb a w2 (HF.sub _ (by kernel_rfl)) ?_
  intro a HF
  have hk := bJ.keep
  have hk2 : Keep [fb] w w2 := hk.less ((bJ.get (i := 5) rfl).trans (HM.get (i := 3) rfl).symm)
  have hkw : Keep [] w0 w2 := HM.keep.step hk2 (by intro g hg; simp only [List.mem_cons, List.not_mem_nil, or_false] at hg; subst hg; exact HM.own (i := 2) rfl)
  have hz := HM.size
  refine jK HF rfl rfl rfl ⟨fb, pg, aV, cur, dU, rfl, hkw.below, ⟨HM.ge (i := 2) rfl, HM.ge (i := 1) rfl, ?_, bJ.get (i := 4) rfl, ?_, hcs, hP.keep hk2 ?_, bJ.get (i := 3) rfl, hs1, ?_, hD⟩⟩
  ·refine Nat.le_trans hz ((bJ.own (i := 3) rfl).elim id fun hm => ?_)
   simp only [List.mem_cons, List.not_mem_nil, or_false] at hm
   rcases hm with e | e
   ·exact absurd e (bJ.ne (i := 3) (j := 5) rfl rfl (by decide))
   ·exact absurd e (bJ.ne (i := 3) (j := 4) rfl rfl (by decide))
  ·exact (hk2.block pg (HM.lt (i := 1) rfl) (by simpa using HM.ne (i := 1) (j := 2) rfl rfl (by decide))).trans (HM.get (i := 1) rfl)
  ·intro g hg
   simp only [List.mem_cons, List.not_mem_nil, or_false] at hg
   subst hg
   exact ⟨_, _, _, HM.get (i := 2) rfl, by decide, by decide⟩
  ·intro j hj
   obtain ⟨pb, sb, g1, g2, g3, g4, g5⟩ := hS j hj
   simp only [hj, ↓reduceIte] at g4
   exact ⟨pb, sb, g1, by omega, by omega, g4, g5⟩
 rcases Nat.eq_zero_or_pos aj with h0 | h0
 ·subst h0
  refine OQ l b o n c hl hnc false abi aH aW aJ aG ak 0 au ah 1 H.b1 H.b2 H.b3 H.b4 H.b5 H.b6 H.b7 H.c1 (by have := H.c3; omega) w0 a w s fb HF HM ?_
  clear HF HM a w
  intro a w HF HM
  exact OJ l b o n c hl hnc false abi aH aW aJ aG ak 0 au ah 1 H.b1 H.b2 H.b3 H.b4 H.b5 H.b6 H.b7 H.c1 (by have := H.c3; omega) H.p1 hp2 w0 hbl hr a w s fb HF HM hD
 ·refine OO l b o n c hl hnc false abi aH aW aJ aG ak aj au ah 1 H.b1 H.b2 H.b3 H.b4 H.b5 H.b6 H.b7 H.c1 (by have := H.c3; omega) h0 w0 a w s fb HF HM ?_
  clear HF HM a w
  intro a w HF HM
  exact OI l b o n c hl hnc false abi aH aW aJ aG ak aj au ah 1 H.b1 H.b2 H.b3 H.b4 H.b5 H.b6 H.b7 H.c1 (by have := H.c3; omega) h0 H.p1 hp2 w0 hbl hr a w s fb HF HM hD

theorem PN (l : List UInt8) (b o n c : Nat) (hl : n = l.length) (hnc : n ≤ c) (abi aH aW aJ aG ak aj au ah : Nat) (sg : Nat → nP) (sc : Nat → jG) (nb : Nat → List UInt8) (H : wE l n false true abi aH aW aJ aG ak aj au ah sg sc nb) (w0 : World) (hbl : b < w0.heap.size) (hr : Row w0 (some ⟨b, o, none⟩) (l.map Bv)) :
  Calls Tryd.prog 78 #[.iface 178 (.slice (some ⟨b, o, none⟩) n c)] w0 fun e w' => ∃ fb pg aV cur dU, e = .returned (.tuple #[aA fb, .nilIface]) ∧ Below w0.heap.size w0 w' ∧ rJ b o n c w0.heap.size w' false true abi aH aW aJ aG aj ah sg sc nb fb pg aV cur dU := by
 have hlen : 52 ≤ n := hl ▸ H.head.len
 have hp2 : ak + aj * 32 ≤ n := H.p2
 have hs2 : au + ah * 40 ≤ n := H.s2
 refine bI (c := spine Tryd.f78 0) Tryd.func78 rfl Tryd.ntmps78 [(0, .iface 178 (.slice (some ⟨b, o, none⟩) n c))] (by kernel_rfl) (Nat.le_of_ble_eq_true rfl) ?_
 intro a HF
 refine Ud l b o n c hl hnc (by omega) abi aH (Ew H.head.id H.a1 H.a2) w0 hbl hr a w0 HF (Mm.start w0) ?_
 clear HF
 intro a w s fb HF HM
 refine Q5 l b o n c hl hnc hlen true abi aH aW aJ aG ak aj au ah 2 H.head H.b1 H.b2 H.b3 H.b4 H.b5 H.b6 H.b7 w0 hbl hr a w s fb HF HM ?_
 clear HF HM
 intro a w HF HM
 have hD : ∀ (a : Act) (w : World) (pg : Nat) (cur : Array Value) (pd : Nat), cur.size = aj → Fr 1287 a [(0, .iface 178 (.slice (some ⟨b, o, none⟩) n c)), (4, aA s), (8, aA fb), (9, (aU true)), (10, ay ak), (11, aF 32), (12, ay aj), (13, ay au), (14, aF 40), (15, ay ah), (16, ay (ah - 1)), (26, aF 40), (36, aC pd (aj * 32) (aj * 32))] → Mm [] w0 w [(pd, .cells (((l.drop ak).take (aj * 32)).map Bv).toArray 5 (0, 0)), (pg, .cells cur 136 (0, 0)), (fb, .cells #[aO 1, aO 2, aO 1, aT abi, aT aH, (aU true), bn aW, bn aJ, aI aG, aQ, aC pg 0 aj, aQ, aQ, aQ] 131 (0, 0)), (s, .cells #[.iface 178 (.slice (some ⟨b, o, none⟩) n c), aF 0, aF 0, aF 9223372036854775807, aF 9223372036854775807] 246 (0, 0))] → (spine Tryd.f78 35).wp Tryd.prog (bodyPost Tryd.prog Tryd.f78 fun e w' => ∃ fb pg aV cur dU, e = .returned (.tuple #[aA fb, .nilIface]) ∧ Below w0.heap.size w0 w' ∧ rJ b o n c w0.heap.size w' false true abi aH aW aJ aG aj ah sg sc nb fb pg aV cur dU) a w := by
  clear HF HM a w
  intro a w pg cur pd hcs HF HM
  refine QL l b o n c hl hnc true abi aH aW aJ aG ak aj au ah 2 H.b1 H.b2 H.b3 H.b4 H.b5 H.b6 H.b7 _ (by simp; omega) sg H.seg H.v1 H.v2 H.v3 H.v4 H.v5 H.v6 w0 s fb pg pd a w cur hcs HF HM ?_
  clear HF HM hcs cur a w
  intro a w cur hcs hP HF HM
  have hbs : b ≠ s := fun e => absurd hbl (Nat.not_lt_of_le (e ▸ HM.ge (i := 3) rfl))
  have hbf : b ≠ fb := fun e => absurd hbl (Nat.not_lt_of_le (e ▸ HM.ge (i := 2) rfl))
  have F7 : Mm [s, fb] w w [(fb, .cells #[aO 1, aO 2, aO 1, aT abi, aT aH, (aU true), bn aW, bn aJ, aI aG, aQ, aC pg aj aj, aQ, aQ, aQ] 131 (0, 0)), (s, .cells #[.iface 178 (.slice (some ⟨b, o, none⟩) n c), aF 0, aF 0, aF 9223372036854775807, aF 9223372036854775807] 246 (0, 0))] :=
   ⟨Keep.refl _ _, fun p hp => by
    simp only [List.mem_cons, List.not_mem_nil, or_false] at hp
    rcases hp with rfl | rfl
    ·exact ⟨HM.get (i := 2) rfl, .inr (by simp)⟩
    ·exact ⟨HM.get (i := 3) rfl, .inr (by simp)⟩, by
    have := HM.ne (i := 2) (j := 3) rfl rfl (by decide)
    simp [this]⟩
  have hr2 := HM.row hr
  have Bj : b < w.heap.size := Nat.lt_of_lt_of_le hbl HM.size
  have xR : b ∉ [s, fb] := by simp [hbs, hbf]
  refine QY l b o n c hl hnc true abi aH aW aJ aG ak aj au ah 2 H.b1 H.b2 H.b3 H.b4 H.b5 H.b6 H.b7 H.c1 (by have := H.c3; omega) H.s1 hs2 w Bj hr2 [s, fb] xR a w s fb pg hbs (HF.sub _ (by kernel_rfl)) F7 ?_
  clear HF F7 a
  intro a w2 aV lG aY mD sd hs1 hs3 HF bJ
  refine QH l b o n c hl hnc true abi aH aW aJ aG ak aj au ah 2 H.b1 H.b2 H.b3 H.b4 H.b5 H.b6 H.b7 _ (by simp; omega) sc H.sec H.bd [s, fb] w s fb pg aV aY sd a w2 lG mD hs1 hs3 HF bJ ?_
  clear HF bJ hs1 hs3 a w2 lG mD
  intro a w2 dU nms hs1 hs3 hS hN hD HF bJ
  refine QW l b o n c hl hnc true abi aH aW aJ aG ak aj au ah 2 H.b1 H.b2 H.b3 H.b4 H.b5 H.b6 H.b7 _ sc H.c3 H.str (H.bd _ (by have := H.c3; omega)).v9 H.f1 H.f2 H.f3 H.nn [s, fb] w Bj hr2 xR s fb pg aV aY sd a w2 dU nms hS HF bJ ?_
  clear HF bJ hS a w2
  intro a w2 dW hS HF bJ
  have hf2 := H.f2
  have hf3 := H.f3
  refine QU l b o n c hl hnc true abi aH aW aJ aG ak aj au ah 2 H.b7 _ sc H.bd nb ((l.drop (sc (ah - 1)).off).take (sc (ah - 1)).bP) (sc (ah - 1)).bP (by simp; omega) (by unfold maxLen; omega) H.name [s, fb] w s fb pg aV aY sd dW dU nms hN hD a w2 hS HF bJ ?_
  clear HF bJ hS a w2
  intro a w2 hS HF bJ
  refine PG fb a w2 (HF.sub _ (by kernel_rfl)) ?_
  intro a HF
  have hk := bJ.keep
  have hk2 : Keep [fb] w w2 := hk.less ((bJ.get (i := 5) rfl).trans (HM.get (i := 3) rfl).symm)
  have hkw : Keep [] w0 w2 := HM.keep.step hk2 (by intro g hg; simp only [List.mem_cons, List.not_mem_nil, or_false] at hg; subst hg; exact HM.own (i := 2) rfl)
  have hz := HM.size
  refine jK HF rfl rfl rfl ⟨fb, pg, aV, cur, dU, rfl, hkw.below, ⟨HM.ge (i := 2) rfl, HM.ge (i := 1) rfl, ?_, bJ.get (i := 4) rfl, ?_, hcs, hP.keep hk2 ?_, bJ.get (i := 3) rfl, hs1, ?_, hD⟩⟩
  ·refine Nat.le_trans hz ((bJ.own (i := 3) rfl).elim id fun hm => ?_)
   simp only [List.mem_cons, List.not_mem_nil, or_false] at hm
   rcases hm with e | e
   ·exact absurd e (bJ.ne (i := 3) (j := 5) rfl rfl (by decide))
   ·exact absurd e (bJ.ne (i := 3) (j := 4) rfl rfl (by decide))
  ·exact (hk2.block pg (HM.lt (i := 1) rfl) (by simpa using HM.ne (i := 1) (j := 2) rfl rfl (by decide))).trans (HM.get (i := 1) rfl)
  ·intro g hg
   simp only [List.mem_cons, List.not_mem_nil, or_false] at hg
   subst hg
   exact ⟨_, _, _, HM.get (i := 2) rfl, by decide, by decide⟩
  ·intro j hj
   obtain ⟨pb, sb, g1, g2, g3, g4, g5⟩ := hS j hj
   simp only [hj, ↓reduceIte] at g4
   exact ⟨pb, sb, g1, by omega, by omega, g4, g5⟩
 rcases Nat.eq_zero_or_pos aj with h0 | h0
 ·subst h0
  refine OQ l b o n c hl hnc true abi aH aW aJ aG ak 0 au ah 2 H.b1 H.b2 H.b3 H.b4 H.b5 H.b6 H.b7 H.c1 (by have := H.c3; omega) w0 a w s fb HF HM ?_
  clear HF HM a w
  intro a w HF HM
  exact OJ l b o n c hl hnc true abi aH aW aJ aG ak 0 au ah 2 H.b1 H.b2 H.b3 H.b4 H.b5 H.b6 H.b7 H.c1 (by have := H.c3; omega) H.p1 hp2 w0 hbl hr a w s fb HF HM hD
 ·refine OO l b o n c hl hnc true abi aH aW aJ aG ak aj au ah 2 H.b1 H.b2 H.b3 H.b4 H.b5 H.b6 H.b7 H.c1 (by have := H.c3; omega) h0 w0 a w s fb HF HM ?_
  clear HF HM a w
  intro a w HF HM
  exact OI l b o n c hl hnc true abi aH aW aJ aG ak aj au ah 2 H.b1 H.b2 H.b3 H.b4 H.b5 H.b6 H.b7 H.c1 (by have := H.c3; omega) h0 H.p1 hp2 w0 hbl hr a w s fb HF HM hD

theorem PI (l : List UInt8) (b o n c : Nat) (hl : n = l.length) (hnc : n ≤ c) (abi aH aW aJ aG ak aj au ah : Nat) (sg : Nat → nP) (sc : Nat → jG) (nb : Nat → List UInt8) (H : wE l n true false abi aH aW aJ aG ak aj au ah sg sc nb) (w0 : World) (hbl : b < w0.heap.size) (hr : Row w0 (some ⟨b, o, none⟩) (l.map Bv)) :
  Calls Tryd.prog 78 #[.iface 178 (.slice (some ⟨b, o, none⟩) n c)] w0 fun e w' => ∃ fb pg aV cur dU, e = .returned (.tuple #[aA fb, .nilIface]) ∧ Below w0.heap.size w0 w' ∧ rJ b o n c w0.heap.size w' true false abi aH aW aJ aG aj ah sg sc nb fb pg aV cur dU := by
 have hlen : 64 ≤ n := hl ▸ H.head.len
 have hp2 : ak + aj * 56 ≤ n := H.p2
 have hs2 : au + ah * 64 ≤ n := H.s2
 refine bI (c := spine Tryd.f78 0) Tryd.func78 rfl Tryd.ntmps78 [(0, .iface 178 (.slice (some ⟨b, o, none⟩) n c))] (by kernel_rfl) (Nat.le_of_ble_eq_true rfl) ?_
 intro a HF
 refine Ua l b o n c hl hnc (by omega) abi aH (Ew H.head.id H.a1 H.a2) w0 hbl hr a w0 HF (Mm.start w0) ?_
 clear HF
 intro a w s fb HF HM
 refine QZ l b o n c hl hnc hlen false abi aH aW aJ aG ak aj au ah 1 H.head H.b1 H.b2 H.b3 H.b4 H.b5 H.b6 H.b7 w0 hbl hr a w s fb HF HM ?_
 clear HF HM
 intro a w HF HM
 have hD : ∀ (a : Act) (w : World) (pg : Nat) (cur : Array Value) (pd : Nat), cur.size = aj → Fr 1287 a [(0, .iface 178 (.slice (some ⟨b, o, none⟩) n c)), (4, aA s), (8, aA fb), (9, (aU false)), (10, ay ak), (11, aF 56), (12, ay aj), (13, ay au), (14, aF 64), (15, ay ah), (16, ay (ah - 1)), (26, aF 64), (36, aC pd (aj * 56) (aj * 56))] → Mm [] w0 w [(pd, .cells (((l.drop ak).take (aj * 56)).map Bv).toArray 5 (0, 0)), (pg, .cells cur 136 (0, 0)), (fb, .cells #[aO 2, aO 1, aO 1, aT abi, aT aH, (aU false), bn aW, bn aJ, aI aG, aQ, aC pg 0 aj, aQ, aQ, aQ] 131 (0, 0)), (s, .cells #[.iface 178 (.slice (some ⟨b, o, none⟩) n c), aF 0, aF 0, aF 9223372036854775807, aF 9223372036854775807] 246 (0, 0))] → (spine Tryd.f78 35).wp Tryd.prog (bodyPost Tryd.prog Tryd.f78 fun e w' => ∃ fb pg aV cur dU, e = .returned (.tuple #[aA fb, .nilIface]) ∧ Below w0.heap.size w0 w' ∧ rJ b o n c w0.heap.size w' true false abi aH aW aJ aG aj ah sg sc nb fb pg aV cur dU) a w := by
  clear HF HM a w
  intro a w pg cur pd hcs HF HM
  refine QK l b o n c hl hnc false abi aH aW aJ aG ak aj au ah 1 H.b1 H.b2 H.b3 H.b4 H.b5 H.b6 H.b7 _ (by simp; omega) sg H.seg H.v1 H.v2 H.v3 H.v4 H.v5 H.v6 w0 s fb pg pd a w cur hcs HF HM ?_
  clear HF HM hcs cur a w
  intro a w cur hcs hP HF HM
  have hbs : b ≠ s := fun e => absurd hbl (Nat.not_lt_of_le (e ▸ HM.ge (i := 3) rfl))
  have hbf : b ≠ fb := fun e => absurd hbl (Nat.not_lt_of_le (e ▸ HM.ge (i := 2) rfl))
  have F7 : Mm [s, fb] w w [(fb, .cells #[aO 2, aO 1, aO 1, aT abi, aT aH, (aU false), bn aW, bn aJ, aI aG, aQ, aC pg aj aj, aQ, aQ, aQ] 131 (0, 0)), (s, .cells #[.iface 178 (.slice (some ⟨b, o, none⟩) n c), aF 0, aF 0, aF 9223372036854775807, aF 9223372036854775807] 246 (0, 0))] :=
   ⟨Keep.refl _ _, fun p hp => by
    simp only [List.mem_cons, List.not_mem_nil, or_false] at hp
    rcases hp with rfl | rfl
    ·exact ⟨HM.get (i := 2) rfl, .inr (by simp)⟩
    ·exact ⟨HM.get (i := 3) rfl, .inr (by simp)⟩, by
    have := HM.ne (i := 2) (j := 3) rfl rfl (by decide)
    simp [this]⟩
  have hr2 := HM.row hr
  have Bj : b < w.heap.size := Nat.lt_of_lt_of_le hbl HM.size
  have xR : b ∉ [s, fb] := by simp [hbs, hbf]
  refine QX l b o n c hl hnc false abi aH aW aJ aG ak aj au ah 1 H.b1 H.b2 H.b3 H.b4 H.b5 H.b6 H.b7 H.c1 (by have := H.c3; omega) H.s1 hs2 w Bj hr2 [s, fb] xR a w s fb pg hbs (HF.sub _ (by kernel_rfl)) F7 ?_
  clear HF F7 a
  intro a w2 aV lG aY mD sd hs1 hs3 HF bJ
  refine QG l b o n c hl hnc false abi aH aW aJ aG ak aj au ah 1 H.b1 H.b2 H.b3 H.b4 H.b5 H.b6 H.b7 _ (by simp; omega) sc H.sec H.bd [s, fb] w s fb pg aV aY sd a w2 lG mD hs1 hs3 HF bJ ?_
  clear HF bJ hs1 hs3 a w2 lG mD
  intro a w2 dU nms hs1 hs3 hS hN hD HF bJ
  refine QV l b o n c hl hnc false abi aH aW aJ aG ak aj au ah 1 H.b1 H.b2 H.b3 H.b4 H.b5 H.b6 H.b7 _ sc H.c3 H.str (H.bd _ (by have := H.c3; omega)).v9 H.f1 H.f2 H.f3 H.nn [s, fb] w Bj hr2 xR s fb pg aV aY sd a w2 dU nms hS HF bJ ?_
  clear HF bJ hS a w2
  intro a w2 dW hS HF bJ
  have hf2 := H.f2
  have hf3 := H.f3
  refine QT l b o n c hl hnc false abi aH aW aJ aG ak aj au ah 1 H.b7 _ sc H.bd nb ((l.drop (sc (ah - 1)).off).take (sc (ah - 1)).bP) (sc (ah - 1)).bP (by simp; omega) (by unfold maxLen; omega) H.name [s, fb] w s fb pg aV aY sd dW dU nms hN hD a w2 hS HF bJ ?_
  clear HF bJ hS a w2
  intro a w2 hS HF bJ
  refine PG fb a w2 (HF.sub _ (by kernel_rfl)) ?_
  intro a HF
  have hk := bJ.keep
  have hk2 : Keep [fb] w w2 := hk.less ((bJ.get (i := 5) rfl).trans (HM.get (i := 3) rfl).symm)
  have hkw : Keep [] w0 w2 := HM.keep.step hk2 (by intro g hg; simp only [List.mem_cons, List.not_mem_nil, or_false] at hg; subst hg; exact HM.own (i := 2) rfl)
  have hz := HM.size
  refine jK HF rfl rfl rfl ⟨fb, pg, aV, cur, dU, rfl, hkw.below, ⟨HM.ge (i := 2) rfl, HM.ge (i := 1) rfl, ?_, bJ.get (i := 4) rfl, ?_, hcs, hP.keep hk2 ?_, bJ.get (i := 3) rfl, hs1, ?_, hD⟩⟩
  ·refine Nat.le_trans hz ((bJ.own (i := 3) rfl).elim id fun hm => ?_)
   simp only [List.mem_cons, List.not_mem_nil, or_false] at hm
   rcases hm with e | e
   ·exact absurd e (bJ.ne (i := 3) (j := 5) rfl rfl (by decide))
   ·exact absurd e (bJ.ne (i := 3) (j := 4) rfl rfl (by decide))
  ·exact (hk2.block pg (HM.lt (i := 1) rfl) (by simpa using HM.ne (i := 1) (j := 2) rfl rfl (by decide))).trans (HM.get (i := 1) rfl)
  ·intro g hg
   simp only [List.mem_cons, List.not_mem_nil, or_false] at hg
   subst hg
   exact ⟨_, _, _, HM.get (i := 2) rfl, by decide, by decide⟩
  ·intro j hj
   obtain ⟨pb, sb, g1, g2, g3, g4, g5⟩ := hS j hj
   simp only [hj, ↓reduceIte] at g4
   exact ⟨pb, sb, g1, by omega, by omega, g4, g5⟩
 rcases Nat.eq_zero_or_pos aj with h0 | h0
 ·subst h0
  refine OM l b o n c hl hnc false abi aH aW aJ aG ak 0 au ah 1 H.b1 H.b2 H.b3 H.b4 H.b5 H.b6 H.b7 H.c1 (by have := H.c3; omega) w0 a w s fb HF HM ?_
  clear HF HM a w
  intro a w HF HM
  exact OH l b o n c hl hnc false abi aH aW aJ aG ak 0 au ah 1 H.b1 H.b2 H.b3 H.b4 H.b5 H.b6 H.b7 H.c1 (by have := H.c3; omega) H.p1 hp2 w0 hbl hr a w s fb HF HM hD
 ·refine OL l b o n c hl hnc false abi aH aW aJ aG ak aj au ah 1 H.b1 H.b2 H.b3 H.b4 H.b5 H.b6 H.b7 H.c1 (by have := H.c3; omega) h0 w0 a w s fb HF HM ?_
  clear HF HM a w
  intro a w HF HM
  exact OG l b o n c hl hnc false abi aH aW aJ aG ak aj au ah 1 H.b1 H.b2 H.b3 H.b4 H.b5 H.b6 H.b7 H.c1 (by have := H.c3; omega) h0 H.p1 hp2 w0 hbl hr a w s fb HF HM hD

theorem PK (l : List UInt8) (b o n c : Nat) (hl : n = l.length) (hnc : n ≤ c) (abi aH aW aJ aG ak aj au ah : Nat) (sg : Nat → nP) (sc : Nat → jG) (nb : Nat → List UInt8) (H : wE l n true true abi aH aW aJ aG ak aj au ah sg sc nb) (w0 : World) (hbl : b < w0.heap.size) (hr : Row w0 (some ⟨b, o, none⟩) (l.map Bv)) :
  Calls Tryd.prog 78 #[.iface 178 (.slice (some ⟨b, o, none⟩) n c)] w0 fun e w' => ∃ fb pg aV cur dU, e = .returned (.tuple #[aA fb, .nilIface]) ∧ Below w0.heap.size w0 w' ∧ rJ b o n c w0.heap.size w' true true abi aH aW aJ aG aj ah sg sc nb fb pg aV cur dU := by
 have hlen : 64 ≤ n := hl ▸ H.head.len
 have hp2 : ak + aj * 56 ≤ n := H.p2
 have hs2 : au + ah * 64 ≤ n := H.s2
 refine bI (c := spine Tryd.f78 0) Tryd.func78 rfl Tryd.ntmps78 [(0, .iface 178 (.slice (some ⟨b, o, none⟩) n c))] (by kernel_rfl) (Nat.le_of_ble_eq_true rfl) ?_
 intro a HF
 refine Ub l b o n c hl hnc (by omega) abi aH (Ew H.head.id H.a1 H.a2) w0 hbl hr a w0 HF (Mm.start w0) ?_
 clear HF
 intro a w s fb HF HM
 refine QZ l b o n c hl hnc hlen true abi aH aW aJ aG ak aj au ah 2 H.head H.b1 H.b2 H.b3 H.b4 H.b5 H.b6 H.b7 w0 hbl hr a w s fb HF HM ?_
 clear HF HM
 intro a w HF HM
 have hD : ∀ (a : Act) (w : World) (pg : Nat) (cur : Array Value) (pd : Nat), cur.size = aj → Fr 1287 a [(0, .iface 178 (.slice (some ⟨b, o, none⟩) n c)), (4, aA s), (8, aA fb), (9, (aU true)), (10, ay ak), (11, aF 56), (12, ay aj), (13, ay au), (14, aF 64), (15, ay ah), (16, ay (ah - 1)), (26, aF 64), (36, aC pd (aj * 56) (aj * 56))] → Mm [] w0 w [(pd, .cells (((l.drop ak).take (aj * 56)).map Bv).toArray 5 (0, 0)), (pg, .cells cur 136 (0, 0)), (fb, .cells #[aO 2, aO 2, aO 1, aT abi, aT aH, (aU true), bn aW, bn aJ, aI aG, aQ, aC pg 0 aj, aQ, aQ, aQ] 131 (0, 0)), (s, .cells #[.iface 178 (.slice (some ⟨b, o, none⟩) n c), aF 0, aF 0, aF 9223372036854775807, aF 9223372036854775807] 246 (0, 0))] → (spine Tryd.f78 35).wp Tryd.prog (bodyPost Tryd.prog Tryd.f78 fun e w' => ∃ fb pg aV cur dU, e = .returned (.tuple #[aA fb, .nilIface]) ∧ Below w0.heap.size w0 w' ∧ rJ b o n c w0.heap.size w' true true abi aH aW aJ aG aj ah sg sc nb fb pg aV cur dU) a w := by
  clear HF HM a w
  intro a w pg cur pd hcs HF HM
  refine QK l b o n c hl hnc true abi aH aW aJ aG ak aj au ah 2 H.b1 H.b2 H.b3 H.b4 H.b5 H.b6 H.b7 _ (by simp; omega) sg H.seg H.v1 H.v2 H.v3 H.v4 H.v5 H.v6 w0 s fb pg pd a w cur hcs HF HM ?_
  clear HF HM hcs cur a w
  intro a w cur hcs hP HF HM
  have hbs : b ≠ s := fun e => absurd hbl (Nat.not_lt_of_le (e ▸ HM.ge (i := 3) rfl))
  have hbf : b ≠ fb := fun e => absurd hbl (Nat.not_lt_of_le (e ▸ HM.ge (i := 2) rfl))
  have F7 : Mm [s, fb] w w [(fb, .cells #[aO 2, aO 2, aO 1, aT abi, aT aH, (aU true), bn aW, bn aJ, aI aG, aQ, aC pg aj aj, aQ, aQ, aQ] 131 (0, 0)), (s, .cells #[.iface 178 (.slice (some ⟨b, o, none⟩) n c), aF 0, aF 0, aF 9223372036854775807, aF 9223372036854775807] 246 (0, 0))] :=
   ⟨Keep.refl _ _, fun p hp => by
    simp only [List.mem_cons, List.not_mem_nil, or_false] at hp
    rcases hp with rfl | rfl
    ·exact ⟨HM.get (i := 2) rfl, .inr (by simp)⟩
    ·exact ⟨HM.get (i := 3) rfl, .inr (by simp)⟩, by
    have := HM.ne (i := 2) (j := 3) rfl rfl (by decide)
    simp [this]⟩
  have hr2 := HM.row hr
  have Bj : b < w.heap.size := Nat.lt_of_lt_of_le hbl HM.size
  have xR : b ∉ [s, fb] := by simp [hbs, hbf]
  refine QX l b o n c hl hnc true abi aH aW aJ aG ak aj au ah 2 H.b1 H.b2 H.b3 H.b4 H.b5 H.b6 H.b7 H.c1 (by have := H.c3; omega) H.s1 hs2 w Bj hr2 [s, fb] xR a w s fb pg hbs (HF.sub _ (by kernel_rfl)) F7 ?_
  clear HF F7 a
  intro a w2 aV lG aY mD sd hs1 hs3 HF bJ
  refine QG l b o n c hl hnc true abi aH aW aJ aG ak aj au ah 2 H.b1 H.b2 H.b3 H.b4 H.b5 H.b6 H.b7 _ (by simp; omega) sc H.sec H.bd [s, fb] w s fb pg aV aY sd a w2 lG mD hs1 hs3 HF bJ ?_
  clear HF bJ hs1 hs3 a w2 lG mD
  intro a w2 dU nms hs1 hs3 hS hN hD HF bJ
  refine QV l b o n c hl hnc true abi aH aW aJ aG ak aj au ah 2 H.b1 H.b2 H.b3 H.b4 H.b5 H.b6 H.b7 _ sc H.c3 H.str (H.bd _ (by have := H.c3; omega)).v9 H.f1 H.f2 H.f3 H.nn [s, fb] w Bj hr2 xR s fb pg aV aY sd a w2 dU nms hS HF bJ ?_
  clear HF bJ hS a w2
  intro a w2 dW hS HF bJ
  have hf2 := H.f2
  have hf3 := H.f3
  refine QT l b o n c hl hnc true abi aH aW aJ aG ak aj au ah 2 H.b7 _ sc H.bd nb ((l.drop (sc (ah - 1)).off).take (sc (ah - 1)).bP) (sc (ah - 1)).bP (by simp; omega) (by unfold maxLen; omega) H.name [s, fb] w s fb pg aV aY sd dW dU nms hN hD a w2 hS HF bJ ?_
  clear HF bJ hS a w2
  intro a w2 hS HF bJ
  refine PG fb a w2 (HF.sub _ (by kernel_rfl)) ?_
  intro a HF
  have hk := bJ.keep
  have hk2 : Keep [fb] w w2 := hk.less ((bJ.get (i := 5) rfl).trans (HM.get (i := 3) rfl).symm)
  have hkw : Keep [] w0 w2 := HM.keep.step hk2 (by intro g hg; simp only [List.mem_cons, List.not_mem_nil, or_false] at hg; subst hg; exact HM.own (i := 2) rfl)
  have hz := HM.size
  refine jK HF rfl rfl rfl ⟨fb, pg, aV, cur, dU, rfl, hkw.below, ⟨HM.ge (i := 2) rfl, HM.ge (i := 1) rfl, ?_, bJ.get (i := 4) rfl, ?_, hcs, hP.keep hk2 ?_, bJ.get (i := 3) rfl, hs1, ?_, hD⟩⟩
  ·refine Nat.le_trans hz ((bJ.own (i := 3) rfl).elim id fun hm => ?_)
   simp only [List.mem_cons, List.not_mem_nil, or_false] at hm
   rcases hm with e | e
   ·exact absurd e (bJ.ne (i := 3) (j := 5) rfl rfl (by decide))
   ·exact absurd e (bJ.ne (i := 3) (j := 4) rfl rfl (by decide))
  ·exact (hk2.block pg (HM.lt (i := 1) rfl) (by simpa using HM.ne (i := 1) (j := 2) rfl rfl (by decide))).trans (HM.get (i := 1) rfl)
  ·intro g hg
   simp only [List.mem_cons, List.not_mem_nil, or_false] at hg
   subst hg
   exact ⟨_, _, _, HM.get (i := 2) rfl, by decide, by decide⟩
  ·intro j hj
   obtain ⟨pb, sb, g1, g2, g3, g4, g5⟩ := hS j hj
   simp only [hj, ↓reduceIte] at g4
   exact ⟨pb, sb, g1, by omega, by omega, g4, g5⟩
 rcases Nat.eq_zero_or_pos aj with h0 | h0
 ·subst h0
  refine OM l b o n c hl hnc true abi aH aW aJ aG ak 0 au ah 2 H.b1 H.b2 H.b3 H.b4 H.b5 H.b6 H.b7 H.c1 (by have := H.c3; omega) w0 a w s fb HF HM ?_
  clear HF HM a w
  intro a w HF HM
  exact OH l b o n c hl hnc true abi aH aW aJ aG ak 0 au ah 2 H.b1 H.b2 H.b3 H.b4 H.b5 H.b6 H.b7 H.c1 (by have := H.c3; omega) H.p1 hp2 w0 hbl hr a w s fb HF HM hD
 ·refine OL l b o n c hl hnc true abi aH aW aJ aG ak aj au ah 2 H.b1 H.b2 H.b3 H.b4 H.b5 H.b6 H.b7 H.c1 (by have := H.c3; omega) h0 w0 a w s fb HF HM ?_
  clear HF HM a w
  intro a w HF HM
  exact OG l b o n c hl hnc true abi aH aW aJ aG ak aj au ah 2 H.b1 H.b2 H.b3 H.b4 H.b5 H.b6 H.b7 H.c1 (by have := H.c3; omega) h0 H.p1 hp2 w0 hbl hr a w s fb HF HM hD

theorem N8 (l : List UInt8) (b o n c : Nat) (hl : n = l.length) (hnc : n ≤ c) (wide big : Bool) (abi aH aW aJ aG ak aj au ah : Nat) (sg : Nat → nP) (sc : Nat → jG) (nb : Nat → List UInt8) (H : wE l n wide big abi aH aW aJ aG ak aj au ah sg sc nb) (w0 : World) (hbl : b < w0.heap.size) (hr : Row w0 (some ⟨b, o, none⟩) (l.map Bv)) :
  Calls Tryd.prog 78 #[.iface 178 (.slice (some ⟨b, o, none⟩) n c)] w0 fun e w' => ∃ fb pg aV cur dU, e = .returned (.tuple #[aA fb, .nilIface]) ∧ Below w0.heap.size w0 w' ∧ rJ b o n c w0.heap.size w' wide big abi aH aW aJ aG aj ah sg sc nb fb pg aV cur dU := by
 cases wide <;> cases big
 ·exact PL l b o n c hl hnc abi aH aW aJ aG ak aj au ah sg sc nb H w0 hbl hr
 ·exact PN l b o n c hl hnc abi aH aW aJ aG ak aj au ah sg sc nb H w0 hbl hr
 ·exact PI l b o n c hl hnc abi aH aW aJ aG ak aj au ah sg sc nb H w0 hbl hr
 ·exact PK l b o n c hl hnc abi aH aW aJ aG ak aj au ah sg sc nb H w0 hbl hr
end Go.Proofs.YtdgehpocmfjbiaaDoor
namespace Go.Proofs.YtdgehpocmfjbiaaDoor
open Go.RowKit

theorem rJ.keep {b o n c z : Nat} {w w' : World} {wide big : Bool} {abi aH aW aJ aG aj ah : Nat} {sg : Nat → nP} {sc : Nat → jG} {nb : Nat → List UInt8} {fb pg aV : Nat} {cur dU : Array Value} (h : rJ b o n c z w wide big abi aH aW aJ aG aj ah sg sc nb fb pg aV cur dU) (hk : Keep [] w w') : rJ b o n c z w' wide big abi aH aW aJ aG aj ah sg sc nb fb pg aV cur dU :=
 ⟨h.zf, h.zp, h.zs, (hk.block _ (kM h.file) (by simp)).trans h.file, (hk.block _ (kM h.Tc) (by simp)).trans h.Tc, h.size, h.prog.keep hk (by intro g hg; cases hg), (hk.block _ (kM h.secs) (by simp)).trans h.secs, h.ssize, h.sec.keep hk (by intro g hg; cases hg), h.ne⟩
theorem JE {w : World} {A : Option Addr} {cs : List Value} (h : Row w A cs) (k : Nat) : Row w A (cs.take k) := fun i v hv => by
 rw [List.getElem?_take] at hv
 split at hv
 ·exact h i v hv
 ·cases hv
theorem Q_ : (Tryd.prog.info? 5).map (fun i => (i.zero, i.size, i.bytes)) = some (some (.int .u8 0), 1, 1) := by kernel_rfl

theorem open_any (l : List UInt8) (A : Option Addr) (n c : Nat) (hl : n = l.length) (hnc : n ≤ c) (wide big : Bool) (abi aH aW aJ aG ak aj au ah : Nat) (sg : Nat → nP) (sc : Nat → jG) (nb : Nat → List UInt8) (H : wE l n wide big abi aH aW aJ aG ak aj au ah sg sc nb) (h47 : n ≤ 140737488355328) (w0 : World) (hr : Row w0 A (l.map Bv)) :
  Calls Tryd.prog 55 #[.slice A n c] w0 fun e w' => ∃ g cap z fb pg aV cur dU, e = .returned (.tuple #[aA fb, .bool true]) ∧ Below w0.heap.size w0 w' ∧ n ≤ cap ∧ cap ≤ maxLen ∧ w0.heap.size ≤ g ∧ w0.heap.size ≤ z ∧ Row w' (some ⟨g, 0, none⟩) (l.map Bv) ∧ rJ g 0 n cap z w' wide big abi aH aW aJ aG aj ah sg sc nb fb pg aV cur dU := by
 have hn16 : 16 ≤ n := by
  have := H.head.len
  rw [← hl] at this
  unfold iw at this
  split at this <;> omega
 obtain ⟨w, hw⟩ : ∃ w, w0 = w := ⟨_, rfl⟩
 have HM : Mm [] w0 w [] := hw ▸ Mm.start w0
 conv => arg 4; rw [hw]
 clear hw
 refine bI Tryd.func55 rfl Tryd.ntmps55 [(0, .slice A n c)] (by kernel_rfl) (Nat.le_of_ble_eq_true rfl) ?_
 intro a HF
 refine bG HF HM rfl [] [(0, .slice A n c), (2, .pointer none), (3, .bool false)] [] (by kernel_rfl) ?_
 clear HF HM; intro a w HF HM
 refine wp_seq (wp_region_lit ?_)
 refine aP HF HM rfl 1 [] [(0, .slice A n c), (2, .pointer none), (3, .bool false), (7, .slice A n c)] [] (by kernel_rfl) ?_
 clear HF HM; intro a w HF HM
 refine vV HF HM rfl _ _ 33 rfl rfl 5 Tryd.underlying33 Q_ rfl (by omega) rfl A n c (l.map Bv) rfl (by simp [hl]) (by omega) (HM.row hr) (rM _) (by unfold maxLen; omega) (by omega) ?_
 intro a2 w1 g cap cb bJ htk hcs uU hcap hbel HF2; have hg0 : w0.heap.size ≤ g := bJ.ge (i := 0) rfl; clear HF HM hbel; have HM := bJ; have HF := HF2; clear bJ HF2
 replace HF := HF.sub [(0, .slice A n c), (2, .pointer none), (3, .bool false), (7, .slice A n c), (8, aC g n cap)] (by kernel_rfl)
 have hrow : Row w1 (some ⟨g, 0, none⟩) (l.map Bv) := by have := JE (HM.rowAt (i := 0) rfl) (n * 1); rwa [htk] at this
 refine aP HF HM rfl 1 [] [(0, .slice A n c), (2, .pointer none), (3, .bool false), (9, .iface 178 (aC g n cap))] [(g, .cells cb 5 (0, 0))] (by kernel_rfl) ?_
 clear HF HM; intro a w HF HM
 have hrow2 : Row w (some ⟨g, 0, none⟩) (l.map Bv) := by have := JE (HM.rowAt (i := 0) rfl) (n * 1); rwa [htk] at this
 refine bf HF (by kernel_rfl) 78 #[.iface 178 (aC g n cap)] (by kernel_rfl) (fun w => by kernel_rfl) (Calls.mono (N8 l g 0 n cap hl uU wide big abi aH aW aJ aG ak aj au ah sg sc nb H w (HM.lt (i := 0) rfl) hrow2) ?_)
 rintro _ w2 ⟨fb, pg, aV, cur, dU, rfl, hb, hF⟩
 have hzz : w0.heap.size ≤ w.heap.size := HM.size
 have hrow3 := hrow2.below hb
 replace HM := HM.call hb
 refine ⟨_, rfl, ?_⟩; clear HF; intro a HF; replace HF := HF.sub [(0, .slice A n c), (2, .pointer none), (3, .bool false), (9, .iface 178 (aC g n cap)), (10, .tuple #[aA fb, .nilIface])] (by kernel_rfl)
 refine wp_pure HF HM rfl 5 [] [(0, .slice A n c), (2, .pointer none), (3, .bool false), (4, aA fb), (5, .nilIface)] (by kernel_rfl) ?_
 clear HF; intro a HF
 refine aB ?_
 refine qZ (by kernel_rfl) (by kernel_rfl) ?_
 refine oJ HF HM rfl 5 [] [(0, .slice A n c), (2, aA fb), (3, .bool true)] (by kernel_rfl) ?_
 clear HF; intro a HF
 refine sH ?_
 rintro _ ⟨nq, rfl⟩
 refine wp_ret ?_
 exact jK HF rfl rfl rfl ⟨g, cap, w.heap.size, fb, pg, aV, cur, dU, rfl, (HM.drewN nq).below, uU, hcap, hg0, hzz, hrow3, hF.keep ((Keep.refl [] _).drewN nq)⟩

end Go.Proofs.YtdgehpocmfjbiaaDoor
namespace Go.Proofs.YtdgehpocmfjbiaaDoor
open Go.RowKit

theorem xX {α : Type} (f : α → List UInt8) (B : Nat) : ∀ l : List α, (∀ a ∈ l, (f a).length ≤ B) → (l.flatMap f).length ≤ l.length * B
 | [], _ => by simp
 | a :: l, h => by
  have h1 := xX f B l fun b hb => h b (by simp [hb])
  have h2 := h a (by simp)
  rw [List.flatMap_cons, List.length_append, List.length_cons, Nat.succ_mul]
  omega
structure Seg.Ok (wide : Bool) (s : Seg) : Prop where
 ty : s.ty < 2147483648
 flags : s.flags < 4294967296
 bY : s.bY < 256 ^ jm wide
 b_ : s.b_ < 256 ^ jm wide
 dw : s.dw < 256 ^ jm wide
 align : s.align < 256 ^ jm wide
 data : s.data.length ≤ 65536
structure Part.Ok (wide : Bool) (p : Part) : Prop where
 name : p.name.length ≤ 1024
 Iq : 0 ∉ p.name
 ty : p.ty < 4294967296
 flags : p.flags < 4294967296
 zip : (qP (p.flags : Int) 2048 == 0) = true
 addr : p.addr < 256 ^ jm wide
 link : p.link < 4294967296
 info : p.info < 4294967296
 align : p.align < 256 ^ jm wide
 ent : p.ent < 256 ^ jm wide
 size : p.size < 256 ^ jm wide
 LJ : p.size < 4611686018427387904
 data : p.data.length ≤ 1100000
structure eH.Ok (x : eH) : Prop where
 abi : x.abi < 256
 aH : x.aH < 256
 ty : x.ty < 65536
 machine : x.machine < 65536
 entry : x.entry < 256 ^ jm x.wide
 dJ : x.dJ.length ≤ 100
 parts : x.parts.length ≤ 102
 seg : ∀ s ∈ x.dJ, Seg.Ok x.wide s
 part : ∀ p ∈ x.parts, Part.Ok x.wide p
def LK (x : eH) (i : Nat) : nP := match x.dJ[i]? with
 | some s => ⟨s.ty, s.flags, x.kT i, s.bY, s.b_, s.data.length, s.dw, s.align⟩
 | none => ⟨0, 0, 0, 0, 0, 0, 0, 0⟩
def jw (x : eH) (i : Nat) : jG := match x.all[i]? with
 | some p => ⟨x.lD i, p.ty, p.flags, p.addr, x.jc i, sV p, p.link, p.info, p.align, p.ent⟩
 | none => ⟨0, 0, 0, 0, 0, 0, 0, 0, 0, 0⟩
def CJ (x : eH) (i : Nat) : List UInt8 := (x.names[i]?).getD []

section
variable {x : eH}
theorem eH.Ok.AQ (h : x.Ok) : x.names.length = x.parts.length + 2 := by simp [eH.names, eH.firsts]
theorem eH.yc (x : eH) : x.all.length = x.parts.length + 2 := by simp [eH.all, eH.firsts]
theorem eH.Ok.sO (h : x.Ok) : (dB x.names).length ≤ 110000 := by
 have hb := xX (fun n : List UInt8 => n ++ [0]) 1025 x.names (by
  intro n hn
  simp only [eH.names, eH.firsts, List.map_cons, List.mem_append, List.mem_cons, List.mem_map, List.not_mem_nil, or_false] at hn
  rcases hn with (rfl | ⟨p, hp, rfl⟩) | rfl
  ·simp [sW]
  ·have := (h.part p hp).name
   simp; omega
  ·simp [zJ])
 rw [h.AQ] at hb
 have := h.parts
 unfold dB
 rw [List.length_cons]
 have : (x.parts.length + 2) * 1025 ≤ 104 * 1025 := Nat.mul_le_mul_right _ (by omega)
 omega
theorem eH.Ok.DK (h : x.Ok) : x.m_.length ≤ 6553600 := by
 have := xX (fun s : Seg => s.data) 65536 x.dJ fun s hs => (h.seg s hs).data
 have h2 : x.dJ.length * 65536 ≤ 100 * 65536 := Nat.mul_le_mul_right _ h.dJ
 unfold eH.m_
 omega
theorem Oh (p : Part) : (mW p).length ≤ p.data.length := by unfold mW; split <;> simp
theorem eH.Ok.DL (h : x.Ok) : x.oH.length ≤ 114400000 := by
 have := xX mW 1100000 x.all (by
  intro p hp
  refine Nat.le_trans (Oh p) ?_
  simp only [eH.all, eH.firsts, List.mem_append, List.mem_cons, List.not_mem_nil, or_false] at hp
  rcases hp with (rfl | hp) | rfl
  ·simp [sW]
  ·have := (h.part p hp).data
   omega
  ·have := h.sO
   show (dB x.names).length ≤ 1100000
   omega)
 have h2 : x.all.length * 1100000 ≤ 104 * 1100000 := Nat.mul_le_mul_right _ (by rw [eH.yc]; have := h.parts; omega)
 unfold eH.oH
 omega
theorem eH.Ok.Nq (h : x.Ok) : x.at0 ≤ 5664 := by
 have := h.dJ
 unfold eH.at0 iw iU
 split <;> omega
theorem eH.Ok.G8 (h : x.Ok) : x.mZ ≤ 121000000 := by
 have h1 := h.Nq
 have h2 := h.DK
 have h3 := h.DL
 unfold eH.mZ
 rw [List.length_append]
 omega
theorem eH.Ok.length_le (h : x.Ok) : x.file.length ≤ 122000000 := by
 rw [eH.CS, eH.yc]
 have h1 := h.G8
 have h2 := h.parts
 have : (x.parts.length + 2) * jk x.wide ≤ 104 * 64 := Nat.mul_le_mul (by omega) (by unfold jk; split <;> omega)
 omega
theorem eH.CG (x : eH) (i : Nat) : x.kT i ≤ x.mZ := by
 have := Dp (·.data) x.dJ i
 unfold eH.kT eH.mZ eH.m_
 rw [List.length_append]
 omega
theorem eH.vO (x : eH) (i : Nat) : x.jc i ≤ x.mZ := by
 have := Dp mW x.all i
 unfold eH.jc eH.mZ eH.oH
 rw [List.length_append]
 split <;> omega
theorem O5 (wide : Bool) : 4294967296 ≤ 256 ^ jm wide := by cases wide <;> decide
theorem Ur (wide : Bool) : 256 ^ jm wide ≤ 18446744073709551616 := by cases wide <;> decide

structure Part.Fit (wide : Bool) (p : Part) : Prop where
 ty : p.ty < 4294967296
 flags : p.flags < 4294967296
 zip : (qP (p.flags : Int) 2048 == 0) = true
 addr : p.addr < 256 ^ jm wide
 link : p.link < 4294967296
 info : p.info < 4294967296
 align : p.align < 256 ^ jm wide
 ent : p.ent < 256 ^ jm wide
 size : sV p < 256 ^ jm wide
 LJ : sV p < 4611686018427387904
theorem Ar : (qP ((0 : Nat) : Int) 2048 == 0) = true := by decide
theorem eH.Ok.fit (h : x.Ok) : ∀ p ∈ x.all, Part.Fit x.wide p := by
 intro p hp
 have hb := O5 x.wide
 simp only [eH.all, eH.firsts, List.mem_append, List.mem_cons, List.not_mem_nil, or_false] at hp
 rcases hp with (rfl | hp) | rfl
 ·exact ⟨by decide, by decide, Ar, by show 0 < _; omega, by decide, by decide, by show 0 < _; omega, by show 0 < _; omega, by show 0 < _; omega, by decide⟩
 ·have o := h.part p hp
  have h1 := o.size
  have h2 := o.LJ
  have h3 := o.data
  refine ⟨o.ty, o.flags, o.zip, o.addr, o.link, o.info, o.align, o.ent, ?_, ?_⟩
  ·unfold sV rU; split <;> omega
  ·unfold sV rU; split <;> omega
 ·have hn := h.sO
  refine ⟨by show 3 < _; omega, by show 0 < _; omega, Ar, by show 0 < _; omega, by show 0 < _; omega, by show 0 < _; omega, by show 1 < _; omega, by show 0 < _; omega, ?_, ?_⟩
  ·show (dB x.names).length < _; omega
  ·show (dB x.names).length < _; omega
theorem G_ (x : eH) (i : Nat) (hi : i < x.all.length) : jw x i = ⟨x.lD i, x.all[i].ty, x.all[i].flags, x.all[i].addr, x.jc i, sV x.all[i], x.all[i].link, x.all[i].info, x.all[i].align, x.all[i].ent⟩ := by
 simp [jw, hi]
theorem vZ (x : eH) (i : Nat) (hi : i < x.dJ.length) : LK x i = ⟨x.dJ[i].ty, x.dJ[i].flags, x.kT i, x.dJ[i].bY, x.dJ[i].b_, x.dJ[i].data.length, x.dJ[i].dw, x.dJ[i].align⟩ := by
 simp [LK, hi]
theorem eH.last (x : eH) : x.all[x.all.length - 1]? = some x.yD := by
 have : x.all.length - 1 = x.firsts.length := by simp [eH.all]
 rw [this]
 simp [eH.all]
theorem Qx (x : eH) : jw x (x.all.length - 1) = ⟨x.lD (x.all.length - 1), 3, 0, 0, x.jc (x.all.length - 1), (dB x.names).length, 0, 0, 1, 0⟩ := by
 unfold jw
 rw [eH.last]
 rfl
theorem eH.Ok.AX (h : x.Ok) (i : Nat) (hi : i < x.all.length) : x.lD i < 4294967296 := by
 unfold eH.lD
 split
 ·omega
 ·have := Cb x.names i (by rw [h.AQ]; rw [eH.yc] at hi; exact hi)
  have := h.sO
  omega
theorem eH.Sj (x : eH) : ∃ r, x.file.drop (x.jc (x.all.length - 1)) = dB x.names ++ r := by
 have hl := eH.yc x
 obtain ⟨r, e⟩ := x.Qv (x.all.length - 1) (by omega) (by omega)
 have hg : x.all[x.all.length - 1]'(by omega) = x.yD := by
  have := x.last
  rw [List.getElem?_eq_getElem (by omega)] at this
  exact Option.some.inj this
 rw [hg] at e
 exact ⟨r, e⟩
theorem eH.Ok.Iq (h : x.Ok) : ∀ n ∈ x.names, 0 ∉ n := by
 intro n hn
 simp only [eH.names, eH.firsts, List.map_cons, List.mem_append, List.mem_cons, List.mem_map, List.not_mem_nil, or_false] at hn
 rcases hn with (rfl | ⟨p, hp, rfl⟩) | rfl
 ·simp [sW]
 ·exact (h.part p hp).Iq
 ·decide
theorem JR (h : x.Ok) : wE x.file x.file.length x.wide x.big x.abi x.aH x.ty x.machine x.entry (iw x.wide) x.dJ.length x.mZ x.all.length (LK x) (jw x) (CJ x) := by
 have hb := O5 x.wide
 have ht := Ur x.wide
 have hH : iw x.wide ≤ 64 := by unfold iw; split <;> omega
 have hH0 : 52 ≤ iw x.wide := by unfold iw; split <;> omega
 have hS0 : 40 ≤ jk x.wide := by unfold jk; split <;> omega
 have hal := eH.yc x
 have hsh := h.G8
 have hsg := h.dJ
 have hpt := h.parts
 have hlen := h.length_le
 have hfl := x.CS
 have h0 : x.at0 ≤ x.mZ := by unfold eH.mZ; omega
 have h00 : x.at0 = iw x.wide + iU x.wide * x.dJ.length := rfl
 have hmul : 1 * 40 ≤ x.all.length * jk x.wide := Nat.mul_le_mul (by omega) hS0
 have hen := h.entry
 have hlast := Qx x
 obtain ⟨rn, en⟩ := x.Sj
 have hnl := congrArg List.length en
 rw [List.length_drop, List.length_append] at hnl
 have hnb := h.sO
 refine ⟨?_, h.abi, h.aH, h.ty, h.machine, by omega, by omega, by omega, by omega, by omega, by omega, by omega, by omega, ?_, by omega, ?_, by omega, ?_, ?_, ?_, ?_, ?_, ?_, ?_, ?_, ?_, ?_, ?_, ?_, ?_, ?_⟩
 ·obtain ⟨r, e⟩ := x.Qo
  rw [e]
  exact Uj x.wide x.big x.abi x.aH x.ty x.machine x.entry x.dJ.length (iw x.wide) x.all.length x.mZ r h.ty h.machine h.entry (by omega) (by omega) (by omega) (by omega)
 ·show iw x.wide + x.dJ.length * iU x.wide ≤ _
  rw [Nat.mul_comm]; omega
 ·show x.mZ + x.all.length * jk x.wide ≤ _
  omega
 ·intro i hi
  have e1 : (x.file.drop (iw x.wide)).take (x.dJ.length * iU x.wide) = fF x.qK 0 x.dJ := by
   rw [x.Rw, List.take_left' (by rw [x.u_, Nat.mul_comm])]
  obtain ⟨r, e2⟩ := zq x.qK (iU x.wide) x.dJ (fun j a _ => um ..) i hi
  have o := h.seg _ (List.getElem_mem hi)
  have hd := o.data
  have hp := x.CG i
  rw [vZ x i hi]
  show yh (((x.file.drop (iw x.wide)).take (x.dJ.length * iU x.wide)).drop (i * iU x.wide)) _ _ _ _ _ _ _ _ _ _
  rw [e1, e2]
  have hty := o.ty
  exact Uu x.wide x.big _ _ _ _ _ _ _ _ r (by omega) o.flags o.bY o.b_ o.dw o.align (by omega) (by omega)
 ·intro i hi; have o := (h.seg _ (List.getElem_mem hi)).ty; rw [vZ x i hi]; show x.dJ[i].ty < _; omega
 ·intro i hi; have o := (h.seg _ (List.getElem_mem hi)).data; have := x.CG i; rw [vZ x i hi]; show x.kT i + x.dJ[i].data.length < _; omega
 ·intro i hi; have o := (h.seg _ (List.getElem_mem hi)).bY; rw [vZ x i hi]; show x.dJ[i].bY ≤ _; omega
 ·intro i hi; have o := (h.seg _ (List.getElem_mem hi)).b_; rw [vZ x i hi]; show x.dJ[i].b_ ≤ _; omega
 ·intro i hi; have o := (h.seg _ (List.getElem_mem hi)).dw; rw [vZ x i hi]; show x.dJ[i].dw ≤ _; omega
 ·intro i hi; have o := (h.seg _ (List.getElem_mem hi)).align; rw [vZ x i hi]; show x.dJ[i].align ≤ _; omega
 ·intro i hi
  have e1 : (x.file.drop x.mZ).take (x.all.length * jk x.wide) = fF x.o9 0 x.all := by
   rw [x.Qc, List.take_of_length_le (by rw [x.C9]; exact Nat.le_refl _)]
  obtain ⟨r, e2⟩ := zq x.o9 (jk x.wide) x.all (fun j a _ => uo ..) i hi
  have o := h.fit _ (List.getElem_mem hi)
  have hp := x.vO i
  rw [G_ x i hi]
  show yj (((x.file.drop x.mZ).take (x.all.length * jk x.wide)).drop (i * jk x.wide)) _ _ _ _ _ _ _ _ _ _ _ _
  rw [e1, e2]
  exact Uw x.wide x.big _ _ _ _ _ _ _ _ _ _ r (h.AX i hi) o.ty o.flags o.addr (by omega) o.size o.link o.info o.align o.ent
 ·intro i hi
  have o := h.fit _ (List.getElem_mem hi)
  have hp := x.vO i
  have a1 := o.addr
  have a2 := o.align
  have a3 := o.ent
  rw [G_ x i hi]
  exact ⟨h.AX i hi, o.ty, o.flags, by show x.jc i < _; omega, o.LJ, by show x.all[i].addr ≤ _; omega, by show x.all[i].align ≤ _; omega, by show x.all[i].ent ≤ _; omega, o.zip⟩
 ·rw [hlast]
 ·rw [hlast]; show 0 < (dB x.names).length; simp [dB]
 ·rw [hlast]; show (dB x.names).length < _; omega
 ·rw [hlast]
  show x.jc (x.all.length - 1) + (dB x.names).length ≤ _
  have := x.vO (x.all.length - 1)
  omega
 ·intro i hi
  rw [hlast, G_ x i hi]
  show nR ((x.file.drop (x.jc (x.all.length - 1))).take (dB x.names).length) (x.lD i) = _
  rw [en, List.take_left]
  have hin : i < x.names.length := by rw [h.AQ, ← hal]; exact hi
  have hnb : CJ x i = x.names[i] := by simp [CJ, hin]
  rw [hnb]
  unfold eH.lD
  split
  ·rename_i hi0
   subst hi0
   rfl
  ·exact Iz x.names i hin (h.Iq _ (List.getElem_mem hin))
end
end Go.Proofs.YtdgehpocmfjbiaaDoor
