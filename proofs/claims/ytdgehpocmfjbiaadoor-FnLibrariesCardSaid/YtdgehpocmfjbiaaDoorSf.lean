/- elf.NewFile: the loop over the sections. · elf.NewFile: the table of the sections' names is read. · elf.NewFile: the sections are named. · elf.NewFile -/
import Derived.Test.YtdgehpocmfjbiaaDoorSe
import Derived.Test.YtdgehpocmfjbiaaDoorSa
set_option linter.unusedVariables false
set_option linter.unusedSimpArgs false
set_option maxRecDepth 100000
set_option maxHeartbeats 2000000
namespace Go.Proofs.YtdgehpocmfjbiaaDoor
open Go.RowKit

/-- the first k sections, in memory, with the names nf -/
def jd (b o n c : Nat) (z : Nat) (w : World) (sc : Nat → jy) (nf : Nat → ByteArray) (k : Nat) (cur : Array Value) : Prop :=
 ∀ j, j < k → ∃ pb sb, cur[j]? = some (aB pb) ∧ z ≤ pb ∧ z ≤ sb ∧ w.heap[pb]? = some (.cells #[.string (nf j), bn (sc j).ty, bn (sc j).flags, aI (sc j).addr, aI (sc j).off, aI (sc j).bP, bn (sc j).link, bn (sc j).info, aI (sc j).align, aI (sc j).ent, aI (sc j).bP, .iface 144 (aB sb), aB sb, .int .i64 0, .int .i64 0] 153 (0, 0)) ∧ w.heap[sb]? = some (.cells #[.iface 178 (.slice (some ⟨b, o, none⟩) n c), ay (sc j).off, ay (sc j).off, .int .i64 ((((sc j).bP : Nat) : Int) + (((sc j).off : Nat) : Int)), ay (sc j).bP] 246 (0, 0))
theorem jd.keep {b o n c z : Nat} {w w' : World} {sc : Nat → jy} {nf : Nat → ByteArray} {k : Nat} {cur : Array Value} {G : List Nat} (h : jd b o n c z w sc nf k cur) (hk : Keep G w w') (hG : ∀ g ∈ G, ∃ cs t f, w.heap[g]? = some (.cells cs t f) ∧ t ≠ 153 ∧ t ≠ 246) : jd b o n c z w' sc nf k cur := fun j hj => by
 obtain ⟨pb, sb, h1, h2, h3, h4, h5⟩ := h j hj
 refine ⟨pb, sb, h1, h2, h3, (hk.block pb (kH h4) fun hm => ?_).trans h4, (hk.block sb (kH h5) fun hm => ?_).trans h5⟩
 ·obtain ⟨cs, t, f, e, n1, n2⟩ := hG pb hm
  exact dD h4 e (Ne.symm n1) rfl
 ·obtain ⟨cs, t, f, e, n1, n2⟩ := hG sb hm
  exact dD h5 e (Ne.symm n2) rfl
theorem Dc {cur cur' : Array Value} {k j : Nat} {v : Value} (hs : k < cur.size) (ht : cur'.toList.take (k + 1) = cur.toList.take k ++ [v]) (hj : j < k + 1) : cur'[j]? = if j < k then cur[j]? else some v := by
 have hget : cur'[j]? = (cur'.toList.take (k + 1))[j]? := by rw [List.getElem?_take, if_pos hj]; simp
 have hlen : (cur.toList.take k).length = k := by simp; omega
 rw [ht] at hget
 split
 ·rename_i hlt
  rw [hget, List.getElem?_append_left (by omega), List.getElem?_take, if_pos hlt]
  simp
 ·rw [hget, List.getElem?_append_right (by omega), hlen, show j - k = 0 by omega]
  rfl
theorem jd.next {b o n c z : Nat} {w : World} {sc : Nat → jy} {nf : Nat → ByteArray} {k : Nat} {cur cur' : Array Value} {pb sb : Nat} (h : jd b o n c z w sc nf k cur) (hs : k < cur.size) (ht : cur'.toList.take (k + 1) = cur.toList.take k ++ [aB pb]) (h2 : z ≤ pb) (h3 : z ≤ sb)
  (h4 : w.heap[pb]? = some (.cells #[.string (nf k), bn (sc k).ty, bn (sc k).flags, aI (sc k).addr, aI (sc k).off, aI (sc k).bP, bn (sc k).link, bn (sc k).info, aI (sc k).align, aI (sc k).ent, aI (sc k).bP, .iface 144 (aB sb), aB sb, .int .i64 0, .int .i64 0] 153 (0, 0))) (h5 : w.heap[sb]? = some (.cells #[.iface 178 (.slice (some ⟨b, o, none⟩) n c), ay (sc k).off, ay (sc k).off, .int .i64 ((((sc k).bP : Nat) : Int) + (((sc k).off : Nat) : Int)), ay (sc k).bP] 246 (0, 0))) : jd b o n c z w sc nf (k + 1) cur' := fun j hj => by
 have hget := Dc hs ht hj
 rcases Nat.lt_or_ge j k with hlt | hge
 ·obtain ⟨pb', sb', g1, g2⟩ := h j hlt
  exact ⟨pb', sb', by rw [hget, if_pos hlt, g1], g2⟩
 ·obtain rfl : j = k := by omega
  exact ⟨pb, sb, by rw [hget, if_neg (Nat.lt_irrefl _)], h2, h3, h4, h5⟩
def lN (sc : Nat → jy) (k : Nat) (nms : Array Value) : Prop := ∀ j, j < k → nms[j]? = some (bn (sc j).name)
theorem lN.next {sc : Nat → jy} {k : Nat} {nms gK : Array Value} (h : lN sc k nms) (hs : k < nms.size) (ht : gK.toList.take (k + 1) = nms.toList.take k ++ [bn (sc k).name]) : lN sc (k + 1) gK := fun j hj => by
 have hget := Dc hs ht hj
 rcases Nat.lt_or_ge j k with hlt | hge
 ·rw [hget, if_pos hlt, h j hlt]
 ·obtain rfl : j = k := by omega
  rw [hget, if_neg (Nat.lt_irrefl _)]
/-- the pointers differ -/
def oN (k : Nat) (cur : Array Value) : Prop := ∀ i j, i < j → j < k → cur[i]? ≠ cur[j]?
theorem oN.next {k : Nat} {cur cur' : Array Value} {v : Value} (h : oN k cur) (hs : k < cur.size) (ht : cur'.toList.take (k + 1) = cur.toList.take k ++ [v]) (hne : ∀ i, i < k → cur[i]? ≠ some v) : oN (k + 1) cur' := fun i j hij hj => by
 have h1 := Dc hs ht (j := i) (by omega)
 have h2 := Dc hs ht hj
 rw [h1, h2, if_pos (by omega : i < k)]
 split
 ·rename_i hlt; exact h i j hij hlt
 ·exact hne i (by omega)
structure vW (v : jy) : Prop where
 v1 : v.name < 4294967296
 v2 : v.ty < 4294967296
 v3 : v.flags < 4294967296
 v4 : v.off < 4611686018427387904
 v5 : v.bP < 4611686018427387904
 v6 : v.addr ≤ 18446744073709551615
 v7 : v.align ≤ 18446744073709551615
 v8 : v.ent ≤ 18446744073709551615
 v9 : (qO (v.flags : Int) 2048 == 0) = true

theorem RD (l : List UInt8) (b o n c : Nat) (hl : n = l.length) (hnc : n ≤ c) (big : Bool) (abi aH aU aJ aG ak aj au ah : Nat) (dat : Int) (b1 : aU < 65536) (b2 : aJ < 65536) (b3 : aG ≤ 18446744073709551615) (b4 : ak < 4611686018427387904) (b5 : au < 4611686018427387904) (b6 : aj < 200) (b7 : ah < 200) (X : List UInt8) (pV : X.length = (ah * 40)) (sc : Nat → jy) (hv : ∀ i, i < ah → yB (X.drop (i * 40)) false big (sc i).name (sc i).ty (sc i).flags (sc i).addr (sc i).off (sc i).bP (sc i).link (sc i).info (sc i).align (sc i).ent) (bd : ∀ i, i < ah → vW (sc i)) (G : List Nat) (w0 : World) (s fb pg aV aW sd : Nat) {KK : Act → World → Prop} {QQ : Exit → Act → World → Prop} {KR : Act → World → Prop}
  (K : ∀ a w cur nms, cur.size = ah → nms.size = ah → jd b o n c w0.heap.size w sc (fun _ => ⟨#[]⟩) ah cur → lN sc ah nms → oN ah cur → Fr 1287 a [(0, .iface 178 (.slice (some ⟨b, o, none⟩) n c)), (4, aB s), (8, aB fb), (9, (aS big)), (10, ay ak), (11, .int .i64 32), (12, ay aj), (13, ay au), (14, .int .i64 40), (15, ay ah), (16, ay (ah - 1)), (26, .int .i64 40), (41, aC aW ah ah), (42, aC sd (ah * 40) (ah * 40))] → Mm G w0 w [(sd, .cells (X.map Bv).toArray 5 (0, 0)), (aW, .cells nms 36 (0, 0)), (aV, .cells cur 133 (0, 0)), (fb, .cells #[.int .u8 1, .int .u8 dat, .int .u8 1, aX abi, aX aH, (aS big), bF aU, bF aJ, aI aG, aC aV ah ah, aC pg aj aj, .slice none 0 0, .slice none 0 0, .slice none 0 0] 131 (0, 0)), (s, .cells #[.iface 178 (.slice (some ⟨b, o, none⟩) n c), .int .i64 0, .int .i64 0, .int .i64 9223372036854775807, .int .i64 9223372036854775807] 246 (0, 0))] → KK a w) (a : Act) (w : World) (cur nms : Array Value) (hcs : cur.size = ah) (hns : nms.size = ah) (hP : jd b o n c w0.heap.size w sc (fun _ => ⟨#[]⟩) ah cur) (hN : lN sc ah nms) (hD : oN ah cur) (HF : Fr 1287 a [(0, .iface 178 (.slice (some ⟨b, o, none⟩) n c)), (4, aB s), (8, aB fb), (9, (aS big)), (10, ay ak), (11, .int .i64 32), (12, ay aj), (13, ay au), (14, .int .i64 40), (15, ay ah), (16, ay (ah - 1)), (26, .int .i64 40), (41, aC aW ah ah), (42, aC sd (ah * 40) (ah * 40)), (43, ay ah)]) (HM : Mm G w0 w [(sd, .cells (X.map Bv).toArray 5 (0, 0)), (aW, .cells nms 36 (0, 0)), (aV, .cells cur 133 (0, 0)), (fb, .cells #[.int .u8 1, .int .u8 dat, .int .u8 1, aX abi, aX aH, (aS big), bF aU, bF aJ, aI aG, aC aV ah ah, aC pg aj aj, .slice none 0 0, .slice none 0 0, .slice none 0 0] 131 (0, 0)), (s, .cells #[.iface 178 (.slice (some ⟨b, o, none⟩) n c), .int .i64 0, .int .i64 0, .int .i64 9223372036854775807, .int .i64 9223372036854775807] 246 (0, 0))]) :
  (pR (spine Tryd.f78 44)).wp Tryd.prog (Exit.then KR (Exit.inBlock 8 (Exit.then KK QQ))) a w := by
 refine wp_seq ?_
 refine wp_seq (wp_region_lit ?_)
 refine wp_pure HF HM rfl 3 [] [(0, .iface 178 (.slice (some ⟨b, o, none⟩) n c)), (4, aB s), (8, aB fb), (9, (aS big)), (10, ay ak), (11, .int .i64 32), (12, ay aj), (13, ay au), (14, .int .i64 40), (15, ay ah), (16, ay (ah - 1)), (26, .int .i64 40), (41, aC aW ah ah), (42, aC sd (ah * 40) (ah * 40)), (43, ay ah), (859, .bool (decide (((ah : Nat) : Int) < ((ah : Nat) : Int))))] (by kernel_rfl) ?_
 clear HF; intro a HF
 rw [show decide (((ah : Nat) : Int) < ((ah : Nat) : Int)) = false from cZ (by omega)] at HF
 refine aA ?_
 refine aY HF rfl ?_
 replace HF := HF.sub [(0, .iface 178 (.slice (some ⟨b, o, none⟩) n c)), (4, aB s), (8, aB fb), (9, (aS big)), (10, ay ak), (11, .int .i64 32), (12, ay aj), (13, ay au), (14, .int .i64 40), (15, ay ah), (16, ay (ah - 1)), (26, .int .i64 40), (41, aC aW ah ah), (42, aC sd (ah * 40) (ah * 40)), (43, ay ah)] (by kernel_rfl)
 refine wp_exit (eH (eH (gZ (aK ?_))))
 replace HF := HF.sub [(0, .iface 178 (.slice (some ⟨b, o, none⟩) n c)), (4, aB s), (8, aB fb), (9, (aS big)), (10, ay ak), (11, .int .i64 32), (12, ay aj), (13, ay au), (14, .int .i64 40), (15, ay ah), (16, ay (ah - 1)), (26, .int .i64 40), (41, aC aW ah ah), (42, aC sd (ah * 40) (ah * 40))] (by kernel_rfl)
 exact K a _ cur nms hcs hns hP hN hD HF HM
abbrev zB := fun (s : Nat) (b : Nat) (o : Nat) (n : Nat) (c : Nat) => ((s, .cells #[.iface 178 (.slice (some ⟨b, o, none⟩) n c), aF 0, aF 0, aF 9223372036854775807, aF 9223372036854775807] 246 (0, 0)) : Nat × Obj)
abbrev Dv := fun (fb : Nat) (dat : Int) (abi : Nat) (aH : Nat) (big : Bool) (aU : Nat) (aJ : Nat) (aG : Nat) (aV : Nat) (i : Nat) (ah : Nat) (pg : Nat) (aj : Nat) => ((fb, .cells #[aQ 1, .int .u8 dat, aQ 1, aX abi, aX aH, (aS big), bF aU, bF aJ, aI aG, aC aV i ah, aC pg aj aj, aN, aN, aN] 131 (0, 0)) : Nat × Obj)
theorem MZ (l : List UInt8) (b o n c : Nat) (hl : n = l.length) (hnc : n ≤ c) (big : Bool) (abi aH aU aJ aG ak aj au ah : Nat) (dat : Int) (b1 : aU < 65536) (b2 : aJ < 65536) (b3 : aG ≤ 18446744073709551615) (b4 : ak < 4611686018427387904) (b5 : au < 4611686018427387904) (b6 : aj < 200) (b7 : ah < 200) (X : List UInt8) (pV : X.length = (ah * 40)) (sc : Nat → jy) (hv : ∀ i, i < ah → yB (X.drop (i * 40)) false big (sc i).name (sc i).ty (sc i).flags (sc i).addr (sc i).off (sc i).bP (sc i).link (sc i).info (sc i).align (sc i).ent) (bd : ∀ i, i < ah → vW (sc i)) (G : List Nat) (w0 : World) (s fb pg aV aW sd : Nat) {KK : Act → World → Prop} {QQ : Exit → Act → World → Prop}
  (K : ∀ a w cur nms, cur.size = ah → nms.size = ah → jd b o n c w0.heap.size w sc (fun _ => ⟨#[]⟩) ah cur → lN sc ah nms → oN ah cur → Fr 1287 a [(0, .iface 178 (.slice (some ⟨b, o, none⟩) n c)), (4, aB s), (8, aB fb), (9, (aS big)), (10, ay ak), (11, aF 32), (12, ay aj), (13, ay au), (14, aF 40), (15, ay ah), (16, ay (ah - 1)), (26, aF 40), (41, aC aW ah ah), (42, aC sd (ah * 40) (ah * 40))] → Mm G w0 w [(sd, .cells (X.map Bv).toArray 5 (0, 0)), (aW, .cells nms 36 (0, 0)), (aV, .cells cur 133 (0, 0)), (fb, .cells #[aQ 1, .int .u8 dat, aQ 1, aX abi, aX aH, (aS big), bF aU, bF aJ, aI aG, aC aV ah ah, aC pg aj aj, aN, aN, aN] 131 (0, 0)), zB s b o n c] → KK a w) :
  ∀ (r i : Nat), i + r = ah → ∀ (a : Act) (w : World) (cur nms : Array Value), cur.size = ah → nms.size = ah → jd b o n c w0.heap.size w sc (fun _ => ⟨#[]⟩) i cur → lN sc i nms → oN i cur → Fr 1287 a [(0, .iface 178 (.slice (some ⟨b, o, none⟩) n c)), (4, aB s), (8, aB fb), (9, (aS big)), (10, ay ak), (11, aF 32), (12, ay aj), (13, ay au), (14, aF 40), (15, ay ah), (16, ay (ah - 1)), (26, aF 40), (41, aC aW i ah), (42, aC sd (ah * 40) (ah * 40)), (43, ay i)] → Mm G w0 w [(sd, .cells (X.map Bv).toArray 5 (0, 0)), (aW, .cells nms 36 (0, 0)), (aV, .cells cur 133 (0, 0)), Dv fb dat abi aH big aU aJ aG aV i ah pg aj, zB s b o n c] →
  Code.rounds Tryd.prog (pR (spine Tryd.f78 44)) (Exit.inBlock 8 (Exit.then KK QQ)) (r + 1) a w
 | 0, i, hr, a, w, cur, nms, hcs, hns, hP, hN, hD, HF, HM => by
  obtain rfl : i = ah := by omega
  rw [rounds_succ]
  exact RD l b o n c hl hnc big abi aH aU aJ aG ak aj au i dat b1 b2 b3 b4 b5 b6 b7 X pV sc hv bd G w0 s fb pg aV aW sd K a w cur nms hcs hns hP hN hD HF HM
 | r + 1, i, hr, a, w, cur, nms, hcs, hns, hP, hN, hD, HF, HM => by
  have hi : i < ah := by omega
  rw [rounds_succ]
  have B := bd i hi
  have LW : Mm [sd, aW, aV, fb, s] w w [(sd, .cells (X.map Bv).toArray 5 (0, 0)), (aW, .cells nms 36 (0, 0)), (aV, .cells cur 133 (0, 0)), Dv fb dat abi aH big aU aJ aG aV i ah pg aj, zB s b o n c] := HM.restart
  have HM1 : Mm [fb, aV, aW, sd] w w [Dv fb dat abi aH big aU aJ aG aV i ah pg aj, (aV, .cells cur 133 (0, 0)), (aW, .cells nms 36 (0, 0)), (sd, .cells (X.map Bv).toArray 5 (0, 0))] := by
   refine ⟨Keep.refl _ _, fun p hp => ?_, ?_⟩
   ·simp only [List.mem_cons, List.not_mem_nil, or_false] at hp
    rcases hp with rfl | rfl | rfl | rfl
    ·exact ⟨HM.get (i := 3) rfl, .inr (by simp)⟩
    ·exact ⟨HM.get (i := 2) rfl, .inr (by simp)⟩
    ·exact ⟨HM.get (i := 1) rfl, .inr (by simp)⟩
    ·exact ⟨HM.get (i := 0) rfl, .inr (by simp)⟩
   ·have h1 := HM.ne (i := 3) (j := 2) rfl rfl (by decide)
    have h2 := HM.ne (i := 3) (j := 1) rfl rfl (by decide)
    have h3 := HM.ne (i := 3) (j := 0) rfl rfl (by decide)
    have h4 := HM.ne (i := 2) (j := 1) rfl rfl (by decide)
    have h5 := HM.ne (i := 2) (j := 0) rfl rfl (by decide)
    have h6 := HM.ne (i := 1) (j := 0) rfl rfl (by decide)
    simp [h1, h2, h3, h4, h5, h6]
  refine SG l b o n c hl hnc big abi aH aU aJ aG ak aj au ah dat b1 b2 b3 b4 b5 b6 b7 X pV i hi (sc i) (hv i hi) B.v1 B.v2 B.v3 B.v4 B.v5 B.v6 B.v7 B.v8 B.v9 a w s fb pg aV aW sd cur nms hcs hns HM1 HF ?_
  intro a' w' pb sb cur' gK hcs' G8 htk htn FY jh
  have hk := jh.keep
  have hnew : ∀ p cs t, w'.heap[p]? = some (.cells cs t (0, 0)) → t = 153 ∨ t = 246 → (w.heap.size ≤ p ∨ p ∈ [fb, aV, aW, sd]) → w.heap.size ≤ p := by
   intro p cs t hp ht ho
   refine ho.elim id fun hm => ?_
   simp only [List.mem_cons, List.not_mem_nil, or_false] at hm
   exfalso
   rcases ht with rfl | rfl <;> rcases hm with rfl | rfl | rfl | rfl
   ·exact dD hp (jh.get (i := 2) rfl) (by decide) rfl
   ·exact dD hp (jh.get (i := 3) rfl) (by decide) rfl
   ·exact dD hp (jh.get (i := 4) rfl) (by decide) rfl
   ·exact dD hp (jh.get (i := 5) rfl) (by decide) rfl
   ·exact dD hp (jh.get (i := 2) rfl) (by decide) rfl
   ·exact dD hp (jh.get (i := 3) rfl) (by decide) rfl
   ·exact dD hp (jh.get (i := 4) rfl) (by decide) rfl
   ·exact dD hp (jh.get (i := 5) rfl) (by decide) rfl
  have hpb := hnew pb _ _ (jh.get (i := 1) rfl) (.inl rfl) (jh.own (i := 1) rfl)
  have hsb := hnew sb _ _ (jh.get (i := 0) rfl) (.inr rfl) (jh.own (i := 0) rfl)
  have hsz := HM.size
  have hP2 : jd b o n c w0.heap.size w' sc (fun _ => ⟨#[]⟩) i cur := hP.keep hk (by
   intro g hg
   simp only [List.mem_cons, List.not_mem_nil, or_false] at hg
   rcases hg with rfl | rfl | rfl | rfl
   ·exact ⟨_, _, _, HM.get (i := 3) rfl, by decide, by decide⟩
   ·exact ⟨_, _, _, HM.get (i := 2) rfl, by decide, by decide⟩
   ·exact ⟨_, _, _, HM.get (i := 1) rfl, by decide, by decide⟩
   ·exact ⟨_, _, _, HM.get (i := 0) rfl, by decide, by decide⟩)
  have hP3 := hP2.next (nf := (fun _ => ⟨#[]⟩)) (by omega) htk (by omega) (by omega) (jh.get (i := 1) rfl) (jh.get (i := 0) rfl)
  have bT : Mm G w0 w' [(sd, .cells (X.map Bv).toArray 5 (0, 0)), (aW, .cells gK 36 (0, 0)), (aV, .cells cur' 133 (0, 0)), (fb, .cells #[aQ 1, .int .u8 dat, aQ 1, aX abi, aX aH, (aS big), bF aU, bF aJ, aI aG, aC aV (i + 1) ah, aC pg aj aj, aN, aN, aN] 131 (0, 0)), zB s b o n c] := HM.after hk (by
   intro g hg
   simp only [List.mem_cons, List.not_mem_nil, or_false] at hg
   rcases hg with rfl | rfl | rfl | rfl
   ·exact HM.own (i := 3) rfl
   ·exact HM.own (i := 2) rfl
   ·exact HM.own (i := 1) rfl
   ·exact HM.own (i := 0) rfl) rfl (by
   intro p hp
   simp only [List.mem_cons, List.not_mem_nil, or_false] at hp
   rcases hp with rfl | rfl | rfl | rfl | rfl
   ·exact jh.get (i := 5) rfl
   ·exact jh.get (i := 4) rfl
   ·exact jh.get (i := 3) rfl
   ·exact jh.get (i := 2) rfl
   ·refine (hk.block s (HM.lt (i := 4) rfl) ?_).trans (HM.get (i := 4) rfl)
    simp only [List.mem_cons, List.not_mem_nil, or_false, not_or]
    exact ⟨HM.ne (i := 4) (j := 3) rfl rfl (by decide), HM.ne (i := 4) (j := 2) rfl rfl (by decide), HM.ne (i := 4) (j := 1) rfl rfl (by decide), HM.ne (i := 4) (j := 0) rfl rfl (by decide)⟩)
  exact MZ l b o n c hl hnc big abi aH aU aJ aG ak aj au ah dat b1 b2 b3 b4 b5 b6 b7 X pV sc hv bd G w0 s fb pg aV aW sd K r (i + 1) (by omega) a' w' cur' gK hcs' G8 hP3 (hN.next (by omega) htn) (hD.next (by omega) htk fun j hj e => by
   obtain ⟨pbj, _, g1, _, _, g4, _⟩ := hP j hj
   rw [g1] at e
   injection e with e
   injection e with e
   injection e with e
   injection e with e
   have := kH g4
   omega) FY bT

theorem Ph (l : List UInt8) (b o n c : Nat) (hl : n = l.length) (hnc : n ≤ c) (big : Bool) (abi aH aU aJ aG ak aj au ah : Nat) (dat : Int) (b1 : aU < 65536) (b2 : aJ < 65536) (b3 : aG ≤ 18446744073709551615) (b4 : ak < 4611686018427387904) (b5 : au < 4611686018427387904) (b6 : aj < 200) (b7 : ah < 200) (X : List UInt8) (pV : X.length = (ah * 40)) (sc : Nat → jy) (hv : ∀ i, i < ah → yB (X.drop (i * 40)) false big (sc i).name (sc i).ty (sc i).flags (sc i).addr (sc i).off (sc i).bP (sc i).link (sc i).info (sc i).align (sc i).ent) (bd : ∀ i, i < ah → vW (sc i)) (G : List Nat) (w0 : World) (s fb pg aV aW sd : Nat) {Q : Exit → Act → World → Prop} (a : Act) (w : World) (cur nms : Array Value) (hcs : cur.size = ah) (hns : nms.size = ah) (HF : Fr 1287 a [(0, .iface 178 (.slice (some ⟨b, o, none⟩) n c)), (4, aB s), (8, aB fb), (9, (aS big)), (10, ay ak), (11, .int .i64 32), (12, ay aj), (13, ay au), (14, .int .i64 40), (15, ay ah), (16, ay (ah - 1)), (26, .int .i64 40), (41, aC aW 0 ah), (42, aC sd (ah * 40) (ah * 40))]) (HM : Mm G w0 w [(sd, .cells (X.map Bv).toArray 5 (0, 0)), (aW, .cells nms 36 (0, 0)), (aV, .cells cur 133 (0, 0)), (fb, .cells #[.int .u8 1, .int .u8 dat, .int .u8 1, aX abi, aX aH, (aS big), bF aU, bF aJ, aI aG, aC aV 0 ah, aC pg aj aj, .slice none 0 0, .slice none 0 0, .slice none 0 0] 131 (0, 0)), (s, .cells #[.iface 178 (.slice (some ⟨b, o, none⟩) n c), .int .i64 0, .int .i64 0, .int .i64 9223372036854775807, .int .i64 9223372036854775807] 246 (0, 0))])
  (K : ∀ a w cur nms, cur.size = ah → nms.size = ah → jd b o n c w0.heap.size w sc (fun _ => ⟨#[]⟩) ah cur → lN sc ah nms → oN ah cur → Fr 1287 a [(0, .iface 178 (.slice (some ⟨b, o, none⟩) n c)), (4, aB s), (8, aB fb), (9, (aS big)), (10, ay ak), (11, .int .i64 32), (12, ay aj), (13, ay au), (14, .int .i64 40), (15, ay ah), (16, ay (ah - 1)), (26, .int .i64 40), (41, aC aW ah ah), (42, aC sd (ah * 40) (ah * 40))] → Mm G w0 w [(sd, .cells (X.map Bv).toArray 5 (0, 0)), (aW, .cells nms 36 (0, 0)), (aV, .cells cur 133 (0, 0)), (fb, .cells #[.int .u8 1, .int .u8 dat, .int .u8 1, aX abi, aX aH, (aS big), bF aU, bF aJ, aI aG, aC aV ah ah, aC pg aj aj, .slice none 0 0, .slice none 0 0, .slice none 0 0] 131 (0, 0)), (s, .cells #[.iface 178 (.slice (some ⟨b, o, none⟩) n c), .int .i64 0, .int .i64 0, .int .i64 9223372036854775807, .int .i64 9223372036854775807] 246 (0, 0))] → (spine Tryd.f78 45).wp Tryd.prog Q a w) : (spine Tryd.f78 44).wp Tryd.prog Q a w := by
 refine wp_seq ?_
 refine bG HF HM rfl [] [(0, .iface 178 (.slice (some ⟨b, o, none⟩) n c)), (4, aB s), (8, aB fb), (9, (aS big)), (10, ay ak), (11, .int .i64 32), (12, ay aj), (13, ay au), (14, .int .i64 40), (15, ay ah), (16, ay (ah - 1)), (26, .int .i64 40), (41, aC aW 0 ah), (42, aC sd (ah * 40) (ah * 40)), (43, ay 0)] [(sd, .cells (X.map Bv).toArray 5 (0, 0)), (aW, .cells nms 36 (0, 0)), (aV, .cells cur 133 (0, 0)), (fb, .cells #[.int .u8 1, .int .u8 dat, .int .u8 1, aX abi, aX aH, (aS big), bF aU, bF aJ, aI aG, aC aV 0 ah, aC pg aj aj, .slice none 0 0, .slice none 0 0, .slice none 0 0] 131 (0, 0)), (s, .cells #[.iface 178 (.slice (some ⟨b, o, none⟩) n c), .int .i64 0, .int .i64 0, .int .i64 9223372036854775807, .int .i64 9223372036854775807] 246 (0, 0))] (by kernel_rfl) ?_
 clear HF HM; intro a w HF HM
 refine wp_block (wp_loop_rounds (ah + 1) ?_)
 exact MZ l b o n c hl hnc big abi aH aU aJ aG ak aj au ah dat b1 b2 b3 b4 b5 b6 b7 X pV sc hv bd G w0 s fb pg aV aW sd K ah 0 (by omega) a w cur nms hcs hns (fun j hj => absurd hj (Nat.not_lt_zero j)) (fun j hj => absurd hj (Nat.not_lt_zero j)) (fun i j _ hj => absurd hj (Nat.not_lt_zero j)) HF HM

theorem Rz (l : List UInt8) (b o n c : Nat) (hl : n = l.length) (hnc : n ≤ c) (big : Bool) (abi aH aU aJ aG ak aj au ah : Nat) (dat : Int) (b1 : aU < 65536) (b2 : aJ < 65536) (b3 : aG ≤ 18446744073709551615) (b4 : ak < 4611686018427387904) (b5 : au < 4611686018427387904) (b6 : aj < 200) (b7 : ah < 200) (X : List UInt8) (pV : X.length = (ah * 64)) (sc : Nat → jy) (hv : ∀ i, i < ah → yB (X.drop (i * 64)) true big (sc i).name (sc i).ty (sc i).flags (sc i).addr (sc i).off (sc i).bP (sc i).link (sc i).info (sc i).align (sc i).ent) (bd : ∀ i, i < ah → vW (sc i)) (G : List Nat) (w0 : World) (s fb pg aV aW sd : Nat) {KK : Act → World → Prop} {QQ : Exit → Act → World → Prop} {KR : Act → World → Prop}
  (K : ∀ a w cur nms, cur.size = ah → nms.size = ah → jd b o n c w0.heap.size w sc (fun _ => ⟨#[]⟩) ah cur → lN sc ah nms → oN ah cur → Fr 1287 a [(0, .iface 178 (.slice (some ⟨b, o, none⟩) n c)), (4, aB s), (8, aB fb), (9, (aS big)), (10, ay ak), (11, .int .i64 56), (12, ay aj), (13, ay au), (14, .int .i64 64), (15, ay ah), (16, ay (ah - 1)), (26, .int .i64 64), (41, aC aW ah ah), (42, aC sd (ah * 64) (ah * 64))] → Mm G w0 w [(sd, .cells (X.map Bv).toArray 5 (0, 0)), (aW, .cells nms 36 (0, 0)), (aV, .cells cur 133 (0, 0)), (fb, .cells #[.int .u8 2, .int .u8 dat, .int .u8 1, aX abi, aX aH, (aS big), bF aU, bF aJ, aI aG, aC aV ah ah, aC pg aj aj, .slice none 0 0, .slice none 0 0, .slice none 0 0] 131 (0, 0)), (s, .cells #[.iface 178 (.slice (some ⟨b, o, none⟩) n c), .int .i64 0, .int .i64 0, .int .i64 9223372036854775807, .int .i64 9223372036854775807] 246 (0, 0))] → KK a w) (a : Act) (w : World) (cur nms : Array Value) (hcs : cur.size = ah) (hns : nms.size = ah) (hP : jd b o n c w0.heap.size w sc (fun _ => ⟨#[]⟩) ah cur) (hN : lN sc ah nms) (hD : oN ah cur) (HF : Fr 1287 a [(0, .iface 178 (.slice (some ⟨b, o, none⟩) n c)), (4, aB s), (8, aB fb), (9, (aS big)), (10, ay ak), (11, .int .i64 56), (12, ay aj), (13, ay au), (14, .int .i64 64), (15, ay ah), (16, ay (ah - 1)), (26, .int .i64 64), (41, aC aW ah ah), (42, aC sd (ah * 64) (ah * 64)), (43, ay ah)]) (HM : Mm G w0 w [(sd, .cells (X.map Bv).toArray 5 (0, 0)), (aW, .cells nms 36 (0, 0)), (aV, .cells cur 133 (0, 0)), (fb, .cells #[.int .u8 2, .int .u8 dat, .int .u8 1, aX abi, aX aH, (aS big), bF aU, bF aJ, aI aG, aC aV ah ah, aC pg aj aj, .slice none 0 0, .slice none 0 0, .slice none 0 0] 131 (0, 0)), (s, .cells #[.iface 178 (.slice (some ⟨b, o, none⟩) n c), .int .i64 0, .int .i64 0, .int .i64 9223372036854775807, .int .i64 9223372036854775807] 246 (0, 0))]) :
  (pR (spine Tryd.f78 44)).wp Tryd.prog (Exit.then KR (Exit.inBlock 8 (Exit.then KK QQ))) a w := by
 refine wp_seq ?_
 refine wp_seq (wp_region_lit ?_)
 refine wp_pure HF HM rfl 3 [] [(0, .iface 178 (.slice (some ⟨b, o, none⟩) n c)), (4, aB s), (8, aB fb), (9, (aS big)), (10, ay ak), (11, .int .i64 56), (12, ay aj), (13, ay au), (14, .int .i64 64), (15, ay ah), (16, ay (ah - 1)), (26, .int .i64 64), (41, aC aW ah ah), (42, aC sd (ah * 64) (ah * 64)), (43, ay ah), (859, .bool (decide (((ah : Nat) : Int) < ((ah : Nat) : Int))))] (by kernel_rfl) ?_
 clear HF; intro a HF
 rw [show decide (((ah : Nat) : Int) < ((ah : Nat) : Int)) = false from cZ (by omega)] at HF
 refine aA ?_
 refine aY HF rfl ?_
 replace HF := HF.sub [(0, .iface 178 (.slice (some ⟨b, o, none⟩) n c)), (4, aB s), (8, aB fb), (9, (aS big)), (10, ay ak), (11, .int .i64 56), (12, ay aj), (13, ay au), (14, .int .i64 64), (15, ay ah), (16, ay (ah - 1)), (26, .int .i64 64), (41, aC aW ah ah), (42, aC sd (ah * 64) (ah * 64)), (43, ay ah)] (by kernel_rfl)
 refine wp_exit (eH (eH (gZ (aK ?_))))
 replace HF := HF.sub [(0, .iface 178 (.slice (some ⟨b, o, none⟩) n c)), (4, aB s), (8, aB fb), (9, (aS big)), (10, ay ak), (11, .int .i64 56), (12, ay aj), (13, ay au), (14, .int .i64 64), (15, ay ah), (16, ay (ah - 1)), (26, .int .i64 64), (41, aC aW ah ah), (42, aC sd (ah * 64) (ah * 64))] (by kernel_rfl)
 exact K a _ cur nms hcs hns hP hN hD HF HM
abbrev zA := fun (s : Nat) (b : Nat) (o : Nat) (n : Nat) (c : Nat) => ((s, .cells #[.iface 178 (.slice (some ⟨b, o, none⟩) n c), aF 0, aF 0, aF 9223372036854775807, aF 9223372036854775807] 246 (0, 0)) : Nat × Obj)
abbrev Du := fun (fb : Nat) (dat : Int) (abi : Nat) (aH : Nat) (big : Bool) (aU : Nat) (aJ : Nat) (aG : Nat) (aV : Nat) (i : Nat) (ah : Nat) (pg : Nat) (aj : Nat) => ((fb, .cells #[aQ 2, .int .u8 dat, aQ 1, aX abi, aX aH, (aS big), bF aU, bF aJ, aI aG, aC aV i ah, aC pg aj aj, aN, aN, aN] 131 (0, 0)) : Nat × Obj)
theorem MX (l : List UInt8) (b o n c : Nat) (hl : n = l.length) (hnc : n ≤ c) (big : Bool) (abi aH aU aJ aG ak aj au ah : Nat) (dat : Int) (b1 : aU < 65536) (b2 : aJ < 65536) (b3 : aG ≤ 18446744073709551615) (b4 : ak < 4611686018427387904) (b5 : au < 4611686018427387904) (b6 : aj < 200) (b7 : ah < 200) (X : List UInt8) (pV : X.length = (ah * 64)) (sc : Nat → jy) (hv : ∀ i, i < ah → yB (X.drop (i * 64)) true big (sc i).name (sc i).ty (sc i).flags (sc i).addr (sc i).off (sc i).bP (sc i).link (sc i).info (sc i).align (sc i).ent) (bd : ∀ i, i < ah → vW (sc i)) (G : List Nat) (w0 : World) (s fb pg aV aW sd : Nat) {KK : Act → World → Prop} {QQ : Exit → Act → World → Prop}
  (K : ∀ a w cur nms, cur.size = ah → nms.size = ah → jd b o n c w0.heap.size w sc (fun _ => ⟨#[]⟩) ah cur → lN sc ah nms → oN ah cur → Fr 1287 a [(0, .iface 178 (.slice (some ⟨b, o, none⟩) n c)), (4, aB s), (8, aB fb), (9, (aS big)), (10, ay ak), (11, aF 56), (12, ay aj), (13, ay au), (14, aF 64), (15, ay ah), (16, ay (ah - 1)), (26, aF 64), (41, aC aW ah ah), (42, aC sd (ah * 64) (ah * 64))] → Mm G w0 w [(sd, .cells (X.map Bv).toArray 5 (0, 0)), (aW, .cells nms 36 (0, 0)), (aV, .cells cur 133 (0, 0)), (fb, .cells #[aQ 2, .int .u8 dat, aQ 1, aX abi, aX aH, (aS big), bF aU, bF aJ, aI aG, aC aV ah ah, aC pg aj aj, aN, aN, aN] 131 (0, 0)), zA s b o n c] → KK a w) :
  ∀ (r i : Nat), i + r = ah → ∀ (a : Act) (w : World) (cur nms : Array Value), cur.size = ah → nms.size = ah → jd b o n c w0.heap.size w sc (fun _ => ⟨#[]⟩) i cur → lN sc i nms → oN i cur → Fr 1287 a [(0, .iface 178 (.slice (some ⟨b, o, none⟩) n c)), (4, aB s), (8, aB fb), (9, (aS big)), (10, ay ak), (11, aF 56), (12, ay aj), (13, ay au), (14, aF 64), (15, ay ah), (16, ay (ah - 1)), (26, aF 64), (41, aC aW i ah), (42, aC sd (ah * 64) (ah * 64)), (43, ay i)] → Mm G w0 w [(sd, .cells (X.map Bv).toArray 5 (0, 0)), (aW, .cells nms 36 (0, 0)), (aV, .cells cur 133 (0, 0)), Du fb dat abi aH big aU aJ aG aV i ah pg aj, zA s b o n c] →
  Code.rounds Tryd.prog (pR (spine Tryd.f78 44)) (Exit.inBlock 8 (Exit.then KK QQ)) (r + 1) a w
 | 0, i, hr, a, w, cur, nms, hcs, hns, hP, hN, hD, HF, HM => by
  obtain rfl : i = ah := by omega
  rw [rounds_succ]
  exact Rz l b o n c hl hnc big abi aH aU aJ aG ak aj au i dat b1 b2 b3 b4 b5 b6 b7 X pV sc hv bd G w0 s fb pg aV aW sd K a w cur nms hcs hns hP hN hD HF HM
 | r + 1, i, hr, a, w, cur, nms, hcs, hns, hP, hN, hD, HF, HM => by
  have hi : i < ah := by omega
  rw [rounds_succ]
  have B := bd i hi
  have LW : Mm [sd, aW, aV, fb, s] w w [(sd, .cells (X.map Bv).toArray 5 (0, 0)), (aW, .cells nms 36 (0, 0)), (aV, .cells cur 133 (0, 0)), Du fb dat abi aH big aU aJ aG aV i ah pg aj, zA s b o n c] := HM.restart
  have HM1 : Mm [fb, aV, aW, sd] w w [Du fb dat abi aH big aU aJ aG aV i ah pg aj, (aV, .cells cur 133 (0, 0)), (aW, .cells nms 36 (0, 0)), (sd, .cells (X.map Bv).toArray 5 (0, 0))] := by
   refine ⟨Keep.refl _ _, fun p hp => ?_, ?_⟩
   ·simp only [List.mem_cons, List.not_mem_nil, or_false] at hp
    rcases hp with rfl | rfl | rfl | rfl
    ·exact ⟨HM.get (i := 3) rfl, .inr (by simp)⟩
    ·exact ⟨HM.get (i := 2) rfl, .inr (by simp)⟩
    ·exact ⟨HM.get (i := 1) rfl, .inr (by simp)⟩
    ·exact ⟨HM.get (i := 0) rfl, .inr (by simp)⟩
   ·have h1 := HM.ne (i := 3) (j := 2) rfl rfl (by decide)
    have h2 := HM.ne (i := 3) (j := 1) rfl rfl (by decide)
    have h3 := HM.ne (i := 3) (j := 0) rfl rfl (by decide)
    have h4 := HM.ne (i := 2) (j := 1) rfl rfl (by decide)
    have h5 := HM.ne (i := 2) (j := 0) rfl rfl (by decide)
    have h6 := HM.ne (i := 1) (j := 0) rfl rfl (by decide)
    simp [h1, h2, h3, h4, h5, h6]
  refine SE l b o n c hl hnc big abi aH aU aJ aG ak aj au ah dat b1 b2 b3 b4 b5 b6 b7 X pV i hi (sc i) (hv i hi) B.v1 B.v2 B.v3 B.v4 B.v5 B.v6 B.v7 B.v8 B.v9 a w s fb pg aV aW sd cur nms hcs hns HM1 HF ?_
  intro a' w' pb sb cur' gK hcs' G8 htk htn FY jh
  have hk := jh.keep
  have hnew : ∀ p cs t, w'.heap[p]? = some (.cells cs t (0, 0)) → t = 153 ∨ t = 246 → (w.heap.size ≤ p ∨ p ∈ [fb, aV, aW, sd]) → w.heap.size ≤ p := by
   intro p cs t hp ht ho
   refine ho.elim id fun hm => ?_
   simp only [List.mem_cons, List.not_mem_nil, or_false] at hm
   exfalso
   rcases ht with rfl | rfl <;> rcases hm with rfl | rfl | rfl | rfl
   ·exact dD hp (jh.get (i := 2) rfl) (by decide) rfl
   ·exact dD hp (jh.get (i := 3) rfl) (by decide) rfl
   ·exact dD hp (jh.get (i := 4) rfl) (by decide) rfl
   ·exact dD hp (jh.get (i := 5) rfl) (by decide) rfl
   ·exact dD hp (jh.get (i := 2) rfl) (by decide) rfl
   ·exact dD hp (jh.get (i := 3) rfl) (by decide) rfl
   ·exact dD hp (jh.get (i := 4) rfl) (by decide) rfl
   ·exact dD hp (jh.get (i := 5) rfl) (by decide) rfl
  have hpb := hnew pb _ _ (jh.get (i := 1) rfl) (.inl rfl) (jh.own (i := 1) rfl)
  have hsb := hnew sb _ _ (jh.get (i := 0) rfl) (.inr rfl) (jh.own (i := 0) rfl)
  have hsz := HM.size
  have hP2 : jd b o n c w0.heap.size w' sc (fun _ => ⟨#[]⟩) i cur := hP.keep hk (by
   intro g hg
   simp only [List.mem_cons, List.not_mem_nil, or_false] at hg
   rcases hg with rfl | rfl | rfl | rfl
   ·exact ⟨_, _, _, HM.get (i := 3) rfl, by decide, by decide⟩
   ·exact ⟨_, _, _, HM.get (i := 2) rfl, by decide, by decide⟩
   ·exact ⟨_, _, _, HM.get (i := 1) rfl, by decide, by decide⟩
   ·exact ⟨_, _, _, HM.get (i := 0) rfl, by decide, by decide⟩)
  have hP3 := hP2.next (nf := (fun _ => ⟨#[]⟩)) (by omega) htk (by omega) (by omega) (jh.get (i := 1) rfl) (jh.get (i := 0) rfl)
  have bT : Mm G w0 w' [(sd, .cells (X.map Bv).toArray 5 (0, 0)), (aW, .cells gK 36 (0, 0)), (aV, .cells cur' 133 (0, 0)), (fb, .cells #[aQ 2, .int .u8 dat, aQ 1, aX abi, aX aH, (aS big), bF aU, bF aJ, aI aG, aC aV (i + 1) ah, aC pg aj aj, aN, aN, aN] 131 (0, 0)), zA s b o n c] := HM.after hk (by
   intro g hg
   simp only [List.mem_cons, List.not_mem_nil, or_false] at hg
   rcases hg with rfl | rfl | rfl | rfl
   ·exact HM.own (i := 3) rfl
   ·exact HM.own (i := 2) rfl
   ·exact HM.own (i := 1) rfl
   ·exact HM.own (i := 0) rfl) rfl (by
   intro p hp
   simp only [List.mem_cons, List.not_mem_nil, or_false] at hp
   rcases hp with rfl | rfl | rfl | rfl | rfl
   ·exact jh.get (i := 5) rfl
   ·exact jh.get (i := 4) rfl
   ·exact jh.get (i := 3) rfl
   ·exact jh.get (i := 2) rfl
   ·refine (hk.block s (HM.lt (i := 4) rfl) ?_).trans (HM.get (i := 4) rfl)
    simp only [List.mem_cons, List.not_mem_nil, or_false, not_or]
    exact ⟨HM.ne (i := 4) (j := 3) rfl rfl (by decide), HM.ne (i := 4) (j := 2) rfl rfl (by decide), HM.ne (i := 4) (j := 1) rfl rfl (by decide), HM.ne (i := 4) (j := 0) rfl rfl (by decide)⟩)
  exact MX l b o n c hl hnc big abi aH aU aJ aG ak aj au ah dat b1 b2 b3 b4 b5 b6 b7 X pV sc hv bd G w0 s fb pg aV aW sd K r (i + 1) (by omega) a' w' cur' gK hcs' G8 hP3 (hN.next (by omega) htn) (hD.next (by omega) htk fun j hj e => by
   obtain ⟨pbj, _, g1, _, _, g4, _⟩ := hP j hj
   rw [g1] at e
   injection e with e
   injection e with e
   injection e with e
   injection e with e
   have := kH g4
   omega) FY bT

theorem Pg (l : List UInt8) (b o n c : Nat) (hl : n = l.length) (hnc : n ≤ c) (big : Bool) (abi aH aU aJ aG ak aj au ah : Nat) (dat : Int) (b1 : aU < 65536) (b2 : aJ < 65536) (b3 : aG ≤ 18446744073709551615) (b4 : ak < 4611686018427387904) (b5 : au < 4611686018427387904) (b6 : aj < 200) (b7 : ah < 200) (X : List UInt8) (pV : X.length = (ah * 64)) (sc : Nat → jy) (hv : ∀ i, i < ah → yB (X.drop (i * 64)) true big (sc i).name (sc i).ty (sc i).flags (sc i).addr (sc i).off (sc i).bP (sc i).link (sc i).info (sc i).align (sc i).ent) (bd : ∀ i, i < ah → vW (sc i)) (G : List Nat) (w0 : World) (s fb pg aV aW sd : Nat) {Q : Exit → Act → World → Prop} (a : Act) (w : World) (cur nms : Array Value) (hcs : cur.size = ah) (hns : nms.size = ah) (HF : Fr 1287 a [(0, .iface 178 (.slice (some ⟨b, o, none⟩) n c)), (4, aB s), (8, aB fb), (9, (aS big)), (10, ay ak), (11, .int .i64 56), (12, ay aj), (13, ay au), (14, .int .i64 64), (15, ay ah), (16, ay (ah - 1)), (26, .int .i64 64), (41, aC aW 0 ah), (42, aC sd (ah * 64) (ah * 64))]) (HM : Mm G w0 w [(sd, .cells (X.map Bv).toArray 5 (0, 0)), (aW, .cells nms 36 (0, 0)), (aV, .cells cur 133 (0, 0)), (fb, .cells #[.int .u8 2, .int .u8 dat, .int .u8 1, aX abi, aX aH, (aS big), bF aU, bF aJ, aI aG, aC aV 0 ah, aC pg aj aj, .slice none 0 0, .slice none 0 0, .slice none 0 0] 131 (0, 0)), (s, .cells #[.iface 178 (.slice (some ⟨b, o, none⟩) n c), .int .i64 0, .int .i64 0, .int .i64 9223372036854775807, .int .i64 9223372036854775807] 246 (0, 0))])
  (K : ∀ a w cur nms, cur.size = ah → nms.size = ah → jd b o n c w0.heap.size w sc (fun _ => ⟨#[]⟩) ah cur → lN sc ah nms → oN ah cur → Fr 1287 a [(0, .iface 178 (.slice (some ⟨b, o, none⟩) n c)), (4, aB s), (8, aB fb), (9, (aS big)), (10, ay ak), (11, .int .i64 56), (12, ay aj), (13, ay au), (14, .int .i64 64), (15, ay ah), (16, ay (ah - 1)), (26, .int .i64 64), (41, aC aW ah ah), (42, aC sd (ah * 64) (ah * 64))] → Mm G w0 w [(sd, .cells (X.map Bv).toArray 5 (0, 0)), (aW, .cells nms 36 (0, 0)), (aV, .cells cur 133 (0, 0)), (fb, .cells #[.int .u8 2, .int .u8 dat, .int .u8 1, aX abi, aX aH, (aS big), bF aU, bF aJ, aI aG, aC aV ah ah, aC pg aj aj, .slice none 0 0, .slice none 0 0, .slice none 0 0] 131 (0, 0)), (s, .cells #[.iface 178 (.slice (some ⟨b, o, none⟩) n c), .int .i64 0, .int .i64 0, .int .i64 9223372036854775807, .int .i64 9223372036854775807] 246 (0, 0))] → (spine Tryd.f78 45).wp Tryd.prog Q a w) : (spine Tryd.f78 44).wp Tryd.prog Q a w := by
 refine wp_seq ?_
 refine bG HF HM rfl [] [(0, .iface 178 (.slice (some ⟨b, o, none⟩) n c)), (4, aB s), (8, aB fb), (9, (aS big)), (10, ay ak), (11, .int .i64 56), (12, ay aj), (13, ay au), (14, .int .i64 64), (15, ay ah), (16, ay (ah - 1)), (26, .int .i64 64), (41, aC aW 0 ah), (42, aC sd (ah * 64) (ah * 64)), (43, ay 0)] [(sd, .cells (X.map Bv).toArray 5 (0, 0)), (aW, .cells nms 36 (0, 0)), (aV, .cells cur 133 (0, 0)), (fb, .cells #[.int .u8 2, .int .u8 dat, .int .u8 1, aX abi, aX aH, (aS big), bF aU, bF aJ, aI aG, aC aV 0 ah, aC pg aj aj, .slice none 0 0, .slice none 0 0, .slice none 0 0] 131 (0, 0)), (s, .cells #[.iface 178 (.slice (some ⟨b, o, none⟩) n c), .int .i64 0, .int .i64 0, .int .i64 9223372036854775807, .int .i64 9223372036854775807] 246 (0, 0))] (by kernel_rfl) ?_
 clear HF HM; intro a w HF HM
 refine wp_block (wp_loop_rounds (ah + 1) ?_)
 exact MX l b o n c hl hnc big abi aH aU aJ aG ak aj au ah dat b1 b2 b3 b4 b5 b6 b7 X pV sc hv bd G w0 s fb pg aV aW sd K ah 0 (by omega) a w cur nms hcs hns (fun j hj => absurd hj (Nat.not_lt_zero j)) (fun j hj => absurd hj (Nat.not_lt_zero j)) (fun i j _ hj => absurd hj (Nat.not_lt_zero j)) HF HM

end Go.Proofs.YtdgehpocmfjbiaaDoor
namespace Go.Proofs.YtdgehpocmfjbiaaDoor
open Go.RowKit

theorem qY {P : Program} {w : World} {t e : TypeId} {info : TypeInfo} (ht : P.underlying t = some (.slice e)) (hi : P.info? e = some info) (hs : info.size = 1) {ρ : Operand → Value} {o : Oper} {x ix : Operand} (ho : o.op = .indexAddr t x ix) {b n c : Nat} (j : Nat) {k : IntKind} (hx : ρ x = aC b n c) (hj : ρ ix = .int k (j : Int)) (h : j < n) :
  (execOp ρ o).run P w = .ok (.value (.pointer (some ⟨b, j, none⟩))) w := by
 unfold execOp
 simp only [ho, hx, hj]
 simp [Instr.indexAt, run_underlying ht, asIntOf, sizeOf, typeInfo, hi, hs, h, Addr.add]
 exact fun h => h.symm
theorem yE : ∃ i, Tryd.prog.info? 133 = some i ∧ i.size = 1 := by
 obtain ⟨i, h1, _, h3, _⟩ := info_parts CV
 exact ⟨i, h1, h3⟩
theorem Kr : ∃ i, Tryd.prog.info? 36 = some i ∧ i.size = 1 := by
 obtain ⟨i, h1, _, h3, _⟩ := info_parts AO
 exact ⟨i, h1, h3⟩

abbrev jZ := fun (b : Nat) (o : Nat) (n : Nat) (c : Nat) (s : Nat) (fb : Nat) (big : Bool) (ak : Nat) (aj : Nat) (au : Nat) (ah : Nat) (aW : Nat) (sd : Nat) => ([(0, .iface 178 (.slice (some ⟨b, o, none⟩) n c)), (4, aB s), (8, aB fb), (9, (aS big)), (10, ay ak), (11, aF 32), (12, ay aj), (13, ay au), (14, aF 40), (15, ay ah), (16, ay (ah - 1)), (26, aF 40), (41, aC aW ah ah), (42, aC sd (ah * 40) (ah * 40))] : Slots)
theorem PG (l : List UInt8) (b o n c : Nat) (hl : n = l.length) (hnc : n ≤ c) (big : Bool) (abi aH aU aJ aG ak aj au ah : Nat) (dat : Int) (b1 : aU < 65536) (b2 : aJ < 65536) (b3 : aG ≤ 18446744073709551615) (b4 : ak < 4611686018427387904) (b5 : au < 4611686018427387904) (b6 : aj < 200) (b7 : ah < 200) (X : List UInt8) (sc : Nat → jy) (c3 : 1 < ah) (hty : (sc (ah - 1)).ty = 3) (hfl : (qO ((((sc (ah - 1)).flags : Nat) : Int)) 2048 == 0) = true) (f1 : 0 < (sc (ah - 1)).bP) (f2 : (sc (ah - 1)).bP < 10485760) (f3 : (sc (ah - 1)).off + (sc (ah - 1)).bP ≤ n) (f4 : n ≤ 4611686018427387904) (G : List Nat) (w0 : World) (hbl : b < w0.heap.size) (hr : Row w0 (some ⟨b, o, none⟩) (l.map Bv)) (yc : b ∉ G) (s fb pg aV aW sd : Nat) {Q : Exit → Act → World → Prop} (a : Act) (w : World) (cur nms : Array Value) (hP : jd b o n c w0.heap.size w sc (fun _ => ⟨#[]⟩) ah cur) (HF : Fr 1287 a (jZ b o n c s fb big ak aj au ah aW sd)) (HM : Mm G w0 w [(sd, .cells (X.map Bv).toArray 5 (0, 0)), (aW, .cells nms 36 (0, 0)), (aV, .cells cur 133 (0, 0)), (fb, .cells #[aQ 1, .int .u8 dat, aQ 1, aX abi, aX aH, (aS big), bF aU, bF aJ, aI aG, aC aV ah ah, aC pg aj aj, aN, aN, aN] 131 (0, 0)), (s, .cells #[.iface 178 (.slice (some ⟨b, o, none⟩) n c), aF 0, aF 0, aF 9223372036854775807, aF 9223372036854775807] 246 (0, 0))])
  (K : ∀ a w' dQ, jd b o n c w0.heap.size w' sc (fun _ => ⟨#[]⟩) ah cur → Fr 1287 a ((jZ b o n c s fb big ak aj au ah aW sd) ++ [(53, aC dQ (sc (ah - 1)).bP (sc (ah - 1)).bP)]) → Mm G w0 w' [(dQ, .cells (((l.drop (sc (ah - 1)).off).take (sc (ah - 1)).bP).map Bv).toArray 5 (0, 0)), (sd, .cells (X.map Bv).toArray 5 (0, 0)), (aW, .cells nms 36 (0, 0)), (aV, .cells cur 133 (0, 0)), (fb, .cells #[aQ 1, .int .u8 dat, aQ 1, aX abi, aX aH, (aS big), bF aU, bF aJ, aI aG, aC aV ah ah, aC pg aj aj, aN, aN, aN] 131 (0, 0)), (s, .cells #[.iface 178 (.slice (some ⟨b, o, none⟩) n c), aF 0, aF 0, aF 9223372036854775807, aF 9223372036854775807] 246 (0, 0))] → (spine Tryd.f78 51).wp Tryd.prog Q a w') : (spine Tryd.f78 45).wp Tryd.prog Q a w := by
 obtain ⟨i0, his, hss⟩ := yE
 obtain ⟨pq, sq, q1, q2, q3, q4, q5⟩ := hP (ah - 1) (by omega)
 refine wp_seq ?_
 refine wp_seq (wp_region_lit ?_)
 refine wp_pure HF HM rfl 6 [[1], []] ((jZ b o n c s fb big ak aj au ah aW sd) ++ [(1206, .bool (((ah : Nat) : Int) == 0))]) (by kernel_rfl) ?_
 clear HF; intro a HF
 rw [show (((ah : Nat) : Int) == 0) = false from beq_eq_false_iff_ne.2 (by omega)] at HF
 refine aA ?_
 refine aY HF rfl ?_
 refine wp_skip ?_
 repeat (first | refine aK ?_ | refine aP ?_)
 replace HF := HF.sub (jZ b o n c s fb big ak aj au ah aW sd) (by kernel_rfl)
 refine wp_seq ?_
 refine wp_seq (wp_region_lit ?_)
 refine wp_pure HF HM rfl 2 [] ((jZ b o n c s fb big ak aj au ah aW sd) ++ [(1209, .bool ((((ah - 1) : Nat) : Int) == 0))]) (by kernel_rfl) ?_
 clear HF; intro a HF
 rw [show ((((ah - 1) : Nat) : Int) == 0) = false from beq_eq_false_iff_ne.2 (by omega)] at HF
 refine aA ?_
 refine aY HF rfl ?_
 refine wp_skip ?_
 repeat (first | refine aK ?_ | refine aP ?_)
 replace HF := HF.sub (jZ b o n c s fb big ak aj au ah aW sd) (by kernel_rfl)
 refine wp_seq (wp_region_lit ?_)
 refine wp_pure HF HM rfl 5 [[1]] ((jZ b o n c s fb big ak aj au ah aW sd) ++ [(1214, aC aV ah ah), (1215, ay (ah - 1))]) (by kernel_rfl) ?_
 clear HF; intro a HF
 refine dG HF (by kernel_rfl) (.pointer (some ⟨aV, ah - 1, none⟩)) (by kernel_rfl) (qY (t := 126) Tryd.underlying126 his hss rfl (ah - 1) rfl rfl (by omega)) ?_
 clear HF; intro a HF; replace HF := HF.sub ((jZ b o n c s fb big ak aj au ah aW sd) ++ [(1214, aC aV ah ah), (1215, ay (ah - 1)), (1216, .pointer (some ⟨aV, ah - 1, none⟩))]) (by kernel_rfl)
 refine dG HF (by kernel_rfl) (aB pq) (by kernel_rfl) (dV rfl rfl (by kernel_rfl) (HM.cellAt (i := 2) (k := ah - 1) rfl q1)) ?_
 clear HF; intro a HF; replace HF := HF.sub ((jZ b o n c s fb big ak aj au ah aW sd) ++ [(1214, aC aV ah ah), (1215, ay (ah - 1)), (1216, .pointer (some ⟨aV, ah - 1, none⟩)), (1217, aB pq)]) (by kernel_rfl)
 refine wp_pure HF HM rfl 1 [] ((jZ b o n c s fb big ak aj au ah aW sd) ++ [(52, aB pq)]) (by kernel_rfl) ?_
 clear HF; intro a HF
 refine aA ?_
 refine wp_seq ?_
 refine wp_seq (wp_region_lit ?_)
 refine wp_pure HF HM rfl 4 [] ((jZ b o n c s fb big ak aj au ah aW sd) ++ [(52, aB pq), (1221, .pointer (some ⟨pq, 1, none⟩))]) (by kernel_rfl) ?_
 clear HF; intro a HF
 refine dG HF (by kernel_rfl) (bn (sc (ah - 1)).ty) (by kernel_rfl) (dV rfl rfl (by kernel_rfl) (by rw [cell_of_row _ pq 1 _ _ _ q4]; rfl)) ?_
 clear HF; intro a HF; replace HF := HF.sub ((jZ b o n c s fb big ak aj au ah aW sd) ++ [(52, aB pq), (1221, .pointer (some ⟨pq, 1, none⟩)), (1222, bn (sc (ah - 1)).ty)]) (by kernel_rfl)
 refine wp_pure HF HM rfl 1 [] ((jZ b o n c s fb big ak aj au ah aW sd) ++ [(52, aB pq), (1223, .bool ((((sc (ah - 1)).ty : Nat) : Int) != 3))]) (by kernel_rfl) ?_
 clear HF; intro a HF
 rw [show ((((sc (ah - 1)).ty : Nat) : Int) != 3) = false from by rw [hty]; rfl] at HF
 refine aA ?_
 refine aY HF rfl ?_
 refine wp_skip ?_
 repeat (first | refine aK ?_ | refine aP ?_)
 replace HF := HF.sub ((jZ b o n c s fb big ak aj au ah aW sd) ++ [(52, aB pq)]) (by kernel_rfl)
 refine wp_seq (wp_region_lit ?_)
 refine wp_pure HF HM rfl 1 [] ((jZ b o n c s fb big ak aj au ah aW sd) ++ [(52, aB pq), (1239, aB pq)]) (by kernel_rfl) ?_
 clear HF; intro a HF
 refine bf HF (by kernel_rfl) 63 #[aB pq] (by kernel_rfl) (fun w => by kernel_rfl) (Calls.mono (Am ⟨#[]⟩ (((sc (ah - 1)).ty : Nat) : Int) (((sc (ah - 1)).flags : Nat) : Int) (((sc (ah - 1)).addr : Nat) : Int) (((sc (ah - 1)).off : Nat) : Int) (((sc (ah - 1)).link : Nat) : Int) (((sc (ah - 1)).info : Nat) : Int) (((sc (ah - 1)).align : Nat) : Int) (((sc (ah - 1)).ent : Nat) : Int) (((sc (ah - 1)).bP : Nat) : Int) (.iface 144 (aB sq)) (aF 0) (aF 0) pq sq (by rw [hty]; rfl) hfl (.inl (by decide)) l b o n c hl hnc (sc (ah - 1)).bP (sc (ah - 1)).off (((sc (ah - 1)).off : Nat) : Int) ((((sc (ah - 1)).bP : Nat) : Int) + (((sc (ah - 1)).off : Nat) : Int)) (((sc (ah - 1)).bP : Nat) : Int) (by omega) (by omega) (by omega) (by omega) (by omega) (by omega) (by omega) w q4 q5 (Nat.lt_of_lt_of_le hbl HM.size) (by omega) (by omega) (dD q4 q5 (by decide)) (HM.row hr (by intro b' o' s' e; injection e with e; injection e with e; subst e; exact yc))) ?_)
 rintro _ w1 ⟨dQ, rfl, hb, hge, hgn⟩
 replace HM : Mm G w0 w1 [(dQ, .cells (((l.drop ((sc (ah - 1)).off + 0)).take (sc (ah - 1)).bP).map Bv).toArray 5 (0, 0)), (sd, .cells (X.map Bv).toArray 5 (0, 0)), (aW, .cells nms 36 (0, 0)), (aV, .cells cur 133 (0, 0)), (fb, .cells #[aQ 1, .int .u8 dat, aQ 1, aX abi, aX aH, (aS big), bF aU, bF aJ, aI aG, aC aV ah ah, aC pg aj aj, aN, aN, aN] 131 (0, 0)), (s, .cells #[.iface 178 (.slice (some ⟨b, o, none⟩) n c), aF 0, aF 0, aF 9223372036854775807, aF 9223372036854775807] 246 (0, 0))] := HM.push hb hge hgn
 clear hge hgn
 refine ⟨_, rfl, ?_⟩; clear HF; intro a HF; replace HF := HF.sub ((jZ b o n c s fb big ak aj au ah aW sd) ++ [(52, aB pq), (1239, aB pq), (1240, .tuple #[aC dQ (sc (ah - 1)).bP (sc (ah - 1)).bP, .nilIface])]) (by kernel_rfl)
 refine wp_pure HF HM rfl 5 [] ((jZ b o n c s fb big ak aj au ah aW sd) ++ [(52, aB pq), (53, aC dQ (sc (ah - 1)).bP (sc (ah - 1)).bP), (37, .nilIface)]) (by kernel_rfl) ?_
 clear HF; intro a HF
 refine aA ?_
 refine wp_seq ?_
 refine wp_seq (wp_region_lit ?_)
 refine wp_pure HF HM rfl 2 [] ((jZ b o n c s fb big ak aj au ah aW sd) ++ [(52, aB pq), (53, aC dQ (sc (ah - 1)).bP (sc (ah - 1)).bP), (37, .nilIface), (1244, .bool false)]) (by kernel_rfl) ?_
 clear HF; intro a HF
 refine aA ?_
 refine aY HF rfl ?_
 refine wp_skip ?_
 repeat (first | refine aK ?_ | refine aP ?_)
 replace HF := HF.sub ((jZ b o n c s fb big ak aj au ah aW sd) ++ [(53, aC dQ (sc (ah - 1)).bP (sc (ah - 1)).bP)]) (by kernel_rfl)
 replace HF := HF.sub ((jZ b o n c s fb big ak aj au ah aW sd) ++ [(53, aC dQ (sc (ah - 1)).bP (sc (ah - 1)).bP)]) (by kernel_rfl)
 rw [Nat.add_zero] at HM
 exact K a w1 dQ (hP.keep (Keep.of_below hb) (by intro g hg; cases hg)) HF HM

abbrev jY := fun (b : Nat) (o : Nat) (n : Nat) (c : Nat) (s : Nat) (fb : Nat) (big : Bool) (ak : Nat) (aj : Nat) (au : Nat) (ah : Nat) (aW : Nat) (sd : Nat) => ([(0, .iface 178 (.slice (some ⟨b, o, none⟩) n c)), (4, aB s), (8, aB fb), (9, (aS big)), (10, ay ak), (11, aF 56), (12, ay aj), (13, ay au), (14, aF 64), (15, ay ah), (16, ay (ah - 1)), (26, aF 64), (41, aC aW ah ah), (42, aC sd (ah * 64) (ah * 64))] : Slots)
theorem PE (l : List UInt8) (b o n c : Nat) (hl : n = l.length) (hnc : n ≤ c) (big : Bool) (abi aH aU aJ aG ak aj au ah : Nat) (dat : Int) (b1 : aU < 65536) (b2 : aJ < 65536) (b3 : aG ≤ 18446744073709551615) (b4 : ak < 4611686018427387904) (b5 : au < 4611686018427387904) (b6 : aj < 200) (b7 : ah < 200) (X : List UInt8) (sc : Nat → jy) (c3 : 1 < ah) (hty : (sc (ah - 1)).ty = 3) (hfl : (qO ((((sc (ah - 1)).flags : Nat) : Int)) 2048 == 0) = true) (f1 : 0 < (sc (ah - 1)).bP) (f2 : (sc (ah - 1)).bP < 10485760) (f3 : (sc (ah - 1)).off + (sc (ah - 1)).bP ≤ n) (f4 : n ≤ 4611686018427387904) (G : List Nat) (w0 : World) (hbl : b < w0.heap.size) (hr : Row w0 (some ⟨b, o, none⟩) (l.map Bv)) (yc : b ∉ G) (s fb pg aV aW sd : Nat) {Q : Exit → Act → World → Prop} (a : Act) (w : World) (cur nms : Array Value) (hP : jd b o n c w0.heap.size w sc (fun _ => ⟨#[]⟩) ah cur) (HF : Fr 1287 a (jY b o n c s fb big ak aj au ah aW sd)) (HM : Mm G w0 w [(sd, .cells (X.map Bv).toArray 5 (0, 0)), (aW, .cells nms 36 (0, 0)), (aV, .cells cur 133 (0, 0)), (fb, .cells #[aQ 2, .int .u8 dat, aQ 1, aX abi, aX aH, (aS big), bF aU, bF aJ, aI aG, aC aV ah ah, aC pg aj aj, aN, aN, aN] 131 (0, 0)), (s, .cells #[.iface 178 (.slice (some ⟨b, o, none⟩) n c), aF 0, aF 0, aF 9223372036854775807, aF 9223372036854775807] 246 (0, 0))])
  (K : ∀ a w' dQ, jd b o n c w0.heap.size w' sc (fun _ => ⟨#[]⟩) ah cur → Fr 1287 a ((jY b o n c s fb big ak aj au ah aW sd) ++ [(53, aC dQ (sc (ah - 1)).bP (sc (ah - 1)).bP)]) → Mm G w0 w' [(dQ, .cells (((l.drop (sc (ah - 1)).off).take (sc (ah - 1)).bP).map Bv).toArray 5 (0, 0)), (sd, .cells (X.map Bv).toArray 5 (0, 0)), (aW, .cells nms 36 (0, 0)), (aV, .cells cur 133 (0, 0)), (fb, .cells #[aQ 2, .int .u8 dat, aQ 1, aX abi, aX aH, (aS big), bF aU, bF aJ, aI aG, aC aV ah ah, aC pg aj aj, aN, aN, aN] 131 (0, 0)), (s, .cells #[.iface 178 (.slice (some ⟨b, o, none⟩) n c), aF 0, aF 0, aF 9223372036854775807, aF 9223372036854775807] 246 (0, 0))] → (spine Tryd.f78 51).wp Tryd.prog Q a w') : (spine Tryd.f78 45).wp Tryd.prog Q a w := by
 obtain ⟨i0, his, hss⟩ := yE
 obtain ⟨pq, sq, q1, q2, q3, q4, q5⟩ := hP (ah - 1) (by omega)
 refine wp_seq ?_
 refine wp_seq (wp_region_lit ?_)
 refine wp_pure HF HM rfl 6 [[1], []] ((jY b o n c s fb big ak aj au ah aW sd) ++ [(1206, .bool (((ah : Nat) : Int) == 0))]) (by kernel_rfl) ?_
 clear HF; intro a HF
 rw [show (((ah : Nat) : Int) == 0) = false from beq_eq_false_iff_ne.2 (by omega)] at HF
 refine aA ?_
 refine aY HF rfl ?_
 refine wp_skip ?_
 repeat (first | refine aK ?_ | refine aP ?_)
 replace HF := HF.sub (jY b o n c s fb big ak aj au ah aW sd) (by kernel_rfl)
 refine wp_seq ?_
 refine wp_seq (wp_region_lit ?_)
 refine wp_pure HF HM rfl 2 [] ((jY b o n c s fb big ak aj au ah aW sd) ++ [(1209, .bool ((((ah - 1) : Nat) : Int) == 0))]) (by kernel_rfl) ?_
 clear HF; intro a HF
 rw [show ((((ah - 1) : Nat) : Int) == 0) = false from beq_eq_false_iff_ne.2 (by omega)] at HF
 refine aA ?_
 refine aY HF rfl ?_
 refine wp_skip ?_
 repeat (first | refine aK ?_ | refine aP ?_)
 replace HF := HF.sub (jY b o n c s fb big ak aj au ah aW sd) (by kernel_rfl)
 refine wp_seq (wp_region_lit ?_)
 refine wp_pure HF HM rfl 5 [[1]] ((jY b o n c s fb big ak aj au ah aW sd) ++ [(1214, aC aV ah ah), (1215, ay (ah - 1))]) (by kernel_rfl) ?_
 clear HF; intro a HF
 refine dG HF (by kernel_rfl) (.pointer (some ⟨aV, ah - 1, none⟩)) (by kernel_rfl) (qY (t := 126) Tryd.underlying126 his hss rfl (ah - 1) rfl rfl (by omega)) ?_
 clear HF; intro a HF; replace HF := HF.sub ((jY b o n c s fb big ak aj au ah aW sd) ++ [(1214, aC aV ah ah), (1215, ay (ah - 1)), (1216, .pointer (some ⟨aV, ah - 1, none⟩))]) (by kernel_rfl)
 refine dG HF (by kernel_rfl) (aB pq) (by kernel_rfl) (dV rfl rfl (by kernel_rfl) (HM.cellAt (i := 2) (k := ah - 1) rfl q1)) ?_
 clear HF; intro a HF; replace HF := HF.sub ((jY b o n c s fb big ak aj au ah aW sd) ++ [(1214, aC aV ah ah), (1215, ay (ah - 1)), (1216, .pointer (some ⟨aV, ah - 1, none⟩)), (1217, aB pq)]) (by kernel_rfl)
 refine wp_pure HF HM rfl 1 [] ((jY b o n c s fb big ak aj au ah aW sd) ++ [(52, aB pq)]) (by kernel_rfl) ?_
 clear HF; intro a HF
 refine aA ?_
 refine wp_seq ?_
 refine wp_seq (wp_region_lit ?_)
 refine wp_pure HF HM rfl 4 [] ((jY b o n c s fb big ak aj au ah aW sd) ++ [(52, aB pq), (1221, .pointer (some ⟨pq, 1, none⟩))]) (by kernel_rfl) ?_
 clear HF; intro a HF
 refine dG HF (by kernel_rfl) (bn (sc (ah - 1)).ty) (by kernel_rfl) (dV rfl rfl (by kernel_rfl) (by rw [cell_of_row _ pq 1 _ _ _ q4]; rfl)) ?_
 clear HF; intro a HF; replace HF := HF.sub ((jY b o n c s fb big ak aj au ah aW sd) ++ [(52, aB pq), (1221, .pointer (some ⟨pq, 1, none⟩)), (1222, bn (sc (ah - 1)).ty)]) (by kernel_rfl)
 refine wp_pure HF HM rfl 1 [] ((jY b o n c s fb big ak aj au ah aW sd) ++ [(52, aB pq), (1223, .bool ((((sc (ah - 1)).ty : Nat) : Int) != 3))]) (by kernel_rfl) ?_
 clear HF; intro a HF
 rw [show ((((sc (ah - 1)).ty : Nat) : Int) != 3) = false from by rw [hty]; rfl] at HF
 refine aA ?_
 refine aY HF rfl ?_
 refine wp_skip ?_
 repeat (first | refine aK ?_ | refine aP ?_)
 replace HF := HF.sub ((jY b o n c s fb big ak aj au ah aW sd) ++ [(52, aB pq)]) (by kernel_rfl)
 refine wp_seq (wp_region_lit ?_)
 refine wp_pure HF HM rfl 1 [] ((jY b o n c s fb big ak aj au ah aW sd) ++ [(52, aB pq), (1239, aB pq)]) (by kernel_rfl) ?_
 clear HF; intro a HF
 refine bf HF (by kernel_rfl) 63 #[aB pq] (by kernel_rfl) (fun w => by kernel_rfl) (Calls.mono (Am ⟨#[]⟩ (((sc (ah - 1)).ty : Nat) : Int) (((sc (ah - 1)).flags : Nat) : Int) (((sc (ah - 1)).addr : Nat) : Int) (((sc (ah - 1)).off : Nat) : Int) (((sc (ah - 1)).link : Nat) : Int) (((sc (ah - 1)).info : Nat) : Int) (((sc (ah - 1)).align : Nat) : Int) (((sc (ah - 1)).ent : Nat) : Int) (((sc (ah - 1)).bP : Nat) : Int) (.iface 144 (aB sq)) (aF 0) (aF 0) pq sq (by rw [hty]; rfl) hfl (.inl (by decide)) l b o n c hl hnc (sc (ah - 1)).bP (sc (ah - 1)).off (((sc (ah - 1)).off : Nat) : Int) ((((sc (ah - 1)).bP : Nat) : Int) + (((sc (ah - 1)).off : Nat) : Int)) (((sc (ah - 1)).bP : Nat) : Int) (by omega) (by omega) (by omega) (by omega) (by omega) (by omega) (by omega) w q4 q5 (Nat.lt_of_lt_of_le hbl HM.size) (by omega) (by omega) (dD q4 q5 (by decide)) (HM.row hr (by intro b' o' s' e; injection e with e; injection e with e; subst e; exact yc))) ?_)
 rintro _ w1 ⟨dQ, rfl, hb, hge, hgn⟩
 replace HM : Mm G w0 w1 [(dQ, .cells (((l.drop ((sc (ah - 1)).off + 0)).take (sc (ah - 1)).bP).map Bv).toArray 5 (0, 0)), (sd, .cells (X.map Bv).toArray 5 (0, 0)), (aW, .cells nms 36 (0, 0)), (aV, .cells cur 133 (0, 0)), (fb, .cells #[aQ 2, .int .u8 dat, aQ 1, aX abi, aX aH, (aS big), bF aU, bF aJ, aI aG, aC aV ah ah, aC pg aj aj, aN, aN, aN] 131 (0, 0)), (s, .cells #[.iface 178 (.slice (some ⟨b, o, none⟩) n c), aF 0, aF 0, aF 9223372036854775807, aF 9223372036854775807] 246 (0, 0))] := HM.push hb hge hgn
 clear hge hgn
 refine ⟨_, rfl, ?_⟩; clear HF; intro a HF; replace HF := HF.sub ((jY b o n c s fb big ak aj au ah aW sd) ++ [(52, aB pq), (1239, aB pq), (1240, .tuple #[aC dQ (sc (ah - 1)).bP (sc (ah - 1)).bP, .nilIface])]) (by kernel_rfl)
 refine wp_pure HF HM rfl 5 [] ((jY b o n c s fb big ak aj au ah aW sd) ++ [(52, aB pq), (53, aC dQ (sc (ah - 1)).bP (sc (ah - 1)).bP), (37, .nilIface)]) (by kernel_rfl) ?_
 clear HF; intro a HF
 refine aA ?_
 refine wp_seq ?_
 refine wp_seq (wp_region_lit ?_)
 refine wp_pure HF HM rfl 2 [] ((jY b o n c s fb big ak aj au ah aW sd) ++ [(52, aB pq), (53, aC dQ (sc (ah - 1)).bP (sc (ah - 1)).bP), (37, .nilIface), (1244, .bool false)]) (by kernel_rfl) ?_
 clear HF; intro a HF
 refine aA ?_
 refine aY HF rfl ?_
 refine wp_skip ?_
 repeat (first | refine aK ?_ | refine aP ?_)
 replace HF := HF.sub ((jY b o n c s fb big ak aj au ah aW sd) ++ [(53, aC dQ (sc (ah - 1)).bP (sc (ah - 1)).bP)]) (by kernel_rfl)
 replace HF := HF.sub ((jY b o n c s fb big ak aj au ah aW sd) ++ [(53, aC dQ (sc (ah - 1)).bP (sc (ah - 1)).bP)]) (by kernel_rfl)
 rw [Nat.add_zero] at HM
 exact K a w1 dQ (hP.keep (Keep.of_below hb) (by intro g hg; cases hg)) HF HM

end Go.Proofs.YtdgehpocmfjbiaaDoor
namespace Go.Proofs.YtdgehpocmfjbiaaDoor
open Go.RowKit

theorem jd.named {b o n c z : Nat} {w w' : World} {sc : Nat → jy} {nb : Nat → List UInt8} {k i : Nat} {cur : Array Value} {pb sb : Nat} (h : jd b o n c z w sc (fun j => if j < i then ⟨(nb j).toArray⟩ else ⟨#[]⟩) k cur) (hD : oN k cur) (hi : i < k) (hc : cur[i]? = some (aB pb)) (hsb : w.heap[pb]? = some (.cells #[.string ⟨#[]⟩, bn (sc i).ty, bn (sc i).flags, aI (sc i).addr, aI (sc i).off, aI (sc i).bP, bn (sc i).link, bn (sc i).info, aI (sc i).align, aI (sc i).ent, aI (sc i).bP, .iface 144 (aB sb), aB sb, .int .i64 0, .int .i64 0] 153 (0, 0)))
  (hk : Keep [pb] w w') (hn : w'.heap[pb]? = some (.cells #[.string ⟨(nb i).toArray⟩, bn (sc i).ty, bn (sc i).flags, aI (sc i).addr, aI (sc i).off, aI (sc i).bP, bn (sc i).link, bn (sc i).info, aI (sc i).align, aI (sc i).ent, aI (sc i).bP, .iface 144 (aB sb), aB sb, .int .i64 0, .int .i64 0] 153 (0, 0))) : jd b o n c z w' sc (fun j => if j < (i + 1) then ⟨(nb j).toArray⟩ else ⟨#[]⟩) k cur := fun j hj => by
 obtain ⟨pj, sj, h1, h2, h3, h4, h5⟩ := h j hj
 have h5' : w'.heap[sj]? = w.heap[sj]? := hk.block sj (kH h5) (by simpa using dD h5 hsb (by decide))
 by_cases hji : j = i
 ·subst hji
  rw [hc] at h1
  injection h1 with h1
  injection h1 with h1
  injection h1 with h1
  injection h1 with h1
  subst h1
  simp only [Nat.lt_irrefl, ↓reduceIte] at h4
  rw [hsb] at h4
  refine ⟨pb, sj, hc, h2, h3, ?_, h5'.trans h5⟩
  simp only [Nat.lt_add_one, ↓reduceIte]
  rw [hn]
  injection h4 with h4
  injection h4 with h4
  have e := congrArg (fun a => a[12]?) h4
  simp only [List.getElem?_toArray] at e
  injection e with e
  injection e with e
  injection e with e
  injection e with e
  subst e
  rfl
 ·have hne : pj ≠ pb := fun e => by
   subst e
   rcases Nat.lt_or_ge j i with hlt | hge
   ·exact hD j i hlt hi (h1.trans hc.symm)
   ·exact hD i j (by omega) hj (hc.trans h1.symm)
  refine ⟨pj, sj, h1, h2, h3, ?_, h5'.trans h5⟩
  rw [hk.block pj (kH h4) (by simpa using hne), h4]
  have : (j < i + 1) = (j < i) := propext ⟨fun h => by omega, fun h => by omega⟩
  simp only [this]

abbrev mG := fun (b : Nat) (o : Nat) (n : Nat) (c : Nat) (s : Nat) (fb : Nat) (big : Bool) (ak : Nat) (aj : Nat) (au : Nat) (ah : Nat) (aW : Nat) (sd : Nat) (dQ : Nat) (tm : Nat) (aV : Nat) => ([(0, .iface 178 (.slice (some ⟨b, o, none⟩) n c)), (4, aB s), (8, aB fb), (9, (aS big)), (10, ay ak), (11, aF 32), (12, ay aj), (13, ay au), (14, aF 40), (15, ay ah), (16, ay (ah - 1)), (26, aF 40), (41, aC aW ah ah), (42, aC sd (ah * 40) (ah * 40)), (53, aC dQ tm tm), (1249, aC aV ah ah), (1250, ay ah)] : Slots)
abbrev wZ := fun (b : Nat) (o : Nat) (n : Nat) (c : Nat) (s : Nat) (fb : Nat) (big : Bool) (ak : Nat) (aj : Nat) (au : Nat) (ah : Nat) (aW : Nat) (sd : Nat) (dQ : Nat) (tm : Nat) (aV : Nat) (i : Nat) (pb : Nat) => ((mG b o n c s fb big ak aj au ah aW sd dQ tm aV) ++ [(1251, ay i), (54, ay i), (55, aB pb), (56, .bool false)] : Slots)
abbrev BP := fun (pb : Nat) (nb : Nat → List UInt8) (i : Nat) (sc : Nat → jy) (sb : Nat) => ((pb, .cells #[.string ⟨(nb i).toArray⟩, bn (sc i).ty, bn (sc i).flags, aI (sc i).addr, aI (sc i).off, aI (sc i).bP, bn (sc i).link, bn (sc i).info, aI (sc i).align, aI (sc i).ent, aI (sc i).bP, .iface 144 (aB sb), aB sb, aF 0, aF 0] 153 (0, 0)) : Nat × Obj)
theorem SL (l : List UInt8) (b o n c : Nat) (hl : n = l.length) (hnc : n ≤ c) (big : Bool) (ak aj au ah : Nat) (b7 : ah < 200) (sc : Nat → jy) (nb : Nat → List UInt8) (Y : List UInt8) (tm : Nat) (hY : tm = Y.length) (yY : tm ≤ maxLen) (i : Nat) (hi : i < ah) (hv : (sc i).name < 4294967296) (hstr : kR Y (sc i).name = some (nb i)) (s fb pg aV aW sd dQ pb sb : Nat) (cur nms : Array Value) {K0 : Act → World → Prop} {Q : Exit → Act → World → Prop} (a : Act) (W1 : World)
  (hc : cur[i]? = some (aB pb)) (hN : lN sc ah nms) (Qy : W1.heap[aV]? = some (.cells cur 133 (0, 0))) (QC : W1.heap[aW]? = some (.cells nms 36 (0, 0))) (Qv : W1.heap[dQ]? = some (.cells (Y.map Bv).toArray 5 (0, 0))) (hpb : W1.heap[pb]? = some (.cells #[.string ⟨#[]⟩, bn (sc i).ty, bn (sc i).flags, aI (sc i).addr, aI (sc i).off, aI (sc i).bP, bn (sc i).link, bn (sc i).info, aI (sc i).align, aI (sc i).ent, aI (sc i).bP, .iface 144 (aB sb), aB sb, aF 0, aF 0] 153 (0, 0))) (HF : Fr 1287 a ((mG b o n c s fb big ak aj au ah aW sd dQ tm aV) ++ [(1251, ay i)]))
  (K : ∀ a w', Keep [pb] W1 w' → w'.heap[pb]? = some (.cells #[.string ⟨(nb i).toArray⟩, bn (sc i).ty, bn (sc i).flags, aI (sc i).addr, aI (sc i).off, aI (sc i).bP, bn (sc i).link, bn (sc i).info, aI (sc i).align, aI (sc i).ent, aI (sc i).bP, .iface 144 (aB sb), aB sb, aF 0, aF 0] 153 (0, 0)) → Fr 1287 a ((mG b o n c s fb big ak aj au ah aW sd dQ tm aV) ++ [(1251, ay (i + 1))]) → K0 a w') : (pR (spine Tryd.f78 51)).wp Tryd.prog (Exit.then K0 Q) a W1 := by
 obtain ⟨i0, his, hss⟩ := yE
 obtain ⟨i1, hiu, hsu⟩ := Kr
 obtain ⟨w, hw⟩ : ∃ w, W1 = w := ⟨_, rfl⟩
 have HM : Mm [pb] W1 w [(pb, .cells #[.string ⟨#[]⟩, bn (sc i).ty, bn (sc i).flags, aI (sc i).addr, aI (sc i).off, aI (sc i).bP, bn (sc i).link, bn (sc i).info, aI (sc i).align, aI (sc i).ent, aI (sc i).bP, .iface 144 (aB sb), aB sb, aF 0, aF 0] 153 (0, 0))] := hw ▸ Mm.CP hpb
 have hsg := hw ▸ Qy
 have hnm := hw ▸ QC
 have htb := hw ▸ Qv
 conv => arg 5; rw [hw]
 clear hw
 refine wp_seq (wp_region_lit ?_)
 refine wp_pure HF HM rfl 1 [] ((mG b o n c s fb big ak aj au ah aW sd dQ tm aV) ++ [(1251, ay i), (1252, .bool (decide (((i : Nat) : Int) < ((ah : Nat) : Int))))]) (by kernel_rfl) ?_
 clear HF; intro a HF
 rw [show decide (((i : Nat) : Int) < ((ah : Nat) : Int)) = true from dK (by omega)] at HF
 refine aA ?_
 refine wp_seq ?_
 refine bD HF rfl ?_
 refine wp_skip ?_
 repeat (first | refine aK ?_ | refine aP ?_)
 replace HF := HF.sub ((mG b o n c s fb big ak aj au ah aW sd dQ tm aV) ++ [(1251, ay i)]) (by kernel_rfl)
 refine wp_seq (wp_block ?_)
 refine wp_seq (wp_region_lit ?_)
 refine wp_pure HF HM rfl 1 [] ((mG b o n c s fb big ak aj au ah aW sd dQ tm aV) ++ [(1251, ay i), (1253, ay i)]) (by kernel_rfl) ?_
 clear HF; intro a HF
 refine dG HF (by kernel_rfl) (.pointer (some ⟨aV, i, none⟩)) (by kernel_rfl) (qY (t := 126) Tryd.underlying126 his hss rfl i rfl rfl (by omega)) ?_
 clear HF; intro a HF; replace HF := HF.sub ((mG b o n c s fb big ak aj au ah aW sd dQ tm aV) ++ [(1251, ay i), (1253, ay i), (1254, .pointer (some ⟨aV, i, none⟩))]) (by kernel_rfl)
 refine dG HF (by kernel_rfl) (aB pb) (by kernel_rfl) (dV rfl rfl (by kernel_rfl) ((cell_of_row w aV i _ _ _ hsg).trans hc)) ?_
 clear HF; intro a HF; replace HF := HF.sub ((mG b o n c s fb big ak aj au ah aW sd dQ tm aV) ++ [(1251, ay i), (1253, ay i), (1254, .pointer (some ⟨aV, i, none⟩)), (1255, aB pb)]) (by kernel_rfl)
 refine wp_pure HF HM rfl 2 [] ((mG b o n c s fb big ak aj au ah aW sd dQ tm aV) ++ [(1251, ay i), (54, ay i), (55, aB pb)]) (by kernel_rfl) ?_
 clear HF; intro a HF
 refine aA ?_
 refine oK HF HM rfl [] (wZ b o n c s fb big ak aj au ah aW sd dQ tm aV i pb) (by kernel_rfl) ?_
 clear HF; intro a HF
 refine wp_seq (wp_region_lit ?_)
 refine wp_pure HF HM rfl 4 [] ((wZ b o n c s fb big ak aj au ah aW sd dQ tm aV i pb) ++ [(1257, aB pb), (1258, aC dQ tm tm), (1259, aC aW ah ah), (1260, ay i)]) (by kernel_rfl) ?_
 clear HF; intro a HF
 refine dG HF (by kernel_rfl) (.pointer (some ⟨aW, i, none⟩)) (by kernel_rfl) (qY (t := 222) Tryd.underlying222 hiu hsu rfl i rfl rfl (by omega)) ?_
 clear HF; intro a HF; replace HF := HF.sub ((wZ b o n c s fb big ak aj au ah aW sd dQ tm aV i pb) ++ [(1257, aB pb), (1258, aC dQ tm tm), (1259, aC aW ah ah), (1260, ay i), (1261, .pointer (some ⟨aW, i, none⟩))]) (by kernel_rfl)
 refine dG HF (by kernel_rfl) (bn (sc i).name) (by kernel_rfl) (dV rfl rfl (by kernel_rfl) ((cell_of_row w aW i _ _ _ hnm).trans (hN i hi))) ?_
 clear HF; intro a HF; replace HF := HF.sub ((wZ b o n c s fb big ak aj au ah aW sd dQ tm aV i pb) ++ [(1257, aB pb), (1258, aC dQ tm tm), (1259, aC aW ah ah), (1260, ay i), (1261, .pointer (some ⟨aW, i, none⟩)), (1262, bn (sc i).name)]) (by kernel_rfl)
 refine wp_pure HF HM rfl 1 [] ((wZ b o n c s fb big ak aj au ah aW sd dQ tm aV i pb) ++ [(1257, aB pb), (1258, aC dQ tm tm), (1263, aF (IntKind.i64.wrap (((sc i).name : Nat) : Int)))]) (by kernel_rfl) ?_
 clear HF; intro a HF
 rw [show IntKind.i64.wrap (((sc i).name : Nat) : Int) = (((sc i).name : Nat) : Int) from IntWalk.i64_in _ (by omega)] at HF
 refine bf HF (by kernel_rfl) 91 #[aC dQ tm tm, ay (sc i).name] (by kernel_rfl) (fun w => by kernel_rfl) (Calls.mono (Es (some ⟨dQ, 0, none⟩) Y tm tm (((sc i).name : Nat) : Int) hY (Nat.le_refl _) yY w (nJ htb)) ?_)
 rintro _ w1 ⟨rfl, hq⟩
 obtain rfl : w1 = w := hq.symm
 rw [show CO Y (((sc i).name : Nat) : Int) = some (nb i) from (if_neg (by omega)).trans hstr]
 refine ⟨_, rfl, ?_⟩; clear HF; intro a HF; replace HF := HF.sub ((wZ b o n c s fb big ak aj au ah aW sd dQ tm aV i pb) ++ [(1257, aB pb), (1258, aC dQ tm tm), (1263, ay (sc i).name), (1264, .tuple #[.string ⟨(nb i).toArray⟩, .bool true])]) (by kernel_rfl)
 refine aT HF HM rfl 8 [[0]] ((mG b o n c s fb big ak aj au ah aW sd dQ tm aV) ++ [(1251, ay i), (54, ay i), (55, aB pb), (56, .bool true)]) [BP pb nb i sc sb] (by kernel_rfl) ?_
 clear HF HM; intro a w HF HM
 refine aA ?_
 refine wp_seq (wp_region_lit ?_)
 refine aT HF HM rfl 2 [] ((mG b o n c s fb big ak aj au ah aW sd dQ tm aV) ++ [(1251, ay i), (54, ay i), (55, aB pb), (56, .bool true), (1271, .bool false)]) [BP pb nb i sc sb] (by kernel_rfl) ?_
 clear HF HM; intro a w HF HM
 refine aA ?_
 refine aY HF rfl ?_
 refine wp_skip ?_
 repeat (first | refine aK ?_ | refine aP ?_)
 replace HF := HF.sub ((mG b o n c s fb big ak aj au ah aW sd dQ tm aV) ++ [(1251, ay i)]) (by kernel_rfl)
 refine wp_region_lit ?_
 refine aT HF HM rfl 1 [] ((mG b o n c s fb big ak aj au ah aW sd dQ tm aV) ++ [(1251, ay i), (1285, aF (IntKind.i64.wrap (((i : Nat) : Int) + 1)))]) [BP pb nb i sc sb] (by kernel_rfl) ?_
 clear HF HM; intro a w HF HM
 rw [show IntKind.i64.wrap (((i : Nat) : Int) + 1) = (((i + 1) : Nat) : Int) from (IntWalk.i64_in _ (by omega)).trans (by omega)] at HF
 refine aT HF HM rfl 1 [] ((mG b o n c s fb big ak aj au ah aW sd dQ tm aV) ++ [(1251, ay (i + 1))]) [BP pb nb i sc sb] (by kernel_rfl) ?_
 clear HF HM; intro a w HF HM
 refine wpList_nil ?_
 repeat (first | refine aK ?_ | refine aP ?_)
 replace HF := HF.sub ((mG b o n c s fb big ak aj au ah aW sd dQ tm aV) ++ [(1251, ay (i + 1))]) (by kernel_rfl)
 exact K a w HM.keep (HM.get (i := 0) rfl) HF

abbrev mF := fun (b : Nat) (o : Nat) (n : Nat) (c : Nat) (s : Nat) (fb : Nat) (big : Bool) (ak : Nat) (aj : Nat) (au : Nat) (ah : Nat) (aW : Nat) (sd : Nat) (dQ : Nat) (tm : Nat) (aV : Nat) => ([(0, .iface 178 (.slice (some ⟨b, o, none⟩) n c)), (4, aB s), (8, aB fb), (9, (aS big)), (10, ay ak), (11, aF 56), (12, ay aj), (13, ay au), (14, aF 64), (15, ay ah), (16, ay (ah - 1)), (26, aF 64), (41, aC aW ah ah), (42, aC sd (ah * 64) (ah * 64)), (53, aC dQ tm tm), (1249, aC aV ah ah), (1250, ay ah)] : Slots)
abbrev wY := fun (b : Nat) (o : Nat) (n : Nat) (c : Nat) (s : Nat) (fb : Nat) (big : Bool) (ak : Nat) (aj : Nat) (au : Nat) (ah : Nat) (aW : Nat) (sd : Nat) (dQ : Nat) (tm : Nat) (aV : Nat) (i : Nat) (pb : Nat) => ((mF b o n c s fb big ak aj au ah aW sd dQ tm aV) ++ [(1251, ay i), (54, ay i), (55, aB pb), (56, .bool false)] : Slots)
abbrev BO := fun (pb : Nat) (nb : Nat → List UInt8) (i : Nat) (sc : Nat → jy) (sb : Nat) => ((pb, .cells #[.string ⟨(nb i).toArray⟩, bn (sc i).ty, bn (sc i).flags, aI (sc i).addr, aI (sc i).off, aI (sc i).bP, bn (sc i).link, bn (sc i).info, aI (sc i).align, aI (sc i).ent, aI (sc i).bP, .iface 144 (aB sb), aB sb, aF 0, aF 0] 153 (0, 0)) : Nat × Obj)
theorem SK (l : List UInt8) (b o n c : Nat) (hl : n = l.length) (hnc : n ≤ c) (big : Bool) (ak aj au ah : Nat) (b7 : ah < 200) (sc : Nat → jy) (nb : Nat → List UInt8) (Y : List UInt8) (tm : Nat) (hY : tm = Y.length) (yY : tm ≤ maxLen) (i : Nat) (hi : i < ah) (hv : (sc i).name < 4294967296) (hstr : kR Y (sc i).name = some (nb i)) (s fb pg aV aW sd dQ pb sb : Nat) (cur nms : Array Value) {K0 : Act → World → Prop} {Q : Exit → Act → World → Prop} (a : Act) (W1 : World)
  (hc : cur[i]? = some (aB pb)) (hN : lN sc ah nms) (Qy : W1.heap[aV]? = some (.cells cur 133 (0, 0))) (QC : W1.heap[aW]? = some (.cells nms 36 (0, 0))) (Qv : W1.heap[dQ]? = some (.cells (Y.map Bv).toArray 5 (0, 0))) (hpb : W1.heap[pb]? = some (.cells #[.string ⟨#[]⟩, bn (sc i).ty, bn (sc i).flags, aI (sc i).addr, aI (sc i).off, aI (sc i).bP, bn (sc i).link, bn (sc i).info, aI (sc i).align, aI (sc i).ent, aI (sc i).bP, .iface 144 (aB sb), aB sb, aF 0, aF 0] 153 (0, 0))) (HF : Fr 1287 a ((mF b o n c s fb big ak aj au ah aW sd dQ tm aV) ++ [(1251, ay i)]))
  (K : ∀ a w', Keep [pb] W1 w' → w'.heap[pb]? = some (.cells #[.string ⟨(nb i).toArray⟩, bn (sc i).ty, bn (sc i).flags, aI (sc i).addr, aI (sc i).off, aI (sc i).bP, bn (sc i).link, bn (sc i).info, aI (sc i).align, aI (sc i).ent, aI (sc i).bP, .iface 144 (aB sb), aB sb, aF 0, aF 0] 153 (0, 0)) → Fr 1287 a ((mF b o n c s fb big ak aj au ah aW sd dQ tm aV) ++ [(1251, ay (i + 1))]) → K0 a w') : (pR (spine Tryd.f78 51)).wp Tryd.prog (Exit.then K0 Q) a W1 := by
 obtain ⟨i0, his, hss⟩ := yE
 obtain ⟨i1, hiu, hsu⟩ := Kr
 obtain ⟨w, hw⟩ : ∃ w, W1 = w := ⟨_, rfl⟩
 have HM : Mm [pb] W1 w [(pb, .cells #[.string ⟨#[]⟩, bn (sc i).ty, bn (sc i).flags, aI (sc i).addr, aI (sc i).off, aI (sc i).bP, bn (sc i).link, bn (sc i).info, aI (sc i).align, aI (sc i).ent, aI (sc i).bP, .iface 144 (aB sb), aB sb, aF 0, aF 0] 153 (0, 0))] := hw ▸ Mm.CP hpb
 have hsg := hw ▸ Qy
 have hnm := hw ▸ QC
 have htb := hw ▸ Qv
 conv => arg 5; rw [hw]
 clear hw
 refine wp_seq (wp_region_lit ?_)
 refine wp_pure HF HM rfl 1 [] ((mF b o n c s fb big ak aj au ah aW sd dQ tm aV) ++ [(1251, ay i), (1252, .bool (decide (((i : Nat) : Int) < ((ah : Nat) : Int))))]) (by kernel_rfl) ?_
 clear HF; intro a HF
 rw [show decide (((i : Nat) : Int) < ((ah : Nat) : Int)) = true from dK (by omega)] at HF
 refine aA ?_
 refine wp_seq ?_
 refine bD HF rfl ?_
 refine wp_skip ?_
 repeat (first | refine aK ?_ | refine aP ?_)
 replace HF := HF.sub ((mF b o n c s fb big ak aj au ah aW sd dQ tm aV) ++ [(1251, ay i)]) (by kernel_rfl)
 refine wp_seq (wp_block ?_)
 refine wp_seq (wp_region_lit ?_)
 refine wp_pure HF HM rfl 1 [] ((mF b o n c s fb big ak aj au ah aW sd dQ tm aV) ++ [(1251, ay i), (1253, ay i)]) (by kernel_rfl) ?_
 clear HF; intro a HF
 refine dG HF (by kernel_rfl) (.pointer (some ⟨aV, i, none⟩)) (by kernel_rfl) (qY (t := 126) Tryd.underlying126 his hss rfl i rfl rfl (by omega)) ?_
 clear HF; intro a HF; replace HF := HF.sub ((mF b o n c s fb big ak aj au ah aW sd dQ tm aV) ++ [(1251, ay i), (1253, ay i), (1254, .pointer (some ⟨aV, i, none⟩))]) (by kernel_rfl)
 refine dG HF (by kernel_rfl) (aB pb) (by kernel_rfl) (dV rfl rfl (by kernel_rfl) ((cell_of_row w aV i _ _ _ hsg).trans hc)) ?_
 clear HF; intro a HF; replace HF := HF.sub ((mF b o n c s fb big ak aj au ah aW sd dQ tm aV) ++ [(1251, ay i), (1253, ay i), (1254, .pointer (some ⟨aV, i, none⟩)), (1255, aB pb)]) (by kernel_rfl)
 refine wp_pure HF HM rfl 2 [] ((mF b o n c s fb big ak aj au ah aW sd dQ tm aV) ++ [(1251, ay i), (54, ay i), (55, aB pb)]) (by kernel_rfl) ?_
 clear HF; intro a HF
 refine aA ?_
 refine oK HF HM rfl [] (wY b o n c s fb big ak aj au ah aW sd dQ tm aV i pb) (by kernel_rfl) ?_
 clear HF; intro a HF
 refine wp_seq (wp_region_lit ?_)
 refine wp_pure HF HM rfl 4 [] ((wY b o n c s fb big ak aj au ah aW sd dQ tm aV i pb) ++ [(1257, aB pb), (1258, aC dQ tm tm), (1259, aC aW ah ah), (1260, ay i)]) (by kernel_rfl) ?_
 clear HF; intro a HF
 refine dG HF (by kernel_rfl) (.pointer (some ⟨aW, i, none⟩)) (by kernel_rfl) (qY (t := 222) Tryd.underlying222 hiu hsu rfl i rfl rfl (by omega)) ?_
 clear HF; intro a HF; replace HF := HF.sub ((wY b o n c s fb big ak aj au ah aW sd dQ tm aV i pb) ++ [(1257, aB pb), (1258, aC dQ tm tm), (1259, aC aW ah ah), (1260, ay i), (1261, .pointer (some ⟨aW, i, none⟩))]) (by kernel_rfl)
 refine dG HF (by kernel_rfl) (bn (sc i).name) (by kernel_rfl) (dV rfl rfl (by kernel_rfl) ((cell_of_row w aW i _ _ _ hnm).trans (hN i hi))) ?_
 clear HF; intro a HF; replace HF := HF.sub ((wY b o n c s fb big ak aj au ah aW sd dQ tm aV i pb) ++ [(1257, aB pb), (1258, aC dQ tm tm), (1259, aC aW ah ah), (1260, ay i), (1261, .pointer (some ⟨aW, i, none⟩)), (1262, bn (sc i).name)]) (by kernel_rfl)
 refine wp_pure HF HM rfl 1 [] ((wY b o n c s fb big ak aj au ah aW sd dQ tm aV i pb) ++ [(1257, aB pb), (1258, aC dQ tm tm), (1263, aF (IntKind.i64.wrap (((sc i).name : Nat) : Int)))]) (by kernel_rfl) ?_
 clear HF; intro a HF
 rw [show IntKind.i64.wrap (((sc i).name : Nat) : Int) = (((sc i).name : Nat) : Int) from IntWalk.i64_in _ (by omega)] at HF
 refine bf HF (by kernel_rfl) 91 #[aC dQ tm tm, ay (sc i).name] (by kernel_rfl) (fun w => by kernel_rfl) (Calls.mono (Es (some ⟨dQ, 0, none⟩) Y tm tm (((sc i).name : Nat) : Int) hY (Nat.le_refl _) yY w (nJ htb)) ?_)
 rintro _ w1 ⟨rfl, hq⟩
 obtain rfl : w1 = w := hq.symm
 rw [show CO Y (((sc i).name : Nat) : Int) = some (nb i) from (if_neg (by omega)).trans hstr]
 refine ⟨_, rfl, ?_⟩; clear HF; intro a HF; replace HF := HF.sub ((wY b o n c s fb big ak aj au ah aW sd dQ tm aV i pb) ++ [(1257, aB pb), (1258, aC dQ tm tm), (1263, ay (sc i).name), (1264, .tuple #[.string ⟨(nb i).toArray⟩, .bool true])]) (by kernel_rfl)
 refine aT HF HM rfl 8 [[0]] ((mF b o n c s fb big ak aj au ah aW sd dQ tm aV) ++ [(1251, ay i), (54, ay i), (55, aB pb), (56, .bool true)]) [BO pb nb i sc sb] (by kernel_rfl) ?_
 clear HF HM; intro a w HF HM
 refine aA ?_
 refine wp_seq (wp_region_lit ?_)
 refine aT HF HM rfl 2 [] ((mF b o n c s fb big ak aj au ah aW sd dQ tm aV) ++ [(1251, ay i), (54, ay i), (55, aB pb), (56, .bool true), (1271, .bool false)]) [BO pb nb i sc sb] (by kernel_rfl) ?_
 clear HF HM; intro a w HF HM
 refine aA ?_
 refine aY HF rfl ?_
 refine wp_skip ?_
 repeat (first | refine aK ?_ | refine aP ?_)
 replace HF := HF.sub ((mF b o n c s fb big ak aj au ah aW sd dQ tm aV) ++ [(1251, ay i)]) (by kernel_rfl)
 refine wp_region_lit ?_
 refine aT HF HM rfl 1 [] ((mF b o n c s fb big ak aj au ah aW sd dQ tm aV) ++ [(1251, ay i), (1285, aF (IntKind.i64.wrap (((i : Nat) : Int) + 1)))]) [BO pb nb i sc sb] (by kernel_rfl) ?_
 clear HF HM; intro a w HF HM
 rw [show IntKind.i64.wrap (((i : Nat) : Int) + 1) = (((i + 1) : Nat) : Int) from (IntWalk.i64_in _ (by omega)).trans (by omega)] at HF
 refine aT HF HM rfl 1 [] ((mF b o n c s fb big ak aj au ah aW sd dQ tm aV) ++ [(1251, ay (i + 1))]) [BO pb nb i sc sb] (by kernel_rfl) ?_
 clear HF HM; intro a w HF HM
 refine wpList_nil ?_
 repeat (first | refine aK ?_ | refine aP ?_)
 replace HF := HF.sub ((mF b o n c s fb big ak aj au ah aW sd dQ tm aV) ++ [(1251, ay (i + 1))]) (by kernel_rfl)
 exact K a w HM.keep (HM.get (i := 0) rfl) HF

end Go.Proofs.YtdgehpocmfjbiaaDoor
namespace Go.Proofs.YtdgehpocmfjbiaaDoor
open Go.RowKit


theorem RI (l : List UInt8) (b o n c : Nat) (hl : n = l.length) (hnc : n ≤ c) (big : Bool) (abi aH aU aJ aG ak aj au ah : Nat) (dat : Int) (b7 : ah < 200) (X : List UInt8) (sc : Nat → jy) (bd : ∀ i, i < ah → vW (sc i)) (nb : Nat → List UInt8) (Y : List UInt8) (tm : Nat) (hY : tm = Y.length) (yY : tm ≤ maxLen) (hstr : ∀ i, i < ah → kR Y (sc i).name = some (nb i)) (G : List Nat) (w0 : World) (s fb pg aV aW sd dQ : Nat) (cur nms : Array Value) (hN : lN sc ah nms) (hD : oN ah cur) {KK : Act → World → Prop} {QQ : Exit → Act → World → Prop} {KR : Act → World → Prop} (K : ∀ a w, jd b o n c w0.heap.size w sc (fun j => if j < ah then ⟨(nb j).toArray⟩ else ⟨#[]⟩) ah cur → Fr 1287 a [(0, .iface 178 (.slice (some ⟨b, o, none⟩) n c)), (4, aB s), (8, aB fb), (9, (aS big)), (10, ay ak), (11, .int .i64 32), (12, ay aj), (13, ay au), (14, .int .i64 40), (15, ay ah), (16, ay (ah - 1)), (26, .int .i64 40), (41, aC aW ah ah), (42, aC sd (ah * 40) (ah * 40)), (53, aC dQ tm tm)] → Mm G w0 w [(dQ, .cells (Y.map Bv).toArray 5 (0, 0)), (sd, .cells (X.map Bv).toArray 5 (0, 0)), (aW, .cells nms 36 (0, 0)), (aV, .cells cur 133 (0, 0)), (fb, .cells #[.int .u8 1, .int .u8 dat, .int .u8 1, aX abi, aX aH, (aS big), bF aU, bF aJ, aI aG, aC aV ah ah, aC pg aj aj, .slice none 0 0, .slice none 0 0, .slice none 0 0] 131 (0, 0)), (s, .cells #[.iface 178 (.slice (some ⟨b, o, none⟩) n c), .int .i64 0, .int .i64 0, .int .i64 9223372036854775807, .int .i64 9223372036854775807] 246 (0, 0))] → KK a w) (a : Act) (w : World) (hP : jd b o n c w0.heap.size w sc (fun j => if j < ah then ⟨(nb j).toArray⟩ else ⟨#[]⟩) ah cur) (HF : Fr 1287 a [(0, .iface 178 (.slice (some ⟨b, o, none⟩) n c)), (4, aB s), (8, aB fb), (9, (aS big)), (10, ay ak), (11, .int .i64 32), (12, ay aj), (13, ay au), (14, .int .i64 40), (15, ay ah), (16, ay (ah - 1)), (26, .int .i64 40), (41, aC aW ah ah), (42, aC sd (ah * 40) (ah * 40)), (53, aC dQ tm tm), (1249, aC aV ah ah), (1250, ay ah), (1251, ay ah)]) (HM : Mm G w0 w [(dQ, .cells (Y.map Bv).toArray 5 (0, 0)), (sd, .cells (X.map Bv).toArray 5 (0, 0)), (aW, .cells nms 36 (0, 0)), (aV, .cells cur 133 (0, 0)), (fb, .cells #[.int .u8 1, .int .u8 dat, .int .u8 1, aX abi, aX aH, (aS big), bF aU, bF aJ, aI aG, aC aV ah ah, aC pg aj aj, .slice none 0 0, .slice none 0 0, .slice none 0 0] 131 (0, 0)), (s, .cells #[.iface 178 (.slice (some ⟨b, o, none⟩) n c), .int .i64 0, .int .i64 0, .int .i64 9223372036854775807, .int .i64 9223372036854775807] 246 (0, 0))]) :
  (pR (spine Tryd.f78 51)).wp Tryd.prog (Exit.then KR (Exit.inBlock 12 (Exit.then KK QQ))) a w := by
 refine wp_seq (wp_region_lit ?_)
 refine wp_pure HF HM rfl 1 [] [(0, .iface 178 (.slice (some ⟨b, o, none⟩) n c)), (4, aB s), (8, aB fb), (9, (aS big)), (10, ay ak), (11, .int .i64 32), (12, ay aj), (13, ay au), (14, .int .i64 40), (15, ay ah), (16, ay (ah - 1)), (26, .int .i64 40), (41, aC aW ah ah), (42, aC sd (ah * 40) (ah * 40)), (53, aC dQ tm tm), (1249, aC aV ah ah), (1250, ay ah), (1251, ay ah), (1252, .bool (decide (((ah : Nat) : Int) < ((ah : Nat) : Int))))] (by kernel_rfl) ?_
 clear HF; intro a HF
 rw [show decide (((ah : Nat) : Int) < ((ah : Nat) : Int)) = false from cZ (by omega)] at HF
 refine aA ?_
 refine wp_seq ?_
 refine aY HF rfl ?_
 replace HF := HF.sub [(0, .iface 178 (.slice (some ⟨b, o, none⟩) n c)), (4, aB s), (8, aB fb), (9, (aS big)), (10, ay ak), (11, .int .i64 32), (12, ay aj), (13, ay au), (14, .int .i64 40), (15, ay ah), (16, ay (ah - 1)), (26, .int .i64 40), (41, aC aW ah ah), (42, aC sd (ah * 40) (ah * 40)), (53, aC dQ tm tm), (1249, aC aV ah ah), (1250, ay ah), (1251, ay ah)] (by kernel_rfl)
 refine wp_exit ?_
 repeat (first | refine eH ?_ | refine gZ ?_ | refine aK ?_)
 replace HF := HF.sub [(0, .iface 178 (.slice (some ⟨b, o, none⟩) n c)), (4, aB s), (8, aB fb), (9, (aS big)), (10, ay ak), (11, .int .i64 32), (12, ay aj), (13, ay au), (14, .int .i64 40), (15, ay ah), (16, ay (ah - 1)), (26, .int .i64 40), (41, aC aW ah ah), (42, aC sd (ah * 40) (ah * 40)), (53, aC dQ tm tm)] (by kernel_rfl)
 exact K a _ hP HF HM
theorem Nc (l : List UInt8) (b o n c : Nat) (hl : n = l.length) (hnc : n ≤ c) (big : Bool) (abi aH aU aJ aG ak aj au ah : Nat) (dat : Int) (b7 : ah < 200) (X : List UInt8) (sc : Nat → jy) (bd : ∀ i, i < ah → vW (sc i)) (nb : Nat → List UInt8) (Y : List UInt8) (tm : Nat) (hY : tm = Y.length) (yY : tm ≤ maxLen) (hstr : ∀ i, i < ah → kR Y (sc i).name = some (nb i)) (G : List Nat) (w0 : World) (s fb pg aV aW sd dQ : Nat) (cur nms : Array Value) (hN : lN sc ah nms) (hD : oN ah cur) {KK : Act → World → Prop} {QQ : Exit → Act → World → Prop} (K : ∀ a w, jd b o n c w0.heap.size w sc (fun j => if j < ah then ⟨(nb j).toArray⟩ else ⟨#[]⟩) ah cur → Fr 1287 a [(0, .iface 178 (.slice (some ⟨b, o, none⟩) n c)), (4, aB s), (8, aB fb), (9, (aS big)), (10, ay ak), (11, .int .i64 32), (12, ay aj), (13, ay au), (14, .int .i64 40), (15, ay ah), (16, ay (ah - 1)), (26, .int .i64 40), (41, aC aW ah ah), (42, aC sd (ah * 40) (ah * 40)), (53, aC dQ tm tm)] → Mm G w0 w [(dQ, .cells (Y.map Bv).toArray 5 (0, 0)), (sd, .cells (X.map Bv).toArray 5 (0, 0)), (aW, .cells nms 36 (0, 0)), (aV, .cells cur 133 (0, 0)), (fb, .cells #[.int .u8 1, .int .u8 dat, .int .u8 1, aX abi, aX aH, (aS big), bF aU, bF aJ, aI aG, aC aV ah ah, aC pg aj aj, .slice none 0 0, .slice none 0 0, .slice none 0 0] 131 (0, 0)), (s, .cells #[.iface 178 (.slice (some ⟨b, o, none⟩) n c), .int .i64 0, .int .i64 0, .int .i64 9223372036854775807, .int .i64 9223372036854775807] 246 (0, 0))] → KK a w) :
  ∀ (r i : Nat), i + r = ah → ∀ (a : Act) (w : World), jd b o n c w0.heap.size w sc (fun j => if j < i then ⟨(nb j).toArray⟩ else ⟨#[]⟩) ah cur → Fr 1287 a [(0, .iface 178 (.slice (some ⟨b, o, none⟩) n c)), (4, aB s), (8, aB fb), (9, (aS big)), (10, ay ak), (11, .int .i64 32), (12, ay aj), (13, ay au), (14, .int .i64 40), (15, ay ah), (16, ay (ah - 1)), (26, .int .i64 40), (41, aC aW ah ah), (42, aC sd (ah * 40) (ah * 40)), (53, aC dQ tm tm), (1249, aC aV ah ah), (1250, ay ah), (1251, ay i)] → Mm G w0 w [(dQ, .cells (Y.map Bv).toArray 5 (0, 0)), (sd, .cells (X.map Bv).toArray 5 (0, 0)), (aW, .cells nms 36 (0, 0)), (aV, .cells cur 133 (0, 0)), (fb, .cells #[.int .u8 1, .int .u8 dat, .int .u8 1, aX abi, aX aH, (aS big), bF aU, bF aJ, aI aG, aC aV ah ah, aC pg aj aj, .slice none 0 0, .slice none 0 0, .slice none 0 0] 131 (0, 0)), (s, .cells #[.iface 178 (.slice (some ⟨b, o, none⟩) n c), .int .i64 0, .int .i64 0, .int .i64 9223372036854775807, .int .i64 9223372036854775807] 246 (0, 0))] →
  Code.rounds Tryd.prog (pR (spine Tryd.f78 51)) (Exit.inBlock 12 (Exit.then KK QQ)) (r + 1) a w
 | 0, i, hr, a, w, hP, HF, HM => by
  obtain rfl : i = ah := by omega
  rw [rounds_succ]
  exact RI l b o n c hl hnc big abi aH aU aJ aG ak aj au i dat b7 X sc bd nb Y tm hY yY hstr G w0 s fb pg aV aW sd dQ cur nms hN hD K a w hP HF HM
 | r + 1, i, hr, a, w, hP, HF, HM => by
  have hi : i < ah := by omega
  rw [rounds_succ]
  obtain ⟨pb, sb, g1, g2, g3, g4, g5⟩ := hP i hi
  simp only [Nat.lt_irrefl, ↓reduceIte] at g4
  refine SL l b o n c hl hnc big ak aj au ah b7 sc nb Y tm hY yY i hi (bd i hi).v1 (hstr i hi) s fb pg aV aW sd dQ pb sb cur nms a w g1 hN (HM.get (i := 3) rfl) (HM.get (i := 2) rfl) (HM.get (i := 0) rfl) g4 HF ?_
  intro a' w' hk hn FY
  have bT : Mm G w0 w' [(dQ, .cells (Y.map Bv).toArray 5 (0, 0)), (sd, .cells (X.map Bv).toArray 5 (0, 0)), (aW, .cells nms 36 (0, 0)), (aV, .cells cur 133 (0, 0)), (fb, .cells #[.int .u8 1, .int .u8 dat, .int .u8 1, aX abi, aX aH, (aS big), bF aU, bF aJ, aI aG, aC aV ah ah, aC pg aj aj, .slice none 0 0, .slice none 0 0, .slice none 0 0] 131 (0, 0)), (s, .cells #[.iface 178 (.slice (some ⟨b, o, none⟩) n c), .int .i64 0, .int .i64 0, .int .i64 9223372036854775807, .int .i64 9223372036854775807] 246 (0, 0))] := HM.after hk (by
   intro g hg
   simp only [List.mem_cons, List.not_mem_nil, or_false] at hg
   subst hg
   exact .inl g2) rfl (by
   intro p hp
   simp only [List.mem_cons, List.not_mem_nil, or_false] at hp
   rcases hp with rfl | rfl | rfl | rfl | rfl | rfl
   ·exact (hk.block dQ (HM.lt (i := 0) rfl) (by simpa using dD (HM.get (i := 0) rfl) g4 (by decide))).trans (HM.get (i := 0) rfl)
   ·exact (hk.block sd (HM.lt (i := 1) rfl) (by simpa using dD (HM.get (i := 1) rfl) g4 (by decide))).trans (HM.get (i := 1) rfl)
   ·exact (hk.block aW (HM.lt (i := 2) rfl) (by simpa using dD (HM.get (i := 2) rfl) g4 (by decide))).trans (HM.get (i := 2) rfl)
   ·exact (hk.block aV (HM.lt (i := 3) rfl) (by simpa using dD (HM.get (i := 3) rfl) g4 (by decide))).trans (HM.get (i := 3) rfl)
   ·exact (hk.block fb (HM.lt (i := 4) rfl) (by simpa using dD (HM.get (i := 4) rfl) g4 (by decide))).trans (HM.get (i := 4) rfl)
   ·exact (hk.block s (HM.lt (i := 5) rfl) (by simpa using dD (HM.get (i := 5) rfl) g4 (by decide))).trans (HM.get (i := 5) rfl))
  exact Nc l b o n c hl hnc big abi aH aU aJ aG ak aj au ah dat b7 X sc bd nb Y tm hY yY hstr G w0 s fb pg aV aW sd dQ cur nms hN hD K r (i + 1) (by omega) a' w' (hP.named hD hi g1 g4 hk hn) FY bT

theorem PD (l : List UInt8) (b o n c : Nat) (hl : n = l.length) (hnc : n ≤ c) (big : Bool) (abi aH aU aJ aG ak aj au ah : Nat) (dat : Int) (b7 : ah < 200) (X : List UInt8) (sc : Nat → jy) (bd : ∀ i, i < ah → vW (sc i)) (nb : Nat → List UInt8) (Y : List UInt8) (tm : Nat) (hY : tm = Y.length) (yY : tm ≤ maxLen) (hstr : ∀ i, i < ah → kR Y (sc i).name = some (nb i)) (G : List Nat) (w0 : World) (s fb pg aV aW sd dQ : Nat) (cur nms : Array Value) (hN : lN sc ah nms) (hD : oN ah cur) {Q : Exit → Act → World → Prop} (a : Act) (w : World) (hP : jd b o n c w0.heap.size w sc (fun _ => ⟨#[]⟩) ah cur) (HF : Fr 1287 a [(0, .iface 178 (.slice (some ⟨b, o, none⟩) n c)), (4, aB s), (8, aB fb), (9, (aS big)), (10, ay ak), (11, .int .i64 32), (12, ay aj), (13, ay au), (14, .int .i64 40), (15, ay ah), (16, ay (ah - 1)), (26, .int .i64 40), (41, aC aW ah ah), (42, aC sd (ah * 40) (ah * 40)), (53, aC dQ tm tm)]) (HM : Mm G w0 w [(dQ, .cells (Y.map Bv).toArray 5 (0, 0)), (sd, .cells (X.map Bv).toArray 5 (0, 0)), (aW, .cells nms 36 (0, 0)), (aV, .cells cur 133 (0, 0)), (fb, .cells #[.int .u8 1, .int .u8 dat, .int .u8 1, aX abi, aX aH, (aS big), bF aU, bF aJ, aI aG, aC aV ah ah, aC pg aj aj, .slice none 0 0, .slice none 0 0, .slice none 0 0] 131 (0, 0)), (s, .cells #[.iface 178 (.slice (some ⟨b, o, none⟩) n c), .int .i64 0, .int .i64 0, .int .i64 9223372036854775807, .int .i64 9223372036854775807] 246 (0, 0))])
  (K : ∀ a w, jd b o n c w0.heap.size w sc (fun j => if j < ah then ⟨(nb j).toArray⟩ else ⟨#[]⟩) ah cur → Fr 1287 a [(0, .iface 178 (.slice (some ⟨b, o, none⟩) n c)), (4, aB s), (8, aB fb), (9, (aS big)), (10, ay ak), (11, .int .i64 32), (12, ay aj), (13, ay au), (14, .int .i64 40), (15, ay ah), (16, ay (ah - 1)), (26, .int .i64 40), (41, aC aW ah ah), (42, aC sd (ah * 40) (ah * 40)), (53, aC dQ tm tm)] → Mm G w0 w [(dQ, .cells (Y.map Bv).toArray 5 (0, 0)), (sd, .cells (X.map Bv).toArray 5 (0, 0)), (aW, .cells nms 36 (0, 0)), (aV, .cells cur 133 (0, 0)), (fb, .cells #[.int .u8 1, .int .u8 dat, .int .u8 1, aX abi, aX aH, (aS big), bF aU, bF aJ, aI aG, aC aV ah ah, aC pg aj aj, .slice none 0 0, .slice none 0 0, .slice none 0 0] 131 (0, 0)), (s, .cells #[.iface 178 (.slice (some ⟨b, o, none⟩) n c), .int .i64 0, .int .i64 0, .int .i64 9223372036854775807, .int .i64 9223372036854775807] 246 (0, 0))] → (spine Tryd.f78 52).wp Tryd.prog Q a w) : (spine Tryd.f78 51).wp Tryd.prog Q a w := by
 refine wp_seq (wp_seq (wp_region_lit ?_))
 refine wp_pure HF HM rfl 6 [[1], []] [(0, .iface 178 (.slice (some ⟨b, o, none⟩) n c)), (4, aB s), (8, aB fb), (9, (aS big)), (10, ay ak), (11, .int .i64 32), (12, ay aj), (13, ay au), (14, .int .i64 40), (15, ay ah), (16, ay (ah - 1)), (26, .int .i64 40), (41, aC aW ah ah), (42, aC sd (ah * 40) (ah * 40)), (53, aC dQ tm tm), (1249, aC aV ah ah), (1250, ay ah), (1251, ay 0)] (by kernel_rfl) ?_
 clear HF; intro a HF
 refine aA ?_
 refine wp_block (wp_loop_rounds (ah + 1) ?_)
 exact Nc l b o n c hl hnc big abi aH aU aJ aG ak aj au ah dat b7 X sc bd nb Y tm hY yY hstr G w0 s fb pg aV aW sd dQ cur nms hN hD K ah 0 (by omega) a w (by simpa only [Nat.not_lt_zero, ↓reduceIte] using hP) HF HM

theorem RH (l : List UInt8) (b o n c : Nat) (hl : n = l.length) (hnc : n ≤ c) (big : Bool) (abi aH aU aJ aG ak aj au ah : Nat) (dat : Int) (b7 : ah < 200) (X : List UInt8) (sc : Nat → jy) (bd : ∀ i, i < ah → vW (sc i)) (nb : Nat → List UInt8) (Y : List UInt8) (tm : Nat) (hY : tm = Y.length) (yY : tm ≤ maxLen) (hstr : ∀ i, i < ah → kR Y (sc i).name = some (nb i)) (G : List Nat) (w0 : World) (s fb pg aV aW sd dQ : Nat) (cur nms : Array Value) (hN : lN sc ah nms) (hD : oN ah cur) {KK : Act → World → Prop} {QQ : Exit → Act → World → Prop} {KR : Act → World → Prop} (K : ∀ a w, jd b o n c w0.heap.size w sc (fun j => if j < ah then ⟨(nb j).toArray⟩ else ⟨#[]⟩) ah cur → Fr 1287 a [(0, .iface 178 (.slice (some ⟨b, o, none⟩) n c)), (4, aB s), (8, aB fb), (9, (aS big)), (10, ay ak), (11, .int .i64 56), (12, ay aj), (13, ay au), (14, .int .i64 64), (15, ay ah), (16, ay (ah - 1)), (26, .int .i64 64), (41, aC aW ah ah), (42, aC sd (ah * 64) (ah * 64)), (53, aC dQ tm tm)] → Mm G w0 w [(dQ, .cells (Y.map Bv).toArray 5 (0, 0)), (sd, .cells (X.map Bv).toArray 5 (0, 0)), (aW, .cells nms 36 (0, 0)), (aV, .cells cur 133 (0, 0)), (fb, .cells #[.int .u8 2, .int .u8 dat, .int .u8 1, aX abi, aX aH, (aS big), bF aU, bF aJ, aI aG, aC aV ah ah, aC pg aj aj, .slice none 0 0, .slice none 0 0, .slice none 0 0] 131 (0, 0)), (s, .cells #[.iface 178 (.slice (some ⟨b, o, none⟩) n c), .int .i64 0, .int .i64 0, .int .i64 9223372036854775807, .int .i64 9223372036854775807] 246 (0, 0))] → KK a w) (a : Act) (w : World) (hP : jd b o n c w0.heap.size w sc (fun j => if j < ah then ⟨(nb j).toArray⟩ else ⟨#[]⟩) ah cur) (HF : Fr 1287 a [(0, .iface 178 (.slice (some ⟨b, o, none⟩) n c)), (4, aB s), (8, aB fb), (9, (aS big)), (10, ay ak), (11, .int .i64 56), (12, ay aj), (13, ay au), (14, .int .i64 64), (15, ay ah), (16, ay (ah - 1)), (26, .int .i64 64), (41, aC aW ah ah), (42, aC sd (ah * 64) (ah * 64)), (53, aC dQ tm tm), (1249, aC aV ah ah), (1250, ay ah), (1251, ay ah)]) (HM : Mm G w0 w [(dQ, .cells (Y.map Bv).toArray 5 (0, 0)), (sd, .cells (X.map Bv).toArray 5 (0, 0)), (aW, .cells nms 36 (0, 0)), (aV, .cells cur 133 (0, 0)), (fb, .cells #[.int .u8 2, .int .u8 dat, .int .u8 1, aX abi, aX aH, (aS big), bF aU, bF aJ, aI aG, aC aV ah ah, aC pg aj aj, .slice none 0 0, .slice none 0 0, .slice none 0 0] 131 (0, 0)), (s, .cells #[.iface 178 (.slice (some ⟨b, o, none⟩) n c), .int .i64 0, .int .i64 0, .int .i64 9223372036854775807, .int .i64 9223372036854775807] 246 (0, 0))]) :
  (pR (spine Tryd.f78 51)).wp Tryd.prog (Exit.then KR (Exit.inBlock 12 (Exit.then KK QQ))) a w := by
 refine wp_seq (wp_region_lit ?_)
 refine wp_pure HF HM rfl 1 [] [(0, .iface 178 (.slice (some ⟨b, o, none⟩) n c)), (4, aB s), (8, aB fb), (9, (aS big)), (10, ay ak), (11, .int .i64 56), (12, ay aj), (13, ay au), (14, .int .i64 64), (15, ay ah), (16, ay (ah - 1)), (26, .int .i64 64), (41, aC aW ah ah), (42, aC sd (ah * 64) (ah * 64)), (53, aC dQ tm tm), (1249, aC aV ah ah), (1250, ay ah), (1251, ay ah), (1252, .bool (decide (((ah : Nat) : Int) < ((ah : Nat) : Int))))] (by kernel_rfl) ?_
 clear HF; intro a HF
 rw [show decide (((ah : Nat) : Int) < ((ah : Nat) : Int)) = false from cZ (by omega)] at HF
 refine aA ?_
 refine wp_seq ?_
 refine aY HF rfl ?_
 replace HF := HF.sub [(0, .iface 178 (.slice (some ⟨b, o, none⟩) n c)), (4, aB s), (8, aB fb), (9, (aS big)), (10, ay ak), (11, .int .i64 56), (12, ay aj), (13, ay au), (14, .int .i64 64), (15, ay ah), (16, ay (ah - 1)), (26, .int .i64 64), (41, aC aW ah ah), (42, aC sd (ah * 64) (ah * 64)), (53, aC dQ tm tm), (1249, aC aV ah ah), (1250, ay ah), (1251, ay ah)] (by kernel_rfl)
 refine wp_exit ?_
 repeat (first | refine eH ?_ | refine gZ ?_ | refine aK ?_)
 replace HF := HF.sub [(0, .iface 178 (.slice (some ⟨b, o, none⟩) n c)), (4, aB s), (8, aB fb), (9, (aS big)), (10, ay ak), (11, .int .i64 56), (12, ay aj), (13, ay au), (14, .int .i64 64), (15, ay ah), (16, ay (ah - 1)), (26, .int .i64 64), (41, aC aW ah ah), (42, aC sd (ah * 64) (ah * 64)), (53, aC dQ tm tm)] (by kernel_rfl)
 exact K a _ hP HF HM
theorem Nb (l : List UInt8) (b o n c : Nat) (hl : n = l.length) (hnc : n ≤ c) (big : Bool) (abi aH aU aJ aG ak aj au ah : Nat) (dat : Int) (b7 : ah < 200) (X : List UInt8) (sc : Nat → jy) (bd : ∀ i, i < ah → vW (sc i)) (nb : Nat → List UInt8) (Y : List UInt8) (tm : Nat) (hY : tm = Y.length) (yY : tm ≤ maxLen) (hstr : ∀ i, i < ah → kR Y (sc i).name = some (nb i)) (G : List Nat) (w0 : World) (s fb pg aV aW sd dQ : Nat) (cur nms : Array Value) (hN : lN sc ah nms) (hD : oN ah cur) {KK : Act → World → Prop} {QQ : Exit → Act → World → Prop} (K : ∀ a w, jd b o n c w0.heap.size w sc (fun j => if j < ah then ⟨(nb j).toArray⟩ else ⟨#[]⟩) ah cur → Fr 1287 a [(0, .iface 178 (.slice (some ⟨b, o, none⟩) n c)), (4, aB s), (8, aB fb), (9, (aS big)), (10, ay ak), (11, .int .i64 56), (12, ay aj), (13, ay au), (14, .int .i64 64), (15, ay ah), (16, ay (ah - 1)), (26, .int .i64 64), (41, aC aW ah ah), (42, aC sd (ah * 64) (ah * 64)), (53, aC dQ tm tm)] → Mm G w0 w [(dQ, .cells (Y.map Bv).toArray 5 (0, 0)), (sd, .cells (X.map Bv).toArray 5 (0, 0)), (aW, .cells nms 36 (0, 0)), (aV, .cells cur 133 (0, 0)), (fb, .cells #[.int .u8 2, .int .u8 dat, .int .u8 1, aX abi, aX aH, (aS big), bF aU, bF aJ, aI aG, aC aV ah ah, aC pg aj aj, .slice none 0 0, .slice none 0 0, .slice none 0 0] 131 (0, 0)), (s, .cells #[.iface 178 (.slice (some ⟨b, o, none⟩) n c), .int .i64 0, .int .i64 0, .int .i64 9223372036854775807, .int .i64 9223372036854775807] 246 (0, 0))] → KK a w) :
  ∀ (r i : Nat), i + r = ah → ∀ (a : Act) (w : World), jd b o n c w0.heap.size w sc (fun j => if j < i then ⟨(nb j).toArray⟩ else ⟨#[]⟩) ah cur → Fr 1287 a [(0, .iface 178 (.slice (some ⟨b, o, none⟩) n c)), (4, aB s), (8, aB fb), (9, (aS big)), (10, ay ak), (11, .int .i64 56), (12, ay aj), (13, ay au), (14, .int .i64 64), (15, ay ah), (16, ay (ah - 1)), (26, .int .i64 64), (41, aC aW ah ah), (42, aC sd (ah * 64) (ah * 64)), (53, aC dQ tm tm), (1249, aC aV ah ah), (1250, ay ah), (1251, ay i)] → Mm G w0 w [(dQ, .cells (Y.map Bv).toArray 5 (0, 0)), (sd, .cells (X.map Bv).toArray 5 (0, 0)), (aW, .cells nms 36 (0, 0)), (aV, .cells cur 133 (0, 0)), (fb, .cells #[.int .u8 2, .int .u8 dat, .int .u8 1, aX abi, aX aH, (aS big), bF aU, bF aJ, aI aG, aC aV ah ah, aC pg aj aj, .slice none 0 0, .slice none 0 0, .slice none 0 0] 131 (0, 0)), (s, .cells #[.iface 178 (.slice (some ⟨b, o, none⟩) n c), .int .i64 0, .int .i64 0, .int .i64 9223372036854775807, .int .i64 9223372036854775807] 246 (0, 0))] →
  Code.rounds Tryd.prog (pR (spine Tryd.f78 51)) (Exit.inBlock 12 (Exit.then KK QQ)) (r + 1) a w
 | 0, i, hr, a, w, hP, HF, HM => by
  obtain rfl : i = ah := by omega
  rw [rounds_succ]
  exact RH l b o n c hl hnc big abi aH aU aJ aG ak aj au i dat b7 X sc bd nb Y tm hY yY hstr G w0 s fb pg aV aW sd dQ cur nms hN hD K a w hP HF HM
 | r + 1, i, hr, a, w, hP, HF, HM => by
  have hi : i < ah := by omega
  rw [rounds_succ]
  obtain ⟨pb, sb, g1, g2, g3, g4, g5⟩ := hP i hi
  simp only [Nat.lt_irrefl, ↓reduceIte] at g4
  refine SK l b o n c hl hnc big ak aj au ah b7 sc nb Y tm hY yY i hi (bd i hi).v1 (hstr i hi) s fb pg aV aW sd dQ pb sb cur nms a w g1 hN (HM.get (i := 3) rfl) (HM.get (i := 2) rfl) (HM.get (i := 0) rfl) g4 HF ?_
  intro a' w' hk hn FY
  have bT : Mm G w0 w' [(dQ, .cells (Y.map Bv).toArray 5 (0, 0)), (sd, .cells (X.map Bv).toArray 5 (0, 0)), (aW, .cells nms 36 (0, 0)), (aV, .cells cur 133 (0, 0)), (fb, .cells #[.int .u8 2, .int .u8 dat, .int .u8 1, aX abi, aX aH, (aS big), bF aU, bF aJ, aI aG, aC aV ah ah, aC pg aj aj, .slice none 0 0, .slice none 0 0, .slice none 0 0] 131 (0, 0)), (s, .cells #[.iface 178 (.slice (some ⟨b, o, none⟩) n c), .int .i64 0, .int .i64 0, .int .i64 9223372036854775807, .int .i64 9223372036854775807] 246 (0, 0))] := HM.after hk (by
   intro g hg
   simp only [List.mem_cons, List.not_mem_nil, or_false] at hg
   subst hg
   exact .inl g2) rfl (by
   intro p hp
   simp only [List.mem_cons, List.not_mem_nil, or_false] at hp
   rcases hp with rfl | rfl | rfl | rfl | rfl | rfl
   ·exact (hk.block dQ (HM.lt (i := 0) rfl) (by simpa using dD (HM.get (i := 0) rfl) g4 (by decide))).trans (HM.get (i := 0) rfl)
   ·exact (hk.block sd (HM.lt (i := 1) rfl) (by simpa using dD (HM.get (i := 1) rfl) g4 (by decide))).trans (HM.get (i := 1) rfl)
   ·exact (hk.block aW (HM.lt (i := 2) rfl) (by simpa using dD (HM.get (i := 2) rfl) g4 (by decide))).trans (HM.get (i := 2) rfl)
   ·exact (hk.block aV (HM.lt (i := 3) rfl) (by simpa using dD (HM.get (i := 3) rfl) g4 (by decide))).trans (HM.get (i := 3) rfl)
   ·exact (hk.block fb (HM.lt (i := 4) rfl) (by simpa using dD (HM.get (i := 4) rfl) g4 (by decide))).trans (HM.get (i := 4) rfl)
   ·exact (hk.block s (HM.lt (i := 5) rfl) (by simpa using dD (HM.get (i := 5) rfl) g4 (by decide))).trans (HM.get (i := 5) rfl))
  exact Nb l b o n c hl hnc big abi aH aU aJ aG ak aj au ah dat b7 X sc bd nb Y tm hY yY hstr G w0 s fb pg aV aW sd dQ cur nms hN hD K r (i + 1) (by omega) a' w' (hP.named hD hi g1 g4 hk hn) FY bT

theorem Pz (l : List UInt8) (b o n c : Nat) (hl : n = l.length) (hnc : n ≤ c) (big : Bool) (abi aH aU aJ aG ak aj au ah : Nat) (dat : Int) (b7 : ah < 200) (X : List UInt8) (sc : Nat → jy) (bd : ∀ i, i < ah → vW (sc i)) (nb : Nat → List UInt8) (Y : List UInt8) (tm : Nat) (hY : tm = Y.length) (yY : tm ≤ maxLen) (hstr : ∀ i, i < ah → kR Y (sc i).name = some (nb i)) (G : List Nat) (w0 : World) (s fb pg aV aW sd dQ : Nat) (cur nms : Array Value) (hN : lN sc ah nms) (hD : oN ah cur) {Q : Exit → Act → World → Prop} (a : Act) (w : World) (hP : jd b o n c w0.heap.size w sc (fun _ => ⟨#[]⟩) ah cur) (HF : Fr 1287 a [(0, .iface 178 (.slice (some ⟨b, o, none⟩) n c)), (4, aB s), (8, aB fb), (9, (aS big)), (10, ay ak), (11, .int .i64 56), (12, ay aj), (13, ay au), (14, .int .i64 64), (15, ay ah), (16, ay (ah - 1)), (26, .int .i64 64), (41, aC aW ah ah), (42, aC sd (ah * 64) (ah * 64)), (53, aC dQ tm tm)]) (HM : Mm G w0 w [(dQ, .cells (Y.map Bv).toArray 5 (0, 0)), (sd, .cells (X.map Bv).toArray 5 (0, 0)), (aW, .cells nms 36 (0, 0)), (aV, .cells cur 133 (0, 0)), (fb, .cells #[.int .u8 2, .int .u8 dat, .int .u8 1, aX abi, aX aH, (aS big), bF aU, bF aJ, aI aG, aC aV ah ah, aC pg aj aj, .slice none 0 0, .slice none 0 0, .slice none 0 0] 131 (0, 0)), (s, .cells #[.iface 178 (.slice (some ⟨b, o, none⟩) n c), .int .i64 0, .int .i64 0, .int .i64 9223372036854775807, .int .i64 9223372036854775807] 246 (0, 0))])
  (K : ∀ a w, jd b o n c w0.heap.size w sc (fun j => if j < ah then ⟨(nb j).toArray⟩ else ⟨#[]⟩) ah cur → Fr 1287 a [(0, .iface 178 (.slice (some ⟨b, o, none⟩) n c)), (4, aB s), (8, aB fb), (9, (aS big)), (10, ay ak), (11, .int .i64 56), (12, ay aj), (13, ay au), (14, .int .i64 64), (15, ay ah), (16, ay (ah - 1)), (26, .int .i64 64), (41, aC aW ah ah), (42, aC sd (ah * 64) (ah * 64)), (53, aC dQ tm tm)] → Mm G w0 w [(dQ, .cells (Y.map Bv).toArray 5 (0, 0)), (sd, .cells (X.map Bv).toArray 5 (0, 0)), (aW, .cells nms 36 (0, 0)), (aV, .cells cur 133 (0, 0)), (fb, .cells #[.int .u8 2, .int .u8 dat, .int .u8 1, aX abi, aX aH, (aS big), bF aU, bF aJ, aI aG, aC aV ah ah, aC pg aj aj, .slice none 0 0, .slice none 0 0, .slice none 0 0] 131 (0, 0)), (s, .cells #[.iface 178 (.slice (some ⟨b, o, none⟩) n c), .int .i64 0, .int .i64 0, .int .i64 9223372036854775807, .int .i64 9223372036854775807] 246 (0, 0))] → (spine Tryd.f78 52).wp Tryd.prog Q a w) : (spine Tryd.f78 51).wp Tryd.prog Q a w := by
 refine wp_seq (wp_seq (wp_region_lit ?_))
 refine wp_pure HF HM rfl 6 [[1], []] [(0, .iface 178 (.slice (some ⟨b, o, none⟩) n c)), (4, aB s), (8, aB fb), (9, (aS big)), (10, ay ak), (11, .int .i64 56), (12, ay aj), (13, ay au), (14, .int .i64 64), (15, ay ah), (16, ay (ah - 1)), (26, .int .i64 64), (41, aC aW ah ah), (42, aC sd (ah * 64) (ah * 64)), (53, aC dQ tm tm), (1249, aC aV ah ah), (1250, ay ah), (1251, ay 0)] (by kernel_rfl) ?_
 clear HF; intro a HF
 refine aA ?_
 refine wp_block (wp_loop_rounds (ah + 1) ?_)
 exact Nb l b o n c hl hnc big abi aH aU aJ aG ak aj au ah dat b7 X sc bd nb Y tm hY yY hstr G w0 s fb pg aV aW sd dQ cur nms hN hD K ah 0 (by omega) a w (by simpa only [Nat.not_lt_zero, ↓reduceIte] using hP) HF HM

theorem N_ {Q : Exit → Act → World → Prop} (fb : Nat) (a : Act) (w : World) (HF : Fr 1287 a [(8, aB fb)]) (K : ∀ {a}, Fr 1287 a [(2, aB fb), (3, .nilIface)] → Q .ret a w) : (spine Tryd.f78 52).wp Tryd.prog Q a w := by
 have HM : Mm [] w w [] := Mm.start w
 refine wp_seq (wp_region_lit ?_)
 refine wp_pure HF HM rfl 3 [] [(2, aB fb), (3, .nilIface)] (by kernel_rfl) ?_
 clear HF; intro a HF
 refine aA ?_
 exact wp_ret (K HF)

end Go.Proofs.YtdgehpocmfjbiaaDoor
namespace Go.Proofs.YtdgehpocmfjbiaaDoor
open Go.RowKit

/-- a file that has been read, in memory -/
structure rJ (b o n c : Nat) (z : Nat) (w : World) (wide big : Bool) (abi aH aU aJ aG aj ah : Nat) (sg : Nat → nN) (sc : Nat → jy) (nb : Nat → List UInt8) (fb pg aV : Nat) (cur eU : Array Value) : Prop where
 zf : z ≤ fb
 zp : z ≤ pg
 zs : z ≤ aV
 file : w.heap[fb]? = some (.cells #[.int .u8 (if wide then 2 else 1 : Int), .int .u8 (if big then 2 else 1 : Int), .int .u8 1, aX abi, aX aH, (aS big), bF aU, bF aJ, aI aG, aC aV ah ah, aC pg aj aj, .slice none 0 0, .slice none 0 0, .slice none 0 0] 131 (0, 0))
 QW : w.heap[pg]? = some (.cells cur 136 (0, 0))
 size : cur.size = aj
 prog : nD b o n c z w sg aj cur
 secs : w.heap[aV]? = some (.cells eU 133 (0, 0))
 ssize : eU.size = ah
 sec : jd b o n c z w sc (fun j => ⟨(nb j).toArray⟩) ah eU
 ne : oN ah eU
/-- what NewFile asks of the bytes -/
structure wL (l : List UInt8) (n : Nat) (wide big : Bool) (abi aH aU aJ aG ak aj au ah : Nat) (sg : Nat → nN) (sc : Nat → jy) (nb : Nat → List UInt8) : Prop where
 head : Ip l wide big abi aH aU aJ aG ak aj au ah
 a1 : abi < 256
 a2 : aH < 256
 b1 : aU < 65536
 b2 : aJ < 65536
 b3 : aG ≤ 18446744073709551615
 b4 : ak < 4611686018427387904
 b5 : au < 4611686018427387904
 b6 : aj < 200
 b7 : ah < 200
 c1 : 0 < au
 c3 : 1 < ah
 p1 : ak < n
 p2 : ak + aj * (if wide then 56 else 32) ≤ n
 s1 : au < n
 s2 : au + ah * (if wide then 64 else 40) ≤ n
 nn : n ≤ 4611686018427387904
 seg : ∀ i, i < aj → yA (((l.drop ak).take (aj * (if wide then 56 else 32))).drop (i * (if wide then 56 else 32))) wide big (sg i).ty (sg i).flags (sg i).bU (sg i).bV (sg i).bY (sg i).align (sg i).bP (sg i).off
 v1 : ∀ i, i < aj → (sg i).ty < 4294967296
 v2 : ∀ i, i < aj → (sg i).off + (sg i).bP < 4611686018427387904
 v3 : ∀ i, i < aj → (sg i).bU ≤ 18446744073709551615
 v4 : ∀ i, i < aj → (sg i).bV ≤ 18446744073709551615
 v5 : ∀ i, i < aj → (sg i).bY ≤ 18446744073709551615
 v6 : ∀ i, i < aj → (sg i).align ≤ 18446744073709551615
 sec : ∀ i, i < ah → yB (((l.drop au).take (ah * (if wide then 64 else 40))).drop (i * (if wide then 64 else 40))) wide big (sc i).name (sc i).ty (sc i).flags (sc i).addr (sc i).off (sc i).bP (sc i).link (sc i).info (sc i).align (sc i).ent
 bd : ∀ i, i < ah → vW (sc i)
 str : (sc (ah - 1)).ty = 3
 f1 : 0 < (sc (ah - 1)).bP
 f2 : (sc (ah - 1)).bP < 10485760
 f3 : (sc (ah - 1)).off + (sc (ah - 1)).bP ≤ n
 name : ∀ i, i < ah → kR ((l.drop (sc (ah - 1)).off).take (sc (ah - 1)).bP) (sc i).name = some (nb i)
theorem Eb {l : List UInt8} {wide big : Bool} {abi aH : Nat} (h : ∃ r, l = AP wide big abi aH ++ r) (h1 : abi < 256) (h2 : aH < 256) : (((l.drop 0).take 16).map Bv).toArray = #[.int .u8 127, .int .u8 69, .int .u8 76, .int .u8 70, .int .u8 (if wide then 2 else 1 : Int), .int .u8 (if big then 2 else 1 : Int), .int .u8 1, .int .u8 (abi : Nat), .int .u8 (aH : Nat), .int .u8 0, .int .u8 0, .int .u8 0, .int .u8 0, .int .u8 0, .int .u8 0, .int .u8 0] := by
 obtain ⟨r, rfl⟩ := h
 have e1 : (UInt8.ofNat abi).toNat = abi := by simp; omega
 have e2 : (UInt8.ofNat aH).toNat = aH := by simp; omega
 cases wide <;> cases big <;> simp [AP, Bv, e1, e2, List.take]

theorem Oc (l : List UInt8) (b o n c : Nat) (hl : n = l.length) (hnc : n ≤ c) (abi aH aU aJ aG ak aj au ah : Nat) (sg : Nat → nN) (sc : Nat → jy) (nb : Nat → List UInt8) (H : wL l n false false abi aH aU aJ aG ak aj au ah sg sc nb) (w0 : World) (hbl : b < w0.heap.size) (hr : Row w0 (some ⟨b, o, none⟩) (l.map Bv)) :
  Calls Tryd.prog 78 #[.iface 178 (.slice (some ⟨b, o, none⟩) n c)] w0 fun e w' => ∃ fb pg aV cur eU, e = .returned (.tuple #[aB fb, .nilIface]) ∧ Below w0.heap.size w0 w' ∧ rJ b o n c w0.heap.size w' false false abi aH aU aJ aG aj ah sg sc nb fb pg aV cur eU := by
 have hlen : 52 ≤ n := hl ▸ H.head.len
 have hp2 : ak + aj * 32 ≤ n := H.p2
 have hs2 : au + ah * 40 ≤ n := H.s2
 refine cu (c := spine Tryd.f78 0) Tryd.func78 rfl Tryd.ntmps78 [(0, .iface 178 (.slice (some ⟨b, o, none⟩) n c))] (by kernel_rfl) (Nat.le_of_ble_eq_true rfl) ?_
 intro a HF
 refine RP l b o n c hl hnc (by omega) abi aH (Eb H.head.id H.a1 H.a2) w0 hbl hr a w0 HF (Mm.start w0) ?_
 clear HF
 intro a w s fb HF HM
 refine PN l b o n c hl hnc hlen false abi aH aU aJ aG ak aj au ah 1 H.head H.b1 H.b2 H.b3 H.b4 H.b5 H.b6 H.b7 w0 hbl hr a w s fb HF HM ?_
 clear HF HM
 intro a w HF HM
 have hD : ∀ (a : Act) (w : World) (pg : Nat) (cur : Array Value) (pd : Nat), cur.size = aj → Fr 1287 a [(0, .iface 178 (.slice (some ⟨b, o, none⟩) n c)), (4, aB s), (8, aB fb), (9, (aS false)), (10, ay ak), (11, aF 32), (12, ay aj), (13, ay au), (14, aF 40), (15, ay ah), (16, ay (ah - 1)), (26, aF 40), (36, aC pd (aj * 32) (aj * 32))] → Mm [] w0 w [(pd, .cells (((l.drop ak).take (aj * 32)).map Bv).toArray 5 (0, 0)), (pg, .cells cur 136 (0, 0)), (fb, .cells #[aQ 1, aQ 1, aQ 1, aX abi, aX aH, (aS false), bF aU, bF aJ, aI aG, aN, aC pg 0 aj, aN, aN, aN] 131 (0, 0)), (s, .cells #[.iface 178 (.slice (some ⟨b, o, none⟩) n c), aF 0, aF 0, aF 9223372036854775807, aF 9223372036854775807] 246 (0, 0))] → (spine Tryd.f78 35).wp Tryd.prog (bodyPost Tryd.prog Tryd.f78 fun e w' => ∃ fb pg aV cur eU, e = .returned (.tuple #[aB fb, .nilIface]) ∧ Below w0.heap.size w0 w' ∧ rJ b o n c w0.heap.size w' false false abi aH aU aJ aG aj ah sg sc nb fb pg aV cur eU) a w := by
  clear HF HM a w
  intro a w pg cur pd hcs HF HM
  refine Po l b o n c hl hnc false abi aH aU aJ aG ak aj au ah 1 H.b1 H.b2 H.b3 H.b4 H.b5 H.b6 H.b7 _ (by simp; omega) sg H.seg H.v1 H.v2 H.v3 H.v4 H.v5 H.v6 w0 s fb pg pd a w cur hcs HF HM ?_
  clear HF HM hcs cur a w
  intro a w cur hcs hP HF HM
  have hbs : b ≠ s := fun e => absurd hbl (Nat.not_lt_of_le (e ▸ HM.ge (i := 3) rfl))
  have hbf : b ≠ fb := fun e => absurd hbl (Nat.not_lt_of_le (e ▸ HM.ge (i := 2) rfl))
  have FX : Mm [s, fb] w w [(fb, .cells #[aQ 1, aQ 1, aQ 1, aX abi, aX aH, (aS false), bF aU, bF aJ, aI aG, aN, aC pg aj aj, aN, aN, aN] 131 (0, 0)), (s, .cells #[.iface 178 (.slice (some ⟨b, o, none⟩) n c), aF 0, aF 0, aF 9223372036854775807, aF 9223372036854775807] 246 (0, 0))] :=
   ⟨Keep.refl _ _, fun p hp => by
    simp only [List.mem_cons, List.not_mem_nil, or_false] at hp
    rcases hp with rfl | rfl
    ·exact ⟨HM.get (i := 2) rfl, .inr (by simp)⟩
    ·exact ⟨HM.get (i := 3) rfl, .inr (by simp)⟩, by
    have := HM.ne (i := 2) (j := 3) rfl rfl (by decide)
    simp [this]⟩
  have hr2 := HM.row hr
  have A_ : b < w.heap.size := Nat.lt_of_lt_of_le hbl HM.size
  have yc : b ∉ [s, fb] := by simp [hbs, hbf]
  refine PK l b o n c hl hnc false abi aH aU aJ aG ak aj au ah 1 H.b1 H.b2 H.b3 H.b4 H.b5 H.b6 H.b7 H.c1 (by have := H.c3; omega) H.s1 hs2 w A_ hr2 [s, fb] yc a w s fb pg hbs (HF.sub _ (by kernel_rfl)) FX ?_
  clear HF FX a
  intro a w2 aV lF aW mg sd hs1 hs3 HF bT
  refine Ph l b o n c hl hnc false abi aH aU aJ aG ak aj au ah 1 H.b1 H.b2 H.b3 H.b4 H.b5 H.b6 H.b7 _ (by simp; omega) sc H.sec H.bd [s, fb] w s fb pg aV aW sd a w2 lF mg hs1 hs3 HF bT ?_
  clear HF bT hs1 hs3 a w2 lF mg
  intro a w2 eU nms hs1 hs3 hS hN hD HF bT
  refine PG l b o n c hl hnc false abi aH aU aJ aG ak aj au ah 1 H.b1 H.b2 H.b3 H.b4 H.b5 H.b6 H.b7 _ sc H.c3 H.str (H.bd _ (by have := H.c3; omega)).v9 H.f1 H.f2 H.f3 H.nn [s, fb] w A_ hr2 yc s fb pg aV aW sd a w2 eU nms hS HF bT ?_
  clear HF bT hS a w2
  intro a w2 dQ hS HF bT
  have hf2 := H.f2
  have hf3 := H.f3
  refine PD l b o n c hl hnc false abi aH aU aJ aG ak aj au ah 1 H.b7 _ sc H.bd nb ((l.drop (sc (ah - 1)).off).take (sc (ah - 1)).bP) (sc (ah - 1)).bP (by simp; omega) (by unfold maxLen; omega) H.name [s, fb] w s fb pg aV aW sd dQ eU nms hN hD a w2 hS HF bT ?_
  clear HF bT hS a w2
  intro a w2 hS HF bT
  refine N_ fb a w2 (HF.sub _ (by kernel_rfl)) ?_
  intro a HF
  have hk := bT.keep
  have hk2 : Keep [fb] w w2 := hk.less ((bT.get (i := 5) rfl).trans (HM.get (i := 3) rfl).symm)
  have hkw : Keep [] w0 w2 := HM.keep.step hk2 (by intro g hg; simp only [List.mem_cons, List.not_mem_nil, or_false] at hg; subst hg; exact HM.own (i := 2) rfl)
  have hz := HM.size
  refine jq HF rfl rfl rfl ⟨fb, pg, aV, cur, eU, rfl, hkw.below, ⟨HM.ge (i := 2) rfl, HM.ge (i := 1) rfl, ?_, bT.get (i := 4) rfl, ?_, hcs, hP.keep hk2 ?_, bT.get (i := 3) rfl, hs1, ?_, hD⟩⟩
  ·refine Nat.le_trans hz ((bT.own (i := 3) rfl).elim id fun hm => ?_)
   simp only [List.mem_cons, List.not_mem_nil, or_false] at hm
   rcases hm with e | e
   ·exact absurd e (bT.ne (i := 3) (j := 5) rfl rfl (by decide))
   ·exact absurd e (bT.ne (i := 3) (j := 4) rfl rfl (by decide))
  ·exact (hk2.block pg (HM.lt (i := 1) rfl) (by simpa using HM.ne (i := 1) (j := 2) rfl rfl (by decide))).trans (HM.get (i := 1) rfl)
  ·intro g hg
   simp only [List.mem_cons, List.not_mem_nil, or_false] at hg
   subst hg
   exact ⟨_, _, _, HM.get (i := 2) rfl, by decide, by decide⟩
  ·intro j hj
   obtain ⟨pb, sb, g1, g2, g3, g4, g5⟩ := hS j hj
   simp only [hj, ↓reduceIte] at g4
   exact ⟨pb, sb, g1, by omega, by omega, g4, g5⟩
 rcases Nat.eq_zero_or_pos aj with h0 | h0
 ·subst h0
  refine Ns l b o n c hl hnc false abi aH aU aJ aG ak 0 au ah 1 H.b1 H.b2 H.b3 H.b4 H.b5 H.b6 H.b7 H.c1 (by have := H.c3; omega) w0 a w s fb HF HM ?_
  clear HF HM a w
  intro a w HF HM
  exact Nl l b o n c hl hnc false abi aH aU aJ aG ak 0 au ah 1 H.b1 H.b2 H.b3 H.b4 H.b5 H.b6 H.b7 H.c1 (by have := H.c3; omega) H.p1 hp2 w0 hbl hr a w s fb HF HM hD
 ·refine Nr l b o n c hl hnc false abi aH aU aJ aG ak aj au ah 1 H.b1 H.b2 H.b3 H.b4 H.b5 H.b6 H.b7 H.c1 (by have := H.c3; omega) h0 w0 a w s fb HF HM ?_
  clear HF HM a w
  intro a w HF HM
  exact Nk l b o n c hl hnc false abi aH aU aJ aG ak aj au ah 1 H.b1 H.b2 H.b3 H.b4 H.b5 H.b6 H.b7 H.c1 (by have := H.c3; omega) h0 H.p1 hp2 w0 hbl hr a w s fb HF HM hD

theorem Oe (l : List UInt8) (b o n c : Nat) (hl : n = l.length) (hnc : n ≤ c) (abi aH aU aJ aG ak aj au ah : Nat) (sg : Nat → nN) (sc : Nat → jy) (nb : Nat → List UInt8) (H : wL l n false true abi aH aU aJ aG ak aj au ah sg sc nb) (w0 : World) (hbl : b < w0.heap.size) (hr : Row w0 (some ⟨b, o, none⟩) (l.map Bv)) :
  Calls Tryd.prog 78 #[.iface 178 (.slice (some ⟨b, o, none⟩) n c)] w0 fun e w' => ∃ fb pg aV cur eU, e = .returned (.tuple #[aB fb, .nilIface]) ∧ Below w0.heap.size w0 w' ∧ rJ b o n c w0.heap.size w' false true abi aH aU aJ aG aj ah sg sc nb fb pg aV cur eU := by
 have hlen : 52 ≤ n := hl ▸ H.head.len
 have hp2 : ak + aj * 32 ≤ n := H.p2
 have hs2 : au + ah * 40 ≤ n := H.s2
 refine cu (c := spine Tryd.f78 0) Tryd.func78 rfl Tryd.ntmps78 [(0, .iface 178 (.slice (some ⟨b, o, none⟩) n c))] (by kernel_rfl) (Nat.le_of_ble_eq_true rfl) ?_
 intro a HF
 refine RQ l b o n c hl hnc (by omega) abi aH (Eb H.head.id H.a1 H.a2) w0 hbl hr a w0 HF (Mm.start w0) ?_
 clear HF
 intro a w s fb HF HM
 refine PN l b o n c hl hnc hlen true abi aH aU aJ aG ak aj au ah 2 H.head H.b1 H.b2 H.b3 H.b4 H.b5 H.b6 H.b7 w0 hbl hr a w s fb HF HM ?_
 clear HF HM
 intro a w HF HM
 have hD : ∀ (a : Act) (w : World) (pg : Nat) (cur : Array Value) (pd : Nat), cur.size = aj → Fr 1287 a [(0, .iface 178 (.slice (some ⟨b, o, none⟩) n c)), (4, aB s), (8, aB fb), (9, (aS true)), (10, ay ak), (11, aF 32), (12, ay aj), (13, ay au), (14, aF 40), (15, ay ah), (16, ay (ah - 1)), (26, aF 40), (36, aC pd (aj * 32) (aj * 32))] → Mm [] w0 w [(pd, .cells (((l.drop ak).take (aj * 32)).map Bv).toArray 5 (0, 0)), (pg, .cells cur 136 (0, 0)), (fb, .cells #[aQ 1, aQ 2, aQ 1, aX abi, aX aH, (aS true), bF aU, bF aJ, aI aG, aN, aC pg 0 aj, aN, aN, aN] 131 (0, 0)), (s, .cells #[.iface 178 (.slice (some ⟨b, o, none⟩) n c), aF 0, aF 0, aF 9223372036854775807, aF 9223372036854775807] 246 (0, 0))] → (spine Tryd.f78 35).wp Tryd.prog (bodyPost Tryd.prog Tryd.f78 fun e w' => ∃ fb pg aV cur eU, e = .returned (.tuple #[aB fb, .nilIface]) ∧ Below w0.heap.size w0 w' ∧ rJ b o n c w0.heap.size w' false true abi aH aU aJ aG aj ah sg sc nb fb pg aV cur eU) a w := by
  clear HF HM a w
  intro a w pg cur pd hcs HF HM
  refine Po l b o n c hl hnc true abi aH aU aJ aG ak aj au ah 2 H.b1 H.b2 H.b3 H.b4 H.b5 H.b6 H.b7 _ (by simp; omega) sg H.seg H.v1 H.v2 H.v3 H.v4 H.v5 H.v6 w0 s fb pg pd a w cur hcs HF HM ?_
  clear HF HM hcs cur a w
  intro a w cur hcs hP HF HM
  have hbs : b ≠ s := fun e => absurd hbl (Nat.not_lt_of_le (e ▸ HM.ge (i := 3) rfl))
  have hbf : b ≠ fb := fun e => absurd hbl (Nat.not_lt_of_le (e ▸ HM.ge (i := 2) rfl))
  have FX : Mm [s, fb] w w [(fb, .cells #[aQ 1, aQ 2, aQ 1, aX abi, aX aH, (aS true), bF aU, bF aJ, aI aG, aN, aC pg aj aj, aN, aN, aN] 131 (0, 0)), (s, .cells #[.iface 178 (.slice (some ⟨b, o, none⟩) n c), aF 0, aF 0, aF 9223372036854775807, aF 9223372036854775807] 246 (0, 0))] :=
   ⟨Keep.refl _ _, fun p hp => by
    simp only [List.mem_cons, List.not_mem_nil, or_false] at hp
    rcases hp with rfl | rfl
    ·exact ⟨HM.get (i := 2) rfl, .inr (by simp)⟩
    ·exact ⟨HM.get (i := 3) rfl, .inr (by simp)⟩, by
    have := HM.ne (i := 2) (j := 3) rfl rfl (by decide)
    simp [this]⟩
  have hr2 := HM.row hr
  have A_ : b < w.heap.size := Nat.lt_of_lt_of_le hbl HM.size
  have yc : b ∉ [s, fb] := by simp [hbs, hbf]
  refine PK l b o n c hl hnc true abi aH aU aJ aG ak aj au ah 2 H.b1 H.b2 H.b3 H.b4 H.b5 H.b6 H.b7 H.c1 (by have := H.c3; omega) H.s1 hs2 w A_ hr2 [s, fb] yc a w s fb pg hbs (HF.sub _ (by kernel_rfl)) FX ?_
  clear HF FX a
  intro a w2 aV lF aW mg sd hs1 hs3 HF bT
  refine Ph l b o n c hl hnc true abi aH aU aJ aG ak aj au ah 2 H.b1 H.b2 H.b3 H.b4 H.b5 H.b6 H.b7 _ (by simp; omega) sc H.sec H.bd [s, fb] w s fb pg aV aW sd a w2 lF mg hs1 hs3 HF bT ?_
  clear HF bT hs1 hs3 a w2 lF mg
  intro a w2 eU nms hs1 hs3 hS hN hD HF bT
  refine PG l b o n c hl hnc true abi aH aU aJ aG ak aj au ah 2 H.b1 H.b2 H.b3 H.b4 H.b5 H.b6 H.b7 _ sc H.c3 H.str (H.bd _ (by have := H.c3; omega)).v9 H.f1 H.f2 H.f3 H.nn [s, fb] w A_ hr2 yc s fb pg aV aW sd a w2 eU nms hS HF bT ?_
  clear HF bT hS a w2
  intro a w2 dQ hS HF bT
  have hf2 := H.f2
  have hf3 := H.f3
  refine PD l b o n c hl hnc true abi aH aU aJ aG ak aj au ah 2 H.b7 _ sc H.bd nb ((l.drop (sc (ah - 1)).off).take (sc (ah - 1)).bP) (sc (ah - 1)).bP (by simp; omega) (by unfold maxLen; omega) H.name [s, fb] w s fb pg aV aW sd dQ eU nms hN hD a w2 hS HF bT ?_
  clear HF bT hS a w2
  intro a w2 hS HF bT
  refine N_ fb a w2 (HF.sub _ (by kernel_rfl)) ?_
  intro a HF
  have hk := bT.keep
  have hk2 : Keep [fb] w w2 := hk.less ((bT.get (i := 5) rfl).trans (HM.get (i := 3) rfl).symm)
  have hkw : Keep [] w0 w2 := HM.keep.step hk2 (by intro g hg; simp only [List.mem_cons, List.not_mem_nil, or_false] at hg; subst hg; exact HM.own (i := 2) rfl)
  have hz := HM.size
  refine jq HF rfl rfl rfl ⟨fb, pg, aV, cur, eU, rfl, hkw.below, ⟨HM.ge (i := 2) rfl, HM.ge (i := 1) rfl, ?_, bT.get (i := 4) rfl, ?_, hcs, hP.keep hk2 ?_, bT.get (i := 3) rfl, hs1, ?_, hD⟩⟩
  ·refine Nat.le_trans hz ((bT.own (i := 3) rfl).elim id fun hm => ?_)
   simp only [List.mem_cons, List.not_mem_nil, or_false] at hm
   rcases hm with e | e
   ·exact absurd e (bT.ne (i := 3) (j := 5) rfl rfl (by decide))
   ·exact absurd e (bT.ne (i := 3) (j := 4) rfl rfl (by decide))
  ·exact (hk2.block pg (HM.lt (i := 1) rfl) (by simpa using HM.ne (i := 1) (j := 2) rfl rfl (by decide))).trans (HM.get (i := 1) rfl)
  ·intro g hg
   simp only [List.mem_cons, List.not_mem_nil, or_false] at hg
   subst hg
   exact ⟨_, _, _, HM.get (i := 2) rfl, by decide, by decide⟩
  ·intro j hj
   obtain ⟨pb, sb, g1, g2, g3, g4, g5⟩ := hS j hj
   simp only [hj, ↓reduceIte] at g4
   exact ⟨pb, sb, g1, by omega, by omega, g4, g5⟩
 rcases Nat.eq_zero_or_pos aj with h0 | h0
 ·subst h0
  refine Ns l b o n c hl hnc true abi aH aU aJ aG ak 0 au ah 2 H.b1 H.b2 H.b3 H.b4 H.b5 H.b6 H.b7 H.c1 (by have := H.c3; omega) w0 a w s fb HF HM ?_
  clear HF HM a w
  intro a w HF HM
  exact Nl l b o n c hl hnc true abi aH aU aJ aG ak 0 au ah 2 H.b1 H.b2 H.b3 H.b4 H.b5 H.b6 H.b7 H.c1 (by have := H.c3; omega) H.p1 hp2 w0 hbl hr a w s fb HF HM hD
 ·refine Nr l b o n c hl hnc true abi aH aU aJ aG ak aj au ah 2 H.b1 H.b2 H.b3 H.b4 H.b5 H.b6 H.b7 H.c1 (by have := H.c3; omega) h0 w0 a w s fb HF HM ?_
  clear HF HM a w
  intro a w HF HM
  exact Nk l b o n c hl hnc true abi aH aU aJ aG ak aj au ah 2 H.b1 H.b2 H.b3 H.b4 H.b5 H.b6 H.b7 H.c1 (by have := H.c3; omega) h0 H.p1 hp2 w0 hbl hr a w s fb HF HM hD

theorem Oa (l : List UInt8) (b o n c : Nat) (hl : n = l.length) (hnc : n ≤ c) (abi aH aU aJ aG ak aj au ah : Nat) (sg : Nat → nN) (sc : Nat → jy) (nb : Nat → List UInt8) (H : wL l n true false abi aH aU aJ aG ak aj au ah sg sc nb) (w0 : World) (hbl : b < w0.heap.size) (hr : Row w0 (some ⟨b, o, none⟩) (l.map Bv)) :
  Calls Tryd.prog 78 #[.iface 178 (.slice (some ⟨b, o, none⟩) n c)] w0 fun e w' => ∃ fb pg aV cur eU, e = .returned (.tuple #[aB fb, .nilIface]) ∧ Below w0.heap.size w0 w' ∧ rJ b o n c w0.heap.size w' true false abi aH aU aJ aG aj ah sg sc nb fb pg aV cur eU := by
 have hlen : 64 ≤ n := hl ▸ H.head.len
 have hp2 : ak + aj * 56 ≤ n := H.p2
 have hs2 : au + ah * 64 ≤ n := H.s2
 refine cu (c := spine Tryd.f78 0) Tryd.func78 rfl Tryd.ntmps78 [(0, .iface 178 (.slice (some ⟨b, o, none⟩) n c))] (by kernel_rfl) (Nat.le_of_ble_eq_true rfl) ?_
 intro a HF
 refine RJ l b o n c hl hnc (by omega) abi aH (Eb H.head.id H.a1 H.a2) w0 hbl hr a w0 HF (Mm.start w0) ?_
 clear HF
 intro a w s fb HF HM
 refine PL l b o n c hl hnc hlen false abi aH aU aJ aG ak aj au ah 1 H.head H.b1 H.b2 H.b3 H.b4 H.b5 H.b6 H.b7 w0 hbl hr a w s fb HF HM ?_
 clear HF HM
 intro a w HF HM
 have hD : ∀ (a : Act) (w : World) (pg : Nat) (cur : Array Value) (pd : Nat), cur.size = aj → Fr 1287 a [(0, .iface 178 (.slice (some ⟨b, o, none⟩) n c)), (4, aB s), (8, aB fb), (9, (aS false)), (10, ay ak), (11, aF 56), (12, ay aj), (13, ay au), (14, aF 64), (15, ay ah), (16, ay (ah - 1)), (26, aF 64), (36, aC pd (aj * 56) (aj * 56))] → Mm [] w0 w [(pd, .cells (((l.drop ak).take (aj * 56)).map Bv).toArray 5 (0, 0)), (pg, .cells cur 136 (0, 0)), (fb, .cells #[aQ 2, aQ 1, aQ 1, aX abi, aX aH, (aS false), bF aU, bF aJ, aI aG, aN, aC pg 0 aj, aN, aN, aN] 131 (0, 0)), (s, .cells #[.iface 178 (.slice (some ⟨b, o, none⟩) n c), aF 0, aF 0, aF 9223372036854775807, aF 9223372036854775807] 246 (0, 0))] → (spine Tryd.f78 35).wp Tryd.prog (bodyPost Tryd.prog Tryd.f78 fun e w' => ∃ fb pg aV cur eU, e = .returned (.tuple #[aB fb, .nilIface]) ∧ Below w0.heap.size w0 w' ∧ rJ b o n c w0.heap.size w' true false abi aH aU aJ aG aj ah sg sc nb fb pg aV cur eU) a w := by
  clear HF HM a w
  intro a w pg cur pd hcs HF HM
  refine Pn l b o n c hl hnc false abi aH aU aJ aG ak aj au ah 1 H.b1 H.b2 H.b3 H.b4 H.b5 H.b6 H.b7 _ (by simp; omega) sg H.seg H.v1 H.v2 H.v3 H.v4 H.v5 H.v6 w0 s fb pg pd a w cur hcs HF HM ?_
  clear HF HM hcs cur a w
  intro a w cur hcs hP HF HM
  have hbs : b ≠ s := fun e => absurd hbl (Nat.not_lt_of_le (e ▸ HM.ge (i := 3) rfl))
  have hbf : b ≠ fb := fun e => absurd hbl (Nat.not_lt_of_le (e ▸ HM.ge (i := 2) rfl))
  have FX : Mm [s, fb] w w [(fb, .cells #[aQ 2, aQ 1, aQ 1, aX abi, aX aH, (aS false), bF aU, bF aJ, aI aG, aN, aC pg aj aj, aN, aN, aN] 131 (0, 0)), (s, .cells #[.iface 178 (.slice (some ⟨b, o, none⟩) n c), aF 0, aF 0, aF 9223372036854775807, aF 9223372036854775807] 246 (0, 0))] :=
   ⟨Keep.refl _ _, fun p hp => by
    simp only [List.mem_cons, List.not_mem_nil, or_false] at hp
    rcases hp with rfl | rfl
    ·exact ⟨HM.get (i := 2) rfl, .inr (by simp)⟩
    ·exact ⟨HM.get (i := 3) rfl, .inr (by simp)⟩, by
    have := HM.ne (i := 2) (j := 3) rfl rfl (by decide)
    simp [this]⟩
  have hr2 := HM.row hr
  have A_ : b < w.heap.size := Nat.lt_of_lt_of_le hbl HM.size
  have yc : b ∉ [s, fb] := by simp [hbs, hbf]
  refine PI l b o n c hl hnc false abi aH aU aJ aG ak aj au ah 1 H.b1 H.b2 H.b3 H.b4 H.b5 H.b6 H.b7 H.c1 (by have := H.c3; omega) H.s1 hs2 w A_ hr2 [s, fb] yc a w s fb pg hbs (HF.sub _ (by kernel_rfl)) FX ?_
  clear HF FX a
  intro a w2 aV lF aW mg sd hs1 hs3 HF bT
  refine Pg l b o n c hl hnc false abi aH aU aJ aG ak aj au ah 1 H.b1 H.b2 H.b3 H.b4 H.b5 H.b6 H.b7 _ (by simp; omega) sc H.sec H.bd [s, fb] w s fb pg aV aW sd a w2 lF mg hs1 hs3 HF bT ?_
  clear HF bT hs1 hs3 a w2 lF mg
  intro a w2 eU nms hs1 hs3 hS hN hD HF bT
  refine PE l b o n c hl hnc false abi aH aU aJ aG ak aj au ah 1 H.b1 H.b2 H.b3 H.b4 H.b5 H.b6 H.b7 _ sc H.c3 H.str (H.bd _ (by have := H.c3; omega)).v9 H.f1 H.f2 H.f3 H.nn [s, fb] w A_ hr2 yc s fb pg aV aW sd a w2 eU nms hS HF bT ?_
  clear HF bT hS a w2
  intro a w2 dQ hS HF bT
  have hf2 := H.f2
  have hf3 := H.f3
  refine Pz l b o n c hl hnc false abi aH aU aJ aG ak aj au ah 1 H.b7 _ sc H.bd nb ((l.drop (sc (ah - 1)).off).take (sc (ah - 1)).bP) (sc (ah - 1)).bP (by simp; omega) (by unfold maxLen; omega) H.name [s, fb] w s fb pg aV aW sd dQ eU nms hN hD a w2 hS HF bT ?_
  clear HF bT hS a w2
  intro a w2 hS HF bT
  refine N_ fb a w2 (HF.sub _ (by kernel_rfl)) ?_
  intro a HF
  have hk := bT.keep
  have hk2 : Keep [fb] w w2 := hk.less ((bT.get (i := 5) rfl).trans (HM.get (i := 3) rfl).symm)
  have hkw : Keep [] w0 w2 := HM.keep.step hk2 (by intro g hg; simp only [List.mem_cons, List.not_mem_nil, or_false] at hg; subst hg; exact HM.own (i := 2) rfl)
  have hz := HM.size
  refine jq HF rfl rfl rfl ⟨fb, pg, aV, cur, eU, rfl, hkw.below, ⟨HM.ge (i := 2) rfl, HM.ge (i := 1) rfl, ?_, bT.get (i := 4) rfl, ?_, hcs, hP.keep hk2 ?_, bT.get (i := 3) rfl, hs1, ?_, hD⟩⟩
  ·refine Nat.le_trans hz ((bT.own (i := 3) rfl).elim id fun hm => ?_)
   simp only [List.mem_cons, List.not_mem_nil, or_false] at hm
   rcases hm with e | e
   ·exact absurd e (bT.ne (i := 3) (j := 5) rfl rfl (by decide))
   ·exact absurd e (bT.ne (i := 3) (j := 4) rfl rfl (by decide))
  ·exact (hk2.block pg (HM.lt (i := 1) rfl) (by simpa using HM.ne (i := 1) (j := 2) rfl rfl (by decide))).trans (HM.get (i := 1) rfl)
  ·intro g hg
   simp only [List.mem_cons, List.not_mem_nil, or_false] at hg
   subst hg
   exact ⟨_, _, _, HM.get (i := 2) rfl, by decide, by decide⟩
  ·intro j hj
   obtain ⟨pb, sb, g1, g2, g3, g4, g5⟩ := hS j hj
   simp only [hj, ↓reduceIte] at g4
   exact ⟨pb, sb, g1, by omega, by omega, g4, g5⟩
 rcases Nat.eq_zero_or_pos aj with h0 | h0
 ·subst h0
  refine Nq l b o n c hl hnc false abi aH aU aJ aG ak 0 au ah 1 H.b1 H.b2 H.b3 H.b4 H.b5 H.b6 H.b7 H.c1 (by have := H.c3; omega) w0 a w s fb HF HM ?_
  clear HF HM a w
  intro a w HF HM
  exact Nj l b o n c hl hnc false abi aH aU aJ aG ak 0 au ah 1 H.b1 H.b2 H.b3 H.b4 H.b5 H.b6 H.b7 H.c1 (by have := H.c3; omega) H.p1 hp2 w0 hbl hr a w s fb HF HM hD
 ·refine Np l b o n c hl hnc false abi aH aU aJ aG ak aj au ah 1 H.b1 H.b2 H.b3 H.b4 H.b5 H.b6 H.b7 H.c1 (by have := H.c3; omega) h0 w0 a w s fb HF HM ?_
  clear HF HM a w
  intro a w HF HM
  exact Nh l b o n c hl hnc false abi aH aU aJ aG ak aj au ah 1 H.b1 H.b2 H.b3 H.b4 H.b5 H.b6 H.b7 H.c1 (by have := H.c3; omega) h0 H.p1 hp2 w0 hbl hr a w s fb HF HM hD

theorem Ob (l : List UInt8) (b o n c : Nat) (hl : n = l.length) (hnc : n ≤ c) (abi aH aU aJ aG ak aj au ah : Nat) (sg : Nat → nN) (sc : Nat → jy) (nb : Nat → List UInt8) (H : wL l n true true abi aH aU aJ aG ak aj au ah sg sc nb) (w0 : World) (hbl : b < w0.heap.size) (hr : Row w0 (some ⟨b, o, none⟩) (l.map Bv)) :
  Calls Tryd.prog 78 #[.iface 178 (.slice (some ⟨b, o, none⟩) n c)] w0 fun e w' => ∃ fb pg aV cur eU, e = .returned (.tuple #[aB fb, .nilIface]) ∧ Below w0.heap.size w0 w' ∧ rJ b o n c w0.heap.size w' true true abi aH aU aJ aG aj ah sg sc nb fb pg aV cur eU := by
 have hlen : 64 ≤ n := hl ▸ H.head.len
 have hp2 : ak + aj * 56 ≤ n := H.p2
 have hs2 : au + ah * 64 ≤ n := H.s2
 refine cu (c := spine Tryd.f78 0) Tryd.func78 rfl Tryd.ntmps78 [(0, .iface 178 (.slice (some ⟨b, o, none⟩) n c))] (by kernel_rfl) (Nat.le_of_ble_eq_true rfl) ?_
 intro a HF
 refine RN l b o n c hl hnc (by omega) abi aH (Eb H.head.id H.a1 H.a2) w0 hbl hr a w0 HF (Mm.start w0) ?_
 clear HF
 intro a w s fb HF HM
 refine PL l b o n c hl hnc hlen true abi aH aU aJ aG ak aj au ah 2 H.head H.b1 H.b2 H.b3 H.b4 H.b5 H.b6 H.b7 w0 hbl hr a w s fb HF HM ?_
 clear HF HM
 intro a w HF HM
 have hD : ∀ (a : Act) (w : World) (pg : Nat) (cur : Array Value) (pd : Nat), cur.size = aj → Fr 1287 a [(0, .iface 178 (.slice (some ⟨b, o, none⟩) n c)), (4, aB s), (8, aB fb), (9, (aS true)), (10, ay ak), (11, aF 56), (12, ay aj), (13, ay au), (14, aF 64), (15, ay ah), (16, ay (ah - 1)), (26, aF 64), (36, aC pd (aj * 56) (aj * 56))] → Mm [] w0 w [(pd, .cells (((l.drop ak).take (aj * 56)).map Bv).toArray 5 (0, 0)), (pg, .cells cur 136 (0, 0)), (fb, .cells #[aQ 2, aQ 2, aQ 1, aX abi, aX aH, (aS true), bF aU, bF aJ, aI aG, aN, aC pg 0 aj, aN, aN, aN] 131 (0, 0)), (s, .cells #[.iface 178 (.slice (some ⟨b, o, none⟩) n c), aF 0, aF 0, aF 9223372036854775807, aF 9223372036854775807] 246 (0, 0))] → (spine Tryd.f78 35).wp Tryd.prog (bodyPost Tryd.prog Tryd.f78 fun e w' => ∃ fb pg aV cur eU, e = .returned (.tuple #[aB fb, .nilIface]) ∧ Below w0.heap.size w0 w' ∧ rJ b o n c w0.heap.size w' true true abi aH aU aJ aG aj ah sg sc nb fb pg aV cur eU) a w := by
  clear HF HM a w
  intro a w pg cur pd hcs HF HM
  refine Pn l b o n c hl hnc true abi aH aU aJ aG ak aj au ah 2 H.b1 H.b2 H.b3 H.b4 H.b5 H.b6 H.b7 _ (by simp; omega) sg H.seg H.v1 H.v2 H.v3 H.v4 H.v5 H.v6 w0 s fb pg pd a w cur hcs HF HM ?_
  clear HF HM hcs cur a w
  intro a w cur hcs hP HF HM
  have hbs : b ≠ s := fun e => absurd hbl (Nat.not_lt_of_le (e ▸ HM.ge (i := 3) rfl))
  have hbf : b ≠ fb := fun e => absurd hbl (Nat.not_lt_of_le (e ▸ HM.ge (i := 2) rfl))
  have FX : Mm [s, fb] w w [(fb, .cells #[aQ 2, aQ 2, aQ 1, aX abi, aX aH, (aS true), bF aU, bF aJ, aI aG, aN, aC pg aj aj, aN, aN, aN] 131 (0, 0)), (s, .cells #[.iface 178 (.slice (some ⟨b, o, none⟩) n c), aF 0, aF 0, aF 9223372036854775807, aF 9223372036854775807] 246 (0, 0))] :=
   ⟨Keep.refl _ _, fun p hp => by
    simp only [List.mem_cons, List.not_mem_nil, or_false] at hp
    rcases hp with rfl | rfl
    ·exact ⟨HM.get (i := 2) rfl, .inr (by simp)⟩
    ·exact ⟨HM.get (i := 3) rfl, .inr (by simp)⟩, by
    have := HM.ne (i := 2) (j := 3) rfl rfl (by decide)
    simp [this]⟩
  have hr2 := HM.row hr
  have A_ : b < w.heap.size := Nat.lt_of_lt_of_le hbl HM.size
  have yc : b ∉ [s, fb] := by simp [hbs, hbf]
  refine PI l b o n c hl hnc true abi aH aU aJ aG ak aj au ah 2 H.b1 H.b2 H.b3 H.b4 H.b5 H.b6 H.b7 H.c1 (by have := H.c3; omega) H.s1 hs2 w A_ hr2 [s, fb] yc a w s fb pg hbs (HF.sub _ (by kernel_rfl)) FX ?_
  clear HF FX a
  intro a w2 aV lF aW mg sd hs1 hs3 HF bT
  refine Pg l b o n c hl hnc true abi aH aU aJ aG ak aj au ah 2 H.b1 H.b2 H.b3 H.b4 H.b5 H.b6 H.b7 _ (by simp; omega) sc H.sec H.bd [s, fb] w s fb pg aV aW sd a w2 lF mg hs1 hs3 HF bT ?_
  clear HF bT hs1 hs3 a w2 lF mg
  intro a w2 eU nms hs1 hs3 hS hN hD HF bT
  refine PE l b o n c hl hnc true abi aH aU aJ aG ak aj au ah 2 H.b1 H.b2 H.b3 H.b4 H.b5 H.b6 H.b7 _ sc H.c3 H.str (H.bd _ (by have := H.c3; omega)).v9 H.f1 H.f2 H.f3 H.nn [s, fb] w A_ hr2 yc s fb pg aV aW sd a w2 eU nms hS HF bT ?_
  clear HF bT hS a w2
  intro a w2 dQ hS HF bT
  have hf2 := H.f2
  have hf3 := H.f3
  refine Pz l b o n c hl hnc true abi aH aU aJ aG ak aj au ah 2 H.b7 _ sc H.bd nb ((l.drop (sc (ah - 1)).off).take (sc (ah - 1)).bP) (sc (ah - 1)).bP (by simp; omega) (by unfold maxLen; omega) H.name [s, fb] w s fb pg aV aW sd dQ eU nms hN hD a w2 hS HF bT ?_
  clear HF bT hS a w2
  intro a w2 hS HF bT
  refine N_ fb a w2 (HF.sub _ (by kernel_rfl)) ?_
  intro a HF
  have hk := bT.keep
  have hk2 : Keep [fb] w w2 := hk.less ((bT.get (i := 5) rfl).trans (HM.get (i := 3) rfl).symm)
  have hkw : Keep [] w0 w2 := HM.keep.step hk2 (by intro g hg; simp only [List.mem_cons, List.not_mem_nil, or_false] at hg; subst hg; exact HM.own (i := 2) rfl)
  have hz := HM.size
  refine jq HF rfl rfl rfl ⟨fb, pg, aV, cur, eU, rfl, hkw.below, ⟨HM.ge (i := 2) rfl, HM.ge (i := 1) rfl, ?_, bT.get (i := 4) rfl, ?_, hcs, hP.keep hk2 ?_, bT.get (i := 3) rfl, hs1, ?_, hD⟩⟩
  ·refine Nat.le_trans hz ((bT.own (i := 3) rfl).elim id fun hm => ?_)
   simp only [List.mem_cons, List.not_mem_nil, or_false] at hm
   rcases hm with e | e
   ·exact absurd e (bT.ne (i := 3) (j := 5) rfl rfl (by decide))
   ·exact absurd e (bT.ne (i := 3) (j := 4) rfl rfl (by decide))
  ·exact (hk2.block pg (HM.lt (i := 1) rfl) (by simpa using HM.ne (i := 1) (j := 2) rfl rfl (by decide))).trans (HM.get (i := 1) rfl)
  ·intro g hg
   simp only [List.mem_cons, List.not_mem_nil, or_false] at hg
   subst hg
   exact ⟨_, _, _, HM.get (i := 2) rfl, by decide, by decide⟩
  ·intro j hj
   obtain ⟨pb, sb, g1, g2, g3, g4, g5⟩ := hS j hj
   simp only [hj, ↓reduceIte] at g4
   exact ⟨pb, sb, g1, by omega, by omega, g4, g5⟩
 rcases Nat.eq_zero_or_pos aj with h0 | h0
 ·subst h0
  refine Nq l b o n c hl hnc true abi aH aU aJ aG ak 0 au ah 2 H.b1 H.b2 H.b3 H.b4 H.b5 H.b6 H.b7 H.c1 (by have := H.c3; omega) w0 a w s fb HF HM ?_
  clear HF HM a w
  intro a w HF HM
  exact Nj l b o n c hl hnc true abi aH aU aJ aG ak 0 au ah 2 H.b1 H.b2 H.b3 H.b4 H.b5 H.b6 H.b7 H.c1 (by have := H.c3; omega) H.p1 hp2 w0 hbl hr a w s fb HF HM hD
 ·refine Np l b o n c hl hnc true abi aH aU aJ aG ak aj au ah 2 H.b1 H.b2 H.b3 H.b4 H.b5 H.b6 H.b7 H.c1 (by have := H.c3; omega) h0 w0 a w s fb HF HM ?_
  clear HF HM a w
  intro a w HF HM
  exact Nh l b o n c hl hnc true abi aH aU aJ aG ak aj au ah 2 H.b1 H.b2 H.b3 H.b4 H.b5 H.b6 H.b7 H.c1 (by have := H.c3; omega) h0 H.p1 hp2 w0 hbl hr a w s fb HF HM hD

theorem MI (l : List UInt8) (b o n c : Nat) (hl : n = l.length) (hnc : n ≤ c) (wide big : Bool) (abi aH aU aJ aG ak aj au ah : Nat) (sg : Nat → nN) (sc : Nat → jy) (nb : Nat → List UInt8) (H : wL l n wide big abi aH aU aJ aG ak aj au ah sg sc nb) (w0 : World) (hbl : b < w0.heap.size) (hr : Row w0 (some ⟨b, o, none⟩) (l.map Bv)) :
  Calls Tryd.prog 78 #[.iface 178 (.slice (some ⟨b, o, none⟩) n c)] w0 fun e w' => ∃ fb pg aV cur eU, e = .returned (.tuple #[aB fb, .nilIface]) ∧ Below w0.heap.size w0 w' ∧ rJ b o n c w0.heap.size w' wide big abi aH aU aJ aG aj ah sg sc nb fb pg aV cur eU := by
 cases wide <;> cases big
 ·exact Oc l b o n c hl hnc abi aH aU aJ aG ak aj au ah sg sc nb H w0 hbl hr
 ·exact Oe l b o n c hl hnc abi aH aU aJ aG ak aj au ah sg sc nb H w0 hbl hr
 ·exact Oa l b o n c hl hnc abi aH aU aJ aG ak aj au ah sg sc nb H w0 hbl hr
 ·exact Ob l b o n c hl hnc abi aH aU aJ aG ak aj au ah sg sc nb H w0 hbl hr
end Go.Proofs.YtdgehpocmfjbiaaDoor
namespace Go.Proofs.YtdgehpocmfjbiaaDoor
open Go.RowKit

theorem rJ.keep {b o n c z : Nat} {w w' : World} {wide big : Bool} {abi aH aU aJ aG aj ah : Nat} {sg : Nat → nN} {sc : Nat → jy} {nb : Nat → List UInt8} {fb pg aV : Nat} {cur eU : Array Value} (h : rJ b o n c z w wide big abi aH aU aJ aG aj ah sg sc nb fb pg aV cur eU) (hk : Keep [] w w') : rJ b o n c z w' wide big abi aH aU aJ aG aj ah sg sc nb fb pg aV cur eU :=
 ⟨h.zf, h.zp, h.zs, (hk.block _ (kH h.file) (by simp)).trans h.file, (hk.block _ (kH h.QW) (by simp)).trans h.QW, h.size, h.prog.keep hk (by intro g hg; cases hg), (hk.block _ (kH h.secs) (by simp)).trans h.secs, h.ssize, h.sec.keep hk (by intro g hg; cases hg), h.ne⟩
theorem Je {w : World} {A : Option Addr} {cs : List Value} (h : Row w A cs) (k : Nat) : Row w A (cs.take k) := fun i v hv => by
 rw [List.getElem?_take] at hv
 split at hv
 ·exact h i v hv
 ·cases hv
theorem PU : (Tryd.prog.info? 5).map (fun i => (i.zero, i.size, i.bytes)) = some (some (.int .u8 0), 1, 1) := by kernel_rfl

theorem open_any (l : List UInt8) (A : Option Addr) (n c : Nat) (hl : n = l.length) (hnc : n ≤ c) (wide big : Bool) (abi aH aU aJ aG ak aj au ah : Nat) (sg : Nat → nN) (sc : Nat → jy) (nb : Nat → List UInt8) (H : wL l n wide big abi aH aU aJ aG ak aj au ah sg sc nb) (h47 : n ≤ 140737488355328) (w0 : World) (hr : Row w0 A (l.map Bv)) :
  Calls Tryd.prog 55 #[.slice A n c] w0 fun e w' => ∃ g cap z fb pg aV cur eU, e = .returned (.tuple #[aB fb, .bool true]) ∧ Below w0.heap.size w0 w' ∧ n ≤ cap ∧ cap ≤ maxLen ∧ w0.heap.size ≤ g ∧ w0.heap.size ≤ z ∧ Row w' (some ⟨g, 0, none⟩) (l.map Bv) ∧ rJ g 0 n cap z w' wide big abi aH aU aJ aG aj ah sg sc nb fb pg aV cur eU := by
 have hn16 : 16 ≤ n := by
  have := H.head.len
  rw [← hl] at this
  unfold gV at this
  split at this <;> omega
 obtain ⟨w, hw⟩ : ∃ w, w0 = w := ⟨_, rfl⟩
 have HM : Mm [] w0 w [] := hw ▸ Mm.start w0
 conv => arg 4; rw [hw]
 clear hw
 refine cu Tryd.func55 rfl Tryd.ntmps55 [(0, .slice A n c)] (by kernel_rfl) (Nat.le_of_ble_eq_true rfl) ?_
 intro a HF
 refine bG HF HM rfl [] [(0, .slice A n c), (2, .pointer none), (3, .bool false)] [] (by kernel_rfl) ?_
 clear HF HM; intro a w HF HM
 refine wp_seq (wp_region_lit ?_)
 refine aT HF HM rfl 1 [] [(0, .slice A n c), (2, .pointer none), (3, .bool false), (7, .slice A n c)] [] (by kernel_rfl) ?_
 clear HF HM; intro a w HF HM
 refine oH HF HM rfl _ _ 33 rfl rfl 5 Tryd.underlying33 PU rfl (by omega) rfl A n c (l.map Bv) rfl (by simp [hl]) (by omega) (HM.row hr) (sS _) (by unfold maxLen; omega) (by omega) ?_
 intro a2 w1 g cap cb bT htk hcs qQ hcap hbel HF2; have hg0 : w0.heap.size ≤ g := bT.ge (i := 0) rfl; clear HF HM hbel; have HM := bT; have HF := HF2; clear bT HF2
 replace HF := HF.sub [(0, .slice A n c), (2, .pointer none), (3, .bool false), (7, .slice A n c), (8, aC g n cap)] (by kernel_rfl)
 have hrow : Row w1 (some ⟨g, 0, none⟩) (l.map Bv) := by have := Je (HM.rowAt (i := 0) rfl) (n * 1); rwa [htk] at this
 refine aT HF HM rfl 1 [] [(0, .slice A n c), (2, .pointer none), (3, .bool false), (9, .iface 178 (aC g n cap))] [(g, .cells cb 5 (0, 0))] (by kernel_rfl) ?_
 clear HF HM; intro a w HF HM
 have hrow2 : Row w (some ⟨g, 0, none⟩) (l.map Bv) := by have := Je (HM.rowAt (i := 0) rfl) (n * 1); rwa [htk] at this
 refine bf HF (by kernel_rfl) 78 #[.iface 178 (aC g n cap)] (by kernel_rfl) (fun w => by kernel_rfl) (Calls.mono (MI l g 0 n cap hl qQ wide big abi aH aU aJ aG ak aj au ah sg sc nb H w (HM.lt (i := 0) rfl) hrow2) ?_)
 rintro _ w2 ⟨fb, pg, aV, cur, eU, rfl, hb, hF⟩
 have hzz : w0.heap.size ≤ w.heap.size := HM.size
 have hrow3 := hrow2.below hb
 replace HM := HM.call hb
 refine ⟨_, rfl, ?_⟩; clear HF; intro a HF; replace HF := HF.sub [(0, .slice A n c), (2, .pointer none), (3, .bool false), (9, .iface 178 (aC g n cap)), (10, .tuple #[aB fb, .nilIface])] (by kernel_rfl)
 refine wp_pure HF HM rfl 5 [] [(0, .slice A n c), (2, .pointer none), (3, .bool false), (4, aB fb), (5, .nilIface)] (by kernel_rfl) ?_
 clear HF; intro a HF
 refine aA ?_
 refine vF (by kernel_rfl) (by kernel_rfl) ?_
 refine oU HF HM rfl 5 [] [(0, .slice A n c), (2, aB fb), (3, .bool true)] (by kernel_rfl) ?_
 clear HF; intro a HF
 refine wR ?_
 rintro _ ⟨nq, rfl⟩
 refine wp_ret ?_
 exact jq HF rfl rfl rfl ⟨g, cap, w.heap.size, fb, pg, aV, cur, eU, rfl, (HM.drewN nq).below, qQ, hcap, hg0, hzz, hrow3, hF.keep ((Keep.refl [] _).drewN nq)⟩

end Go.Proofs.YtdgehpocmfjbiaaDoor
namespace Go.Proofs.YtdgehpocmfjbiaaDoor
open Go.RowKit

theorem yg {α : Type} (f : α → List UInt8) (B : Nat) : ∀ l : List α, (∀ a ∈ l, (f a).length ≤ B) → (l.flatMap f).length ≤ l.length * B
 | [], _ => by simp
 | a :: l, h => by
  have h1 := yg f B l fun b hb => h b (by simp [hb])
  have h2 := h a (by simp)
  rw [List.flatMap_cons, List.length_append, List.length_cons, Nat.succ_mul]
  omega
structure Seg.Ok (wide : Bool) (s : Seg) : Prop where
 ty : s.ty < 2147483648
 flags : s.flags < 4294967296
 bU : s.bU < 256 ^ iT wide
 bV : s.bV < 256 ^ iT wide
 bY : s.bY < 256 ^ iT wide
 align : s.align < 256 ^ iT wide
 data : s.data.length ≤ 65536
structure Part.Ok (wide : Bool) (p : Part) : Prop where
 name : p.name.length ≤ 1024
 EM : 0 ∉ p.name
 ty : p.ty < 4294967296
 flags : p.flags < 4294967296
 zip : (qO (p.flags : Int) 2048 == 0) = true
 addr : p.addr < 256 ^ iT wide
 link : p.link < 4294967296
 info : p.info < 4294967296
 align : p.align < 256 ^ iT wide
 ent : p.ent < 256 ^ iT wide
 size : p.size < 256 ^ iT wide
 Ku : p.size < 4611686018427387904
 data : p.data.length ≤ 1100000
structure dU.Ok (x : dU) : Prop where
 abi : x.abi < 256
 aH : x.aH < 256
 ty : x.ty < 65536
 machine : x.machine < 65536
 entry : x.entry < 256 ^ iT x.wide
 dA : x.dA.length ≤ 100
 parts : x.parts.length ≤ 102
 seg : ∀ s ∈ x.dA, Seg.Ok x.wide s
 part : ∀ p ∈ x.parts, Part.Ok x.wide p
def Kv (x : dU) (i : Nat) : nN := match x.dA[i]? with
 | some s => ⟨s.ty, s.flags, x.kN i, s.bU, s.bV, s.data.length, s.bY, s.align⟩
 | none => ⟨0, 0, 0, 0, 0, 0, 0, 0⟩
def jF (x : dU) (i : Nat) : jy := match x.all[i]? with
 | some p => ⟨x.lD i, p.ty, p.flags, p.addr, x.iK i, tJ p, p.link, p.info, p.align, p.ent⟩
 | none => ⟨0, 0, 0, 0, 0, 0, 0, 0, 0, 0⟩
def Ce (x : dU) (i : Nat) : List UInt8 := (x.names[i]?).getD []

section
variable {x : dU}
theorem dU.Ok.Ar (h : x.Ok) : x.names.length = x.parts.length + 2 := by simp [dU.names, dU.firsts]
theorem dU.yw (x : dU) : x.all.length = x.parts.length + 2 := by simp [dU.all, dU.firsts]
theorem dU.Ok.sZ (h : x.Ok) : (aZ x.names).length ≤ 110000 := by
 have hb := yg (fun n : List UInt8 => n ++ [0]) 1025 x.names (by
  intro n hn
  simp only [dU.names, dU.firsts, List.map_cons, List.mem_append, List.mem_cons, List.mem_map, List.not_mem_nil, or_false] at hn
  rcases hn with (rfl | ⟨p, hp, rfl⟩) | rfl
  ·simp [uT]
  ·have := (h.part p hp).name
   simp; omega
  ·simp [zy])
 rw [h.Ar] at hb
 have := h.parts
 unfold aZ
 rw [List.length_cons]
 have : (x.parts.length + 2) * 1025 ≤ 104 * 1025 := Nat.mul_le_mul_right _ (by omega)
 omega
theorem dU.Ok.Dh (h : x.Ok) : x.ni.length ≤ 6553600 := by
 have := yg (fun s : Seg => s.data) 65536 x.dA fun s hs => (h.seg s hs).data
 have h2 : x.dA.length * 65536 ≤ 100 * 65536 := Nat.mul_le_mul_right _ h.dA
 unfold dU.ni
 omega
theorem MQ (p : Part) : (mW p).length ≤ p.data.length := by unfold mW; split <;> simp
theorem dU.Ok.Di (h : x.Ok) : x.oD.length ≤ 114400000 := by
 have := yg mW 1100000 x.all (by
  intro p hp
  refine Nat.le_trans (MQ p) ?_
  simp only [dU.all, dU.firsts, List.mem_append, List.mem_cons, List.not_mem_nil, or_false] at hp
  rcases hp with (rfl | hp) | rfl
  ·simp [uT]
  ·have := (h.part p hp).data
   omega
  ·have := h.sZ
   show (aZ x.names).length ≤ 1100000
   omega)
 have h2 : x.all.length * 1100000 ≤ 104 * 1100000 := Nat.mul_le_mul_right _ (by rw [dU.yw]; have := h.parts; omega)
 unfold dU.oD
 omega
theorem dU.Ok.LQ (h : x.Ok) : x.at0 ≤ 5664 := by
 have := h.dA
 unfold dU.at0 gV iF
 split <;> omega
theorem dU.Ok.GU (h : x.Ok) : x.m_ ≤ 121000000 := by
 have h1 := h.LQ
 have h2 := h.Dh
 have h3 := h.Di
 unfold dU.m_
 rw [List.length_append]
 omega
theorem dU.Ok.length_le (h : x.Ok) : x.file.length ≤ 122000000 := by
 rw [dU.Cj, dU.yw]
 have h1 := h.GU
 have h2 := h.parts
 have : (x.parts.length + 2) * iV x.wide ≤ 104 * 64 := Nat.mul_le_mul (by omega) (by unfold iV; split <;> omega)
 omega
theorem dU.Cc (x : dU) (i : Nat) : x.kN i ≤ x.m_ := by
 have := CX (·.data) x.dA i
 unfold dU.kN dU.m_ dU.ni
 rw [List.length_append]
 omega
theorem dU.wu (x : dU) (i : Nat) : x.iK i ≤ x.m_ := by
 have := CX mW x.all i
 unfold dU.iK dU.m_ dU.oD
 rw [List.length_append]
 split <;> omega
theorem I8 (wide : Bool) : 4294967296 ≤ 256 ^ iT wide := by cases wide <;> decide
theorem Sj (wide : Bool) : 256 ^ iT wide ≤ 18446744073709551616 := by cases wide <;> decide

structure Part.Fit (wide : Bool) (p : Part) : Prop where
 ty : p.ty < 4294967296
 flags : p.flags < 4294967296
 zip : (qO (p.flags : Int) 2048 == 0) = true
 addr : p.addr < 256 ^ iT wide
 link : p.link < 4294967296
 info : p.info < 4294967296
 align : p.align < 256 ^ iT wide
 ent : p.ent < 256 ^ iT wide
 size : tJ p < 256 ^ iT wide
 Ku : tJ p < 4611686018427387904
theorem Ac : (qO ((0 : Nat) : Int) 2048 == 0) = true := by decide
theorem dU.Ok.fit (h : x.Ok) : ∀ p ∈ x.all, Part.Fit x.wide p := by
 intro p hp
 have hb := I8 x.wide
 simp only [dU.all, dU.firsts, List.mem_append, List.mem_cons, List.not_mem_nil, or_false] at hp
 rcases hp with (rfl | hp) | rfl
 ·exact ⟨by decide, by decide, Ac, by show 0 < _; omega, by decide, by decide, by show 0 < _; omega, by show 0 < _; omega, by show 0 < _; omega, by decide⟩
 ·have o := h.part p hp
  have h1 := o.size
  have h2 := o.Ku
  have h3 := o.data
  refine ⟨o.ty, o.flags, o.zip, o.addr, o.link, o.info, o.align, o.ent, ?_, ?_⟩
  ·unfold tJ rX; split <;> omega
  ·unfold tJ rX; split <;> omega
 ·have hn := h.sZ
  refine ⟨by show 3 < _; omega, by show 0 < _; omega, Ac, by show 0 < _; omega, by show 0 < _; omega, by show 0 < _; omega, by show 1 < _; omega, by show 0 < _; omega, ?_, ?_⟩
  ·show (aZ x.names).length < _; omega
  ·show (aZ x.names).length < _; omega
theorem GV (x : dU) (i : Nat) (hi : i < x.all.length) : jF x i = ⟨x.lD i, x.all[i].ty, x.all[i].flags, x.all[i].addr, x.iK i, tJ x.all[i], x.all[i].link, x.all[i].info, x.all[i].align, x.all[i].ent⟩ := by
 simp [jF, hi]
theorem wE (x : dU) (i : Nat) (hi : i < x.dA.length) : Kv x i = ⟨x.dA[i].ty, x.dA[i].flags, x.kN i, x.dA[i].bU, x.dA[i].bV, x.dA[i].data.length, x.dA[i].bY, x.dA[i].align⟩ := by
 simp [Kv, hi]
theorem dU.last (x : dU) : x.all[x.all.length - 1]? = some x.CJ := by
 have : x.all.length - 1 = x.firsts.length := by simp [dU.all]
 rw [this]
 simp [dU.all]
theorem O1 (x : dU) : jF x (x.all.length - 1) = ⟨x.lD (x.all.length - 1), 3, 0, 0, x.iK (x.all.length - 1), (aZ x.names).length, 0, 0, 1, 0⟩ := by
 unfold jF
 rw [dU.last]
 rfl
theorem dU.Ok.Az (h : x.Ok) (i : Nat) (hi : i < x.all.length) : x.lD i < 4294967296 := by
 unfold dU.lD
 split
 ·omega
 ·have := BR x.names i (by rw [h.Ar]; rw [dU.yw] at hi; exact hi)
  have := h.sZ
  omega
theorem dU.Qr (x : dU) : ∃ r, x.file.drop (x.iK (x.all.length - 1)) = aZ x.names ++ r := by
 have hl := dU.yw x
 obtain ⟨r, e⟩ := x.OY (x.all.length - 1) (by omega) (by omega)
 have hg : x.all[x.all.length - 1]'(by omega) = x.CJ := by
  have := x.last
  rw [List.getElem?_eq_getElem (by omega)] at this
  exact Option.some.inj this
 rw [hg] at e
 exact ⟨r, e⟩
theorem dU.Ok.EM (h : x.Ok) : ∀ n ∈ x.names, 0 ∉ n := by
 intro n hn
 simp only [dU.names, dU.firsts, List.map_cons, List.mem_append, List.mem_cons, List.mem_map, List.not_mem_nil, or_false] at hn
 rcases hn with (rfl | ⟨p, hp, rfl⟩) | rfl
 ·simp [uT]
 ·exact (h.part p hp).EM
 ·decide
theorem Jl (h : x.Ok) : wL x.file x.file.length x.wide x.big x.abi x.aH x.ty x.machine x.entry (gV x.wide) x.dA.length x.m_ x.all.length (Kv x) (jF x) (Ce x) := by
 have hb := I8 x.wide
 have ht := Sj x.wide
 have hH : gV x.wide ≤ 64 := by unfold gV; split <;> omega
 have hH0 : 52 ≤ gV x.wide := by unfold gV; split <;> omega
 have hS0 : 40 ≤ iV x.wide := by unfold iV; split <;> omega
 have hal := dU.yw x
 have hsh := h.GU
 have hsg := h.dA
 have hpt := h.parts
 have hlen := h.length_le
 have hfl := x.Cj
 have h0 : x.at0 ≤ x.m_ := by unfold dU.m_; omega
 have h00 : x.at0 = gV x.wide + iF x.wide * x.dA.length := rfl
 have hmul : 1 * 40 ≤ x.all.length * iV x.wide := Nat.mul_le_mul (by omega) hS0
 have hen := h.entry
 have hlast := O1 x
 obtain ⟨rn, en⟩ := x.Qr
 have hnl := congrArg List.length en
 rw [List.length_drop, List.length_append] at hnl
 have hnb := h.sZ
 refine ⟨?_, h.abi, h.aH, h.ty, h.machine, by omega, by omega, by omega, by omega, by omega, by omega, by omega, by omega, ?_, by omega, ?_, by omega, ?_, ?_, ?_, ?_, ?_, ?_, ?_, ?_, ?_, ?_, ?_, ?_, ?_, ?_⟩
 ·obtain ⟨r, e⟩ := x.OT
  rw [e]
  exact RY x.wide x.big x.abi x.aH x.ty x.machine x.entry x.dA.length (gV x.wide) x.all.length x.m_ r h.ty h.machine h.entry (by omega) (by omega) (by omega) (by omega)
 ·show gV x.wide + x.dA.length * iF x.wide ≤ _
  rw [Nat.mul_comm]; omega
 ·show x.m_ + x.all.length * iV x.wide ≤ _
  omega
 ·intro i hi
  have e1 : (x.file.drop (gV x.wide)).take (x.dA.length * iF x.wide) = eG x.qJ 0 x.dA := by
   rw [x.P8, List.take_left' (by rw [x.vC, Nat.mul_comm])]
  obtain ⟨r, e2⟩ := Em x.qJ (iF x.wide) x.dA (fun j a _ => uo ..) i hi
  have o := h.seg _ (List.getElem_mem hi)
  have hd := o.data
  have hp := x.Cc i
  rw [wE x i hi]
  show yA (((x.file.drop (gV x.wide)).take (x.dA.length * iF x.wide)).drop (i * iF x.wide)) _ _ _ _ _ _ _ _ _ _
  rw [e1, e2]
  have hty := o.ty
  exact Sv x.wide x.big _ _ _ _ _ _ _ _ r (by omega) o.flags o.bU o.bV o.bY o.align (by omega) (by omega)
 ·intro i hi; have o := (h.seg _ (List.getElem_mem hi)).ty; rw [wE x i hi]; show x.dA[i].ty < _; omega
 ·intro i hi; have o := (h.seg _ (List.getElem_mem hi)).data; have := x.Cc i; rw [wE x i hi]; show x.kN i + x.dA[i].data.length < _; omega
 ·intro i hi; have o := (h.seg _ (List.getElem_mem hi)).bU; rw [wE x i hi]; show x.dA[i].bU ≤ _; omega
 ·intro i hi; have o := (h.seg _ (List.getElem_mem hi)).bV; rw [wE x i hi]; show x.dA[i].bV ≤ _; omega
 ·intro i hi; have o := (h.seg _ (List.getElem_mem hi)).bY; rw [wE x i hi]; show x.dA[i].bY ≤ _; omega
 ·intro i hi; have o := (h.seg _ (List.getElem_mem hi)).align; rw [wE x i hi]; show x.dA[i].align ≤ _; omega
 ·intro i hi
  have e1 : (x.file.drop x.m_).take (x.all.length * iV x.wide) = eG x.oQ 0 x.all := by
   rw [x.OG, List.take_of_length_le (by rw [x.CQ]; exact Nat.le_refl _)]
  obtain ⟨r, e2⟩ := Em x.oQ (iV x.wide) x.all (fun j a _ => uq ..) i hi
  have o := h.fit _ (List.getElem_mem hi)
  have hp := x.wu i
  rw [GV x i hi]
  show yB (((x.file.drop x.m_).take (x.all.length * iV x.wide)).drop (i * iV x.wide)) _ _ _ _ _ _ _ _ _ _ _ _
  rw [e1, e2]
  exact Sz x.wide x.big _ _ _ _ _ _ _ _ _ _ r (h.Az i hi) o.ty o.flags o.addr (by omega) o.size o.link o.info o.align o.ent
 ·intro i hi
  have o := h.fit _ (List.getElem_mem hi)
  have hp := x.wu i
  have a1 := o.addr
  have a2 := o.align
  have a3 := o.ent
  rw [GV x i hi]
  exact ⟨h.Az i hi, o.ty, o.flags, by show x.iK i < _; omega, o.Ku, by show x.all[i].addr ≤ _; omega, by show x.all[i].align ≤ _; omega, by show x.all[i].ent ≤ _; omega, o.zip⟩
 ·rw [hlast]
 ·rw [hlast]; show 0 < (aZ x.names).length; simp [aZ]
 ·rw [hlast]; show (aZ x.names).length < _; omega
 ·rw [hlast]
  show x.iK (x.all.length - 1) + (aZ x.names).length ≤ _
  have := x.wu (x.all.length - 1)
  omega
 ·intro i hi
  rw [hlast, GV x i hi]
  show kR ((x.file.drop (x.iK (x.all.length - 1))).take (aZ x.names).length) (x.lD i) = _
  rw [en, List.take_left]
  have hin : i < x.names.length := by rw [h.Ar, ← hal]; exact hi
  have hnb : Ce x i = x.names[i] := by simp [Ce, hin]
  rw [hnb]
  unfold dU.lD
  split
  ·rename_i hi0
   subst hi0
   rfl
  ·exact D8 x.names i hin (h.EM _ (List.getElem_mem hin))
end
end Go.Proofs.YtdgehpocmfjbiaaDoor
