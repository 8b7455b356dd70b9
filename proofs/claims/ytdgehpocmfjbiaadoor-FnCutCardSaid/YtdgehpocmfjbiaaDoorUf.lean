/- elf.NewFile: the loop over the sections. · elf.NewFile: the table of the sections' names is read. · elf.NewFile: the sections are named. · elf.NewFile -/
import Derived.Test.YtdgehpocmfjbiaaDoorUe
import Derived.Test.YtdgehpocmfjbiaaDoorUa
set_option linter.unusedVariables false
set_option linter.unusedSimpArgs false
set_option maxRecDepth 100000
set_option maxHeartbeats 2000000
namespace Go.Proofs.YtdgehpocmfjbiaaDoor
open Go.RowKit

/-- the first k sections, in memory, with the names nf -/
def iw (b o n c : Nat) (z : Nat) (w : World) (sc : Nat → gV) (nf : Nat → ByteArray) (k : Nat) (cur : Array Value) : Prop :=
 ∀ j, j < k → ∃ pb sb, cur[j]? = some (aG pb) ∧ z ≤ pb ∧ z ≤ sb ∧ w.heap[pb]? = some (.cells #[.string (nf j), aY (sc j).ty, aY (sc j).flags, aJ (sc j).addr, aJ (sc j).off, aJ (sc j).bG, aY (sc j).link, aY (sc j).info, aJ (sc j).align, aJ (sc j).ent, aJ (sc j).bG, .iface 144 (aG sb), aG sb, .int .i64 0, .int .i64 0] 153 (0, 0)) ∧ w.heap[sb]? = some (.cells #[.iface 178 (.slice (some ⟨b, o, none⟩) n c), aB (sc j).off, aB (sc j).off, .int .i64 ((((sc j).bG : Nat) : Int) + (((sc j).off : Nat) : Int)), aB (sc j).bG] 246 (0, 0))
theorem iw.keep {b o n c z : Nat} {w w' : World} {sc : Nat → gV} {nf : Nat → ByteArray} {k : Nat} {cur : Array Value} {G : List Nat} (h : iw b o n c z w sc nf k cur) (hk : Keep G w w') (hG : ∀ g ∈ G, ∃ cs t f, w.heap[g]? = some (.cells cs t f) ∧ t ≠ 153 ∧ t ≠ 246) : iw b o n c z w' sc nf k cur := fun j hj => by
 obtain ⟨pb, sb, h1, h2, h3, h4, h5⟩ := h j hj
 refine ⟨pb, sb, h1, h2, h3, (hk.block pb (jD h4) fun hm => ?_).trans h4, (hk.block sb (jD h5) fun hm => ?_).trans h5⟩
 ·obtain ⟨cs, t, f, e, n1, n2⟩ := hG pb hm
  exact cO h4 e (Ne.symm n1) rfl
 ·obtain ⟨cs, t, f, e, n1, n2⟩ := hG sb hm
  exact cO h5 e (Ne.symm n2) rfl
theorem yZ {cur cur' : Array Value} {k j : Nat} {v : Value} (hs : k < cur.size) (ht : cur'.toList.take (k + 1) = cur.toList.take k ++ [v]) (hj : j < k + 1) : cur'[j]? = if j < k then cur[j]? else some v := by
 have hget : cur'[j]? = (cur'.toList.take (k + 1))[j]? := by rw [List.getElem?_take, if_pos hj]; simp
 have hlen : (cur.toList.take k).length = k := by simp; omega
 rw [ht] at hget
 split
 ·rename_i hlt
  rw [hget, List.getElem?_append_left (by omega), List.getElem?_take, if_pos hlt]
  simp
 ·rw [hget, List.getElem?_append_right (by omega), hlen, show j - k = 0 by omega]
  rfl
theorem iw.next {b o n c z : Nat} {w : World} {sc : Nat → gV} {nf : Nat → ByteArray} {k : Nat} {cur cur' : Array Value} {pb sb : Nat} (h : iw b o n c z w sc nf k cur) (hs : k < cur.size) (ht : cur'.toList.take (k + 1) = cur.toList.take k ++ [aG pb]) (h2 : z ≤ pb) (h3 : z ≤ sb)
  (h4 : w.heap[pb]? = some (.cells #[.string (nf k), aY (sc k).ty, aY (sc k).flags, aJ (sc k).addr, aJ (sc k).off, aJ (sc k).bG, aY (sc k).link, aY (sc k).info, aJ (sc k).align, aJ (sc k).ent, aJ (sc k).bG, .iface 144 (aG sb), aG sb, .int .i64 0, .int .i64 0] 153 (0, 0))) (h5 : w.heap[sb]? = some (.cells #[.iface 178 (.slice (some ⟨b, o, none⟩) n c), aB (sc k).off, aB (sc k).off, .int .i64 ((((sc k).bG : Nat) : Int) + (((sc k).off : Nat) : Int)), aB (sc k).bG] 246 (0, 0))) : iw b o n c z w sc nf (k + 1) cur' := fun j hj => by
 have hget := yZ hs ht hj
 rcases Nat.lt_or_ge j k with hlt | hge
 ·obtain ⟨pb', sb', g1, g2⟩ := h j hlt
  exact ⟨pb', sb', by rw [hget, if_pos hlt, g1], g2⟩
 ·obtain rfl : j = k := by omega
  exact ⟨pb, sb, by rw [hget, if_neg (Nat.lt_irrefl _)], h2, h3, h4, h5⟩
def kC (sc : Nat → gV) (k : Nat) (nms : Array Value) : Prop := ∀ j, j < k → nms[j]? = some (aY (sc j).name)
theorem kC.next {sc : Nat → gV} {k : Nat} {nms fG : Array Value} (h : kC sc k nms) (hs : k < nms.size) (ht : fG.toList.take (k + 1) = nms.toList.take k ++ [aY (sc k).name]) : kC sc (k + 1) fG := fun j hj => by
 have hget := yZ hs ht hj
 rcases Nat.lt_or_ge j k with hlt | hge
 ·rw [hget, if_pos hlt, h j hlt]
 ·obtain rfl : j = k := by omega
  rw [hget, if_neg (Nat.lt_irrefl _)]
/-- the pointers differ -/
def mG (k : Nat) (cur : Array Value) : Prop := ∀ i j, i < j → j < k → cur[i]? ≠ cur[j]?
theorem mG.next {k : Nat} {cur cur' : Array Value} {v : Value} (h : mG k cur) (hs : k < cur.size) (ht : cur'.toList.take (k + 1) = cur.toList.take k ++ [v]) (hne : ∀ i, i < k → cur[i]? ≠ some v) : mG (k + 1) cur' := fun i j hij hj => by
 have h1 := yZ hs ht (j := i) (by omega)
 have h2 := yZ hs ht hj
 rw [h1, h2, if_pos (by omega : i < k)]
 split
 ·rename_i hlt; exact h i j hij hlt
 ·exact hne i (by omega)
structure rO (v : gV) : Prop where
 v1 : v.name < 4294967296
 v2 : v.ty < 4294967296
 v3 : v.flags < 4294967296
 v4 : v.off < 4611686018427387904
 v5 : v.bG < 4611686018427387904
 v6 : v.addr ≤ 18446744073709551615
 v7 : v.align ≤ 18446744073709551615
 v8 : v.ent ≤ 18446744073709551615
 v9 : (oC (v.flags : Int) 2048 == 0) = true

theorem NZ (l : List UInt8) (b o n c : Nat) (hl : n = l.length) (hnc : n ≤ c) (big : Bool) (abi aC aQ aF ay ak aj au ah : Nat) (dat : Int) (b1 : aQ < 65536) (b2 : aF < 65536) (b3 : ay ≤ 18446744073709551615) (b4 : ak < 4611686018427387904) (b5 : au < 4611686018427387904) (b6 : aj < 200) (b7 : ah < 200) (X : List UInt8) (nI : X.length = (ah * 40)) (sc : Nat → gV) (hv : ∀ i, i < ah → uH (X.drop (i * 40)) false big (sc i).name (sc i).ty (sc i).flags (sc i).addr (sc i).off (sc i).bG (sc i).link (sc i).info (sc i).align (sc i).ent) (bd : ∀ i, i < ah → rO (sc i)) (G : List Nat) (w0 : World) (s fb pg aX aT sd : Nat) {KK : Act → World → Prop} {QQ : Exit → Act → World → Prop} {KR : Act → World → Prop}
  (K : ∀ a w cur nms, cur.size = ah → nms.size = ah → iw b o n c w0.heap.size w sc (fun _ => ⟨#[]⟩) ah cur → kC sc ah nms → mG ah cur → Fr 1287 a [(0, .iface 178 (.slice (some ⟨b, o, none⟩) n c)), (4, aG s), (8, aG fb), (9, (aP big)), (10, aB ak), (11, .int .i64 32), (12, aB aj), (13, aB au), (14, .int .i64 40), (15, aB ah), (16, aB (ah - 1)), (26, .int .i64 40), (41, aH aT ah ah), (42, aH sd (ah * 40) (ah * 40))] → Mm G w0 w [(sd, .cells (X.map Bv).toArray 5 (0, 0)), (aT, .cells nms 36 (0, 0)), (aX, .cells cur 133 (0, 0)), (fb, .cells #[.int .u8 1, .int .u8 dat, .int .u8 1, aV abi, aV aC, (aP big), aZ aQ, aZ aF, aJ ay, aH aX ah ah, aH pg aj aj, .slice none 0 0, .slice none 0 0, .slice none 0 0] 131 (0, 0)), (s, .cells #[.iface 178 (.slice (some ⟨b, o, none⟩) n c), .int .i64 0, .int .i64 0, .int .i64 9223372036854775807, .int .i64 9223372036854775807] 246 (0, 0))] → KK a w) (a : Act) (w : World) (cur nms : Array Value) (hcs : cur.size = ah) (hns : nms.size = ah) (hP : iw b o n c w0.heap.size w sc (fun _ => ⟨#[]⟩) ah cur) (hN : kC sc ah nms) (hD : mG ah cur) (HF : Fr 1287 a [(0, .iface 178 (.slice (some ⟨b, o, none⟩) n c)), (4, aG s), (8, aG fb), (9, (aP big)), (10, aB ak), (11, .int .i64 32), (12, aB aj), (13, aB au), (14, .int .i64 40), (15, aB ah), (16, aB (ah - 1)), (26, .int .i64 40), (41, aH aT ah ah), (42, aH sd (ah * 40) (ah * 40)), (43, aB ah)]) (HM : Mm G w0 w [(sd, .cells (X.map Bv).toArray 5 (0, 0)), (aT, .cells nms 36 (0, 0)), (aX, .cells cur 133 (0, 0)), (fb, .cells #[.int .u8 1, .int .u8 dat, .int .u8 1, aV abi, aV aC, (aP big), aZ aQ, aZ aF, aJ ay, aH aX ah ah, aH pg aj aj, .slice none 0 0, .slice none 0 0, .slice none 0 0] 131 (0, 0)), (s, .cells #[.iface 178 (.slice (some ⟨b, o, none⟩) n c), .int .i64 0, .int .i64 0, .int .i64 9223372036854775807, .int .i64 9223372036854775807] 246 (0, 0))]) :
  (oD (spine Tryd.f78 44)).wp Tryd.prog (Exit.then KR (Exit.inBlock 8 (Exit.then KK QQ))) a w := by
 refine wp_seq ?_
 refine wp_seq (wp_region_lit ?_)
 refine wp_pure HF HM rfl 3 [] [(0, .iface 178 (.slice (some ⟨b, o, none⟩) n c)), (4, aG s), (8, aG fb), (9, (aP big)), (10, aB ak), (11, .int .i64 32), (12, aB aj), (13, aB au), (14, .int .i64 40), (15, aB ah), (16, aB (ah - 1)), (26, .int .i64 40), (41, aH aT ah ah), (42, aH sd (ah * 40) (ah * 40)), (43, aB ah), (859, .bool (decide (((ah : Nat) : Int) < ((ah : Nat) : Int))))] (by kernel_rfl) ?_
 clear HF; intro a HF
 rw [show decide (((ah : Nat) : Int) < ((ah : Nat) : Int)) = false from bZ (by omega)] at HF
 refine aI ?_
 refine bf HF rfl ?_
 replace HF := HF.sub [(0, .iface 178 (.slice (some ⟨b, o, none⟩) n c)), (4, aG s), (8, aG fb), (9, (aP big)), (10, aB ak), (11, .int .i64 32), (12, aB aj), (13, aB au), (14, .int .i64 40), (15, aB ah), (16, aB (ah - 1)), (26, .int .i64 40), (41, aH aT ah ah), (42, aH sd (ah * 40) (ah * 40)), (43, aB ah)] (by kernel_rfl)
 refine wp_exit (iW (iW (kH (aS ?_))))
 replace HF := HF.sub [(0, .iface 178 (.slice (some ⟨b, o, none⟩) n c)), (4, aG s), (8, aG fb), (9, (aP big)), (10, aB ak), (11, .int .i64 32), (12, aB aj), (13, aB au), (14, .int .i64 40), (15, aB ah), (16, aB (ah - 1)), (26, .int .i64 40), (41, aH aT ah ah), (42, aH sd (ah * 40) (ah * 40))] (by kernel_rfl)
 exact K a _ cur nms hcs hns hP hN hD HF HM
abbrev vK := fun (s : Nat) (b : Nat) (o : Nat) (n : Nat) (c : Nat) => ((s, .cells #[.iface 178 (.slice (some ⟨b, o, none⟩) n c), aA 0, aA 0, aA 9223372036854775807, aA 9223372036854775807] 246 (0, 0)) : Nat × Obj)
abbrev zB := fun (fb : Nat) (dat : Int) (abi : Nat) (aC : Nat) (big : Bool) (aQ : Nat) (aF : Nat) (ay : Nat) (aX : Nat) (i : Nat) (ah : Nat) (pg : Nat) (aj : Nat) => ((fb, .cells #[aN 1, .int .u8 dat, aN 1, aV abi, aV aC, (aP big), aZ aQ, aZ aF, aJ ay, aH aX i ah, aH pg aj aj, aK, aK, aK] 131 (0, 0)) : Nat × Obj)
theorem Jj (l : List UInt8) (b o n c : Nat) (hl : n = l.length) (hnc : n ≤ c) (big : Bool) (abi aC aQ aF ay ak aj au ah : Nat) (dat : Int) (b1 : aQ < 65536) (b2 : aF < 65536) (b3 : ay ≤ 18446744073709551615) (b4 : ak < 4611686018427387904) (b5 : au < 4611686018427387904) (b6 : aj < 200) (b7 : ah < 200) (X : List UInt8) (nI : X.length = (ah * 40)) (sc : Nat → gV) (hv : ∀ i, i < ah → uH (X.drop (i * 40)) false big (sc i).name (sc i).ty (sc i).flags (sc i).addr (sc i).off (sc i).bG (sc i).link (sc i).info (sc i).align (sc i).ent) (bd : ∀ i, i < ah → rO (sc i)) (G : List Nat) (w0 : World) (s fb pg aX aT sd : Nat) {KK : Act → World → Prop} {QQ : Exit → Act → World → Prop}
  (K : ∀ a w cur nms, cur.size = ah → nms.size = ah → iw b o n c w0.heap.size w sc (fun _ => ⟨#[]⟩) ah cur → kC sc ah nms → mG ah cur → Fr 1287 a [(0, .iface 178 (.slice (some ⟨b, o, none⟩) n c)), (4, aG s), (8, aG fb), (9, (aP big)), (10, aB ak), (11, aA 32), (12, aB aj), (13, aB au), (14, aA 40), (15, aB ah), (16, aB (ah - 1)), (26, aA 40), (41, aH aT ah ah), (42, aH sd (ah * 40) (ah * 40))] → Mm G w0 w [(sd, .cells (X.map Bv).toArray 5 (0, 0)), (aT, .cells nms 36 (0, 0)), (aX, .cells cur 133 (0, 0)), (fb, .cells #[aN 1, .int .u8 dat, aN 1, aV abi, aV aC, (aP big), aZ aQ, aZ aF, aJ ay, aH aX ah ah, aH pg aj aj, aK, aK, aK] 131 (0, 0)), vK s b o n c] → KK a w) :
  ∀ (r i : Nat), i + r = ah → ∀ (a : Act) (w : World) (cur nms : Array Value), cur.size = ah → nms.size = ah → iw b o n c w0.heap.size w sc (fun _ => ⟨#[]⟩) i cur → kC sc i nms → mG i cur → Fr 1287 a [(0, .iface 178 (.slice (some ⟨b, o, none⟩) n c)), (4, aG s), (8, aG fb), (9, (aP big)), (10, aB ak), (11, aA 32), (12, aB aj), (13, aB au), (14, aA 40), (15, aB ah), (16, aB (ah - 1)), (26, aA 40), (41, aH aT i ah), (42, aH sd (ah * 40) (ah * 40)), (43, aB i)] → Mm G w0 w [(sd, .cells (X.map Bv).toArray 5 (0, 0)), (aT, .cells nms 36 (0, 0)), (aX, .cells cur 133 (0, 0)), zB fb dat abi aC big aQ aF ay aX i ah pg aj, vK s b o n c] →
  Code.rounds Tryd.prog (oD (spine Tryd.f78 44)) (Exit.inBlock 8 (Exit.then KK QQ)) (r + 1) a w
 | 0, i, hr, a, w, cur, nms, hcs, hns, hP, hN, hD, HF, HM => by
  obtain rfl : i = ah := by omega
  rw [rounds_succ]
  exact NZ l b o n c hl hnc big abi aC aQ aF ay ak aj au i dat b1 b2 b3 b4 b5 b6 b7 X nI sc hv bd G w0 s fb pg aX aT sd K a w cur nms hcs hns hP hN hD HF HM
 | r + 1, i, hr, a, w, cur, nms, hcs, hns, hP, hN, hD, HF, HM => by
  have hi : i < ah := by omega
  rw [rounds_succ]
  have B := bd i hi
  have Iz : Mm [sd, aT, aX, fb, s] w w [(sd, .cells (X.map Bv).toArray 5 (0, 0)), (aT, .cells nms 36 (0, 0)), (aX, .cells cur 133 (0, 0)), zB fb dat abi aC big aQ aF ay aX i ah pg aj, vK s b o n c] := HM.restart
  have HM1 : Mm [fb, aX, aT, sd] w w [zB fb dat abi aC big aQ aF ay aX i ah pg aj, (aX, .cells cur 133 (0, 0)), (aT, .cells nms 36 (0, 0)), (sd, .cells (X.map Bv).toArray 5 (0, 0))] := by
   refine ⟨Keep.refl _ _, fun p hp => ?_, ?_⟩
   ·simp only [List.mem_cons, List.not_mem_nil, or_false] at hp
    rcases hp with rfl | rfl | rfl | rfl
    ·exact ⟨HM.get (i := 3) rfl, .inr (by simp)⟩
    ·exact ⟨HM.get (i := 2) rfl, .inr (by simp)⟩
    ·exact ⟨HM.get (i := 1) rfl, .inr (by simp)⟩
    ·exact ⟨HM.get (i := 0) rfl, .inr (by simp)⟩
   ·have h1 := HM.ne (i := 3) (j := 2) rfl rfl (by decide)
    have h2 := HM.ne (i := 3) (j := 1) rfl rfl (by decide)
    have h3 := HM.ne (i := 3) (j := 0) rfl rfl (by decide)
    have h4 := HM.ne (i := 2) (j := 1) rfl rfl (by decide)
    have h5 := HM.ne (i := 2) (j := 0) rfl rfl (by decide)
    have h6 := HM.ne (i := 1) (j := 0) rfl rfl (by decide)
    simp [h1, h2, h3, h4, h5, h6]
  refine Oy l b o n c hl hnc big abi aC aQ aF ay ak aj au ah dat b1 b2 b3 b4 b5 b6 b7 X nI i hi (sc i) (hv i hi) B.v1 B.v2 B.v3 B.v4 B.v5 B.v6 B.v7 B.v8 B.v9 a w s fb pg aX aT sd cur nms hcs hns HM1 HF ?_
  intro a' w' pb sb cur' fG hcs' DI htk htn CB iE
  have hk := iE.keep
  have hnew : ∀ p cs t, w'.heap[p]? = some (.cells cs t (0, 0)) → t = 153 ∨ t = 246 → (w.heap.size ≤ p ∨ p ∈ [fb, aX, aT, sd]) → w.heap.size ≤ p := by
   intro p cs t hp ht ho
   refine ho.elim id fun hm => ?_
   simp only [List.mem_cons, List.not_mem_nil, or_false] at hm
   exfalso
   rcases ht with rfl | rfl <;> rcases hm with rfl | rfl | rfl | rfl
   ·exact cO hp (iE.get (i := 2) rfl) (by decide) rfl
   ·exact cO hp (iE.get (i := 3) rfl) (by decide) rfl
   ·exact cO hp (iE.get (i := 4) rfl) (by decide) rfl
   ·exact cO hp (iE.get (i := 5) rfl) (by decide) rfl
   ·exact cO hp (iE.get (i := 2) rfl) (by decide) rfl
   ·exact cO hp (iE.get (i := 3) rfl) (by decide) rfl
   ·exact cO hp (iE.get (i := 4) rfl) (by decide) rfl
   ·exact cO hp (iE.get (i := 5) rfl) (by decide) rfl
  have hpb := hnew pb _ _ (iE.get (i := 1) rfl) (.inl rfl) (iE.own (i := 1) rfl)
  have hsb := hnew sb _ _ (iE.get (i := 0) rfl) (.inr rfl) (iE.own (i := 0) rfl)
  have hsz := HM.size
  have hP2 : iw b o n c w0.heap.size w' sc (fun _ => ⟨#[]⟩) i cur := hP.keep hk (by
   intro g hg
   simp only [List.mem_cons, List.not_mem_nil, or_false] at hg
   rcases hg with rfl | rfl | rfl | rfl
   ·exact ⟨_, _, _, HM.get (i := 3) rfl, by decide, by decide⟩
   ·exact ⟨_, _, _, HM.get (i := 2) rfl, by decide, by decide⟩
   ·exact ⟨_, _, _, HM.get (i := 1) rfl, by decide, by decide⟩
   ·exact ⟨_, _, _, HM.get (i := 0) rfl, by decide, by decide⟩)
  have hP3 := hP2.next (nf := (fun _ => ⟨#[]⟩)) (by omega) htk (by omega) (by omega) (iE.get (i := 1) rfl) (iE.get (i := 0) rfl)
  have bI : Mm G w0 w' [(sd, .cells (X.map Bv).toArray 5 (0, 0)), (aT, .cells fG 36 (0, 0)), (aX, .cells cur' 133 (0, 0)), (fb, .cells #[aN 1, .int .u8 dat, aN 1, aV abi, aV aC, (aP big), aZ aQ, aZ aF, aJ ay, aH aX (i + 1) ah, aH pg aj aj, aK, aK, aK] 131 (0, 0)), vK s b o n c] := HM.after hk (by
   intro g hg
   simp only [List.mem_cons, List.not_mem_nil, or_false] at hg
   rcases hg with rfl | rfl | rfl | rfl
   ·exact HM.own (i := 3) rfl
   ·exact HM.own (i := 2) rfl
   ·exact HM.own (i := 1) rfl
   ·exact HM.own (i := 0) rfl) rfl (by
   intro p hp
   simp only [List.mem_cons, List.not_mem_nil, or_false] at hp
   rcases hp with rfl | rfl | rfl | rfl | rfl
   ·exact iE.get (i := 5) rfl
   ·exact iE.get (i := 4) rfl
   ·exact iE.get (i := 3) rfl
   ·exact iE.get (i := 2) rfl
   ·refine (hk.block s (HM.lt (i := 4) rfl) ?_).trans (HM.get (i := 4) rfl)
    simp only [List.mem_cons, List.not_mem_nil, or_false, not_or]
    exact ⟨HM.ne (i := 4) (j := 3) rfl rfl (by decide), HM.ne (i := 4) (j := 2) rfl rfl (by decide), HM.ne (i := 4) (j := 1) rfl rfl (by decide), HM.ne (i := 4) (j := 0) rfl rfl (by decide)⟩)
  exact Jj l b o n c hl hnc big abi aC aQ aF ay ak aj au ah dat b1 b2 b3 b4 b5 b6 b7 X nI sc hv bd G w0 s fb pg aX aT sd K r (i + 1) (by omega) a' w' cur' fG hcs' DI hP3 (hN.next (by omega) htn) (hD.next (by omega) htk fun j hj e => by
   obtain ⟨pbj, _, g1, _, _, g4, _⟩ := hP j hj
   rw [g1] at e
   injection e with e
   injection e with e
   injection e with e
   injection e with e
   have := jD g4
   omega) CB bI

theorem LD (l : List UInt8) (b o n c : Nat) (hl : n = l.length) (hnc : n ≤ c) (big : Bool) (abi aC aQ aF ay ak aj au ah : Nat) (dat : Int) (b1 : aQ < 65536) (b2 : aF < 65536) (b3 : ay ≤ 18446744073709551615) (b4 : ak < 4611686018427387904) (b5 : au < 4611686018427387904) (b6 : aj < 200) (b7 : ah < 200) (X : List UInt8) (nI : X.length = (ah * 40)) (sc : Nat → gV) (hv : ∀ i, i < ah → uH (X.drop (i * 40)) false big (sc i).name (sc i).ty (sc i).flags (sc i).addr (sc i).off (sc i).bG (sc i).link (sc i).info (sc i).align (sc i).ent) (bd : ∀ i, i < ah → rO (sc i)) (G : List Nat) (w0 : World) (s fb pg aX aT sd : Nat) {Q : Exit → Act → World → Prop} (a : Act) (w : World) (cur nms : Array Value) (hcs : cur.size = ah) (hns : nms.size = ah) (HF : Fr 1287 a [(0, .iface 178 (.slice (some ⟨b, o, none⟩) n c)), (4, aG s), (8, aG fb), (9, (aP big)), (10, aB ak), (11, .int .i64 32), (12, aB aj), (13, aB au), (14, .int .i64 40), (15, aB ah), (16, aB (ah - 1)), (26, .int .i64 40), (41, aH aT 0 ah), (42, aH sd (ah * 40) (ah * 40))]) (HM : Mm G w0 w [(sd, .cells (X.map Bv).toArray 5 (0, 0)), (aT, .cells nms 36 (0, 0)), (aX, .cells cur 133 (0, 0)), (fb, .cells #[.int .u8 1, .int .u8 dat, .int .u8 1, aV abi, aV aC, (aP big), aZ aQ, aZ aF, aJ ay, aH aX 0 ah, aH pg aj aj, .slice none 0 0, .slice none 0 0, .slice none 0 0] 131 (0, 0)), (s, .cells #[.iface 178 (.slice (some ⟨b, o, none⟩) n c), .int .i64 0, .int .i64 0, .int .i64 9223372036854775807, .int .i64 9223372036854775807] 246 (0, 0))])
  (K : ∀ a w cur nms, cur.size = ah → nms.size = ah → iw b o n c w0.heap.size w sc (fun _ => ⟨#[]⟩) ah cur → kC sc ah nms → mG ah cur → Fr 1287 a [(0, .iface 178 (.slice (some ⟨b, o, none⟩) n c)), (4, aG s), (8, aG fb), (9, (aP big)), (10, aB ak), (11, .int .i64 32), (12, aB aj), (13, aB au), (14, .int .i64 40), (15, aB ah), (16, aB (ah - 1)), (26, .int .i64 40), (41, aH aT ah ah), (42, aH sd (ah * 40) (ah * 40))] → Mm G w0 w [(sd, .cells (X.map Bv).toArray 5 (0, 0)), (aT, .cells nms 36 (0, 0)), (aX, .cells cur 133 (0, 0)), (fb, .cells #[.int .u8 1, .int .u8 dat, .int .u8 1, aV abi, aV aC, (aP big), aZ aQ, aZ aF, aJ ay, aH aX ah ah, aH pg aj aj, .slice none 0 0, .slice none 0 0, .slice none 0 0] 131 (0, 0)), (s, .cells #[.iface 178 (.slice (some ⟨b, o, none⟩) n c), .int .i64 0, .int .i64 0, .int .i64 9223372036854775807, .int .i64 9223372036854775807] 246 (0, 0))] → (spine Tryd.f78 45).wp Tryd.prog Q a w) : (spine Tryd.f78 44).wp Tryd.prog Q a w := by
 refine wp_seq ?_
 refine bC HF HM rfl [] [(0, .iface 178 (.slice (some ⟨b, o, none⟩) n c)), (4, aG s), (8, aG fb), (9, (aP big)), (10, aB ak), (11, .int .i64 32), (12, aB aj), (13, aB au), (14, .int .i64 40), (15, aB ah), (16, aB (ah - 1)), (26, .int .i64 40), (41, aH aT 0 ah), (42, aH sd (ah * 40) (ah * 40)), (43, aB 0)] [(sd, .cells (X.map Bv).toArray 5 (0, 0)), (aT, .cells nms 36 (0, 0)), (aX, .cells cur 133 (0, 0)), (fb, .cells #[.int .u8 1, .int .u8 dat, .int .u8 1, aV abi, aV aC, (aP big), aZ aQ, aZ aF, aJ ay, aH aX 0 ah, aH pg aj aj, .slice none 0 0, .slice none 0 0, .slice none 0 0] 131 (0, 0)), (s, .cells #[.iface 178 (.slice (some ⟨b, o, none⟩) n c), .int .i64 0, .int .i64 0, .int .i64 9223372036854775807, .int .i64 9223372036854775807] 246 (0, 0))] (by kernel_rfl) ?_
 clear HF HM; intro a w HF HM
 refine wp_block (wp_loop_rounds (ah + 1) ?_)
 exact Jj l b o n c hl hnc big abi aC aQ aF ay ak aj au ah dat b1 b2 b3 b4 b5 b6 b7 X nI sc hv bd G w0 s fb pg aX aT sd K ah 0 (by omega) a w cur nms hcs hns (fun j hj => absurd hj (Nat.not_lt_zero j)) (fun j hj => absurd hj (Nat.not_lt_zero j)) (fun i j _ hj => absurd hj (Nat.not_lt_zero j)) HF HM

theorem NY (l : List UInt8) (b o n c : Nat) (hl : n = l.length) (hnc : n ≤ c) (big : Bool) (abi aC aQ aF ay ak aj au ah : Nat) (dat : Int) (b1 : aQ < 65536) (b2 : aF < 65536) (b3 : ay ≤ 18446744073709551615) (b4 : ak < 4611686018427387904) (b5 : au < 4611686018427387904) (b6 : aj < 200) (b7 : ah < 200) (X : List UInt8) (nI : X.length = (ah * 64)) (sc : Nat → gV) (hv : ∀ i, i < ah → uH (X.drop (i * 64)) true big (sc i).name (sc i).ty (sc i).flags (sc i).addr (sc i).off (sc i).bG (sc i).link (sc i).info (sc i).align (sc i).ent) (bd : ∀ i, i < ah → rO (sc i)) (G : List Nat) (w0 : World) (s fb pg aX aT sd : Nat) {KK : Act → World → Prop} {QQ : Exit → Act → World → Prop} {KR : Act → World → Prop}
  (K : ∀ a w cur nms, cur.size = ah → nms.size = ah → iw b o n c w0.heap.size w sc (fun _ => ⟨#[]⟩) ah cur → kC sc ah nms → mG ah cur → Fr 1287 a [(0, .iface 178 (.slice (some ⟨b, o, none⟩) n c)), (4, aG s), (8, aG fb), (9, (aP big)), (10, aB ak), (11, .int .i64 56), (12, aB aj), (13, aB au), (14, .int .i64 64), (15, aB ah), (16, aB (ah - 1)), (26, .int .i64 64), (41, aH aT ah ah), (42, aH sd (ah * 64) (ah * 64))] → Mm G w0 w [(sd, .cells (X.map Bv).toArray 5 (0, 0)), (aT, .cells nms 36 (0, 0)), (aX, .cells cur 133 (0, 0)), (fb, .cells #[.int .u8 2, .int .u8 dat, .int .u8 1, aV abi, aV aC, (aP big), aZ aQ, aZ aF, aJ ay, aH aX ah ah, aH pg aj aj, .slice none 0 0, .slice none 0 0, .slice none 0 0] 131 (0, 0)), (s, .cells #[.iface 178 (.slice (some ⟨b, o, none⟩) n c), .int .i64 0, .int .i64 0, .int .i64 9223372036854775807, .int .i64 9223372036854775807] 246 (0, 0))] → KK a w) (a : Act) (w : World) (cur nms : Array Value) (hcs : cur.size = ah) (hns : nms.size = ah) (hP : iw b o n c w0.heap.size w sc (fun _ => ⟨#[]⟩) ah cur) (hN : kC sc ah nms) (hD : mG ah cur) (HF : Fr 1287 a [(0, .iface 178 (.slice (some ⟨b, o, none⟩) n c)), (4, aG s), (8, aG fb), (9, (aP big)), (10, aB ak), (11, .int .i64 56), (12, aB aj), (13, aB au), (14, .int .i64 64), (15, aB ah), (16, aB (ah - 1)), (26, .int .i64 64), (41, aH aT ah ah), (42, aH sd (ah * 64) (ah * 64)), (43, aB ah)]) (HM : Mm G w0 w [(sd, .cells (X.map Bv).toArray 5 (0, 0)), (aT, .cells nms 36 (0, 0)), (aX, .cells cur 133 (0, 0)), (fb, .cells #[.int .u8 2, .int .u8 dat, .int .u8 1, aV abi, aV aC, (aP big), aZ aQ, aZ aF, aJ ay, aH aX ah ah, aH pg aj aj, .slice none 0 0, .slice none 0 0, .slice none 0 0] 131 (0, 0)), (s, .cells #[.iface 178 (.slice (some ⟨b, o, none⟩) n c), .int .i64 0, .int .i64 0, .int .i64 9223372036854775807, .int .i64 9223372036854775807] 246 (0, 0))]) :
  (oD (spine Tryd.f78 44)).wp Tryd.prog (Exit.then KR (Exit.inBlock 8 (Exit.then KK QQ))) a w := by
 refine wp_seq ?_
 refine wp_seq (wp_region_lit ?_)
 refine wp_pure HF HM rfl 3 [] [(0, .iface 178 (.slice (some ⟨b, o, none⟩) n c)), (4, aG s), (8, aG fb), (9, (aP big)), (10, aB ak), (11, .int .i64 56), (12, aB aj), (13, aB au), (14, .int .i64 64), (15, aB ah), (16, aB (ah - 1)), (26, .int .i64 64), (41, aH aT ah ah), (42, aH sd (ah * 64) (ah * 64)), (43, aB ah), (859, .bool (decide (((ah : Nat) : Int) < ((ah : Nat) : Int))))] (by kernel_rfl) ?_
 clear HF; intro a HF
 rw [show decide (((ah : Nat) : Int) < ((ah : Nat) : Int)) = false from bZ (by omega)] at HF
 refine aI ?_
 refine bf HF rfl ?_
 replace HF := HF.sub [(0, .iface 178 (.slice (some ⟨b, o, none⟩) n c)), (4, aG s), (8, aG fb), (9, (aP big)), (10, aB ak), (11, .int .i64 56), (12, aB aj), (13, aB au), (14, .int .i64 64), (15, aB ah), (16, aB (ah - 1)), (26, .int .i64 64), (41, aH aT ah ah), (42, aH sd (ah * 64) (ah * 64)), (43, aB ah)] (by kernel_rfl)
 refine wp_exit (iW (iW (kH (aS ?_))))
 replace HF := HF.sub [(0, .iface 178 (.slice (some ⟨b, o, none⟩) n c)), (4, aG s), (8, aG fb), (9, (aP big)), (10, aB ak), (11, .int .i64 56), (12, aB aj), (13, aB au), (14, .int .i64 64), (15, aB ah), (16, aB (ah - 1)), (26, .int .i64 64), (41, aH aT ah ah), (42, aH sd (ah * 64) (ah * 64))] (by kernel_rfl)
 exact K a _ cur nms hcs hns hP hN hD HF HM
abbrev vJ := fun (s : Nat) (b : Nat) (o : Nat) (n : Nat) (c : Nat) => ((s, .cells #[.iface 178 (.slice (some ⟨b, o, none⟩) n c), aA 0, aA 0, aA 9223372036854775807, aA 9223372036854775807] 246 (0, 0)) : Nat × Obj)
abbrev zA := fun (fb : Nat) (dat : Int) (abi : Nat) (aC : Nat) (big : Bool) (aQ : Nat) (aF : Nat) (ay : Nat) (aX : Nat) (i : Nat) (ah : Nat) (pg : Nat) (aj : Nat) => ((fb, .cells #[aN 2, .int .u8 dat, aN 1, aV abi, aV aC, (aP big), aZ aQ, aZ aF, aJ ay, aH aX i ah, aH pg aj aj, aK, aK, aK] 131 (0, 0)) : Nat × Obj)
theorem Ji (l : List UInt8) (b o n c : Nat) (hl : n = l.length) (hnc : n ≤ c) (big : Bool) (abi aC aQ aF ay ak aj au ah : Nat) (dat : Int) (b1 : aQ < 65536) (b2 : aF < 65536) (b3 : ay ≤ 18446744073709551615) (b4 : ak < 4611686018427387904) (b5 : au < 4611686018427387904) (b6 : aj < 200) (b7 : ah < 200) (X : List UInt8) (nI : X.length = (ah * 64)) (sc : Nat → gV) (hv : ∀ i, i < ah → uH (X.drop (i * 64)) true big (sc i).name (sc i).ty (sc i).flags (sc i).addr (sc i).off (sc i).bG (sc i).link (sc i).info (sc i).align (sc i).ent) (bd : ∀ i, i < ah → rO (sc i)) (G : List Nat) (w0 : World) (s fb pg aX aT sd : Nat) {KK : Act → World → Prop} {QQ : Exit → Act → World → Prop}
  (K : ∀ a w cur nms, cur.size = ah → nms.size = ah → iw b o n c w0.heap.size w sc (fun _ => ⟨#[]⟩) ah cur → kC sc ah nms → mG ah cur → Fr 1287 a [(0, .iface 178 (.slice (some ⟨b, o, none⟩) n c)), (4, aG s), (8, aG fb), (9, (aP big)), (10, aB ak), (11, aA 56), (12, aB aj), (13, aB au), (14, aA 64), (15, aB ah), (16, aB (ah - 1)), (26, aA 64), (41, aH aT ah ah), (42, aH sd (ah * 64) (ah * 64))] → Mm G w0 w [(sd, .cells (X.map Bv).toArray 5 (0, 0)), (aT, .cells nms 36 (0, 0)), (aX, .cells cur 133 (0, 0)), (fb, .cells #[aN 2, .int .u8 dat, aN 1, aV abi, aV aC, (aP big), aZ aQ, aZ aF, aJ ay, aH aX ah ah, aH pg aj aj, aK, aK, aK] 131 (0, 0)), vJ s b o n c] → KK a w) :
  ∀ (r i : Nat), i + r = ah → ∀ (a : Act) (w : World) (cur nms : Array Value), cur.size = ah → nms.size = ah → iw b o n c w0.heap.size w sc (fun _ => ⟨#[]⟩) i cur → kC sc i nms → mG i cur → Fr 1287 a [(0, .iface 178 (.slice (some ⟨b, o, none⟩) n c)), (4, aG s), (8, aG fb), (9, (aP big)), (10, aB ak), (11, aA 56), (12, aB aj), (13, aB au), (14, aA 64), (15, aB ah), (16, aB (ah - 1)), (26, aA 64), (41, aH aT i ah), (42, aH sd (ah * 64) (ah * 64)), (43, aB i)] → Mm G w0 w [(sd, .cells (X.map Bv).toArray 5 (0, 0)), (aT, .cells nms 36 (0, 0)), (aX, .cells cur 133 (0, 0)), zA fb dat abi aC big aQ aF ay aX i ah pg aj, vJ s b o n c] →
  Code.rounds Tryd.prog (oD (spine Tryd.f78 44)) (Exit.inBlock 8 (Exit.then KK QQ)) (r + 1) a w
 | 0, i, hr, a, w, cur, nms, hcs, hns, hP, hN, hD, HF, HM => by
  obtain rfl : i = ah := by omega
  rw [rounds_succ]
  exact NY l b o n c hl hnc big abi aC aQ aF ay ak aj au i dat b1 b2 b3 b4 b5 b6 b7 X nI sc hv bd G w0 s fb pg aX aT sd K a w cur nms hcs hns hP hN hD HF HM
 | r + 1, i, hr, a, w, cur, nms, hcs, hns, hP, hN, hD, HF, HM => by
  have hi : i < ah := by omega
  rw [rounds_succ]
  have B := bd i hi
  have Iz : Mm [sd, aT, aX, fb, s] w w [(sd, .cells (X.map Bv).toArray 5 (0, 0)), (aT, .cells nms 36 (0, 0)), (aX, .cells cur 133 (0, 0)), zA fb dat abi aC big aQ aF ay aX i ah pg aj, vJ s b o n c] := HM.restart
  have HM1 : Mm [fb, aX, aT, sd] w w [zA fb dat abi aC big aQ aF ay aX i ah pg aj, (aX, .cells cur 133 (0, 0)), (aT, .cells nms 36 (0, 0)), (sd, .cells (X.map Bv).toArray 5 (0, 0))] := by
   refine ⟨Keep.refl _ _, fun p hp => ?_, ?_⟩
   ·simp only [List.mem_cons, List.not_mem_nil, or_false] at hp
    rcases hp with rfl | rfl | rfl | rfl
    ·exact ⟨HM.get (i := 3) rfl, .inr (by simp)⟩
    ·exact ⟨HM.get (i := 2) rfl, .inr (by simp)⟩
    ·exact ⟨HM.get (i := 1) rfl, .inr (by simp)⟩
    ·exact ⟨HM.get (i := 0) rfl, .inr (by simp)⟩
   ·have h1 := HM.ne (i := 3) (j := 2) rfl rfl (by decide)
    have h2 := HM.ne (i := 3) (j := 1) rfl rfl (by decide)
    have h3 := HM.ne (i := 3) (j := 0) rfl rfl (by decide)
    have h4 := HM.ne (i := 2) (j := 1) rfl rfl (by decide)
    have h5 := HM.ne (i := 2) (j := 0) rfl rfl (by decide)
    have h6 := HM.ne (i := 1) (j := 0) rfl rfl (by decide)
    simp [h1, h2, h3, h4, h5, h6]
  refine Ox l b o n c hl hnc big abi aC aQ aF ay ak aj au ah dat b1 b2 b3 b4 b5 b6 b7 X nI i hi (sc i) (hv i hi) B.v1 B.v2 B.v3 B.v4 B.v5 B.v6 B.v7 B.v8 B.v9 a w s fb pg aX aT sd cur nms hcs hns HM1 HF ?_
  intro a' w' pb sb cur' fG hcs' DI htk htn CB iE
  have hk := iE.keep
  have hnew : ∀ p cs t, w'.heap[p]? = some (.cells cs t (0, 0)) → t = 153 ∨ t = 246 → (w.heap.size ≤ p ∨ p ∈ [fb, aX, aT, sd]) → w.heap.size ≤ p := by
   intro p cs t hp ht ho
   refine ho.elim id fun hm => ?_
   simp only [List.mem_cons, List.not_mem_nil, or_false] at hm
   exfalso
   rcases ht with rfl | rfl <;> rcases hm with rfl | rfl | rfl | rfl
   ·exact cO hp (iE.get (i := 2) rfl) (by decide) rfl
   ·exact cO hp (iE.get (i := 3) rfl) (by decide) rfl
   ·exact cO hp (iE.get (i := 4) rfl) (by decide) rfl
   ·exact cO hp (iE.get (i := 5) rfl) (by decide) rfl
   ·exact cO hp (iE.get (i := 2) rfl) (by decide) rfl
   ·exact cO hp (iE.get (i := 3) rfl) (by decide) rfl
   ·exact cO hp (iE.get (i := 4) rfl) (by decide) rfl
   ·exact cO hp (iE.get (i := 5) rfl) (by decide) rfl
  have hpb := hnew pb _ _ (iE.get (i := 1) rfl) (.inl rfl) (iE.own (i := 1) rfl)
  have hsb := hnew sb _ _ (iE.get (i := 0) rfl) (.inr rfl) (iE.own (i := 0) rfl)
  have hsz := HM.size
  have hP2 : iw b o n c w0.heap.size w' sc (fun _ => ⟨#[]⟩) i cur := hP.keep hk (by
   intro g hg
   simp only [List.mem_cons, List.not_mem_nil, or_false] at hg
   rcases hg with rfl | rfl | rfl | rfl
   ·exact ⟨_, _, _, HM.get (i := 3) rfl, by decide, by decide⟩
   ·exact ⟨_, _, _, HM.get (i := 2) rfl, by decide, by decide⟩
   ·exact ⟨_, _, _, HM.get (i := 1) rfl, by decide, by decide⟩
   ·exact ⟨_, _, _, HM.get (i := 0) rfl, by decide, by decide⟩)
  have hP3 := hP2.next (nf := (fun _ => ⟨#[]⟩)) (by omega) htk (by omega) (by omega) (iE.get (i := 1) rfl) (iE.get (i := 0) rfl)
  have bI : Mm G w0 w' [(sd, .cells (X.map Bv).toArray 5 (0, 0)), (aT, .cells fG 36 (0, 0)), (aX, .cells cur' 133 (0, 0)), (fb, .cells #[aN 2, .int .u8 dat, aN 1, aV abi, aV aC, (aP big), aZ aQ, aZ aF, aJ ay, aH aX (i + 1) ah, aH pg aj aj, aK, aK, aK] 131 (0, 0)), vJ s b o n c] := HM.after hk (by
   intro g hg
   simp only [List.mem_cons, List.not_mem_nil, or_false] at hg
   rcases hg with rfl | rfl | rfl | rfl
   ·exact HM.own (i := 3) rfl
   ·exact HM.own (i := 2) rfl
   ·exact HM.own (i := 1) rfl
   ·exact HM.own (i := 0) rfl) rfl (by
   intro p hp
   simp only [List.mem_cons, List.not_mem_nil, or_false] at hp
   rcases hp with rfl | rfl | rfl | rfl | rfl
   ·exact iE.get (i := 5) rfl
   ·exact iE.get (i := 4) rfl
   ·exact iE.get (i := 3) rfl
   ·exact iE.get (i := 2) rfl
   ·refine (hk.block s (HM.lt (i := 4) rfl) ?_).trans (HM.get (i := 4) rfl)
    simp only [List.mem_cons, List.not_mem_nil, or_false, not_or]
    exact ⟨HM.ne (i := 4) (j := 3) rfl rfl (by decide), HM.ne (i := 4) (j := 2) rfl rfl (by decide), HM.ne (i := 4) (j := 1) rfl rfl (by decide), HM.ne (i := 4) (j := 0) rfl rfl (by decide)⟩)
  exact Ji l b o n c hl hnc big abi aC aQ aF ay ak aj au ah dat b1 b2 b3 b4 b5 b6 b7 X nI sc hv bd G w0 s fb pg aX aT sd K r (i + 1) (by omega) a' w' cur' fG hcs' DI hP3 (hN.next (by omega) htn) (hD.next (by omega) htk fun j hj e => by
   obtain ⟨pbj, _, g1, _, _, g4, _⟩ := hP j hj
   rw [g1] at e
   injection e with e
   injection e with e
   injection e with e
   injection e with e
   have := jD g4
   omega) CB bI

theorem LC (l : List UInt8) (b o n c : Nat) (hl : n = l.length) (hnc : n ≤ c) (big : Bool) (abi aC aQ aF ay ak aj au ah : Nat) (dat : Int) (b1 : aQ < 65536) (b2 : aF < 65536) (b3 : ay ≤ 18446744073709551615) (b4 : ak < 4611686018427387904) (b5 : au < 4611686018427387904) (b6 : aj < 200) (b7 : ah < 200) (X : List UInt8) (nI : X.length = (ah * 64)) (sc : Nat → gV) (hv : ∀ i, i < ah → uH (X.drop (i * 64)) true big (sc i).name (sc i).ty (sc i).flags (sc i).addr (sc i).off (sc i).bG (sc i).link (sc i).info (sc i).align (sc i).ent) (bd : ∀ i, i < ah → rO (sc i)) (G : List Nat) (w0 : World) (s fb pg aX aT sd : Nat) {Q : Exit → Act → World → Prop} (a : Act) (w : World) (cur nms : Array Value) (hcs : cur.size = ah) (hns : nms.size = ah) (HF : Fr 1287 a [(0, .iface 178 (.slice (some ⟨b, o, none⟩) n c)), (4, aG s), (8, aG fb), (9, (aP big)), (10, aB ak), (11, .int .i64 56), (12, aB aj), (13, aB au), (14, .int .i64 64), (15, aB ah), (16, aB (ah - 1)), (26, .int .i64 64), (41, aH aT 0 ah), (42, aH sd (ah * 64) (ah * 64))]) (HM : Mm G w0 w [(sd, .cells (X.map Bv).toArray 5 (0, 0)), (aT, .cells nms 36 (0, 0)), (aX, .cells cur 133 (0, 0)), (fb, .cells #[.int .u8 2, .int .u8 dat, .int .u8 1, aV abi, aV aC, (aP big), aZ aQ, aZ aF, aJ ay, aH aX 0 ah, aH pg aj aj, .slice none 0 0, .slice none 0 0, .slice none 0 0] 131 (0, 0)), (s, .cells #[.iface 178 (.slice (some ⟨b, o, none⟩) n c), .int .i64 0, .int .i64 0, .int .i64 9223372036854775807, .int .i64 9223372036854775807] 246 (0, 0))])
  (K : ∀ a w cur nms, cur.size = ah → nms.size = ah → iw b o n c w0.heap.size w sc (fun _ => ⟨#[]⟩) ah cur → kC sc ah nms → mG ah cur → Fr 1287 a [(0, .iface 178 (.slice (some ⟨b, o, none⟩) n c)), (4, aG s), (8, aG fb), (9, (aP big)), (10, aB ak), (11, .int .i64 56), (12, aB aj), (13, aB au), (14, .int .i64 64), (15, aB ah), (16, aB (ah - 1)), (26, .int .i64 64), (41, aH aT ah ah), (42, aH sd (ah * 64) (ah * 64))] → Mm G w0 w [(sd, .cells (X.map Bv).toArray 5 (0, 0)), (aT, .cells nms 36 (0, 0)), (aX, .cells cur 133 (0, 0)), (fb, .cells #[.int .u8 2, .int .u8 dat, .int .u8 1, aV abi, aV aC, (aP big), aZ aQ, aZ aF, aJ ay, aH aX ah ah, aH pg aj aj, .slice none 0 0, .slice none 0 0, .slice none 0 0] 131 (0, 0)), (s, .cells #[.iface 178 (.slice (some ⟨b, o, none⟩) n c), .int .i64 0, .int .i64 0, .int .i64 9223372036854775807, .int .i64 9223372036854775807] 246 (0, 0))] → (spine Tryd.f78 45).wp Tryd.prog Q a w) : (spine Tryd.f78 44).wp Tryd.prog Q a w := by
 refine wp_seq ?_
 refine bC HF HM rfl [] [(0, .iface 178 (.slice (some ⟨b, o, none⟩) n c)), (4, aG s), (8, aG fb), (9, (aP big)), (10, aB ak), (11, .int .i64 56), (12, aB aj), (13, aB au), (14, .int .i64 64), (15, aB ah), (16, aB (ah - 1)), (26, .int .i64 64), (41, aH aT 0 ah), (42, aH sd (ah * 64) (ah * 64)), (43, aB 0)] [(sd, .cells (X.map Bv).toArray 5 (0, 0)), (aT, .cells nms 36 (0, 0)), (aX, .cells cur 133 (0, 0)), (fb, .cells #[.int .u8 2, .int .u8 dat, .int .u8 1, aV abi, aV aC, (aP big), aZ aQ, aZ aF, aJ ay, aH aX 0 ah, aH pg aj aj, .slice none 0 0, .slice none 0 0, .slice none 0 0] 131 (0, 0)), (s, .cells #[.iface 178 (.slice (some ⟨b, o, none⟩) n c), .int .i64 0, .int .i64 0, .int .i64 9223372036854775807, .int .i64 9223372036854775807] 246 (0, 0))] (by kernel_rfl) ?_
 clear HF HM; intro a w HF HM
 refine wp_block (wp_loop_rounds (ah + 1) ?_)
 exact Ji l b o n c hl hnc big abi aC aQ aF ay ak aj au ah dat b1 b2 b3 b4 b5 b6 b7 X nI sc hv bd G w0 s fb pg aX aT sd K ah 0 (by omega) a w cur nms hcs hns (fun j hj => absurd hj (Nat.not_lt_zero j)) (fun j hj => absurd hj (Nat.not_lt_zero j)) (fun i j _ hj => absurd hj (Nat.not_lt_zero j)) HF HM

end Go.Proofs.YtdgehpocmfjbiaaDoor
namespace Go.Proofs.YtdgehpocmfjbiaaDoor
open Go.RowKit

theorem sF {P : Program} {w : World} {t e : TypeId} {info : TypeInfo} (ht : P.underlying t = some (.slice e)) (hi : P.info? e = some info) (hs : info.size = 1) {ρ : Operand → Value} {o : Oper} {x ix : Operand} (ho : o.op = .indexAddr t x ix) {b n c : Nat} (j : Nat) {k : IntKind} (hx : ρ x = aH b n c) (hj : ρ ix = .int k (j : Int)) (h : j < n) :
  (execOp ρ o).run P w = .ok (.value (.pointer (some ⟨b, j, none⟩))) w := by
 unfold execOp
 simp only [ho, hx, hj]
 simp [Instr.indexAt, run_underlying ht, asIntOf, sizeOf, typeInfo, hi, hs, h, Addr.add]
 exact fun h => h.symm
theorem CO : ∃ i, Tryd.prog.info? 133 = some i ∧ i.size = 1 := by
 obtain ⟨i, h1, _, h3, _⟩ := info_parts uM
 exact ⟨i, h1, h3⟩
theorem GX : ∃ i, Tryd.prog.info? 36 = some i ∧ i.size = 1 := by
 obtain ⟨i, h1, _, h3, _⟩ := info_parts rY
 exact ⟨i, h1, h3⟩

abbrev jm := fun (b : Nat) (o : Nat) (n : Nat) (c : Nat) (s : Nat) (fb : Nat) (big : Bool) (ak : Nat) (aj : Nat) (au : Nat) (ah : Nat) (aT : Nat) (sd : Nat) => ([(0, .iface 178 (.slice (some ⟨b, o, none⟩) n c)), (4, aG s), (8, aG fb), (9, (aP big)), (10, aB ak), (11, aA 32), (12, aB aj), (13, aB au), (14, aA 40), (15, aB ah), (16, aB (ah - 1)), (26, aA 40), (41, aH aT ah ah), (42, aH sd (ah * 40) (ah * 40))] : Slots)
theorem LW (l : List UInt8) (b o n c : Nat) (hl : n = l.length) (hnc : n ≤ c) (big : Bool) (abi aC aQ aF ay ak aj au ah : Nat) (dat : Int) (b1 : aQ < 65536) (b2 : aF < 65536) (b3 : ay ≤ 18446744073709551615) (b4 : ak < 4611686018427387904) (b5 : au < 4611686018427387904) (b6 : aj < 200) (b7 : ah < 200) (X : List UInt8) (sc : Nat → gV) (c3 : 1 < ah) (hty : (sc (ah - 1)).ty = 3) (hfl : (oC ((((sc (ah - 1)).flags : Nat) : Int)) 2048 == 0) = true) (f1 : 0 < (sc (ah - 1)).bG) (f2 : (sc (ah - 1)).bG < 10485760) (f3 : (sc (ah - 1)).off + (sc (ah - 1)).bG ≤ n) (f4 : n ≤ 4611686018427387904) (G : List Nat) (w0 : World) (hbl : b < w0.heap.size) (hr : Row w0 (some ⟨b, o, none⟩) (l.map Bv)) (qP : b ∉ G) (s fb pg aX aT sd : Nat) {Q : Exit → Act → World → Prop} (a : Act) (w : World) (cur nms : Array Value) (hP : iw b o n c w0.heap.size w sc (fun _ => ⟨#[]⟩) ah cur) (HF : Fr 1287 a (jm b o n c s fb big ak aj au ah aT sd)) (HM : Mm G w0 w [(sd, .cells (X.map Bv).toArray 5 (0, 0)), (aT, .cells nms 36 (0, 0)), (aX, .cells cur 133 (0, 0)), (fb, .cells #[aN 1, .int .u8 dat, aN 1, aV abi, aV aC, (aP big), aZ aQ, aZ aF, aJ ay, aH aX ah ah, aH pg aj aj, aK, aK, aK] 131 (0, 0)), (s, .cells #[.iface 178 (.slice (some ⟨b, o, none⟩) n c), aA 0, aA 0, aA 9223372036854775807, aA 9223372036854775807] 246 (0, 0))])
  (K : ∀ a w' dD, iw b o n c w0.heap.size w' sc (fun _ => ⟨#[]⟩) ah cur → Fr 1287 a ((jm b o n c s fb big ak aj au ah aT sd) ++ [(53, aH dD (sc (ah - 1)).bG (sc (ah - 1)).bG)]) → Mm G w0 w' [(dD, .cells (((l.drop (sc (ah - 1)).off).take (sc (ah - 1)).bG).map Bv).toArray 5 (0, 0)), (sd, .cells (X.map Bv).toArray 5 (0, 0)), (aT, .cells nms 36 (0, 0)), (aX, .cells cur 133 (0, 0)), (fb, .cells #[aN 1, .int .u8 dat, aN 1, aV abi, aV aC, (aP big), aZ aQ, aZ aF, aJ ay, aH aX ah ah, aH pg aj aj, aK, aK, aK] 131 (0, 0)), (s, .cells #[.iface 178 (.slice (some ⟨b, o, none⟩) n c), aA 0, aA 0, aA 9223372036854775807, aA 9223372036854775807] 246 (0, 0))] → (spine Tryd.f78 51).wp Tryd.prog Q a w') : (spine Tryd.f78 45).wp Tryd.prog Q a w := by
 obtain ⟨i0, his, hss⟩ := CO
 obtain ⟨pq, sq, q1, q2, q3, q4, q5⟩ := hP (ah - 1) (by omega)
 refine wp_seq ?_
 refine wp_seq (wp_region_lit ?_)
 refine wp_pure HF HM rfl 6 [[1], []] ((jm b o n c s fb big ak aj au ah aT sd) ++ [(1206, .bool (((ah : Nat) : Int) == 0))]) (by kernel_rfl) ?_
 clear HF; intro a HF
 rw [show (((ah : Nat) : Int) == 0) = false from beq_eq_false_iff_ne.2 (by omega)] at HF
 refine aI ?_
 refine bf HF rfl ?_
 refine wp_skip ?_
 repeat (first | refine aS ?_ | refine aU ?_)
 replace HF := HF.sub (jm b o n c s fb big ak aj au ah aT sd) (by kernel_rfl)
 refine wp_seq ?_
 refine wp_seq (wp_region_lit ?_)
 refine wp_pure HF HM rfl 2 [] ((jm b o n c s fb big ak aj au ah aT sd) ++ [(1209, .bool ((((ah - 1) : Nat) : Int) == 0))]) (by kernel_rfl) ?_
 clear HF; intro a HF
 rw [show ((((ah - 1) : Nat) : Int) == 0) = false from beq_eq_false_iff_ne.2 (by omega)] at HF
 refine aI ?_
 refine bf HF rfl ?_
 refine wp_skip ?_
 repeat (first | refine aS ?_ | refine aU ?_)
 replace HF := HF.sub (jm b o n c s fb big ak aj au ah aT sd) (by kernel_rfl)
 refine wp_seq (wp_region_lit ?_)
 refine wp_pure HF HM rfl 5 [[1]] ((jm b o n c s fb big ak aj au ah aT sd) ++ [(1214, aH aX ah ah), (1215, aB (ah - 1))]) (by kernel_rfl) ?_
 clear HF; intro a HF
 refine dP HF (by kernel_rfl) (.pointer (some ⟨aX, ah - 1, none⟩)) (by kernel_rfl) (sF (t := 126) Tryd.underlying126 his hss rfl (ah - 1) rfl rfl (by omega)) ?_
 clear HF; intro a HF; replace HF := HF.sub ((jm b o n c s fb big ak aj au ah aT sd) ++ [(1214, aH aX ah ah), (1215, aB (ah - 1)), (1216, .pointer (some ⟨aX, ah - 1, none⟩))]) (by kernel_rfl)
 refine dP HF (by kernel_rfl) (aG pq) (by kernel_rfl) (gJ rfl rfl (by kernel_rfl) (HM.cellAt (i := 2) (k := ah - 1) rfl q1)) ?_
 clear HF; intro a HF; replace HF := HF.sub ((jm b o n c s fb big ak aj au ah aT sd) ++ [(1214, aH aX ah ah), (1215, aB (ah - 1)), (1216, .pointer (some ⟨aX, ah - 1, none⟩)), (1217, aG pq)]) (by kernel_rfl)
 refine wp_pure HF HM rfl 1 [] ((jm b o n c s fb big ak aj au ah aT sd) ++ [(52, aG pq)]) (by kernel_rfl) ?_
 clear HF; intro a HF
 refine aI ?_
 refine wp_seq ?_
 refine wp_seq (wp_region_lit ?_)
 refine wp_pure HF HM rfl 4 [] ((jm b o n c s fb big ak aj au ah aT sd) ++ [(52, aG pq), (1221, .pointer (some ⟨pq, 1, none⟩))]) (by kernel_rfl) ?_
 clear HF; intro a HF
 refine dP HF (by kernel_rfl) (aY (sc (ah - 1)).ty) (by kernel_rfl) (gJ rfl rfl (by kernel_rfl) (by rw [cell_of_row _ pq 1 _ _ _ q4]; rfl)) ?_
 clear HF; intro a HF; replace HF := HF.sub ((jm b o n c s fb big ak aj au ah aT sd) ++ [(52, aG pq), (1221, .pointer (some ⟨pq, 1, none⟩)), (1222, aY (sc (ah - 1)).ty)]) (by kernel_rfl)
 refine wp_pure HF HM rfl 1 [] ((jm b o n c s fb big ak aj au ah aT sd) ++ [(52, aG pq), (1223, .bool ((((sc (ah - 1)).ty : Nat) : Int) != 3))]) (by kernel_rfl) ?_
 clear HF; intro a HF
 rw [show ((((sc (ah - 1)).ty : Nat) : Int) != 3) = false from by rw [hty]; rfl] at HF
 refine aI ?_
 refine bf HF rfl ?_
 refine wp_skip ?_
 repeat (first | refine aS ?_ | refine aU ?_)
 replace HF := HF.sub ((jm b o n c s fb big ak aj au ah aT sd) ++ [(52, aG pq)]) (by kernel_rfl)
 refine wp_seq (wp_region_lit ?_)
 refine wp_pure HF HM rfl 1 [] ((jm b o n c s fb big ak aj au ah aT sd) ++ [(52, aG pq), (1239, aG pq)]) (by kernel_rfl) ?_
 clear HF; intro a HF
 refine bn HF (by kernel_rfl) 63 #[aG pq] (by kernel_rfl) (fun w => by kernel_rfl) (Calls.mono (AX ⟨#[]⟩ (((sc (ah - 1)).ty : Nat) : Int) (((sc (ah - 1)).flags : Nat) : Int) (((sc (ah - 1)).addr : Nat) : Int) (((sc (ah - 1)).off : Nat) : Int) (((sc (ah - 1)).link : Nat) : Int) (((sc (ah - 1)).info : Nat) : Int) (((sc (ah - 1)).align : Nat) : Int) (((sc (ah - 1)).ent : Nat) : Int) (((sc (ah - 1)).bG : Nat) : Int) (.iface 144 (aG sq)) (aA 0) (aA 0) pq sq (by rw [hty]; rfl) hfl (.inl (by decide)) l b o n c hl hnc (sc (ah - 1)).bG (sc (ah - 1)).off (((sc (ah - 1)).off : Nat) : Int) ((((sc (ah - 1)).bG : Nat) : Int) + (((sc (ah - 1)).off : Nat) : Int)) (((sc (ah - 1)).bG : Nat) : Int) (by omega) (by omega) (by omega) (by omega) (by omega) (by omega) (by omega) w q4 q5 (Nat.lt_of_lt_of_le hbl HM.size) (by omega) (by omega) (cO q4 q5 (by decide)) (HM.row hr (by intro b' o' s' e; injection e with e; injection e with e; subst e; exact qP))) ?_)
 rintro _ w1 ⟨dD, rfl, hb, hge, hgn⟩
 replace HM : Mm G w0 w1 [(dD, .cells (((l.drop ((sc (ah - 1)).off + 0)).take (sc (ah - 1)).bG).map Bv).toArray 5 (0, 0)), (sd, .cells (X.map Bv).toArray 5 (0, 0)), (aT, .cells nms 36 (0, 0)), (aX, .cells cur 133 (0, 0)), (fb, .cells #[aN 1, .int .u8 dat, aN 1, aV abi, aV aC, (aP big), aZ aQ, aZ aF, aJ ay, aH aX ah ah, aH pg aj aj, aK, aK, aK] 131 (0, 0)), (s, .cells #[.iface 178 (.slice (some ⟨b, o, none⟩) n c), aA 0, aA 0, aA 9223372036854775807, aA 9223372036854775807] 246 (0, 0))] := HM.push hb hge hgn
 clear hge hgn
 refine ⟨_, rfl, ?_⟩; clear HF; intro a HF; replace HF := HF.sub ((jm b o n c s fb big ak aj au ah aT sd) ++ [(52, aG pq), (1239, aG pq), (1240, .tuple #[aH dD (sc (ah - 1)).bG (sc (ah - 1)).bG, .nilIface])]) (by kernel_rfl)
 refine wp_pure HF HM rfl 5 [] ((jm b o n c s fb big ak aj au ah aT sd) ++ [(52, aG pq), (53, aH dD (sc (ah - 1)).bG (sc (ah - 1)).bG), (37, .nilIface)]) (by kernel_rfl) ?_
 clear HF; intro a HF
 refine aI ?_
 refine wp_seq ?_
 refine wp_seq (wp_region_lit ?_)
 refine wp_pure HF HM rfl 2 [] ((jm b o n c s fb big ak aj au ah aT sd) ++ [(52, aG pq), (53, aH dD (sc (ah - 1)).bG (sc (ah - 1)).bG), (37, .nilIface), (1244, .bool false)]) (by kernel_rfl) ?_
 clear HF; intro a HF
 refine aI ?_
 refine bf HF rfl ?_
 refine wp_skip ?_
 repeat (first | refine aS ?_ | refine aU ?_)
 replace HF := HF.sub ((jm b o n c s fb big ak aj au ah aT sd) ++ [(53, aH dD (sc (ah - 1)).bG (sc (ah - 1)).bG)]) (by kernel_rfl)
 replace HF := HF.sub ((jm b o n c s fb big ak aj au ah aT sd) ++ [(53, aH dD (sc (ah - 1)).bG (sc (ah - 1)).bG)]) (by kernel_rfl)
 rw [Nat.add_zero] at HM
 exact K a w1 dD (hP.keep (Keep.of_below hb) (by intro g hg; cases hg)) HF HM

abbrev jl := fun (b : Nat) (o : Nat) (n : Nat) (c : Nat) (s : Nat) (fb : Nat) (big : Bool) (ak : Nat) (aj : Nat) (au : Nat) (ah : Nat) (aT : Nat) (sd : Nat) => ([(0, .iface 178 (.slice (some ⟨b, o, none⟩) n c)), (4, aG s), (8, aG fb), (9, (aP big)), (10, aB ak), (11, aA 56), (12, aB aj), (13, aB au), (14, aA 64), (15, aB ah), (16, aB (ah - 1)), (26, aA 64), (41, aH aT ah ah), (42, aH sd (ah * 64) (ah * 64))] : Slots)
theorem LV (l : List UInt8) (b o n c : Nat) (hl : n = l.length) (hnc : n ≤ c) (big : Bool) (abi aC aQ aF ay ak aj au ah : Nat) (dat : Int) (b1 : aQ < 65536) (b2 : aF < 65536) (b3 : ay ≤ 18446744073709551615) (b4 : ak < 4611686018427387904) (b5 : au < 4611686018427387904) (b6 : aj < 200) (b7 : ah < 200) (X : List UInt8) (sc : Nat → gV) (c3 : 1 < ah) (hty : (sc (ah - 1)).ty = 3) (hfl : (oC ((((sc (ah - 1)).flags : Nat) : Int)) 2048 == 0) = true) (f1 : 0 < (sc (ah - 1)).bG) (f2 : (sc (ah - 1)).bG < 10485760) (f3 : (sc (ah - 1)).off + (sc (ah - 1)).bG ≤ n) (f4 : n ≤ 4611686018427387904) (G : List Nat) (w0 : World) (hbl : b < w0.heap.size) (hr : Row w0 (some ⟨b, o, none⟩) (l.map Bv)) (qP : b ∉ G) (s fb pg aX aT sd : Nat) {Q : Exit → Act → World → Prop} (a : Act) (w : World) (cur nms : Array Value) (hP : iw b o n c w0.heap.size w sc (fun _ => ⟨#[]⟩) ah cur) (HF : Fr 1287 a (jl b o n c s fb big ak aj au ah aT sd)) (HM : Mm G w0 w [(sd, .cells (X.map Bv).toArray 5 (0, 0)), (aT, .cells nms 36 (0, 0)), (aX, .cells cur 133 (0, 0)), (fb, .cells #[aN 2, .int .u8 dat, aN 1, aV abi, aV aC, (aP big), aZ aQ, aZ aF, aJ ay, aH aX ah ah, aH pg aj aj, aK, aK, aK] 131 (0, 0)), (s, .cells #[.iface 178 (.slice (some ⟨b, o, none⟩) n c), aA 0, aA 0, aA 9223372036854775807, aA 9223372036854775807] 246 (0, 0))])
  (K : ∀ a w' dD, iw b o n c w0.heap.size w' sc (fun _ => ⟨#[]⟩) ah cur → Fr 1287 a ((jl b o n c s fb big ak aj au ah aT sd) ++ [(53, aH dD (sc (ah - 1)).bG (sc (ah - 1)).bG)]) → Mm G w0 w' [(dD, .cells (((l.drop (sc (ah - 1)).off).take (sc (ah - 1)).bG).map Bv).toArray 5 (0, 0)), (sd, .cells (X.map Bv).toArray 5 (0, 0)), (aT, .cells nms 36 (0, 0)), (aX, .cells cur 133 (0, 0)), (fb, .cells #[aN 2, .int .u8 dat, aN 1, aV abi, aV aC, (aP big), aZ aQ, aZ aF, aJ ay, aH aX ah ah, aH pg aj aj, aK, aK, aK] 131 (0, 0)), (s, .cells #[.iface 178 (.slice (some ⟨b, o, none⟩) n c), aA 0, aA 0, aA 9223372036854775807, aA 9223372036854775807] 246 (0, 0))] → (spine Tryd.f78 51).wp Tryd.prog Q a w') : (spine Tryd.f78 45).wp Tryd.prog Q a w := by
 obtain ⟨i0, his, hss⟩ := CO
 obtain ⟨pq, sq, q1, q2, q3, q4, q5⟩ := hP (ah - 1) (by omega)
 refine wp_seq ?_
 refine wp_seq (wp_region_lit ?_)
 refine wp_pure HF HM rfl 6 [[1], []] ((jl b o n c s fb big ak aj au ah aT sd) ++ [(1206, .bool (((ah : Nat) : Int) == 0))]) (by kernel_rfl) ?_
 clear HF; intro a HF
 rw [show (((ah : Nat) : Int) == 0) = false from beq_eq_false_iff_ne.2 (by omega)] at HF
 refine aI ?_
 refine bf HF rfl ?_
 refine wp_skip ?_
 repeat (first | refine aS ?_ | refine aU ?_)
 replace HF := HF.sub (jl b o n c s fb big ak aj au ah aT sd) (by kernel_rfl)
 refine wp_seq ?_
 refine wp_seq (wp_region_lit ?_)
 refine wp_pure HF HM rfl 2 [] ((jl b o n c s fb big ak aj au ah aT sd) ++ [(1209, .bool ((((ah - 1) : Nat) : Int) == 0))]) (by kernel_rfl) ?_
 clear HF; intro a HF
 rw [show ((((ah - 1) : Nat) : Int) == 0) = false from beq_eq_false_iff_ne.2 (by omega)] at HF
 refine aI ?_
 refine bf HF rfl ?_
 refine wp_skip ?_
 repeat (first | refine aS ?_ | refine aU ?_)
 replace HF := HF.sub (jl b o n c s fb big ak aj au ah aT sd) (by kernel_rfl)
 refine wp_seq (wp_region_lit ?_)
 refine wp_pure HF HM rfl 5 [[1]] ((jl b o n c s fb big ak aj au ah aT sd) ++ [(1214, aH aX ah ah), (1215, aB (ah - 1))]) (by kernel_rfl) ?_
 clear HF; intro a HF
 refine dP HF (by kernel_rfl) (.pointer (some ⟨aX, ah - 1, none⟩)) (by kernel_rfl) (sF (t := 126) Tryd.underlying126 his hss rfl (ah - 1) rfl rfl (by omega)) ?_
 clear HF; intro a HF; replace HF := HF.sub ((jl b o n c s fb big ak aj au ah aT sd) ++ [(1214, aH aX ah ah), (1215, aB (ah - 1)), (1216, .pointer (some ⟨aX, ah - 1, none⟩))]) (by kernel_rfl)
 refine dP HF (by kernel_rfl) (aG pq) (by kernel_rfl) (gJ rfl rfl (by kernel_rfl) (HM.cellAt (i := 2) (k := ah - 1) rfl q1)) ?_
 clear HF; intro a HF; replace HF := HF.sub ((jl b o n c s fb big ak aj au ah aT sd) ++ [(1214, aH aX ah ah), (1215, aB (ah - 1)), (1216, .pointer (some ⟨aX, ah - 1, none⟩)), (1217, aG pq)]) (by kernel_rfl)
 refine wp_pure HF HM rfl 1 [] ((jl b o n c s fb big ak aj au ah aT sd) ++ [(52, aG pq)]) (by kernel_rfl) ?_
 clear HF; intro a HF
 refine aI ?_
 refine wp_seq ?_
 refine wp_seq (wp_region_lit ?_)
 refine wp_pure HF HM rfl 4 [] ((jl b o n c s fb big ak aj au ah aT sd) ++ [(52, aG pq), (1221, .pointer (some ⟨pq, 1, none⟩))]) (by kernel_rfl) ?_
 clear HF; intro a HF
 refine dP HF (by kernel_rfl) (aY (sc (ah - 1)).ty) (by kernel_rfl) (gJ rfl rfl (by kernel_rfl) (by rw [cell_of_row _ pq 1 _ _ _ q4]; rfl)) ?_
 clear HF; intro a HF; replace HF := HF.sub ((jl b o n c s fb big ak aj au ah aT sd) ++ [(52, aG pq), (1221, .pointer (some ⟨pq, 1, none⟩)), (1222, aY (sc (ah - 1)).ty)]) (by kernel_rfl)
 refine wp_pure HF HM rfl 1 [] ((jl b o n c s fb big ak aj au ah aT sd) ++ [(52, aG pq), (1223, .bool ((((sc (ah - 1)).ty : Nat) : Int) != 3))]) (by kernel_rfl) ?_
 clear HF; intro a HF
 rw [show ((((sc (ah - 1)).ty : Nat) : Int) != 3) = false from by rw [hty]; rfl] at HF
 refine aI ?_
 refine bf HF rfl ?_
 refine wp_skip ?_
 repeat (first | refine aS ?_ | refine aU ?_)
 replace HF := HF.sub ((jl b o n c s fb big ak aj au ah aT sd) ++ [(52, aG pq)]) (by kernel_rfl)
 refine wp_seq (wp_region_lit ?_)
 refine wp_pure HF HM rfl 1 [] ((jl b o n c s fb big ak aj au ah aT sd) ++ [(52, aG pq), (1239, aG pq)]) (by kernel_rfl) ?_
 clear HF; intro a HF
 refine bn HF (by kernel_rfl) 63 #[aG pq] (by kernel_rfl) (fun w => by kernel_rfl) (Calls.mono (AX ⟨#[]⟩ (((sc (ah - 1)).ty : Nat) : Int) (((sc (ah - 1)).flags : Nat) : Int) (((sc (ah - 1)).addr : Nat) : Int) (((sc (ah - 1)).off : Nat) : Int) (((sc (ah - 1)).link : Nat) : Int) (((sc (ah - 1)).info : Nat) : Int) (((sc (ah - 1)).align : Nat) : Int) (((sc (ah - 1)).ent : Nat) : Int) (((sc (ah - 1)).bG : Nat) : Int) (.iface 144 (aG sq)) (aA 0) (aA 0) pq sq (by rw [hty]; rfl) hfl (.inl (by decide)) l b o n c hl hnc (sc (ah - 1)).bG (sc (ah - 1)).off (((sc (ah - 1)).off : Nat) : Int) ((((sc (ah - 1)).bG : Nat) : Int) + (((sc (ah - 1)).off : Nat) : Int)) (((sc (ah - 1)).bG : Nat) : Int) (by omega) (by omega) (by omega) (by omega) (by omega) (by omega) (by omega) w q4 q5 (Nat.lt_of_lt_of_le hbl HM.size) (by omega) (by omega) (cO q4 q5 (by decide)) (HM.row hr (by intro b' o' s' e; injection e with e; injection e with e; subst e; exact qP))) ?_)
 rintro _ w1 ⟨dD, rfl, hb, hge, hgn⟩
 replace HM : Mm G w0 w1 [(dD, .cells (((l.drop ((sc (ah - 1)).off + 0)).take (sc (ah - 1)).bG).map Bv).toArray 5 (0, 0)), (sd, .cells (X.map Bv).toArray 5 (0, 0)), (aT, .cells nms 36 (0, 0)), (aX, .cells cur 133 (0, 0)), (fb, .cells #[aN 2, .int .u8 dat, aN 1, aV abi, aV aC, (aP big), aZ aQ, aZ aF, aJ ay, aH aX ah ah, aH pg aj aj, aK, aK, aK] 131 (0, 0)), (s, .cells #[.iface 178 (.slice (some ⟨b, o, none⟩) n c), aA 0, aA 0, aA 9223372036854775807, aA 9223372036854775807] 246 (0, 0))] := HM.push hb hge hgn
 clear hge hgn
 refine ⟨_, rfl, ?_⟩; clear HF; intro a HF; replace HF := HF.sub ((jl b o n c s fb big ak aj au ah aT sd) ++ [(52, aG pq), (1239, aG pq), (1240, .tuple #[aH dD (sc (ah - 1)).bG (sc (ah - 1)).bG, .nilIface])]) (by kernel_rfl)
 refine wp_pure HF HM rfl 5 [] ((jl b o n c s fb big ak aj au ah aT sd) ++ [(52, aG pq), (53, aH dD (sc (ah - 1)).bG (sc (ah - 1)).bG), (37, .nilIface)]) (by kernel_rfl) ?_
 clear HF; intro a HF
 refine aI ?_
 refine wp_seq ?_
 refine wp_seq (wp_region_lit ?_)
 refine wp_pure HF HM rfl 2 [] ((jl b o n c s fb big ak aj au ah aT sd) ++ [(52, aG pq), (53, aH dD (sc (ah - 1)).bG (sc (ah - 1)).bG), (37, .nilIface), (1244, .bool false)]) (by kernel_rfl) ?_
 clear HF; intro a HF
 refine aI ?_
 refine bf HF rfl ?_
 refine wp_skip ?_
 repeat (first | refine aS ?_ | refine aU ?_)
 replace HF := HF.sub ((jl b o n c s fb big ak aj au ah aT sd) ++ [(53, aH dD (sc (ah - 1)).bG (sc (ah - 1)).bG)]) (by kernel_rfl)
 replace HF := HF.sub ((jl b o n c s fb big ak aj au ah aT sd) ++ [(53, aH dD (sc (ah - 1)).bG (sc (ah - 1)).bG)]) (by kernel_rfl)
 rw [Nat.add_zero] at HM
 exact K a w1 dD (hP.keep (Keep.of_below hb) (by intro g hg; cases hg)) HF HM

end Go.Proofs.YtdgehpocmfjbiaaDoor
namespace Go.Proofs.YtdgehpocmfjbiaaDoor
open Go.RowKit

theorem iw.named {b o n c z : Nat} {w w' : World} {sc : Nat → gV} {nb : Nat → List UInt8} {k i : Nat} {cur : Array Value} {pb sb : Nat} (h : iw b o n c z w sc (fun j => if j < i then ⟨(nb j).toArray⟩ else ⟨#[]⟩) k cur) (hD : mG k cur) (hi : i < k) (hc : cur[i]? = some (aG pb)) (hsb : w.heap[pb]? = some (.cells #[.string ⟨#[]⟩, aY (sc i).ty, aY (sc i).flags, aJ (sc i).addr, aJ (sc i).off, aJ (sc i).bG, aY (sc i).link, aY (sc i).info, aJ (sc i).align, aJ (sc i).ent, aJ (sc i).bG, .iface 144 (aG sb), aG sb, .int .i64 0, .int .i64 0] 153 (0, 0)))
  (hk : Keep [pb] w w') (hn : w'.heap[pb]? = some (.cells #[.string ⟨(nb i).toArray⟩, aY (sc i).ty, aY (sc i).flags, aJ (sc i).addr, aJ (sc i).off, aJ (sc i).bG, aY (sc i).link, aY (sc i).info, aJ (sc i).align, aJ (sc i).ent, aJ (sc i).bG, .iface 144 (aG sb), aG sb, .int .i64 0, .int .i64 0] 153 (0, 0))) : iw b o n c z w' sc (fun j => if j < (i + 1) then ⟨(nb j).toArray⟩ else ⟨#[]⟩) k cur := fun j hj => by
 obtain ⟨pj, sj, h1, h2, h3, h4, h5⟩ := h j hj
 have h5' : w'.heap[sj]? = w.heap[sj]? := hk.block sj (jD h5) (by simpa using cO h5 hsb (by decide))
 by_cases hji : j = i
 ·subst hji
  rw [hc] at h1
  injection h1 with h1
  injection h1 with h1
  injection h1 with h1
  injection h1 with h1
  subst h1
  simp only [Nat.lt_irrefl, ↓reduceIte] at h4
  rw [hsb] at h4
  refine ⟨pb, sj, hc, h2, h3, ?_, h5'.trans h5⟩
  simp only [Nat.lt_add_one, ↓reduceIte]
  rw [hn]
  injection h4 with h4
  injection h4 with h4
  have e := congrArg (fun a => a[12]?) h4
  simp only [List.getElem?_toArray] at e
  injection e with e
  injection e with e
  injection e with e
  injection e with e
  subst e
  rfl
 ·have hne : pj ≠ pb := fun e => by
   subst e
   rcases Nat.lt_or_ge j i with hlt | hge
   ·exact hD j i hlt hi (h1.trans hc.symm)
   ·exact hD i j (by omega) hj (hc.trans h1.symm)
  refine ⟨pj, sj, h1, h2, h3, ?_, h5'.trans h5⟩
  rw [hk.block pj (jD h4) (by simpa using hne), h4]
  have : (j < i + 1) = (j < i) := propext ⟨fun h => by omega, fun h => by omega⟩
  simp only [this]

abbrev kQ := fun (b : Nat) (o : Nat) (n : Nat) (c : Nat) (s : Nat) (fb : Nat) (big : Bool) (ak : Nat) (aj : Nat) (au : Nat) (ah : Nat) (aT : Nat) (sd : Nat) (dD : Nat) (tm : Nat) (aX : Nat) => ([(0, .iface 178 (.slice (some ⟨b, o, none⟩) n c)), (4, aG s), (8, aG fb), (9, (aP big)), (10, aB ak), (11, aA 32), (12, aB aj), (13, aB au), (14, aA 40), (15, aB ah), (16, aB (ah - 1)), (26, aA 40), (41, aH aT ah ah), (42, aH sd (ah * 40) (ah * 40)), (53, aH dD tm tm), (1249, aH aX ah ah), (1250, aB ah)] : Slots)
abbrev sK := fun (b : Nat) (o : Nat) (n : Nat) (c : Nat) (s : Nat) (fb : Nat) (big : Bool) (ak : Nat) (aj : Nat) (au : Nat) (ah : Nat) (aT : Nat) (sd : Nat) (dD : Nat) (tm : Nat) (aX : Nat) (i : Nat) (pb : Nat) => ((kQ b o n c s fb big ak aj au ah aT sd dD tm aX) ++ [(1251, aB i), (54, aB i), (55, aG pb), (56, .bool false)] : Slots)
abbrev yc := fun (pb : Nat) (nb : Nat → List UInt8) (i : Nat) (sc : Nat → gV) (sb : Nat) => ((pb, .cells #[.string ⟨(nb i).toArray⟩, aY (sc i).ty, aY (sc i).flags, aJ (sc i).addr, aJ (sc i).off, aJ (sc i).bG, aY (sc i).link, aY (sc i).info, aJ (sc i).align, aJ (sc i).ent, aJ (sc i).bG, .iface 144 (aG sb), aG sb, aA 0, aA 0] 153 (0, 0)) : Nat × Obj)
theorem OC (l : List UInt8) (b o n c : Nat) (hl : n = l.length) (hnc : n ≤ c) (big : Bool) (ak aj au ah : Nat) (b7 : ah < 200) (sc : Nat → gV) (nb : Nat → List UInt8) (Y : List UInt8) (tm : Nat) (hY : tm = Y.length) (uZ : tm ≤ maxLen) (i : Nat) (hi : i < ah) (hv : (sc i).name < 4294967296) (hstr : mg Y (sc i).name = some (nb i)) (s fb pg aX aT sd dD pb sb : Nat) (cur nms : Array Value) {K0 : Act → World → Prop} {Q : Exit → Act → World → Prop} (a : Act) (W1 : World)
  (hc : cur[i]? = some (aG pb)) (hN : kC sc ah nms) (Nc : W1.heap[aX]? = some (.cells cur 133 (0, 0))) (Nh : W1.heap[aT]? = some (.cells nms 36 (0, 0))) (Nb : W1.heap[dD]? = some (.cells (Y.map Bv).toArray 5 (0, 0))) (hpb : W1.heap[pb]? = some (.cells #[.string ⟨#[]⟩, aY (sc i).ty, aY (sc i).flags, aJ (sc i).addr, aJ (sc i).off, aJ (sc i).bG, aY (sc i).link, aY (sc i).info, aJ (sc i).align, aJ (sc i).ent, aJ (sc i).bG, .iface 144 (aG sb), aG sb, aA 0, aA 0] 153 (0, 0))) (HF : Fr 1287 a ((kQ b o n c s fb big ak aj au ah aT sd dD tm aX) ++ [(1251, aB i)]))
  (K : ∀ a w', Keep [pb] W1 w' → w'.heap[pb]? = some (.cells #[.string ⟨(nb i).toArray⟩, aY (sc i).ty, aY (sc i).flags, aJ (sc i).addr, aJ (sc i).off, aJ (sc i).bG, aY (sc i).link, aY (sc i).info, aJ (sc i).align, aJ (sc i).ent, aJ (sc i).bG, .iface 144 (aG sb), aG sb, aA 0, aA 0] 153 (0, 0)) → Fr 1287 a ((kQ b o n c s fb big ak aj au ah aT sd dD tm aX) ++ [(1251, aB (i + 1))]) → K0 a w') : (oD (spine Tryd.f78 51)).wp Tryd.prog (Exit.then K0 Q) a W1 := by
 obtain ⟨i0, his, hss⟩ := CO
 obtain ⟨i1, hiu, hsu⟩ := GX
 obtain ⟨w, hw⟩ : ∃ w, W1 = w := ⟨_, rfl⟩
 have HM : Mm [pb] W1 w [(pb, .cells #[.string ⟨#[]⟩, aY (sc i).ty, aY (sc i).flags, aJ (sc i).addr, aJ (sc i).off, aJ (sc i).bG, aY (sc i).link, aY (sc i).info, aJ (sc i).align, aJ (sc i).ent, aJ (sc i).bG, .iface 144 (aG sb), aG sb, aA 0, aA 0] 153 (0, 0))] := hw ▸ Mm.uU hpb
 have hsg := hw ▸ Nc
 have hnm := hw ▸ Nh
 have htb := hw ▸ Nb
 conv => arg 5; rw [hw]
 clear hw
 refine wp_seq (wp_region_lit ?_)
 refine wp_pure HF HM rfl 1 [] ((kQ b o n c s fb big ak aj au ah aT sd dD tm aX) ++ [(1251, aB i), (1252, .bool (decide (((i : Nat) : Int) < ((ah : Nat) : Int))))]) (by kernel_rfl) ?_
 clear HF; intro a HF
 rw [show decide (((i : Nat) : Int) < ((ah : Nat) : Int)) = true from dM (by omega)] at HF
 refine aI ?_
 refine wp_seq ?_
 refine bF HF rfl ?_
 refine wp_skip ?_
 repeat (first | refine aS ?_ | refine aU ?_)
 replace HF := HF.sub ((kQ b o n c s fb big ak aj au ah aT sd dD tm aX) ++ [(1251, aB i)]) (by kernel_rfl)
 refine wp_seq (wp_block ?_)
 refine wp_seq (wp_region_lit ?_)
 refine wp_pure HF HM rfl 1 [] ((kQ b o n c s fb big ak aj au ah aT sd dD tm aX) ++ [(1251, aB i), (1253, aB i)]) (by kernel_rfl) ?_
 clear HF; intro a HF
 refine dP HF (by kernel_rfl) (.pointer (some ⟨aX, i, none⟩)) (by kernel_rfl) (sF (t := 126) Tryd.underlying126 his hss rfl i rfl rfl (by omega)) ?_
 clear HF; intro a HF; replace HF := HF.sub ((kQ b o n c s fb big ak aj au ah aT sd dD tm aX) ++ [(1251, aB i), (1253, aB i), (1254, .pointer (some ⟨aX, i, none⟩))]) (by kernel_rfl)
 refine dP HF (by kernel_rfl) (aG pb) (by kernel_rfl) (gJ rfl rfl (by kernel_rfl) ((cell_of_row w aX i _ _ _ hsg).trans hc)) ?_
 clear HF; intro a HF; replace HF := HF.sub ((kQ b o n c s fb big ak aj au ah aT sd dD tm aX) ++ [(1251, aB i), (1253, aB i), (1254, .pointer (some ⟨aX, i, none⟩)), (1255, aG pb)]) (by kernel_rfl)
 refine wp_pure HF HM rfl 2 [] ((kQ b o n c s fb big ak aj au ah aT sd dD tm aX) ++ [(1251, aB i), (54, aB i), (55, aG pb)]) (by kernel_rfl) ?_
 clear HF; intro a HF
 refine aI ?_
 refine nD HF HM rfl [] (sK b o n c s fb big ak aj au ah aT sd dD tm aX i pb) (by kernel_rfl) ?_
 clear HF; intro a HF
 refine wp_seq (wp_region_lit ?_)
 refine wp_pure HF HM rfl 4 [] ((sK b o n c s fb big ak aj au ah aT sd dD tm aX i pb) ++ [(1257, aG pb), (1258, aH dD tm tm), (1259, aH aT ah ah), (1260, aB i)]) (by kernel_rfl) ?_
 clear HF; intro a HF
 refine dP HF (by kernel_rfl) (.pointer (some ⟨aT, i, none⟩)) (by kernel_rfl) (sF (t := 222) Tryd.underlying222 hiu hsu rfl i rfl rfl (by omega)) ?_
 clear HF; intro a HF; replace HF := HF.sub ((sK b o n c s fb big ak aj au ah aT sd dD tm aX i pb) ++ [(1257, aG pb), (1258, aH dD tm tm), (1259, aH aT ah ah), (1260, aB i), (1261, .pointer (some ⟨aT, i, none⟩))]) (by kernel_rfl)
 refine dP HF (by kernel_rfl) (aY (sc i).name) (by kernel_rfl) (gJ rfl rfl (by kernel_rfl) ((cell_of_row w aT i _ _ _ hnm).trans (hN i hi))) ?_
 clear HF; intro a HF; replace HF := HF.sub ((sK b o n c s fb big ak aj au ah aT sd dD tm aX i pb) ++ [(1257, aG pb), (1258, aH dD tm tm), (1259, aH aT ah ah), (1260, aB i), (1261, .pointer (some ⟨aT, i, none⟩)), (1262, aY (sc i).name)]) (by kernel_rfl)
 refine wp_pure HF HM rfl 1 [] ((sK b o n c s fb big ak aj au ah aT sd dD tm aX i pb) ++ [(1257, aG pb), (1258, aH dD tm tm), (1263, aA (IntKind.i64.wrap (((sc i).name : Nat) : Int)))]) (by kernel_rfl) ?_
 clear HF; intro a HF
 rw [show IntKind.i64.wrap (((sc i).name : Nat) : Int) = (((sc i).name : Nat) : Int) from IntWalk.i64_in _ (by omega)] at HF
 refine bn HF (by kernel_rfl) 91 #[aH dD tm tm, aB (sc i).name] (by kernel_rfl) (fun w => by kernel_rfl) (Calls.mono (AA (some ⟨dD, 0, none⟩) Y tm tm (((sc i).name : Nat) : Int) hY (Nat.le_refl _) uZ w (qJ htb)) ?_)
 rintro _ w1 ⟨rfl, hq⟩
 obtain rfl : w1 = w := hq.symm
 rw [show yJ Y (((sc i).name : Nat) : Int) = some (nb i) from (if_neg (by omega)).trans hstr]
 refine ⟨_, rfl, ?_⟩; clear HF; intro a HF; replace HF := HF.sub ((sK b o n c s fb big ak aj au ah aT sd dD tm aX i pb) ++ [(1257, aG pb), (1258, aH dD tm tm), (1263, aB (sc i).name), (1264, .tuple #[.string ⟨(nb i).toArray⟩, .bool true])]) (by kernel_rfl)
 refine aO HF HM rfl 8 [[0]] ((kQ b o n c s fb big ak aj au ah aT sd dD tm aX) ++ [(1251, aB i), (54, aB i), (55, aG pb), (56, .bool true)]) [yc pb nb i sc sb] (by kernel_rfl) ?_
 clear HF HM; intro a w HF HM
 refine aI ?_
 refine wp_seq (wp_region_lit ?_)
 refine aO HF HM rfl 2 [] ((kQ b o n c s fb big ak aj au ah aT sd dD tm aX) ++ [(1251, aB i), (54, aB i), (55, aG pb), (56, .bool true), (1271, .bool false)]) [yc pb nb i sc sb] (by kernel_rfl) ?_
 clear HF HM; intro a w HF HM
 refine aI ?_
 refine bf HF rfl ?_
 refine wp_skip ?_
 repeat (first | refine aS ?_ | refine aU ?_)
 replace HF := HF.sub ((kQ b o n c s fb big ak aj au ah aT sd dD tm aX) ++ [(1251, aB i)]) (by kernel_rfl)
 refine wp_region_lit ?_
 refine aO HF HM rfl 1 [] ((kQ b o n c s fb big ak aj au ah aT sd dD tm aX) ++ [(1251, aB i), (1285, aA (IntKind.i64.wrap (((i : Nat) : Int) + 1)))]) [yc pb nb i sc sb] (by kernel_rfl) ?_
 clear HF HM; intro a w HF HM
 rw [show IntKind.i64.wrap (((i : Nat) : Int) + 1) = (((i + 1) : Nat) : Int) from (IntWalk.i64_in _ (by omega)).trans (by omega)] at HF
 refine aO HF HM rfl 1 [] ((kQ b o n c s fb big ak aj au ah aT sd dD tm aX) ++ [(1251, aB (i + 1))]) [yc pb nb i sc sb] (by kernel_rfl) ?_
 clear HF HM; intro a w HF HM
 refine wpList_nil ?_
 repeat (first | refine aS ?_ | refine aU ?_)
 replace HF := HF.sub ((kQ b o n c s fb big ak aj au ah aT sd dD tm aX) ++ [(1251, aB (i + 1))]) (by kernel_rfl)
 exact K a w HM.keep (HM.get (i := 0) rfl) HF

abbrev kP := fun (b : Nat) (o : Nat) (n : Nat) (c : Nat) (s : Nat) (fb : Nat) (big : Bool) (ak : Nat) (aj : Nat) (au : Nat) (ah : Nat) (aT : Nat) (sd : Nat) (dD : Nat) (tm : Nat) (aX : Nat) => ([(0, .iface 178 (.slice (some ⟨b, o, none⟩) n c)), (4, aG s), (8, aG fb), (9, (aP big)), (10, aB ak), (11, aA 56), (12, aB aj), (13, aB au), (14, aA 64), (15, aB ah), (16, aB (ah - 1)), (26, aA 64), (41, aH aT ah ah), (42, aH sd (ah * 64) (ah * 64)), (53, aH dD tm tm), (1249, aH aX ah ah), (1250, aB ah)] : Slots)
abbrev sJ := fun (b : Nat) (o : Nat) (n : Nat) (c : Nat) (s : Nat) (fb : Nat) (big : Bool) (ak : Nat) (aj : Nat) (au : Nat) (ah : Nat) (aT : Nat) (sd : Nat) (dD : Nat) (tm : Nat) (aX : Nat) (i : Nat) (pb : Nat) => ((kP b o n c s fb big ak aj au ah aT sd dD tm aX) ++ [(1251, aB i), (54, aB i), (55, aG pb), (56, .bool false)] : Slots)
abbrev x9 := fun (pb : Nat) (nb : Nat → List UInt8) (i : Nat) (sc : Nat → gV) (sb : Nat) => ((pb, .cells #[.string ⟨(nb i).toArray⟩, aY (sc i).ty, aY (sc i).flags, aJ (sc i).addr, aJ (sc i).off, aJ (sc i).bG, aY (sc i).link, aY (sc i).info, aJ (sc i).align, aJ (sc i).ent, aJ (sc i).bG, .iface 144 (aG sb), aG sb, aA 0, aA 0] 153 (0, 0)) : Nat × Obj)
theorem OB (l : List UInt8) (b o n c : Nat) (hl : n = l.length) (hnc : n ≤ c) (big : Bool) (ak aj au ah : Nat) (b7 : ah < 200) (sc : Nat → gV) (nb : Nat → List UInt8) (Y : List UInt8) (tm : Nat) (hY : tm = Y.length) (uZ : tm ≤ maxLen) (i : Nat) (hi : i < ah) (hv : (sc i).name < 4294967296) (hstr : mg Y (sc i).name = some (nb i)) (s fb pg aX aT sd dD pb sb : Nat) (cur nms : Array Value) {K0 : Act → World → Prop} {Q : Exit → Act → World → Prop} (a : Act) (W1 : World)
  (hc : cur[i]? = some (aG pb)) (hN : kC sc ah nms) (Nc : W1.heap[aX]? = some (.cells cur 133 (0, 0))) (Nh : W1.heap[aT]? = some (.cells nms 36 (0, 0))) (Nb : W1.heap[dD]? = some (.cells (Y.map Bv).toArray 5 (0, 0))) (hpb : W1.heap[pb]? = some (.cells #[.string ⟨#[]⟩, aY (sc i).ty, aY (sc i).flags, aJ (sc i).addr, aJ (sc i).off, aJ (sc i).bG, aY (sc i).link, aY (sc i).info, aJ (sc i).align, aJ (sc i).ent, aJ (sc i).bG, .iface 144 (aG sb), aG sb, aA 0, aA 0] 153 (0, 0))) (HF : Fr 1287 a ((kP b o n c s fb big ak aj au ah aT sd dD tm aX) ++ [(1251, aB i)]))
  (K : ∀ a w', Keep [pb] W1 w' → w'.heap[pb]? = some (.cells #[.string ⟨(nb i).toArray⟩, aY (sc i).ty, aY (sc i).flags, aJ (sc i).addr, aJ (sc i).off, aJ (sc i).bG, aY (sc i).link, aY (sc i).info, aJ (sc i).align, aJ (sc i).ent, aJ (sc i).bG, .iface 144 (aG sb), aG sb, aA 0, aA 0] 153 (0, 0)) → Fr 1287 a ((kP b o n c s fb big ak aj au ah aT sd dD tm aX) ++ [(1251, aB (i + 1))]) → K0 a w') : (oD (spine Tryd.f78 51)).wp Tryd.prog (Exit.then K0 Q) a W1 := by
 obtain ⟨i0, his, hss⟩ := CO
 obtain ⟨i1, hiu, hsu⟩ := GX
 obtain ⟨w, hw⟩ : ∃ w, W1 = w := ⟨_, rfl⟩
 have HM : Mm [pb] W1 w [(pb, .cells #[.string ⟨#[]⟩, aY (sc i).ty, aY (sc i).flags, aJ (sc i).addr, aJ (sc i).off, aJ (sc i).bG, aY (sc i).link, aY (sc i).info, aJ (sc i).align, aJ (sc i).ent, aJ (sc i).bG, .iface 144 (aG sb), aG sb, aA 0, aA 0] 153 (0, 0))] := hw ▸ Mm.uU hpb
 have hsg := hw ▸ Nc
 have hnm := hw ▸ Nh
 have htb := hw ▸ Nb
 conv => arg 5; rw [hw]
 clear hw
 refine wp_seq (wp_region_lit ?_)
 refine wp_pure HF HM rfl 1 [] ((kP b o n c s fb big ak aj au ah aT sd dD tm aX) ++ [(1251, aB i), (1252, .bool (decide (((i : Nat) : Int) < ((ah : Nat) : Int))))]) (by kernel_rfl) ?_
 clear HF; intro a HF
 rw [show decide (((i : Nat) : Int) < ((ah : Nat) : Int)) = true from dM (by omega)] at HF
 refine aI ?_
 refine wp_seq ?_
 refine bF HF rfl ?_
 refine wp_skip ?_
 repeat (first | refine aS ?_ | refine aU ?_)
 replace HF := HF.sub ((kP b o n c s fb big ak aj au ah aT sd dD tm aX) ++ [(1251, aB i)]) (by kernel_rfl)
 refine wp_seq (wp_block ?_)
 refine wp_seq (wp_region_lit ?_)
 refine wp_pure HF HM rfl 1 [] ((kP b o n c s fb big ak aj au ah aT sd dD tm aX) ++ [(1251, aB i), (1253, aB i)]) (by kernel_rfl) ?_
 clear HF; intro a HF
 refine dP HF (by kernel_rfl) (.pointer (some ⟨aX, i, none⟩)) (by kernel_rfl) (sF (t := 126) Tryd.underlying126 his hss rfl i rfl rfl (by omega)) ?_
 clear HF; intro a HF; replace HF := HF.sub ((kP b o n c s fb big ak aj au ah aT sd dD tm aX) ++ [(1251, aB i), (1253, aB i), (1254, .pointer (some ⟨aX, i, none⟩))]) (by kernel_rfl)
 refine dP HF (by kernel_rfl) (aG pb) (by kernel_rfl) (gJ rfl rfl (by kernel_rfl) ((cell_of_row w aX i _ _ _ hsg).trans hc)) ?_
 clear HF; intro a HF; replace HF := HF.sub ((kP b o n c s fb big ak aj au ah aT sd dD tm aX) ++ [(1251, aB i), (1253, aB i), (1254, .pointer (some ⟨aX, i, none⟩)), (1255, aG pb)]) (by kernel_rfl)
 refine wp_pure HF HM rfl 2 [] ((kP b o n c s fb big ak aj au ah aT sd dD tm aX) ++ [(1251, aB i), (54, aB i), (55, aG pb)]) (by kernel_rfl) ?_
 clear HF; intro a HF
 refine aI ?_
 refine nD HF HM rfl [] (sJ b o n c s fb big ak aj au ah aT sd dD tm aX i pb) (by kernel_rfl) ?_
 clear HF; intro a HF
 refine wp_seq (wp_region_lit ?_)
 refine wp_pure HF HM rfl 4 [] ((sJ b o n c s fb big ak aj au ah aT sd dD tm aX i pb) ++ [(1257, aG pb), (1258, aH dD tm tm), (1259, aH aT ah ah), (1260, aB i)]) (by kernel_rfl) ?_
 clear HF; intro a HF
 refine dP HF (by kernel_rfl) (.pointer (some ⟨aT, i, none⟩)) (by kernel_rfl) (sF (t := 222) Tryd.underlying222 hiu hsu rfl i rfl rfl (by omega)) ?_
 clear HF; intro a HF; replace HF := HF.sub ((sJ b o n c s fb big ak aj au ah aT sd dD tm aX i pb) ++ [(1257, aG pb), (1258, aH dD tm tm), (1259, aH aT ah ah), (1260, aB i), (1261, .pointer (some ⟨aT, i, none⟩))]) (by kernel_rfl)
 refine dP HF (by kernel_rfl) (aY (sc i).name) (by kernel_rfl) (gJ rfl rfl (by kernel_rfl) ((cell_of_row w aT i _ _ _ hnm).trans (hN i hi))) ?_
 clear HF; intro a HF; replace HF := HF.sub ((sJ b o n c s fb big ak aj au ah aT sd dD tm aX i pb) ++ [(1257, aG pb), (1258, aH dD tm tm), (1259, aH aT ah ah), (1260, aB i), (1261, .pointer (some ⟨aT, i, none⟩)), (1262, aY (sc i).name)]) (by kernel_rfl)
 refine wp_pure HF HM rfl 1 [] ((sJ b o n c s fb big ak aj au ah aT sd dD tm aX i pb) ++ [(1257, aG pb), (1258, aH dD tm tm), (1263, aA (IntKind.i64.wrap (((sc i).name : Nat) : Int)))]) (by kernel_rfl) ?_
 clear HF; intro a HF
 rw [show IntKind.i64.wrap (((sc i).name : Nat) : Int) = (((sc i).name : Nat) : Int) from IntWalk.i64_in _ (by omega)] at HF
 refine bn HF (by kernel_rfl) 91 #[aH dD tm tm, aB (sc i).name] (by kernel_rfl) (fun w => by kernel_rfl) (Calls.mono (AA (some ⟨dD, 0, none⟩) Y tm tm (((sc i).name : Nat) : Int) hY (Nat.le_refl _) uZ w (qJ htb)) ?_)
 rintro _ w1 ⟨rfl, hq⟩
 obtain rfl : w1 = w := hq.symm
 rw [show yJ Y (((sc i).name : Nat) : Int) = some (nb i) from (if_neg (by omega)).trans hstr]
 refine ⟨_, rfl, ?_⟩; clear HF; intro a HF; replace HF := HF.sub ((sJ b o n c s fb big ak aj au ah aT sd dD tm aX i pb) ++ [(1257, aG pb), (1258, aH dD tm tm), (1263, aB (sc i).name), (1264, .tuple #[.string ⟨(nb i).toArray⟩, .bool true])]) (by kernel_rfl)
 refine aO HF HM rfl 8 [[0]] ((kP b o n c s fb big ak aj au ah aT sd dD tm aX) ++ [(1251, aB i), (54, aB i), (55, aG pb), (56, .bool true)]) [x9 pb nb i sc sb] (by kernel_rfl) ?_
 clear HF HM; intro a w HF HM
 refine aI ?_
 refine wp_seq (wp_region_lit ?_)
 refine aO HF HM rfl 2 [] ((kP b o n c s fb big ak aj au ah aT sd dD tm aX) ++ [(1251, aB i), (54, aB i), (55, aG pb), (56, .bool true), (1271, .bool false)]) [x9 pb nb i sc sb] (by kernel_rfl) ?_
 clear HF HM; intro a w HF HM
 refine aI ?_
 refine bf HF rfl ?_
 refine wp_skip ?_
 repeat (first | refine aS ?_ | refine aU ?_)
 replace HF := HF.sub ((kP b o n c s fb big ak aj au ah aT sd dD tm aX) ++ [(1251, aB i)]) (by kernel_rfl)
 refine wp_region_lit ?_
 refine aO HF HM rfl 1 [] ((kP b o n c s fb big ak aj au ah aT sd dD tm aX) ++ [(1251, aB i), (1285, aA (IntKind.i64.wrap (((i : Nat) : Int) + 1)))]) [x9 pb nb i sc sb] (by kernel_rfl) ?_
 clear HF HM; intro a w HF HM
 rw [show IntKind.i64.wrap (((i : Nat) : Int) + 1) = (((i + 1) : Nat) : Int) from (IntWalk.i64_in _ (by omega)).trans (by omega)] at HF
 refine aO HF HM rfl 1 [] ((kP b o n c s fb big ak aj au ah aT sd dD tm aX) ++ [(1251, aB (i + 1))]) [x9 pb nb i sc sb] (by kernel_rfl) ?_
 clear HF HM; intro a w HF HM
 refine wpList_nil ?_
 repeat (first | refine aS ?_ | refine aU ?_)
 replace HF := HF.sub ((kP b o n c s fb big ak aj au ah aT sd dD tm aX) ++ [(1251, aB (i + 1))]) (by kernel_rfl)
 exact K a w HM.keep (HM.get (i := 0) rfl) HF

end Go.Proofs.YtdgehpocmfjbiaaDoor
namespace Go.Proofs.YtdgehpocmfjbiaaDoor
open Go.RowKit


theorem N_ (l : List UInt8) (b o n c : Nat) (hl : n = l.length) (hnc : n ≤ c) (big : Bool) (abi aC aQ aF ay ak aj au ah : Nat) (dat : Int) (b7 : ah < 200) (X : List UInt8) (sc : Nat → gV) (bd : ∀ i, i < ah → rO (sc i)) (nb : Nat → List UInt8) (Y : List UInt8) (tm : Nat) (hY : tm = Y.length) (uZ : tm ≤ maxLen) (hstr : ∀ i, i < ah → mg Y (sc i).name = some (nb i)) (G : List Nat) (w0 : World) (s fb pg aX aT sd dD : Nat) (cur nms : Array Value) (hN : kC sc ah nms) (hD : mG ah cur) {KK : Act → World → Prop} {QQ : Exit → Act → World → Prop} {KR : Act → World → Prop} (K : ∀ a w, iw b o n c w0.heap.size w sc (fun j => if j < ah then ⟨(nb j).toArray⟩ else ⟨#[]⟩) ah cur → Fr 1287 a [(0, .iface 178 (.slice (some ⟨b, o, none⟩) n c)), (4, aG s), (8, aG fb), (9, (aP big)), (10, aB ak), (11, .int .i64 32), (12, aB aj), (13, aB au), (14, .int .i64 40), (15, aB ah), (16, aB (ah - 1)), (26, .int .i64 40), (41, aH aT ah ah), (42, aH sd (ah * 40) (ah * 40)), (53, aH dD tm tm)] → Mm G w0 w [(dD, .cells (Y.map Bv).toArray 5 (0, 0)), (sd, .cells (X.map Bv).toArray 5 (0, 0)), (aT, .cells nms 36 (0, 0)), (aX, .cells cur 133 (0, 0)), (fb, .cells #[.int .u8 1, .int .u8 dat, .int .u8 1, aV abi, aV aC, (aP big), aZ aQ, aZ aF, aJ ay, aH aX ah ah, aH pg aj aj, .slice none 0 0, .slice none 0 0, .slice none 0 0] 131 (0, 0)), (s, .cells #[.iface 178 (.slice (some ⟨b, o, none⟩) n c), .int .i64 0, .int .i64 0, .int .i64 9223372036854775807, .int .i64 9223372036854775807] 246 (0, 0))] → KK a w) (a : Act) (w : World) (hP : iw b o n c w0.heap.size w sc (fun j => if j < ah then ⟨(nb j).toArray⟩ else ⟨#[]⟩) ah cur) (HF : Fr 1287 a [(0, .iface 178 (.slice (some ⟨b, o, none⟩) n c)), (4, aG s), (8, aG fb), (9, (aP big)), (10, aB ak), (11, .int .i64 32), (12, aB aj), (13, aB au), (14, .int .i64 40), (15, aB ah), (16, aB (ah - 1)), (26, .int .i64 40), (41, aH aT ah ah), (42, aH sd (ah * 40) (ah * 40)), (53, aH dD tm tm), (1249, aH aX ah ah), (1250, aB ah), (1251, aB ah)]) (HM : Mm G w0 w [(dD, .cells (Y.map Bv).toArray 5 (0, 0)), (sd, .cells (X.map Bv).toArray 5 (0, 0)), (aT, .cells nms 36 (0, 0)), (aX, .cells cur 133 (0, 0)), (fb, .cells #[.int .u8 1, .int .u8 dat, .int .u8 1, aV abi, aV aC, (aP big), aZ aQ, aZ aF, aJ ay, aH aX ah ah, aH pg aj aj, .slice none 0 0, .slice none 0 0, .slice none 0 0] 131 (0, 0)), (s, .cells #[.iface 178 (.slice (some ⟨b, o, none⟩) n c), .int .i64 0, .int .i64 0, .int .i64 9223372036854775807, .int .i64 9223372036854775807] 246 (0, 0))]) :
  (oD (spine Tryd.f78 51)).wp Tryd.prog (Exit.then KR (Exit.inBlock 12 (Exit.then KK QQ))) a w := by
 refine wp_seq (wp_region_lit ?_)
 refine wp_pure HF HM rfl 1 [] [(0, .iface 178 (.slice (some ⟨b, o, none⟩) n c)), (4, aG s), (8, aG fb), (9, (aP big)), (10, aB ak), (11, .int .i64 32), (12, aB aj), (13, aB au), (14, .int .i64 40), (15, aB ah), (16, aB (ah - 1)), (26, .int .i64 40), (41, aH aT ah ah), (42, aH sd (ah * 40) (ah * 40)), (53, aH dD tm tm), (1249, aH aX ah ah), (1250, aB ah), (1251, aB ah), (1252, .bool (decide (((ah : Nat) : Int) < ((ah : Nat) : Int))))] (by kernel_rfl) ?_
 clear HF; intro a HF
 rw [show decide (((ah : Nat) : Int) < ((ah : Nat) : Int)) = false from bZ (by omega)] at HF
 refine aI ?_
 refine wp_seq ?_
 refine bf HF rfl ?_
 replace HF := HF.sub [(0, .iface 178 (.slice (some ⟨b, o, none⟩) n c)), (4, aG s), (8, aG fb), (9, (aP big)), (10, aB ak), (11, .int .i64 32), (12, aB aj), (13, aB au), (14, .int .i64 40), (15, aB ah), (16, aB (ah - 1)), (26, .int .i64 40), (41, aH aT ah ah), (42, aH sd (ah * 40) (ah * 40)), (53, aH dD tm tm), (1249, aH aX ah ah), (1250, aB ah), (1251, aB ah)] (by kernel_rfl)
 refine wp_exit ?_
 repeat (first | refine iW ?_ | refine kH ?_ | refine aS ?_)
 replace HF := HF.sub [(0, .iface 178 (.slice (some ⟨b, o, none⟩) n c)), (4, aG s), (8, aG fb), (9, (aP big)), (10, aB ak), (11, .int .i64 32), (12, aB aj), (13, aB au), (14, .int .i64 40), (15, aB ah), (16, aB (ah - 1)), (26, .int .i64 40), (41, aH aT ah ah), (42, aH sd (ah * 40) (ah * 40)), (53, aH dD tm tm)] (by kernel_rfl)
 exact K a _ hP HF HM
theorem Jo (l : List UInt8) (b o n c : Nat) (hl : n = l.length) (hnc : n ≤ c) (big : Bool) (abi aC aQ aF ay ak aj au ah : Nat) (dat : Int) (b7 : ah < 200) (X : List UInt8) (sc : Nat → gV) (bd : ∀ i, i < ah → rO (sc i)) (nb : Nat → List UInt8) (Y : List UInt8) (tm : Nat) (hY : tm = Y.length) (uZ : tm ≤ maxLen) (hstr : ∀ i, i < ah → mg Y (sc i).name = some (nb i)) (G : List Nat) (w0 : World) (s fb pg aX aT sd dD : Nat) (cur nms : Array Value) (hN : kC sc ah nms) (hD : mG ah cur) {KK : Act → World → Prop} {QQ : Exit → Act → World → Prop} (K : ∀ a w, iw b o n c w0.heap.size w sc (fun j => if j < ah then ⟨(nb j).toArray⟩ else ⟨#[]⟩) ah cur → Fr 1287 a [(0, .iface 178 (.slice (some ⟨b, o, none⟩) n c)), (4, aG s), (8, aG fb), (9, (aP big)), (10, aB ak), (11, .int .i64 32), (12, aB aj), (13, aB au), (14, .int .i64 40), (15, aB ah), (16, aB (ah - 1)), (26, .int .i64 40), (41, aH aT ah ah), (42, aH sd (ah * 40) (ah * 40)), (53, aH dD tm tm)] → Mm G w0 w [(dD, .cells (Y.map Bv).toArray 5 (0, 0)), (sd, .cells (X.map Bv).toArray 5 (0, 0)), (aT, .cells nms 36 (0, 0)), (aX, .cells cur 133 (0, 0)), (fb, .cells #[.int .u8 1, .int .u8 dat, .int .u8 1, aV abi, aV aC, (aP big), aZ aQ, aZ aF, aJ ay, aH aX ah ah, aH pg aj aj, .slice none 0 0, .slice none 0 0, .slice none 0 0] 131 (0, 0)), (s, .cells #[.iface 178 (.slice (some ⟨b, o, none⟩) n c), .int .i64 0, .int .i64 0, .int .i64 9223372036854775807, .int .i64 9223372036854775807] 246 (0, 0))] → KK a w) :
  ∀ (r i : Nat), i + r = ah → ∀ (a : Act) (w : World), iw b o n c w0.heap.size w sc (fun j => if j < i then ⟨(nb j).toArray⟩ else ⟨#[]⟩) ah cur → Fr 1287 a [(0, .iface 178 (.slice (some ⟨b, o, none⟩) n c)), (4, aG s), (8, aG fb), (9, (aP big)), (10, aB ak), (11, .int .i64 32), (12, aB aj), (13, aB au), (14, .int .i64 40), (15, aB ah), (16, aB (ah - 1)), (26, .int .i64 40), (41, aH aT ah ah), (42, aH sd (ah * 40) (ah * 40)), (53, aH dD tm tm), (1249, aH aX ah ah), (1250, aB ah), (1251, aB i)] → Mm G w0 w [(dD, .cells (Y.map Bv).toArray 5 (0, 0)), (sd, .cells (X.map Bv).toArray 5 (0, 0)), (aT, .cells nms 36 (0, 0)), (aX, .cells cur 133 (0, 0)), (fb, .cells #[.int .u8 1, .int .u8 dat, .int .u8 1, aV abi, aV aC, (aP big), aZ aQ, aZ aF, aJ ay, aH aX ah ah, aH pg aj aj, .slice none 0 0, .slice none 0 0, .slice none 0 0] 131 (0, 0)), (s, .cells #[.iface 178 (.slice (some ⟨b, o, none⟩) n c), .int .i64 0, .int .i64 0, .int .i64 9223372036854775807, .int .i64 9223372036854775807] 246 (0, 0))] →
  Code.rounds Tryd.prog (oD (spine Tryd.f78 51)) (Exit.inBlock 12 (Exit.then KK QQ)) (r + 1) a w
 | 0, i, hr, a, w, hP, HF, HM => by
  obtain rfl : i = ah := by omega
  rw [rounds_succ]
  exact N_ l b o n c hl hnc big abi aC aQ aF ay ak aj au i dat b7 X sc bd nb Y tm hY uZ hstr G w0 s fb pg aX aT sd dD cur nms hN hD K a w hP HF HM
 | r + 1, i, hr, a, w, hP, HF, HM => by
  have hi : i < ah := by omega
  rw [rounds_succ]
  obtain ⟨pb, sb, g1, g2, g3, g4, g5⟩ := hP i hi
  simp only [Nat.lt_irrefl, ↓reduceIte] at g4
  refine OC l b o n c hl hnc big ak aj au ah b7 sc nb Y tm hY uZ i hi (bd i hi).v1 (hstr i hi) s fb pg aX aT sd dD pb sb cur nms a w g1 hN (HM.get (i := 3) rfl) (HM.get (i := 2) rfl) (HM.get (i := 0) rfl) g4 HF ?_
  intro a' w' hk hn CB
  have bI : Mm G w0 w' [(dD, .cells (Y.map Bv).toArray 5 (0, 0)), (sd, .cells (X.map Bv).toArray 5 (0, 0)), (aT, .cells nms 36 (0, 0)), (aX, .cells cur 133 (0, 0)), (fb, .cells #[.int .u8 1, .int .u8 dat, .int .u8 1, aV abi, aV aC, (aP big), aZ aQ, aZ aF, aJ ay, aH aX ah ah, aH pg aj aj, .slice none 0 0, .slice none 0 0, .slice none 0 0] 131 (0, 0)), (s, .cells #[.iface 178 (.slice (some ⟨b, o, none⟩) n c), .int .i64 0, .int .i64 0, .int .i64 9223372036854775807, .int .i64 9223372036854775807] 246 (0, 0))] := HM.after hk (by
   intro g hg
   simp only [List.mem_cons, List.not_mem_nil, or_false] at hg
   subst hg
   exact .inl g2) rfl (by
   intro p hp
   simp only [List.mem_cons, List.not_mem_nil, or_false] at hp
   rcases hp with rfl | rfl | rfl | rfl | rfl | rfl
   ·exact (hk.block dD (HM.lt (i := 0) rfl) (by simpa using cO (HM.get (i := 0) rfl) g4 (by decide))).trans (HM.get (i := 0) rfl)
   ·exact (hk.block sd (HM.lt (i := 1) rfl) (by simpa using cO (HM.get (i := 1) rfl) g4 (by decide))).trans (HM.get (i := 1) rfl)
   ·exact (hk.block aT (HM.lt (i := 2) rfl) (by simpa using cO (HM.get (i := 2) rfl) g4 (by decide))).trans (HM.get (i := 2) rfl)
   ·exact (hk.block aX (HM.lt (i := 3) rfl) (by simpa using cO (HM.get (i := 3) rfl) g4 (by decide))).trans (HM.get (i := 3) rfl)
   ·exact (hk.block fb (HM.lt (i := 4) rfl) (by simpa using cO (HM.get (i := 4) rfl) g4 (by decide))).trans (HM.get (i := 4) rfl)
   ·exact (hk.block s (HM.lt (i := 5) rfl) (by simpa using cO (HM.get (i := 5) rfl) g4 (by decide))).trans (HM.get (i := 5) rfl))
  exact Jo l b o n c hl hnc big abi aC aQ aF ay ak aj au ah dat b7 X sc bd nb Y tm hY uZ hstr G w0 s fb pg aX aT sd dD cur nms hN hD K r (i + 1) (by omega) a' w' (hP.named hD hi g1 g4 hk hn) CB bI

theorem LU (l : List UInt8) (b o n c : Nat) (hl : n = l.length) (hnc : n ≤ c) (big : Bool) (abi aC aQ aF ay ak aj au ah : Nat) (dat : Int) (b7 : ah < 200) (X : List UInt8) (sc : Nat → gV) (bd : ∀ i, i < ah → rO (sc i)) (nb : Nat → List UInt8) (Y : List UInt8) (tm : Nat) (hY : tm = Y.length) (uZ : tm ≤ maxLen) (hstr : ∀ i, i < ah → mg Y (sc i).name = some (nb i)) (G : List Nat) (w0 : World) (s fb pg aX aT sd dD : Nat) (cur nms : Array Value) (hN : kC sc ah nms) (hD : mG ah cur) {Q : Exit → Act → World → Prop} (a : Act) (w : World) (hP : iw b o n c w0.heap.size w sc (fun _ => ⟨#[]⟩) ah cur) (HF : Fr 1287 a [(0, .iface 178 (.slice (some ⟨b, o, none⟩) n c)), (4, aG s), (8, aG fb), (9, (aP big)), (10, aB ak), (11, .int .i64 32), (12, aB aj), (13, aB au), (14, .int .i64 40), (15, aB ah), (16, aB (ah - 1)), (26, .int .i64 40), (41, aH aT ah ah), (42, aH sd (ah * 40) (ah * 40)), (53, aH dD tm tm)]) (HM : Mm G w0 w [(dD, .cells (Y.map Bv).toArray 5 (0, 0)), (sd, .cells (X.map Bv).toArray 5 (0, 0)), (aT, .cells nms 36 (0, 0)), (aX, .cells cur 133 (0, 0)), (fb, .cells #[.int .u8 1, .int .u8 dat, .int .u8 1, aV abi, aV aC, (aP big), aZ aQ, aZ aF, aJ ay, aH aX ah ah, aH pg aj aj, .slice none 0 0, .slice none 0 0, .slice none 0 0] 131 (0, 0)), (s, .cells #[.iface 178 (.slice (some ⟨b, o, none⟩) n c), .int .i64 0, .int .i64 0, .int .i64 9223372036854775807, .int .i64 9223372036854775807] 246 (0, 0))])
  (K : ∀ a w, iw b o n c w0.heap.size w sc (fun j => if j < ah then ⟨(nb j).toArray⟩ else ⟨#[]⟩) ah cur → Fr 1287 a [(0, .iface 178 (.slice (some ⟨b, o, none⟩) n c)), (4, aG s), (8, aG fb), (9, (aP big)), (10, aB ak), (11, .int .i64 32), (12, aB aj), (13, aB au), (14, .int .i64 40), (15, aB ah), (16, aB (ah - 1)), (26, .int .i64 40), (41, aH aT ah ah), (42, aH sd (ah * 40) (ah * 40)), (53, aH dD tm tm)] → Mm G w0 w [(dD, .cells (Y.map Bv).toArray 5 (0, 0)), (sd, .cells (X.map Bv).toArray 5 (0, 0)), (aT, .cells nms 36 (0, 0)), (aX, .cells cur 133 (0, 0)), (fb, .cells #[.int .u8 1, .int .u8 dat, .int .u8 1, aV abi, aV aC, (aP big), aZ aQ, aZ aF, aJ ay, aH aX ah ah, aH pg aj aj, .slice none 0 0, .slice none 0 0, .slice none 0 0] 131 (0, 0)), (s, .cells #[.iface 178 (.slice (some ⟨b, o, none⟩) n c), .int .i64 0, .int .i64 0, .int .i64 9223372036854775807, .int .i64 9223372036854775807] 246 (0, 0))] → (spine Tryd.f78 52).wp Tryd.prog Q a w) : (spine Tryd.f78 51).wp Tryd.prog Q a w := by
 refine wp_seq (wp_seq (wp_region_lit ?_))
 refine wp_pure HF HM rfl 6 [[1], []] [(0, .iface 178 (.slice (some ⟨b, o, none⟩) n c)), (4, aG s), (8, aG fb), (9, (aP big)), (10, aB ak), (11, .int .i64 32), (12, aB aj), (13, aB au), (14, .int .i64 40), (15, aB ah), (16, aB (ah - 1)), (26, .int .i64 40), (41, aH aT ah ah), (42, aH sd (ah * 40) (ah * 40)), (53, aH dD tm tm), (1249, aH aX ah ah), (1250, aB ah), (1251, aB 0)] (by kernel_rfl) ?_
 clear HF; intro a HF
 refine aI ?_
 refine wp_block (wp_loop_rounds (ah + 1) ?_)
 exact Jo l b o n c hl hnc big abi aC aQ aF ay ak aj au ah dat b7 X sc bd nb Y tm hY uZ hstr G w0 s fb pg aX aT sd dD cur nms hN hD K ah 0 (by omega) a w (by simpa only [Nat.not_lt_zero, ↓reduceIte] using hP) HF HM

theorem N9 (l : List UInt8) (b o n c : Nat) (hl : n = l.length) (hnc : n ≤ c) (big : Bool) (abi aC aQ aF ay ak aj au ah : Nat) (dat : Int) (b7 : ah < 200) (X : List UInt8) (sc : Nat → gV) (bd : ∀ i, i < ah → rO (sc i)) (nb : Nat → List UInt8) (Y : List UInt8) (tm : Nat) (hY : tm = Y.length) (uZ : tm ≤ maxLen) (hstr : ∀ i, i < ah → mg Y (sc i).name = some (nb i)) (G : List Nat) (w0 : World) (s fb pg aX aT sd dD : Nat) (cur nms : Array Value) (hN : kC sc ah nms) (hD : mG ah cur) {KK : Act → World → Prop} {QQ : Exit → Act → World → Prop} {KR : Act → World → Prop} (K : ∀ a w, iw b o n c w0.heap.size w sc (fun j => if j < ah then ⟨(nb j).toArray⟩ else ⟨#[]⟩) ah cur → Fr 1287 a [(0, .iface 178 (.slice (some ⟨b, o, none⟩) n c)), (4, aG s), (8, aG fb), (9, (aP big)), (10, aB ak), (11, .int .i64 56), (12, aB aj), (13, aB au), (14, .int .i64 64), (15, aB ah), (16, aB (ah - 1)), (26, .int .i64 64), (41, aH aT ah ah), (42, aH sd (ah * 64) (ah * 64)), (53, aH dD tm tm)] → Mm G w0 w [(dD, .cells (Y.map Bv).toArray 5 (0, 0)), (sd, .cells (X.map Bv).toArray 5 (0, 0)), (aT, .cells nms 36 (0, 0)), (aX, .cells cur 133 (0, 0)), (fb, .cells #[.int .u8 2, .int .u8 dat, .int .u8 1, aV abi, aV aC, (aP big), aZ aQ, aZ aF, aJ ay, aH aX ah ah, aH pg aj aj, .slice none 0 0, .slice none 0 0, .slice none 0 0] 131 (0, 0)), (s, .cells #[.iface 178 (.slice (some ⟨b, o, none⟩) n c), .int .i64 0, .int .i64 0, .int .i64 9223372036854775807, .int .i64 9223372036854775807] 246 (0, 0))] → KK a w) (a : Act) (w : World) (hP : iw b o n c w0.heap.size w sc (fun j => if j < ah then ⟨(nb j).toArray⟩ else ⟨#[]⟩) ah cur) (HF : Fr 1287 a [(0, .iface 178 (.slice (some ⟨b, o, none⟩) n c)), (4, aG s), (8, aG fb), (9, (aP big)), (10, aB ak), (11, .int .i64 56), (12, aB aj), (13, aB au), (14, .int .i64 64), (15, aB ah), (16, aB (ah - 1)), (26, .int .i64 64), (41, aH aT ah ah), (42, aH sd (ah * 64) (ah * 64)), (53, aH dD tm tm), (1249, aH aX ah ah), (1250, aB ah), (1251, aB ah)]) (HM : Mm G w0 w [(dD, .cells (Y.map Bv).toArray 5 (0, 0)), (sd, .cells (X.map Bv).toArray 5 (0, 0)), (aT, .cells nms 36 (0, 0)), (aX, .cells cur 133 (0, 0)), (fb, .cells #[.int .u8 2, .int .u8 dat, .int .u8 1, aV abi, aV aC, (aP big), aZ aQ, aZ aF, aJ ay, aH aX ah ah, aH pg aj aj, .slice none 0 0, .slice none 0 0, .slice none 0 0] 131 (0, 0)), (s, .cells #[.iface 178 (.slice (some ⟨b, o, none⟩) n c), .int .i64 0, .int .i64 0, .int .i64 9223372036854775807, .int .i64 9223372036854775807] 246 (0, 0))]) :
  (oD (spine Tryd.f78 51)).wp Tryd.prog (Exit.then KR (Exit.inBlock 12 (Exit.then KK QQ))) a w := by
 refine wp_seq (wp_region_lit ?_)
 refine wp_pure HF HM rfl 1 [] [(0, .iface 178 (.slice (some ⟨b, o, none⟩) n c)), (4, aG s), (8, aG fb), (9, (aP big)), (10, aB ak), (11, .int .i64 56), (12, aB aj), (13, aB au), (14, .int .i64 64), (15, aB ah), (16, aB (ah - 1)), (26, .int .i64 64), (41, aH aT ah ah), (42, aH sd (ah * 64) (ah * 64)), (53, aH dD tm tm), (1249, aH aX ah ah), (1250, aB ah), (1251, aB ah), (1252, .bool (decide (((ah : Nat) : Int) < ((ah : Nat) : Int))))] (by kernel_rfl) ?_
 clear HF; intro a HF
 rw [show decide (((ah : Nat) : Int) < ((ah : Nat) : Int)) = false from bZ (by omega)] at HF
 refine aI ?_
 refine wp_seq ?_
 refine bf HF rfl ?_
 replace HF := HF.sub [(0, .iface 178 (.slice (some ⟨b, o, none⟩) n c)), (4, aG s), (8, aG fb), (9, (aP big)), (10, aB ak), (11, .int .i64 56), (12, aB aj), (13, aB au), (14, .int .i64 64), (15, aB ah), (16, aB (ah - 1)), (26, .int .i64 64), (41, aH aT ah ah), (42, aH sd (ah * 64) (ah * 64)), (53, aH dD tm tm), (1249, aH aX ah ah), (1250, aB ah), (1251, aB ah)] (by kernel_rfl)
 refine wp_exit ?_
 repeat (first | refine iW ?_ | refine kH ?_ | refine aS ?_)
 replace HF := HF.sub [(0, .iface 178 (.slice (some ⟨b, o, none⟩) n c)), (4, aG s), (8, aG fb), (9, (aP big)), (10, aB ak), (11, .int .i64 56), (12, aB aj), (13, aB au), (14, .int .i64 64), (15, aB ah), (16, aB (ah - 1)), (26, .int .i64 64), (41, aH aT ah ah), (42, aH sd (ah * 64) (ah * 64)), (53, aH dD tm tm)] (by kernel_rfl)
 exact K a _ hP HF HM
theorem Jm (l : List UInt8) (b o n c : Nat) (hl : n = l.length) (hnc : n ≤ c) (big : Bool) (abi aC aQ aF ay ak aj au ah : Nat) (dat : Int) (b7 : ah < 200) (X : List UInt8) (sc : Nat → gV) (bd : ∀ i, i < ah → rO (sc i)) (nb : Nat → List UInt8) (Y : List UInt8) (tm : Nat) (hY : tm = Y.length) (uZ : tm ≤ maxLen) (hstr : ∀ i, i < ah → mg Y (sc i).name = some (nb i)) (G : List Nat) (w0 : World) (s fb pg aX aT sd dD : Nat) (cur nms : Array Value) (hN : kC sc ah nms) (hD : mG ah cur) {KK : Act → World → Prop} {QQ : Exit → Act → World → Prop} (K : ∀ a w, iw b o n c w0.heap.size w sc (fun j => if j < ah then ⟨(nb j).toArray⟩ else ⟨#[]⟩) ah cur → Fr 1287 a [(0, .iface 178 (.slice (some ⟨b, o, none⟩) n c)), (4, aG s), (8, aG fb), (9, (aP big)), (10, aB ak), (11, .int .i64 56), (12, aB aj), (13, aB au), (14, .int .i64 64), (15, aB ah), (16, aB (ah - 1)), (26, .int .i64 64), (41, aH aT ah ah), (42, aH sd (ah * 64) (ah * 64)), (53, aH dD tm tm)] → Mm G w0 w [(dD, .cells (Y.map Bv).toArray 5 (0, 0)), (sd, .cells (X.map Bv).toArray 5 (0, 0)), (aT, .cells nms 36 (0, 0)), (aX, .cells cur 133 (0, 0)), (fb, .cells #[.int .u8 2, .int .u8 dat, .int .u8 1, aV abi, aV aC, (aP big), aZ aQ, aZ aF, aJ ay, aH aX ah ah, aH pg aj aj, .slice none 0 0, .slice none 0 0, .slice none 0 0] 131 (0, 0)), (s, .cells #[.iface 178 (.slice (some ⟨b, o, none⟩) n c), .int .i64 0, .int .i64 0, .int .i64 9223372036854775807, .int .i64 9223372036854775807] 246 (0, 0))] → KK a w) :
  ∀ (r i : Nat), i + r = ah → ∀ (a : Act) (w : World), iw b o n c w0.heap.size w sc (fun j => if j < i then ⟨(nb j).toArray⟩ else ⟨#[]⟩) ah cur → Fr 1287 a [(0, .iface 178 (.slice (some ⟨b, o, none⟩) n c)), (4, aG s), (8, aG fb), (9, (aP big)), (10, aB ak), (11, .int .i64 56), (12, aB aj), (13, aB au), (14, .int .i64 64), (15, aB ah), (16, aB (ah - 1)), (26, .int .i64 64), (41, aH aT ah ah), (42, aH sd (ah * 64) (ah * 64)), (53, aH dD tm tm), (1249, aH aX ah ah), (1250, aB ah), (1251, aB i)] → Mm G w0 w [(dD, .cells (Y.map Bv).toArray 5 (0, 0)), (sd, .cells (X.map Bv).toArray 5 (0, 0)), (aT, .cells nms 36 (0, 0)), (aX, .cells cur 133 (0, 0)), (fb, .cells #[.int .u8 2, .int .u8 dat, .int .u8 1, aV abi, aV aC, (aP big), aZ aQ, aZ aF, aJ ay, aH aX ah ah, aH pg aj aj, .slice none 0 0, .slice none 0 0, .slice none 0 0] 131 (0, 0)), (s, .cells #[.iface 178 (.slice (some ⟨b, o, none⟩) n c), .int .i64 0, .int .i64 0, .int .i64 9223372036854775807, .int .i64 9223372036854775807] 246 (0, 0))] →
  Code.rounds Tryd.prog (oD (spine Tryd.f78 51)) (Exit.inBlock 12 (Exit.then KK QQ)) (r + 1) a w
 | 0, i, hr, a, w, hP, HF, HM => by
  obtain rfl : i = ah := by omega
  rw [rounds_succ]
  exact N9 l b o n c hl hnc big abi aC aQ aF ay ak aj au i dat b7 X sc bd nb Y tm hY uZ hstr G w0 s fb pg aX aT sd dD cur nms hN hD K a w hP HF HM
 | r + 1, i, hr, a, w, hP, HF, HM => by
  have hi : i < ah := by omega
  rw [rounds_succ]
  obtain ⟨pb, sb, g1, g2, g3, g4, g5⟩ := hP i hi
  simp only [Nat.lt_irrefl, ↓reduceIte] at g4
  refine OB l b o n c hl hnc big ak aj au ah b7 sc nb Y tm hY uZ i hi (bd i hi).v1 (hstr i hi) s fb pg aX aT sd dD pb sb cur nms a w g1 hN (HM.get (i := 3) rfl) (HM.get (i := 2) rfl) (HM.get (i := 0) rfl) g4 HF ?_
  intro a' w' hk hn CB
  have bI : Mm G w0 w' [(dD, .cells (Y.map Bv).toArray 5 (0, 0)), (sd, .cells (X.map Bv).toArray 5 (0, 0)), (aT, .cells nms 36 (0, 0)), (aX, .cells cur 133 (0, 0)), (fb, .cells #[.int .u8 2, .int .u8 dat, .int .u8 1, aV abi, aV aC, (aP big), aZ aQ, aZ aF, aJ ay, aH aX ah ah, aH pg aj aj, .slice none 0 0, .slice none 0 0, .slice none 0 0] 131 (0, 0)), (s, .cells #[.iface 178 (.slice (some ⟨b, o, none⟩) n c), .int .i64 0, .int .i64 0, .int .i64 9223372036854775807, .int .i64 9223372036854775807] 246 (0, 0))] := HM.after hk (by
   intro g hg
   simp only [List.mem_cons, List.not_mem_nil, or_false] at hg
   subst hg
   exact .inl g2) rfl (by
   intro p hp
   simp only [List.mem_cons, List.not_mem_nil, or_false] at hp
   rcases hp with rfl | rfl | rfl | rfl | rfl | rfl
   ·exact (hk.block dD (HM.lt (i := 0) rfl) (by simpa using cO (HM.get (i := 0) rfl) g4 (by decide))).trans (HM.get (i := 0) rfl)
   ·exact (hk.block sd (HM.lt (i := 1) rfl) (by simpa using cO (HM.get (i := 1) rfl) g4 (by decide))).trans (HM.get (i := 1) rfl)
   ·exact (hk.block aT (HM.lt (i := 2) rfl) (by simpa using cO (HM.get (i := 2) rfl) g4 (by decide))).trans (HM.get (i := 2) rfl)
   ·exact (hk.block aX (HM.lt (i := 3) rfl) (by simpa using cO (HM.get (i := 3) rfl) g4 (by decide))).trans (HM.get (i := 3) rfl)
   ·exact (hk.block fb (HM.lt (i := 4) rfl) (by simpa using cO (HM.get (i := 4) rfl) g4 (by decide))).trans (HM.get (i := 4) rfl)
   ·exact (hk.block s (HM.lt (i := 5) rfl) (by simpa using cO (HM.get (i := 5) rfl) g4 (by decide))).trans (HM.get (i := 5) rfl))
  exact Jm l b o n c hl hnc big abi aC aQ aF ay ak aj au ah dat b7 X sc bd nb Y tm hY uZ hstr G w0 s fb pg aX aT sd dD cur nms hN hD K r (i + 1) (by omega) a' w' (hP.named hD hi g1 g4 hk hn) CB bI

theorem LQ (l : List UInt8) (b o n c : Nat) (hl : n = l.length) (hnc : n ≤ c) (big : Bool) (abi aC aQ aF ay ak aj au ah : Nat) (dat : Int) (b7 : ah < 200) (X : List UInt8) (sc : Nat → gV) (bd : ∀ i, i < ah → rO (sc i)) (nb : Nat → List UInt8) (Y : List UInt8) (tm : Nat) (hY : tm = Y.length) (uZ : tm ≤ maxLen) (hstr : ∀ i, i < ah → mg Y (sc i).name = some (nb i)) (G : List Nat) (w0 : World) (s fb pg aX aT sd dD : Nat) (cur nms : Array Value) (hN : kC sc ah nms) (hD : mG ah cur) {Q : Exit → Act → World → Prop} (a : Act) (w : World) (hP : iw b o n c w0.heap.size w sc (fun _ => ⟨#[]⟩) ah cur) (HF : Fr 1287 a [(0, .iface 178 (.slice (some ⟨b, o, none⟩) n c)), (4, aG s), (8, aG fb), (9, (aP big)), (10, aB ak), (11, .int .i64 56), (12, aB aj), (13, aB au), (14, .int .i64 64), (15, aB ah), (16, aB (ah - 1)), (26, .int .i64 64), (41, aH aT ah ah), (42, aH sd (ah * 64) (ah * 64)), (53, aH dD tm tm)]) (HM : Mm G w0 w [(dD, .cells (Y.map Bv).toArray 5 (0, 0)), (sd, .cells (X.map Bv).toArray 5 (0, 0)), (aT, .cells nms 36 (0, 0)), (aX, .cells cur 133 (0, 0)), (fb, .cells #[.int .u8 2, .int .u8 dat, .int .u8 1, aV abi, aV aC, (aP big), aZ aQ, aZ aF, aJ ay, aH aX ah ah, aH pg aj aj, .slice none 0 0, .slice none 0 0, .slice none 0 0] 131 (0, 0)), (s, .cells #[.iface 178 (.slice (some ⟨b, o, none⟩) n c), .int .i64 0, .int .i64 0, .int .i64 9223372036854775807, .int .i64 9223372036854775807] 246 (0, 0))])
  (K : ∀ a w, iw b o n c w0.heap.size w sc (fun j => if j < ah then ⟨(nb j).toArray⟩ else ⟨#[]⟩) ah cur → Fr 1287 a [(0, .iface 178 (.slice (some ⟨b, o, none⟩) n c)), (4, aG s), (8, aG fb), (9, (aP big)), (10, aB ak), (11, .int .i64 56), (12, aB aj), (13, aB au), (14, .int .i64 64), (15, aB ah), (16, aB (ah - 1)), (26, .int .i64 64), (41, aH aT ah ah), (42, aH sd (ah * 64) (ah * 64)), (53, aH dD tm tm)] → Mm G w0 w [(dD, .cells (Y.map Bv).toArray 5 (0, 0)), (sd, .cells (X.map Bv).toArray 5 (0, 0)), (aT, .cells nms 36 (0, 0)), (aX, .cells cur 133 (0, 0)), (fb, .cells #[.int .u8 2, .int .u8 dat, .int .u8 1, aV abi, aV aC, (aP big), aZ aQ, aZ aF, aJ ay, aH aX ah ah, aH pg aj aj, .slice none 0 0, .slice none 0 0, .slice none 0 0] 131 (0, 0)), (s, .cells #[.iface 178 (.slice (some ⟨b, o, none⟩) n c), .int .i64 0, .int .i64 0, .int .i64 9223372036854775807, .int .i64 9223372036854775807] 246 (0, 0))] → (spine Tryd.f78 52).wp Tryd.prog Q a w) : (spine Tryd.f78 51).wp Tryd.prog Q a w := by
 refine wp_seq (wp_seq (wp_region_lit ?_))
 refine wp_pure HF HM rfl 6 [[1], []] [(0, .iface 178 (.slice (some ⟨b, o, none⟩) n c)), (4, aG s), (8, aG fb), (9, (aP big)), (10, aB ak), (11, .int .i64 56), (12, aB aj), (13, aB au), (14, .int .i64 64), (15, aB ah), (16, aB (ah - 1)), (26, .int .i64 64), (41, aH aT ah ah), (42, aH sd (ah * 64) (ah * 64)), (53, aH dD tm tm), (1249, aH aX ah ah), (1250, aB ah), (1251, aB 0)] (by kernel_rfl) ?_
 clear HF; intro a HF
 refine aI ?_
 refine wp_block (wp_loop_rounds (ah + 1) ?_)
 exact Jm l b o n c hl hnc big abi aC aQ aF ay ak aj au ah dat b7 X sc bd nb Y tm hY uZ hstr G w0 s fb pg aX aT sd dD cur nms hN hD K ah 0 (by omega) a w (by simpa only [Nat.not_lt_zero, ↓reduceIte] using hP) HF HM

theorem J9 {Q : Exit → Act → World → Prop} (fb : Nat) (a : Act) (w : World) (HF : Fr 1287 a [(8, aG fb)]) (K : ∀ {a}, Fr 1287 a [(2, aG fb), (3, .nilIface)] → Q .ret a w) : (spine Tryd.f78 52).wp Tryd.prog Q a w := by
 have HM : Mm [] w w [] := Mm.start w
 refine wp_seq (wp_region_lit ?_)
 refine wp_pure HF HM rfl 3 [] [(2, aG fb), (3, .nilIface)] (by kernel_rfl) ?_
 clear HF; intro a HF
 refine aI ?_
 exact wp_ret (K HF)

end Go.Proofs.YtdgehpocmfjbiaaDoor
namespace Go.Proofs.YtdgehpocmfjbiaaDoor
open Go.RowKit

/-- a file that has been read, in memory -/
structure o_ (b o n c : Nat) (z : Nat) (w : World) (wide big : Bool) (abi aC aQ aF ay aj ah : Nat) (sg : Nat → jQ) (sc : Nat → gV) (nb : Nat → List UInt8) (fb pg aX : Nat) (cur jo : Array Value) : Prop where
 zf : z ≤ fb
 zp : z ≤ pg
 zs : z ≤ aX
 file : w.heap[fb]? = some (.cells #[.int .u8 (if wide then 2 else 1 : Int), .int .u8 (if big then 2 else 1 : Int), .int .u8 1, aV abi, aV aC, (aP big), aZ aQ, aZ aF, aJ ay, aH aX ah ah, aH pg aj aj, .slice none 0 0, .slice none 0 0, .slice none 0 0] 131 (0, 0))
 NC : w.heap[pg]? = some (.cells cur 136 (0, 0))
 size : cur.size = aj
 prog : lq b o n c z w sg aj cur
 secs : w.heap[aX]? = some (.cells jo 133 (0, 0))
 ssize : jo.size = ah
 sec : iw b o n c z w sc (fun j => ⟨(nb j).toArray⟩) ah jo
 ne : mG ah jo
/-- what NewFile asks of the bytes -/
structure lJ (l : List UInt8) (n : Nat) (wide big : Bool) (abi aC aQ aF ay ak aj au ah : Nat) (sg : Nat → jQ) (sc : Nat → gV) (nb : Nat → List UInt8) : Prop where
 head : yU l wide big abi aC aQ aF ay ak aj au ah
 a1 : abi < 256
 a2 : aC < 256
 b1 : aQ < 65536
 b2 : aF < 65536
 b3 : ay ≤ 18446744073709551615
 b4 : ak < 4611686018427387904
 b5 : au < 4611686018427387904
 b6 : aj < 200
 b7 : ah < 200
 c1 : 0 < au
 c3 : 1 < ah
 p1 : ak < n
 p2 : ak + aj * (if wide then 56 else 32) ≤ n
 s1 : au < n
 s2 : au + ah * (if wide then 64 else 40) ≤ n
 nn : n ≤ 4611686018427387904
 seg : ∀ i, i < aj → uG (((l.drop ak).take (aj * (if wide then 56 else 32))).drop (i * (if wide then 56 else 32))) wide big (sg i).ty (sg i).flags (sg i).bJ (sg i).bK (sg i).bP (sg i).align (sg i).bG (sg i).off
 v1 : ∀ i, i < aj → (sg i).ty < 4294967296
 v2 : ∀ i, i < aj → (sg i).off + (sg i).bG < 4611686018427387904
 v3 : ∀ i, i < aj → (sg i).bJ ≤ 18446744073709551615
 v4 : ∀ i, i < aj → (sg i).bK ≤ 18446744073709551615
 v5 : ∀ i, i < aj → (sg i).bP ≤ 18446744073709551615
 v6 : ∀ i, i < aj → (sg i).align ≤ 18446744073709551615
 sec : ∀ i, i < ah → uH (((l.drop au).take (ah * (if wide then 64 else 40))).drop (i * (if wide then 64 else 40))) wide big (sc i).name (sc i).ty (sc i).flags (sc i).addr (sc i).off (sc i).bG (sc i).link (sc i).info (sc i).align (sc i).ent
 bd : ∀ i, i < ah → rO (sc i)
 str : (sc (ah - 1)).ty = 3
 f1 : 0 < (sc (ah - 1)).bG
 f2 : (sc (ah - 1)).bG < 10485760
 f3 : (sc (ah - 1)).off + (sc (ah - 1)).bG ≤ n
 name : ∀ i, i < ah → mg ((l.drop (sc (ah - 1)).off).take (sc (ah - 1)).bG) (sc i).name = some (nb i)
theorem qN {l : List UInt8} {wide big : Bool} {abi aC : Nat} (h : ∃ r, l = rU wide big abi aC ++ r) (h1 : abi < 256) (h2 : aC < 256) : (((l.drop 0).take 16).map Bv).toArray = #[.int .u8 127, .int .u8 69, .int .u8 76, .int .u8 70, .int .u8 (if wide then 2 else 1 : Int), .int .u8 (if big then 2 else 1 : Int), .int .u8 1, .int .u8 (abi : Nat), .int .u8 (aC : Nat), .int .u8 0, .int .u8 0, .int .u8 0, .int .u8 0, .int .u8 0, .int .u8 0, .int .u8 0] := by
 obtain ⟨r, rfl⟩ := h
 have e1 : (UInt8.ofNat abi).toNat = abi := by simp; omega
 have e2 : (UInt8.ofNat aC).toNat = aC := by simp; omega
 cases wide <;> cases big <;> simp [rU, Bv, e1, e2, List.take]

theorem Kq (l : List UInt8) (b o n c : Nat) (hl : n = l.length) (hnc : n ≤ c) (abi aC aQ aF ay ak aj au ah : Nat) (sg : Nat → jQ) (sc : Nat → gV) (nb : Nat → List UInt8) (H : lJ l n false false abi aC aQ aF ay ak aj au ah sg sc nb) (w0 : World) (hbl : b < w0.heap.size) (hr : Row w0 (some ⟨b, o, none⟩) (l.map Bv)) :
  Calls Tryd.prog 78 #[.iface 178 (.slice (some ⟨b, o, none⟩) n c)] w0 fun e w' => ∃ fb pg aX cur jo, e = .returned (.tuple #[aG fb, .nilIface]) ∧ Below w0.heap.size w0 w' ∧ o_ b o n c w0.heap.size w' false false abi aC aQ aF ay aj ah sg sc nb fb pg aX cur jo := by
 have hlen : 52 ≤ n := hl ▸ H.head.len
 have hp2 : ak + aj * 32 ≤ n := H.p2
 have hs2 : au + ah * 40 ≤ n := H.s2
 refine bV (c := spine Tryd.f78 0) Tryd.func78 rfl Tryd.ntmps78 [(0, .iface 178 (.slice (some ⟨b, o, none⟩) n c))] (by kernel_rfl) (Nat.le_of_ble_eq_true rfl) ?_
 intro a HF
 refine JA l b o n c hl hnc (by omega) abi aC (qN H.head.id H.a1 H.a2) w0 hbl hr a w0 HF (Mm.start w0) ?_
 clear HF
 intro a w s fb HF HM
 refine Et l b o n c hl hnc hlen false abi aC aQ aF ay ak aj au ah 1 H.head H.b1 H.b2 H.b3 H.b4 H.b5 H.b6 H.b7 w0 hbl hr a w s fb HF HM ?_
 clear HF HM
 intro a w HF HM
 have hD : ∀ (a : Act) (w : World) (pg : Nat) (cur : Array Value) (pd : Nat), cur.size = aj → Fr 1287 a [(0, .iface 178 (.slice (some ⟨b, o, none⟩) n c)), (4, aG s), (8, aG fb), (9, (aP false)), (10, aB ak), (11, aA 32), (12, aB aj), (13, aB au), (14, aA 40), (15, aB ah), (16, aB (ah - 1)), (26, aA 40), (36, aH pd (aj * 32) (aj * 32))] → Mm [] w0 w [(pd, .cells (((l.drop ak).take (aj * 32)).map Bv).toArray 5 (0, 0)), (pg, .cells cur 136 (0, 0)), (fb, .cells #[aN 1, aN 1, aN 1, aV abi, aV aC, (aP false), aZ aQ, aZ aF, aJ ay, aK, aH pg 0 aj, aK, aK, aK] 131 (0, 0)), (s, .cells #[.iface 178 (.slice (some ⟨b, o, none⟩) n c), aA 0, aA 0, aA 9223372036854775807, aA 9223372036854775807] 246 (0, 0))] → (spine Tryd.f78 35).wp Tryd.prog (bodyPost Tryd.prog Tryd.f78 fun e w' => ∃ fb pg aX cur jo, e = .returned (.tuple #[aG fb, .nilIface]) ∧ Below w0.heap.size w0 w' ∧ o_ b o n c w0.heap.size w' false false abi aC aQ aF ay aj ah sg sc nb fb pg aX cur jo) a w := by
  clear HF HM a w
  intro a w pg cur pd hcs HF HM
  refine Ee l b o n c hl hnc false abi aC aQ aF ay ak aj au ah 1 H.b1 H.b2 H.b3 H.b4 H.b5 H.b6 H.b7 _ (by simp; omega) sg H.seg H.v1 H.v2 H.v3 H.v4 H.v5 H.v6 w0 s fb pg pd a w cur hcs HF HM ?_
  clear HF HM hcs cur a w
  intro a w cur hcs hP HF HM
  have hbs : b ≠ s := fun e => absurd hbl (Nat.not_lt_of_le (e ▸ HM.ge (i := 3) rfl))
  have hbf : b ≠ fb := fun e => absurd hbl (Nat.not_lt_of_le (e ▸ HM.ge (i := 2) rfl))
  have uI : Mm [s, fb] w w [(fb, .cells #[aN 1, aN 1, aN 1, aV abi, aV aC, (aP false), aZ aQ, aZ aF, aJ ay, aK, aH pg aj aj, aK, aK, aK] 131 (0, 0)), (s, .cells #[.iface 178 (.slice (some ⟨b, o, none⟩) n c), aA 0, aA 0, aA 9223372036854775807, aA 9223372036854775807] 246 (0, 0))] :=
   ⟨Keep.refl _ _, fun p hp => by
    simp only [List.mem_cons, List.not_mem_nil, or_false] at hp
    rcases hp with rfl | rfl
    ·exact ⟨HM.get (i := 2) rfl, .inr (by simp)⟩
    ·exact ⟨HM.get (i := 3) rfl, .inr (by simp)⟩, by
    have := HM.ne (i := 2) (j := 3) rfl rfl (by decide)
    simp [this]⟩
  have hr2 := HM.row hr
  have xq : b < w.heap.size := Nat.lt_of_lt_of_le hbl HM.size
  have qP : b ∉ [s, fb] := by simp [hbs, hbf]
  refine LY l b o n c hl hnc false abi aC aQ aF ay ak aj au ah 1 H.b1 H.b2 H.b3 H.b4 H.b5 H.b6 H.b7 H.c1 (by have := H.c3; omega) H.s1 hs2 w xq hr2 [s, fb] qP a w s fb pg hbs (HF.sub _ (by kernel_rfl)) uI ?_
  clear HF uI a
  intro a w2 aX je aT jU sd hs1 hs3 HF bI
  refine LD l b o n c hl hnc false abi aC aQ aF ay ak aj au ah 1 H.b1 H.b2 H.b3 H.b4 H.b5 H.b6 H.b7 _ (by simp; omega) sc H.sec H.bd [s, fb] w s fb pg aX aT sd a w2 je jU hs1 hs3 HF bI ?_
  clear HF bI hs1 hs3 a w2 je jU
  intro a w2 jo nms hs1 hs3 hS hN hD HF bI
  refine LW l b o n c hl hnc false abi aC aQ aF ay ak aj au ah 1 H.b1 H.b2 H.b3 H.b4 H.b5 H.b6 H.b7 _ sc H.c3 H.str (H.bd _ (by have := H.c3; omega)).v9 H.f1 H.f2 H.f3 H.nn [s, fb] w xq hr2 qP s fb pg aX aT sd a w2 jo nms hS HF bI ?_
  clear HF bI hS a w2
  intro a w2 dD hS HF bI
  have hf2 := H.f2
  have hf3 := H.f3
  refine LU l b o n c hl hnc false abi aC aQ aF ay ak aj au ah 1 H.b7 _ sc H.bd nb ((l.drop (sc (ah - 1)).off).take (sc (ah - 1)).bG) (sc (ah - 1)).bG (by simp; omega) (by unfold maxLen; omega) H.name [s, fb] w s fb pg aX aT sd dD jo nms hN hD a w2 hS HF bI ?_
  clear HF bI hS a w2
  intro a w2 hS HF bI
  refine J9 fb a w2 (HF.sub _ (by kernel_rfl)) ?_
  intro a HF
  have hk := bI.keep
  have hk2 : Keep [fb] w w2 := hk.less ((bI.get (i := 5) rfl).trans (HM.get (i := 3) rfl).symm)
  have hkw : Keep [] w0 w2 := HM.keep.step hk2 (by intro g hg; simp only [List.mem_cons, List.not_mem_nil, or_false] at hg; subst hg; exact HM.own (i := 2) rfl)
  have hz := HM.size
  refine h_ HF rfl rfl rfl ⟨fb, pg, aX, cur, jo, rfl, hkw.below, ⟨HM.ge (i := 2) rfl, HM.ge (i := 1) rfl, ?_, bI.get (i := 4) rfl, ?_, hcs, hP.keep hk2 ?_, bI.get (i := 3) rfl, hs1, ?_, hD⟩⟩
  ·refine Nat.le_trans hz ((bI.own (i := 3) rfl).elim id fun hm => ?_)
   simp only [List.mem_cons, List.not_mem_nil, or_false] at hm
   rcases hm with e | e
   ·exact absurd e (bI.ne (i := 3) (j := 5) rfl rfl (by decide))
   ·exact absurd e (bI.ne (i := 3) (j := 4) rfl rfl (by decide))
  ·exact (hk2.block pg (HM.lt (i := 1) rfl) (by simpa using HM.ne (i := 1) (j := 2) rfl rfl (by decide))).trans (HM.get (i := 1) rfl)
  ·intro g hg
   simp only [List.mem_cons, List.not_mem_nil, or_false] at hg
   subst hg
   exact ⟨_, _, _, HM.get (i := 2) rfl, by decide, by decide⟩
  ·intro j hj
   obtain ⟨pb, sb, g1, g2, g3, g4, g5⟩ := hS j hj
   simp only [hj, ↓reduceIte] at g4
   exact ⟨pb, sb, g1, by omega, by omega, g4, g5⟩
 rcases Nat.eq_zero_or_pos aj with h0 | h0
 ·subst h0
  refine CZ l b o n c hl hnc false abi aC aQ aF ay ak 0 au ah 1 H.b1 H.b2 H.b3 H.b4 H.b5 H.b6 H.b7 H.c1 (by have := H.c3; omega) w0 a w s fb HF HM ?_
  clear HF HM a w
  intro a w HF HM
  exact CV l b o n c hl hnc false abi aC aQ aF ay ak 0 au ah 1 H.b1 H.b2 H.b3 H.b4 H.b5 H.b6 H.b7 H.c1 (by have := H.c3; omega) H.p1 hp2 w0 hbl hr a w s fb HF HM hD
 ·refine CY l b o n c hl hnc false abi aC aQ aF ay ak aj au ah 1 H.b1 H.b2 H.b3 H.b4 H.b5 H.b6 H.b7 H.c1 (by have := H.c3; omega) h0 w0 a w s fb HF HM ?_
  clear HF HM a w
  intro a w HF HM
  exact CU l b o n c hl hnc false abi aC aQ aF ay ak aj au ah 1 H.b1 H.b2 H.b3 H.b4 H.b5 H.b6 H.b7 H.c1 (by have := H.c3; omega) h0 H.p1 hp2 w0 hbl hr a w s fb HF HM hD

theorem Kr (l : List UInt8) (b o n c : Nat) (hl : n = l.length) (hnc : n ≤ c) (abi aC aQ aF ay ak aj au ah : Nat) (sg : Nat → jQ) (sc : Nat → gV) (nb : Nat → List UInt8) (H : lJ l n false true abi aC aQ aF ay ak aj au ah sg sc nb) (w0 : World) (hbl : b < w0.heap.size) (hr : Row w0 (some ⟨b, o, none⟩) (l.map Bv)) :
  Calls Tryd.prog 78 #[.iface 178 (.slice (some ⟨b, o, none⟩) n c)] w0 fun e w' => ∃ fb pg aX cur jo, e = .returned (.tuple #[aG fb, .nilIface]) ∧ Below w0.heap.size w0 w' ∧ o_ b o n c w0.heap.size w' false true abi aC aQ aF ay aj ah sg sc nb fb pg aX cur jo := by
 have hlen : 52 ≤ n := hl ▸ H.head.len
 have hp2 : ak + aj * 32 ≤ n := H.p2
 have hs2 : au + ah * 40 ≤ n := H.s2
 refine bV (c := spine Tryd.f78 0) Tryd.func78 rfl Tryd.ntmps78 [(0, .iface 178 (.slice (some ⟨b, o, none⟩) n c))] (by kernel_rfl) (Nat.le_of_ble_eq_true rfl) ?_
 intro a HF
 refine JB l b o n c hl hnc (by omega) abi aC (qN H.head.id H.a1 H.a2) w0 hbl hr a w0 HF (Mm.start w0) ?_
 clear HF
 intro a w s fb HF HM
 refine Et l b o n c hl hnc hlen true abi aC aQ aF ay ak aj au ah 2 H.head H.b1 H.b2 H.b3 H.b4 H.b5 H.b6 H.b7 w0 hbl hr a w s fb HF HM ?_
 clear HF HM
 intro a w HF HM
 have hD : ∀ (a : Act) (w : World) (pg : Nat) (cur : Array Value) (pd : Nat), cur.size = aj → Fr 1287 a [(0, .iface 178 (.slice (some ⟨b, o, none⟩) n c)), (4, aG s), (8, aG fb), (9, (aP true)), (10, aB ak), (11, aA 32), (12, aB aj), (13, aB au), (14, aA 40), (15, aB ah), (16, aB (ah - 1)), (26, aA 40), (36, aH pd (aj * 32) (aj * 32))] → Mm [] w0 w [(pd, .cells (((l.drop ak).take (aj * 32)).map Bv).toArray 5 (0, 0)), (pg, .cells cur 136 (0, 0)), (fb, .cells #[aN 1, aN 2, aN 1, aV abi, aV aC, (aP true), aZ aQ, aZ aF, aJ ay, aK, aH pg 0 aj, aK, aK, aK] 131 (0, 0)), (s, .cells #[.iface 178 (.slice (some ⟨b, o, none⟩) n c), aA 0, aA 0, aA 9223372036854775807, aA 9223372036854775807] 246 (0, 0))] → (spine Tryd.f78 35).wp Tryd.prog (bodyPost Tryd.prog Tryd.f78 fun e w' => ∃ fb pg aX cur jo, e = .returned (.tuple #[aG fb, .nilIface]) ∧ Below w0.heap.size w0 w' ∧ o_ b o n c w0.heap.size w' false true abi aC aQ aF ay aj ah sg sc nb fb pg aX cur jo) a w := by
  clear HF HM a w
  intro a w pg cur pd hcs HF HM
  refine Ee l b o n c hl hnc true abi aC aQ aF ay ak aj au ah 2 H.b1 H.b2 H.b3 H.b4 H.b5 H.b6 H.b7 _ (by simp; omega) sg H.seg H.v1 H.v2 H.v3 H.v4 H.v5 H.v6 w0 s fb pg pd a w cur hcs HF HM ?_
  clear HF HM hcs cur a w
  intro a w cur hcs hP HF HM
  have hbs : b ≠ s := fun e => absurd hbl (Nat.not_lt_of_le (e ▸ HM.ge (i := 3) rfl))
  have hbf : b ≠ fb := fun e => absurd hbl (Nat.not_lt_of_le (e ▸ HM.ge (i := 2) rfl))
  have uI : Mm [s, fb] w w [(fb, .cells #[aN 1, aN 2, aN 1, aV abi, aV aC, (aP true), aZ aQ, aZ aF, aJ ay, aK, aH pg aj aj, aK, aK, aK] 131 (0, 0)), (s, .cells #[.iface 178 (.slice (some ⟨b, o, none⟩) n c), aA 0, aA 0, aA 9223372036854775807, aA 9223372036854775807] 246 (0, 0))] :=
   ⟨Keep.refl _ _, fun p hp => by
    simp only [List.mem_cons, List.not_mem_nil, or_false] at hp
    rcases hp with rfl | rfl
    ·exact ⟨HM.get (i := 2) rfl, .inr (by simp)⟩
    ·exact ⟨HM.get (i := 3) rfl, .inr (by simp)⟩, by
    have := HM.ne (i := 2) (j := 3) rfl rfl (by decide)
    simp [this]⟩
  have hr2 := HM.row hr
  have xq : b < w.heap.size := Nat.lt_of_lt_of_le hbl HM.size
  have qP : b ∉ [s, fb] := by simp [hbs, hbf]
  refine LY l b o n c hl hnc true abi aC aQ aF ay ak aj au ah 2 H.b1 H.b2 H.b3 H.b4 H.b5 H.b6 H.b7 H.c1 (by have := H.c3; omega) H.s1 hs2 w xq hr2 [s, fb] qP a w s fb pg hbs (HF.sub _ (by kernel_rfl)) uI ?_
  clear HF uI a
  intro a w2 aX je aT jU sd hs1 hs3 HF bI
  refine LD l b o n c hl hnc true abi aC aQ aF ay ak aj au ah 2 H.b1 H.b2 H.b3 H.b4 H.b5 H.b6 H.b7 _ (by simp; omega) sc H.sec H.bd [s, fb] w s fb pg aX aT sd a w2 je jU hs1 hs3 HF bI ?_
  clear HF bI hs1 hs3 a w2 je jU
  intro a w2 jo nms hs1 hs3 hS hN hD HF bI
  refine LW l b o n c hl hnc true abi aC aQ aF ay ak aj au ah 2 H.b1 H.b2 H.b3 H.b4 H.b5 H.b6 H.b7 _ sc H.c3 H.str (H.bd _ (by have := H.c3; omega)).v9 H.f1 H.f2 H.f3 H.nn [s, fb] w xq hr2 qP s fb pg aX aT sd a w2 jo nms hS HF bI ?_
  clear HF bI hS a w2
  intro a w2 dD hS HF bI
  have hf2 := H.f2
  have hf3 := H.f3
  refine LU l b o n c hl hnc true abi aC aQ aF ay ak aj au ah 2 H.b7 _ sc H.bd nb ((l.drop (sc (ah - 1)).off).take (sc (ah - 1)).bG) (sc (ah - 1)).bG (by simp; omega) (by unfold maxLen; omega) H.name [s, fb] w s fb pg aX aT sd dD jo nms hN hD a w2 hS HF bI ?_
  clear HF bI hS a w2
  intro a w2 hS HF bI
  refine J9 fb a w2 (HF.sub _ (by kernel_rfl)) ?_
  intro a HF
  have hk := bI.keep
  have hk2 : Keep [fb] w w2 := hk.less ((bI.get (i := 5) rfl).trans (HM.get (i := 3) rfl).symm)
  have hkw : Keep [] w0 w2 := HM.keep.step hk2 (by intro g hg; simp only [List.mem_cons, List.not_mem_nil, or_false] at hg; subst hg; exact HM.own (i := 2) rfl)
  have hz := HM.size
  refine h_ HF rfl rfl rfl ⟨fb, pg, aX, cur, jo, rfl, hkw.below, ⟨HM.ge (i := 2) rfl, HM.ge (i := 1) rfl, ?_, bI.get (i := 4) rfl, ?_, hcs, hP.keep hk2 ?_, bI.get (i := 3) rfl, hs1, ?_, hD⟩⟩
  ·refine Nat.le_trans hz ((bI.own (i := 3) rfl).elim id fun hm => ?_)
   simp only [List.mem_cons, List.not_mem_nil, or_false] at hm
   rcases hm with e | e
   ·exact absurd e (bI.ne (i := 3) (j := 5) rfl rfl (by decide))
   ·exact absurd e (bI.ne (i := 3) (j := 4) rfl rfl (by decide))
  ·exact (hk2.block pg (HM.lt (i := 1) rfl) (by simpa using HM.ne (i := 1) (j := 2) rfl rfl (by decide))).trans (HM.get (i := 1) rfl)
  ·intro g hg
   simp only [List.mem_cons, List.not_mem_nil, or_false] at hg
   subst hg
   exact ⟨_, _, _, HM.get (i := 2) rfl, by decide, by decide⟩
  ·intro j hj
   obtain ⟨pb, sb, g1, g2, g3, g4, g5⟩ := hS j hj
   simp only [hj, ↓reduceIte] at g4
   exact ⟨pb, sb, g1, by omega, by omega, g4, g5⟩
 rcases Nat.eq_zero_or_pos aj with h0 | h0
 ·subst h0
  refine CZ l b o n c hl hnc true abi aC aQ aF ay ak 0 au ah 2 H.b1 H.b2 H.b3 H.b4 H.b5 H.b6 H.b7 H.c1 (by have := H.c3; omega) w0 a w s fb HF HM ?_
  clear HF HM a w
  intro a w HF HM
  exact CV l b o n c hl hnc true abi aC aQ aF ay ak 0 au ah 2 H.b1 H.b2 H.b3 H.b4 H.b5 H.b6 H.b7 H.c1 (by have := H.c3; omega) H.p1 hp2 w0 hbl hr a w s fb HF HM hD
 ·refine CY l b o n c hl hnc true abi aC aQ aF ay ak aj au ah 2 H.b1 H.b2 H.b3 H.b4 H.b5 H.b6 H.b7 H.c1 (by have := H.c3; omega) h0 w0 a w s fb HF HM ?_
  clear HF HM a w
  intro a w HF HM
  exact CU l b o n c hl hnc true abi aC aQ aF ay ak aj au ah 2 H.b1 H.b2 H.b3 H.b4 H.b5 H.b6 H.b7 H.c1 (by have := H.c3; omega) h0 H.p1 hp2 w0 hbl hr a w s fb HF HM hD

theorem J_ (l : List UInt8) (b o n c : Nat) (hl : n = l.length) (hnc : n ≤ c) (abi aC aQ aF ay ak aj au ah : Nat) (sg : Nat → jQ) (sc : Nat → gV) (nb : Nat → List UInt8) (H : lJ l n true false abi aC aQ aF ay ak aj au ah sg sc nb) (w0 : World) (hbl : b < w0.heap.size) (hr : Row w0 (some ⟨b, o, none⟩) (l.map Bv)) :
  Calls Tryd.prog 78 #[.iface 178 (.slice (some ⟨b, o, none⟩) n c)] w0 fun e w' => ∃ fb pg aX cur jo, e = .returned (.tuple #[aG fb, .nilIface]) ∧ Below w0.heap.size w0 w' ∧ o_ b o n c w0.heap.size w' true false abi aC aQ aF ay aj ah sg sc nb fb pg aX cur jo := by
 have hlen : 64 ≤ n := hl ▸ H.head.len
 have hp2 : ak + aj * 56 ≤ n := H.p2
 have hs2 : au + ah * 64 ≤ n := H.s2
 refine bV (c := spine Tryd.f78 0) Tryd.func78 rfl Tryd.ntmps78 [(0, .iface 178 (.slice (some ⟨b, o, none⟩) n c))] (by kernel_rfl) (Nat.le_of_ble_eq_true rfl) ?_
 intro a HF
 refine Jy l b o n c hl hnc (by omega) abi aC (qN H.head.id H.a1 H.a2) w0 hbl hr a w0 HF (Mm.start w0) ?_
 clear HF
 intro a w s fb HF HM
 refine Es l b o n c hl hnc hlen false abi aC aQ aF ay ak aj au ah 1 H.head H.b1 H.b2 H.b3 H.b4 H.b5 H.b6 H.b7 w0 hbl hr a w s fb HF HM ?_
 clear HF HM
 intro a w HF HM
 have hD : ∀ (a : Act) (w : World) (pg : Nat) (cur : Array Value) (pd : Nat), cur.size = aj → Fr 1287 a [(0, .iface 178 (.slice (some ⟨b, o, none⟩) n c)), (4, aG s), (8, aG fb), (9, (aP false)), (10, aB ak), (11, aA 56), (12, aB aj), (13, aB au), (14, aA 64), (15, aB ah), (16, aB (ah - 1)), (26, aA 64), (36, aH pd (aj * 56) (aj * 56))] → Mm [] w0 w [(pd, .cells (((l.drop ak).take (aj * 56)).map Bv).toArray 5 (0, 0)), (pg, .cells cur 136 (0, 0)), (fb, .cells #[aN 2, aN 1, aN 1, aV abi, aV aC, (aP false), aZ aQ, aZ aF, aJ ay, aK, aH pg 0 aj, aK, aK, aK] 131 (0, 0)), (s, .cells #[.iface 178 (.slice (some ⟨b, o, none⟩) n c), aA 0, aA 0, aA 9223372036854775807, aA 9223372036854775807] 246 (0, 0))] → (spine Tryd.f78 35).wp Tryd.prog (bodyPost Tryd.prog Tryd.f78 fun e w' => ∃ fb pg aX cur jo, e = .returned (.tuple #[aG fb, .nilIface]) ∧ Below w0.heap.size w0 w' ∧ o_ b o n c w0.heap.size w' true false abi aC aQ aF ay aj ah sg sc nb fb pg aX cur jo) a w := by
  clear HF HM a w
  intro a w pg cur pd hcs HF HM
  refine Ed l b o n c hl hnc false abi aC aQ aF ay ak aj au ah 1 H.b1 H.b2 H.b3 H.b4 H.b5 H.b6 H.b7 _ (by simp; omega) sg H.seg H.v1 H.v2 H.v3 H.v4 H.v5 H.v6 w0 s fb pg pd a w cur hcs HF HM ?_
  clear HF HM hcs cur a w
  intro a w cur hcs hP HF HM
  have hbs : b ≠ s := fun e => absurd hbl (Nat.not_lt_of_le (e ▸ HM.ge (i := 3) rfl))
  have hbf : b ≠ fb := fun e => absurd hbl (Nat.not_lt_of_le (e ▸ HM.ge (i := 2) rfl))
  have uI : Mm [s, fb] w w [(fb, .cells #[aN 2, aN 1, aN 1, aV abi, aV aC, (aP false), aZ aQ, aZ aF, aJ ay, aK, aH pg aj aj, aK, aK, aK] 131 (0, 0)), (s, .cells #[.iface 178 (.slice (some ⟨b, o, none⟩) n c), aA 0, aA 0, aA 9223372036854775807, aA 9223372036854775807] 246 (0, 0))] :=
   ⟨Keep.refl _ _, fun p hp => by
    simp only [List.mem_cons, List.not_mem_nil, or_false] at hp
    rcases hp with rfl | rfl
    ·exact ⟨HM.get (i := 2) rfl, .inr (by simp)⟩
    ·exact ⟨HM.get (i := 3) rfl, .inr (by simp)⟩, by
    have := HM.ne (i := 2) (j := 3) rfl rfl (by decide)
    simp [this]⟩
  have hr2 := HM.row hr
  have xq : b < w.heap.size := Nat.lt_of_lt_of_le hbl HM.size
  have qP : b ∉ [s, fb] := by simp [hbs, hbf]
  refine LX l b o n c hl hnc false abi aC aQ aF ay ak aj au ah 1 H.b1 H.b2 H.b3 H.b4 H.b5 H.b6 H.b7 H.c1 (by have := H.c3; omega) H.s1 hs2 w xq hr2 [s, fb] qP a w s fb pg hbs (HF.sub _ (by kernel_rfl)) uI ?_
  clear HF uI a
  intro a w2 aX je aT jU sd hs1 hs3 HF bI
  refine LC l b o n c hl hnc false abi aC aQ aF ay ak aj au ah 1 H.b1 H.b2 H.b3 H.b4 H.b5 H.b6 H.b7 _ (by simp; omega) sc H.sec H.bd [s, fb] w s fb pg aX aT sd a w2 je jU hs1 hs3 HF bI ?_
  clear HF bI hs1 hs3 a w2 je jU
  intro a w2 jo nms hs1 hs3 hS hN hD HF bI
  refine LV l b o n c hl hnc false abi aC aQ aF ay ak aj au ah 1 H.b1 H.b2 H.b3 H.b4 H.b5 H.b6 H.b7 _ sc H.c3 H.str (H.bd _ (by have := H.c3; omega)).v9 H.f1 H.f2 H.f3 H.nn [s, fb] w xq hr2 qP s fb pg aX aT sd a w2 jo nms hS HF bI ?_
  clear HF bI hS a w2
  intro a w2 dD hS HF bI
  have hf2 := H.f2
  have hf3 := H.f3
  refine LQ l b o n c hl hnc false abi aC aQ aF ay ak aj au ah 1 H.b7 _ sc H.bd nb ((l.drop (sc (ah - 1)).off).take (sc (ah - 1)).bG) (sc (ah - 1)).bG (by simp; omega) (by unfold maxLen; omega) H.name [s, fb] w s fb pg aX aT sd dD jo nms hN hD a w2 hS HF bI ?_
  clear HF bI hS a w2
  intro a w2 hS HF bI
  refine J9 fb a w2 (HF.sub _ (by kernel_rfl)) ?_
  intro a HF
  have hk := bI.keep
  have hk2 : Keep [fb] w w2 := hk.less ((bI.get (i := 5) rfl).trans (HM.get (i := 3) rfl).symm)
  have hkw : Keep [] w0 w2 := HM.keep.step hk2 (by intro g hg; simp only [List.mem_cons, List.not_mem_nil, or_false] at hg; subst hg; exact HM.own (i := 2) rfl)
  have hz := HM.size
  refine h_ HF rfl rfl rfl ⟨fb, pg, aX, cur, jo, rfl, hkw.below, ⟨HM.ge (i := 2) rfl, HM.ge (i := 1) rfl, ?_, bI.get (i := 4) rfl, ?_, hcs, hP.keep hk2 ?_, bI.get (i := 3) rfl, hs1, ?_, hD⟩⟩
  ·refine Nat.le_trans hz ((bI.own (i := 3) rfl).elim id fun hm => ?_)
   simp only [List.mem_cons, List.not_mem_nil, or_false] at hm
   rcases hm with e | e
   ·exact absurd e (bI.ne (i := 3) (j := 5) rfl rfl (by decide))
   ·exact absurd e (bI.ne (i := 3) (j := 4) rfl rfl (by decide))
  ·exact (hk2.block pg (HM.lt (i := 1) rfl) (by simpa using HM.ne (i := 1) (j := 2) rfl rfl (by decide))).trans (HM.get (i := 1) rfl)
  ·intro g hg
   simp only [List.mem_cons, List.not_mem_nil, or_false] at hg
   subst hg
   exact ⟨_, _, _, HM.get (i := 2) rfl, by decide, by decide⟩
  ·intro j hj
   obtain ⟨pb, sb, g1, g2, g3, g4, g5⟩ := hS j hj
   simp only [hj, ↓reduceIte] at g4
   exact ⟨pb, sb, g1, by omega, by omega, g4, g5⟩
 rcases Nat.eq_zero_or_pos aj with h0 | h0
 ·subst h0
  refine CX l b o n c hl hnc false abi aC aQ aF ay ak 0 au ah 1 H.b1 H.b2 H.b3 H.b4 H.b5 H.b6 H.b7 H.c1 (by have := H.c3; omega) w0 a w s fb HF HM ?_
  clear HF HM a w
  intro a w HF HM
  exact CS l b o n c hl hnc false abi aC aQ aF ay ak 0 au ah 1 H.b1 H.b2 H.b3 H.b4 H.b5 H.b6 H.b7 H.c1 (by have := H.c3; omega) H.p1 hp2 w0 hbl hr a w s fb HF HM hD
 ·refine CW l b o n c hl hnc false abi aC aQ aF ay ak aj au ah 1 H.b1 H.b2 H.b3 H.b4 H.b5 H.b6 H.b7 H.c1 (by have := H.c3; omega) h0 w0 a w s fb HF HM ?_
  clear HF HM a w
  intro a w HF HM
  exact CQ l b o n c hl hnc false abi aC aQ aF ay ak aj au ah 1 H.b1 H.b2 H.b3 H.b4 H.b5 H.b6 H.b7 H.c1 (by have := H.c3; omega) h0 H.p1 hp2 w0 hbl hr a w s fb HF HM hD

theorem Ko (l : List UInt8) (b o n c : Nat) (hl : n = l.length) (hnc : n ≤ c) (abi aC aQ aF ay ak aj au ah : Nat) (sg : Nat → jQ) (sc : Nat → gV) (nb : Nat → List UInt8) (H : lJ l n true true abi aC aQ aF ay ak aj au ah sg sc nb) (w0 : World) (hbl : b < w0.heap.size) (hr : Row w0 (some ⟨b, o, none⟩) (l.map Bv)) :
  Calls Tryd.prog 78 #[.iface 178 (.slice (some ⟨b, o, none⟩) n c)] w0 fun e w' => ∃ fb pg aX cur jo, e = .returned (.tuple #[aG fb, .nilIface]) ∧ Below w0.heap.size w0 w' ∧ o_ b o n c w0.heap.size w' true true abi aC aQ aF ay aj ah sg sc nb fb pg aX cur jo := by
 have hlen : 64 ≤ n := hl ▸ H.head.len
 have hp2 : ak + aj * 56 ≤ n := H.p2
 have hs2 : au + ah * 64 ≤ n := H.s2
 refine bV (c := spine Tryd.f78 0) Tryd.func78 rfl Tryd.ntmps78 [(0, .iface 178 (.slice (some ⟨b, o, none⟩) n c))] (by kernel_rfl) (Nat.le_of_ble_eq_true rfl) ?_
 intro a HF
 refine Jz l b o n c hl hnc (by omega) abi aC (qN H.head.id H.a1 H.a2) w0 hbl hr a w0 HF (Mm.start w0) ?_
 clear HF
 intro a w s fb HF HM
 refine Es l b o n c hl hnc hlen true abi aC aQ aF ay ak aj au ah 2 H.head H.b1 H.b2 H.b3 H.b4 H.b5 H.b6 H.b7 w0 hbl hr a w s fb HF HM ?_
 clear HF HM
 intro a w HF HM
 have hD : ∀ (a : Act) (w : World) (pg : Nat) (cur : Array Value) (pd : Nat), cur.size = aj → Fr 1287 a [(0, .iface 178 (.slice (some ⟨b, o, none⟩) n c)), (4, aG s), (8, aG fb), (9, (aP true)), (10, aB ak), (11, aA 56), (12, aB aj), (13, aB au), (14, aA 64), (15, aB ah), (16, aB (ah - 1)), (26, aA 64), (36, aH pd (aj * 56) (aj * 56))] → Mm [] w0 w [(pd, .cells (((l.drop ak).take (aj * 56)).map Bv).toArray 5 (0, 0)), (pg, .cells cur 136 (0, 0)), (fb, .cells #[aN 2, aN 2, aN 1, aV abi, aV aC, (aP true), aZ aQ, aZ aF, aJ ay, aK, aH pg 0 aj, aK, aK, aK] 131 (0, 0)), (s, .cells #[.iface 178 (.slice (some ⟨b, o, none⟩) n c), aA 0, aA 0, aA 9223372036854775807, aA 9223372036854775807] 246 (0, 0))] → (spine Tryd.f78 35).wp Tryd.prog (bodyPost Tryd.prog Tryd.f78 fun e w' => ∃ fb pg aX cur jo, e = .returned (.tuple #[aG fb, .nilIface]) ∧ Below w0.heap.size w0 w' ∧ o_ b o n c w0.heap.size w' true true abi aC aQ aF ay aj ah sg sc nb fb pg aX cur jo) a w := by
  clear HF HM a w
  intro a w pg cur pd hcs HF HM
  refine Ed l b o n c hl hnc true abi aC aQ aF ay ak aj au ah 2 H.b1 H.b2 H.b3 H.b4 H.b5 H.b6 H.b7 _ (by simp; omega) sg H.seg H.v1 H.v2 H.v3 H.v4 H.v5 H.v6 w0 s fb pg pd a w cur hcs HF HM ?_
  clear HF HM hcs cur a w
  intro a w cur hcs hP HF HM
  have hbs : b ≠ s := fun e => absurd hbl (Nat.not_lt_of_le (e ▸ HM.ge (i := 3) rfl))
  have hbf : b ≠ fb := fun e => absurd hbl (Nat.not_lt_of_le (e ▸ HM.ge (i := 2) rfl))
  have uI : Mm [s, fb] w w [(fb, .cells #[aN 2, aN 2, aN 1, aV abi, aV aC, (aP true), aZ aQ, aZ aF, aJ ay, aK, aH pg aj aj, aK, aK, aK] 131 (0, 0)), (s, .cells #[.iface 178 (.slice (some ⟨b, o, none⟩) n c), aA 0, aA 0, aA 9223372036854775807, aA 9223372036854775807] 246 (0, 0))] :=
   ⟨Keep.refl _ _, fun p hp => by
    simp only [List.mem_cons, List.not_mem_nil, or_false] at hp
    rcases hp with rfl | rfl
    ·exact ⟨HM.get (i := 2) rfl, .inr (by simp)⟩
    ·exact ⟨HM.get (i := 3) rfl, .inr (by simp)⟩, by
    have := HM.ne (i := 2) (j := 3) rfl rfl (by decide)
    simp [this]⟩
  have hr2 := HM.row hr
  have xq : b < w.heap.size := Nat.lt_of_lt_of_le hbl HM.size
  have qP : b ∉ [s, fb] := by simp [hbs, hbf]
  refine LX l b o n c hl hnc true abi aC aQ aF ay ak aj au ah 2 H.b1 H.b2 H.b3 H.b4 H.b5 H.b6 H.b7 H.c1 (by have := H.c3; omega) H.s1 hs2 w xq hr2 [s, fb] qP a w s fb pg hbs (HF.sub _ (by kernel_rfl)) uI ?_
  clear HF uI a
  intro a w2 aX je aT jU sd hs1 hs3 HF bI
  refine LC l b o n c hl hnc true abi aC aQ aF ay ak aj au ah 2 H.b1 H.b2 H.b3 H.b4 H.b5 H.b6 H.b7 _ (by simp; omega) sc H.sec H.bd [s, fb] w s fb pg aX aT sd a w2 je jU hs1 hs3 HF bI ?_
  clear HF bI hs1 hs3 a w2 je jU
  intro a w2 jo nms hs1 hs3 hS hN hD HF bI
  refine LV l b o n c hl hnc true abi aC aQ aF ay ak aj au ah 2 H.b1 H.b2 H.b3 H.b4 H.b5 H.b6 H.b7 _ sc H.c3 H.str (H.bd _ (by have := H.c3; omega)).v9 H.f1 H.f2 H.f3 H.nn [s, fb] w xq hr2 qP s fb pg aX aT sd a w2 jo nms hS HF bI ?_
  clear HF bI hS a w2
  intro a w2 dD hS HF bI
  have hf2 := H.f2
  have hf3 := H.f3
  refine LQ l b o n c hl hnc true abi aC aQ aF ay ak aj au ah 2 H.b7 _ sc H.bd nb ((l.drop (sc (ah - 1)).off).take (sc (ah - 1)).bG) (sc (ah - 1)).bG (by simp; omega) (by unfold maxLen; omega) H.name [s, fb] w s fb pg aX aT sd dD jo nms hN hD a w2 hS HF bI ?_
  clear HF bI hS a w2
  intro a w2 hS HF bI
  refine J9 fb a w2 (HF.sub _ (by kernel_rfl)) ?_
  intro a HF
  have hk := bI.keep
  have hk2 : Keep [fb] w w2 := hk.less ((bI.get (i := 5) rfl).trans (HM.get (i := 3) rfl).symm)
  have hkw : Keep [] w0 w2 := HM.keep.step hk2 (by intro g hg; simp only [List.mem_cons, List.not_mem_nil, or_false] at hg; subst hg; exact HM.own (i := 2) rfl)
  have hz := HM.size
  refine h_ HF rfl rfl rfl ⟨fb, pg, aX, cur, jo, rfl, hkw.below, ⟨HM.ge (i := 2) rfl, HM.ge (i := 1) rfl, ?_, bI.get (i := 4) rfl, ?_, hcs, hP.keep hk2 ?_, bI.get (i := 3) rfl, hs1, ?_, hD⟩⟩
  ·refine Nat.le_trans hz ((bI.own (i := 3) rfl).elim id fun hm => ?_)
   simp only [List.mem_cons, List.not_mem_nil, or_false] at hm
   rcases hm with e | e
   ·exact absurd e (bI.ne (i := 3) (j := 5) rfl rfl (by decide))
   ·exact absurd e (bI.ne (i := 3) (j := 4) rfl rfl (by decide))
  ·exact (hk2.block pg (HM.lt (i := 1) rfl) (by simpa using HM.ne (i := 1) (j := 2) rfl rfl (by decide))).trans (HM.get (i := 1) rfl)
  ·intro g hg
   simp only [List.mem_cons, List.not_mem_nil, or_false] at hg
   subst hg
   exact ⟨_, _, _, HM.get (i := 2) rfl, by decide, by decide⟩
  ·intro j hj
   obtain ⟨pb, sb, g1, g2, g3, g4, g5⟩ := hS j hj
   simp only [hj, ↓reduceIte] at g4
   exact ⟨pb, sb, g1, by omega, by omega, g4, g5⟩
 rcases Nat.eq_zero_or_pos aj with h0 | h0
 ·subst h0
  refine CX l b o n c hl hnc true abi aC aQ aF ay ak 0 au ah 2 H.b1 H.b2 H.b3 H.b4 H.b5 H.b6 H.b7 H.c1 (by have := H.c3; omega) w0 a w s fb HF HM ?_
  clear HF HM a w
  intro a w HF HM
  exact CS l b o n c hl hnc true abi aC aQ aF ay ak 0 au ah 2 H.b1 H.b2 H.b3 H.b4 H.b5 H.b6 H.b7 H.c1 (by have := H.c3; omega) H.p1 hp2 w0 hbl hr a w s fb HF HM hD
 ·refine CW l b o n c hl hnc true abi aC aQ aF ay ak aj au ah 2 H.b1 H.b2 H.b3 H.b4 H.b5 H.b6 H.b7 H.c1 (by have := H.c3; omega) h0 w0 a w s fb HF HM ?_
  clear HF HM a w
  intro a w HF HM
  exact CQ l b o n c hl hnc true abi aC aQ aF ay ak aj au ah 2 H.b1 H.b2 H.b3 H.b4 H.b5 H.b6 H.b7 H.c1 (by have := H.c3; omega) h0 H.p1 hp2 w0 hbl hr a w s fb HF HM hD

theorem I8 (l : List UInt8) (b o n c : Nat) (hl : n = l.length) (hnc : n ≤ c) (wide big : Bool) (abi aC aQ aF ay ak aj au ah : Nat) (sg : Nat → jQ) (sc : Nat → gV) (nb : Nat → List UInt8) (H : lJ l n wide big abi aC aQ aF ay ak aj au ah sg sc nb) (w0 : World) (hbl : b < w0.heap.size) (hr : Row w0 (some ⟨b, o, none⟩) (l.map Bv)) :
  Calls Tryd.prog 78 #[.iface 178 (.slice (some ⟨b, o, none⟩) n c)] w0 fun e w' => ∃ fb pg aX cur jo, e = .returned (.tuple #[aG fb, .nilIface]) ∧ Below w0.heap.size w0 w' ∧ o_ b o n c w0.heap.size w' wide big abi aC aQ aF ay aj ah sg sc nb fb pg aX cur jo := by
 cases wide <;> cases big
 ·exact Kq l b o n c hl hnc abi aC aQ aF ay ak aj au ah sg sc nb H w0 hbl hr
 ·exact Kr l b o n c hl hnc abi aC aQ aF ay ak aj au ah sg sc nb H w0 hbl hr
 ·exact J_ l b o n c hl hnc abi aC aQ aF ay ak aj au ah sg sc nb H w0 hbl hr
 ·exact Ko l b o n c hl hnc abi aC aQ aF ay ak aj au ah sg sc nb H w0 hbl hr
end Go.Proofs.YtdgehpocmfjbiaaDoor
namespace Go.Proofs.YtdgehpocmfjbiaaDoor
open Go.RowKit

theorem results_cell_tmp {P : Program} {fn : Func} {p t : Tmp} {ty T : TypeId} {g : Nat} {cs : Array Value} {fs : Array Field} {w : World} {tmps : Array Value} {vt : Value} (h : fn.results = #[.cell p ty, .tmp t]) (hp : tmps.getD p undef = aG g) (ht : tmps.getD t undef = vt) (ho : w.heap[g]? = some (.cells cs T (0, 0))) (hu : P.underlying ty = some (.struct fs)) (hi : (P.info? ty).map (·.size) = some cs.size) :
  (results fn tmps).run P w = .ok (.tuple #[.agg cs, vt]) w := by
 have hl := run_loadVar_row (P := P) w g T ty cs (0, 0) _ ho hu rfl hi
 have hp' : tmps[p]?.getD undef = aG g := by simpa using hp
 have ht' : tmps[t]?.getD undef = vt := by simpa using ht
 simp only [results, h]
 simp [hp', ht', asAddr, hl]
theorem o_.keep {b o n c z : Nat} {w w' : World} {wide big : Bool} {abi aC aQ aF ay aj ah : Nat} {sg : Nat → jQ} {sc : Nat → gV} {nb : Nat → List UInt8} {fb pg aX : Nat} {cur jo : Array Value} (h : o_ b o n c z w wide big abi aC aQ aF ay aj ah sg sc nb fb pg aX cur jo) (hk : Keep [] w w') : o_ b o n c z w' wide big abi aC aQ aF ay aj ah sg sc nb fb pg aX cur jo :=
 ⟨h.zf, h.zp, h.zs, (hk.block _ (jD h.file) (by simp)).trans h.file, (hk.block _ (jD h.NC) (by simp)).trans h.NC, h.size, h.prog.keep hk (by intro g hg; cases hg), (hk.block _ (jD h.secs) (by simp)).trans h.secs, h.ssize, h.sec.keep hk (by intro g hg; cases hg), h.ne⟩
theorem Fh {w : World} {A : Option Addr} {cs : List Value} (h : Row w A cs) (k : Nat) : Row w A (cs.take k) := fun i v hv => by
 rw [List.getElem?_take] at hv
 split at hv
 ·exact h i v hv
 ·cases hv
theorem FD : (Tryd.prog.info? 5).map (fun i => (i.zero, i.size, i.bytes)) = some (some (.int .u8 0), 1, 1) := by kernel_rfl

theorem open_any (l : List UInt8) (A : Option Addr) (n c : Nat) (hl : n = l.length) (hnc : n ≤ c) (wide big : Bool) (abi aC aQ aF ay ak aj au ah : Nat) (sg : Nat → jQ) (sc : Nat → gV) (nb : Nat → List UInt8) (H : lJ l n wide big abi aC aQ aF ay ak aj au ah sg sc nb) (h47 : n ≤ 140737488355328) (w0 : World) (hr : Row w0 A (l.map Bv)) :
  Calls Tryd.prog 55 #[.slice A n c] w0 fun e w' => ∃ g cap z fb pg aX cur jo, e = .returned (.tuple #[aG fb, .bool true]) ∧ Below w0.heap.size w0 w' ∧ n ≤ cap ∧ cap ≤ maxLen ∧ w0.heap.size ≤ g ∧ w0.heap.size ≤ z ∧ Row w' (some ⟨g, 0, none⟩) (l.map Bv) ∧ o_ g 0 n cap z w' wide big abi aC aQ aF ay aj ah sg sc nb fb pg aX cur jo := by
 have hn16 : 16 ≤ n := by
  have := H.head.len
  rw [← hl] at this
  unfold fB at this
  split at this <;> omega
 obtain ⟨w, hw⟩ : ∃ w, w0 = w := ⟨_, rfl⟩
 have HM : Mm [] w0 w [] := hw ▸ Mm.start w0
 conv => arg 4; rw [hw]
 clear hw
 refine bV Tryd.func55 rfl Tryd.ntmps55 [(0, .slice A n c)] (by kernel_rfl) (Nat.le_of_ble_eq_true rfl) ?_
 intro a HF
 refine bC HF HM rfl [] [(0, .slice A n c), (2, .pointer none), (3, .bool false)] [] (by kernel_rfl) ?_
 clear HF HM; intro a w HF HM
 refine wp_seq (wp_region_lit ?_)
 refine aO HF HM rfl 1 [] [(0, .slice A n c), (2, .pointer none), (3, .bool false), (7, .slice A n c)] [] (by kernel_rfl) ?_
 clear HF HM; intro a w HF HM
 refine F6 HF HM rfl _ _ 33 rfl rfl 5 Tryd.underlying33 FD rfl (by omega) rfl A n c (l.map Bv) rfl (by simp [hl]) (by omega) (HM.row hr) (qp _) (by unfold maxLen; omega) (by omega) ?_
 intro a2 w1 g cap cb bI htk hcs yD hcap hbel HF2; have hg0 : w0.heap.size ≤ g := bI.ge (i := 0) rfl; clear HF HM hbel; have HM := bI; have HF := HF2; clear bI HF2
 replace HF := HF.sub [(0, .slice A n c), (2, .pointer none), (3, .bool false), (7, .slice A n c), (8, aH g n cap)] (by kernel_rfl)
 have hrow : Row w1 (some ⟨g, 0, none⟩) (l.map Bv) := by have := Fh (HM.rowAt (i := 0) rfl) (n * 1); rwa [htk] at this
 refine aO HF HM rfl 1 [] [(0, .slice A n c), (2, .pointer none), (3, .bool false), (9, .iface 178 (aH g n cap))] [(g, .cells cb 5 (0, 0))] (by kernel_rfl) ?_
 clear HF HM; intro a w HF HM
 have hrow2 : Row w (some ⟨g, 0, none⟩) (l.map Bv) := by have := Fh (HM.rowAt (i := 0) rfl) (n * 1); rwa [htk] at this
 refine bn HF (by kernel_rfl) 78 #[.iface 178 (aH g n cap)] (by kernel_rfl) (fun w => by kernel_rfl) (Calls.mono (I8 l g 0 n cap hl yD wide big abi aC aQ aF ay ak aj au ah sg sc nb H w (HM.lt (i := 0) rfl) hrow2) ?_)
 rintro _ w2 ⟨fb, pg, aX, cur, jo, rfl, hb, hF⟩
 have hzz : w0.heap.size ≤ w.heap.size := HM.size
 have hrow3 := hrow2.below hb
 replace HM := HM.call hb
 refine ⟨_, rfl, ?_⟩; clear HF; intro a HF; replace HF := HF.sub [(0, .slice A n c), (2, .pointer none), (3, .bool false), (9, .iface 178 (aH g n cap)), (10, .tuple #[aG fb, .nilIface])] (by kernel_rfl)
 refine wp_pure HF HM rfl 5 [] [(0, .slice A n c), (2, .pointer none), (3, .bool false), (4, aG fb), (5, .nilIface)] (by kernel_rfl) ?_
 clear HF; intro a HF
 refine aI ?_
 refine pJ (by kernel_rfl) (by kernel_rfl) ?_
 refine oL HF HM rfl 5 [] [(0, .slice A n c), (2, aG fb), (3, .bool true)] (by kernel_rfl) ?_
 clear HF; intro a HF
 refine qL ?_
 rintro _ ⟨nq, rfl⟩
 refine wp_ret ?_
 exact h_ HF rfl rfl rfl ⟨g, cap, w.heap.size, fb, pg, aX, cur, jo, rfl, (HM.drewN nq).below, yD, hcap, hg0, hzz, hrow3, hF.keep ((Keep.refl [] _).drewN nq)⟩

abbrev jr := fun (A : Option Addr) (n : Nat) (c : Nat) z1 => ([(0, .slice A n c), (2, aG z1), (3, .bool false)] : Slots)
abbrev yE := fun fb (wide : Bool) (big : Bool) (abi : Nat) (aC : Nat) (aQ : Nat) (aF : Nat) (ay : Nat) aX (ah : Nat) pg (aj : Nat) => ((fb, .cells #[aN (if wide then 2 else 1 : Int), aN (if big then 2 else 1 : Int), aN 1, aV abi, aV aC, (aP big), aZ aQ, aZ aF, aJ ay, aH aX ah ah, aH pg aj aj, aK, aK, aK] 131 (0, 0)) : Nat × Obj)
theorem Nk (l : List UInt8) (A : Option Addr) (n c : Nat) (hl : n = l.length) (hnc : n ≤ c) (wide big : Bool) (abi aC aQ aF ay ak aj au ah : Nat) (sg : Nat → jQ) (sc : Nat → gV) (nb : Nat → List UInt8) (H : lJ l n wide big abi aC aQ aF ay ak aj au ah sg sc nb) (h47 : n ≤ 140737488355328) (w0 : World) (hr : Row w0 A (l.map Bv)) :
  Calls Tryd.prog 31 #[.slice A n c] w0 fun e w' => e = .returned (.tuple #[.agg #[aA (if wide then 2 else 1 : Int), aA (if big then 2 else 1 : Int), aA 1, aB abi, aB aC, aB aQ, aB aF, aJ ay], .bool true]) ∧ Below w0.heap.size w0 w' := by
 obtain ⟨w, hw⟩ : ∃ w, w0 = w := ⟨_, rfl⟩
 have HM : Mm [] w0 w [] := hw ▸ Mm.start w0
 conv => arg 4; rw [hw]
 clear hw
 refine bV Tryd.func31 rfl Tryd.ntmps31 [(0, .slice A n c)] (by kernel_rfl) (Nat.le_of_ble_eq_true rfl) ?_
 intro a HF
 obtain ⟨z1, hz1⟩ : ∃ z, w.heap.size = z := ⟨_, rfl⟩
 refine bC HF HM hz1 [] (jr A n c z1) [(z1, .cells #[aA 0, aA 0, aA 0, aA 0, aA 0, aA 0, aA 0, bD 0] 48 (0, 0))] (by kernel_rfl) ?_
 clear HF HM hz1; intro a w HF HM
 refine wp_seq (wp_region_lit ?_)
 refine aO HF HM rfl 1 [] ((jr A n c z1) ++ [(7, .slice A n c)]) [(z1, .cells #[aA 0, aA 0, aA 0, aA 0, aA 0, aA 0, aA 0, bD 0] 48 (0, 0))] (by kernel_rfl) ?_
 clear HF HM; intro a w HF HM
 refine bn HF (by kernel_rfl) 55 #[.slice A n c] (by kernel_rfl) (fun w => by kernel_rfl) (Calls.mono (open_any l A n c hl hnc wide big abi aC aQ aF ay ak aj au ah sg sc nb H h47 w (HM.row hr)) ?_)
 rintro _ w1 ⟨g, cap, z, fb, pg, aX, cur, jo, rfl, hb, yD, hcap, hg0, hz0, hrow, NK⟩
 have hzz := HM.size
 replace HM : Mm [] w0 w1 [yE fb wide big abi aC aQ aF ay aX ah pg aj, (z1, .cells #[aA 0, aA 0, aA 0, aA 0, aA 0, aA 0, aA 0, bD 0] 48 (0, 0))] := HM.push hb (Nat.le_trans hz0 NK.zf) NK.file
 clear hb
 refine ⟨_, rfl, ?_⟩; clear HF; intro a HF; replace HF := HF.sub ((jr A n c z1) ++ [(7, .slice A n c), (8, .tuple #[aG fb, .bool true])]) (by kernel_rfl)
 refine wp_pure HF HM rfl 5 [] ((jr A n c z1) ++ [(4, aG fb), (5, .bool true)]) (by kernel_rfl) ?_
 clear HF; intro a HF
 refine aI ?_
 refine wp_seq ?_
 refine wp_seq (wp_region_lit ?_)
 refine wp_pure HF HM rfl 2 [] ((jr A n c z1) ++ [(4, aG fb), (5, .bool true), (12, .bool false)]) (by kernel_rfl) ?_
 clear HF; intro a HF
 refine aI ?_
 refine bf HF rfl ?_
 refine wp_skip ?_
 repeat (first | refine aS ?_ | refine aU ?_)
 replace HF := HF.sub ((jr A n c z1) ++ [(4, aG fb)]) (by kernel_rfl)
 refine pK HM (by kernel_rfl) [yE fb wide big abi aC aQ aF ay aX ah pg aj] [(0, false), (1, false), (2, false), (3, false), (4, false), (5, false), (6, false), (7, false), (8, false), (9, false), (10, false), (11, false), (12, false), (13, false), (14, false), (15, false), (16, false), (17, false), (18, false), (19, false), (20, false), (21, false), (22, false), (23, false), (24, false), (25, false), (26, false), (27, false), (28, false), (29, false), (30, false), (31, false), (32, false), (33, false), (34, false), (35, false), (36, false), (37, false), (38, false), (39, false), (40, false), (41, false), (42, false), (43, false), (44, false), (45, false), (46, false), (47, false), (48, true), (49, false)] (by kernel_rfl) ?_
 clear HM; intro w2 HM
 refine bH HF (HM.told [0] rfl) 6 [[0]] ((jr A n c z1) ++ [(4, aG fb), (19, aA (IntKind.i64.wrap (if wide then 2 else 1 : Int)))]) (by kernel_rfl) ?_
 clear HF; intro a HF
 rw [show IntKind.i64.wrap (if wide then 2 else 1 : Int) = (if wide then 2 else 1 : Int) from IntWalk.i64_in _ (by cases wide <;> simp)] at HF
 refine bH HF (HM.told [0] rfl) 6 [[0]] ((jr A n c z1) ++ [(4, aG fb), (19, aA (if wide then 2 else 1 : Int)), (25, aA (IntKind.i64.wrap (if big then 2 else 1 : Int)))]) (by kernel_rfl) ?_
 clear HF; intro a HF
 rw [show IntKind.i64.wrap (if big then 2 else 1 : Int) = (if big then 2 else 1 : Int) from IntWalk.i64_in _ (by cases big <;> simp)] at HF
 refine bH HF (HM.told [0] rfl) 6 [[0]] ((jr A n c z1) ++ [(4, aG fb), (19, aA (if wide then 2 else 1 : Int)), (25, aA (if big then 2 else 1 : Int)), (31, aA 1)]) (by kernel_rfl) ?_
 clear HF; intro a HF
 refine bH HF (HM.told [0] rfl) 6 [[0]] ((jr A n c z1) ++ [(4, aG fb), (19, aA (if wide then 2 else 1 : Int)), (25, aA (if big then 2 else 1 : Int)), (31, aA 1), (37, aA (IntKind.i64.wrap ((abi : Nat) : Int)))]) (by kernel_rfl) ?_
 clear HF; intro a HF
 rw [show IntKind.i64.wrap ((abi : Nat) : Int) = ((abi : Nat) : Int) from IntWalk.i64_in _ (by have := H.a1; omega)] at HF
 refine bH HF (HM.told [0] rfl) 6 [[0]] ((jr A n c z1) ++ [(4, aG fb), (19, aA (if wide then 2 else 1 : Int)), (25, aA (if big then 2 else 1 : Int)), (31, aA 1), (37, aB abi), (43, aA (IntKind.i64.wrap ((aC : Nat) : Int)))]) (by kernel_rfl) ?_
 clear HF; intro a HF
 rw [show IntKind.i64.wrap ((aC : Nat) : Int) = ((aC : Nat) : Int) from IntWalk.i64_in _ (by have := H.a2; omega)] at HF
 refine bH HF (HM.told [0] rfl) 6 [[0]] ((jr A n c z1) ++ [(4, aG fb), (19, aA (if wide then 2 else 1 : Int)), (25, aA (if big then 2 else 1 : Int)), (31, aA 1), (37, aB abi), (43, aB aC), (49, aA (IntKind.i64.wrap ((aQ : Nat) : Int)))]) (by kernel_rfl) ?_
 clear HF; intro a HF
 rw [show IntKind.i64.wrap ((aQ : Nat) : Int) = ((aQ : Nat) : Int) from IntWalk.i64_in _ (by have := H.b1; omega)] at HF
 refine bH HF (HM.told [0] rfl) 6 [[0]] ((jr A n c z1) ++ [(4, aG fb), (19, aA (if wide then 2 else 1 : Int)), (25, aA (if big then 2 else 1 : Int)), (31, aA 1), (37, aB abi), (43, aB aC), (49, aB aQ), (55, aA (IntKind.i64.wrap ((aF : Nat) : Int)))]) (by kernel_rfl) ?_
 clear HF; intro a HF
 rw [show IntKind.i64.wrap ((aF : Nat) : Int) = ((aF : Nat) : Int) from IntWalk.i64_in _ (by have := H.b2; omega)] at HF
 refine bH HF (HM.told [0] rfl) 6 [[0]] ((jr A n c z1) ++ [(4, aG fb), (19, aA (if wide then 2 else 1 : Int)), (25, aA (if big then 2 else 1 : Int)), (31, aA 1), (37, aB abi), (43, aB aC), (49, aB aQ), (55, aB aF), (61, .agg #[aA (if wide then 2 else 1 : Int), aA (if big then 2 else 1 : Int), aA 1, aB abi, aB aC, aB aQ, aB aF, aJ ay])]) (by kernel_rfl) ?_
 clear HF; intro a HF
 replace HF := HF.sub ((jr A n c z1) ++ [(4, aG fb), (61, .agg #[aA (if wide then 2 else 1 : Int), aA (if big then 2 else 1 : Int), aA 1, aB abi, aB aC, aB aQ, aB aF, aJ ay])]) (by kernel_rfl)
 refine b_ rfl ?_
 refine aO HF HM rfl 1 [[0, 0, 0, 0, 0, 0, 0, 0]] ((jr A n c z1) ++ [(4, aG fb)]) [yE fb wide big abi aC aQ aF ay aX ah pg aj, (z1, .cells #[aA (if wide then 2 else 1 : Int), aA (if big then 2 else 1 : Int), aA 1, aB abi, aB aC, aB aQ, aB aF, aJ ay] 48 (0, 0))] (by kernel_rfl) ?_
 clear HF HM; intro a w HF HM
 refine dF (HM.told [0] rfl) ?_
 refine bH HF (HM.told [0] rfl) 1 [] [(0, .slice A n c), (2, aG z1), (4, aG fb), (3, .bool true)] (by kernel_rfl) ?_
 clear HF; intro a HF
 refine lI ?_
 refine aS ?_
 refine wp_ret ?_
 exact bodyPost_ret (results_cell_tmp rfl (HF.getD rfl) (HF.getD rfl) (HM.get (i := 1) rfl) Tryd.underlying48 (by kernel_rfl)) HF.1 ⟨rfl, HM.below⟩

end Go.Proofs.YtdgehpocmfjbiaaDoor
namespace Go.Proofs.YtdgehpocmfjbiaaDoor
open Go.RowKit

theorem wO {α : Type} (f : α → List UInt8) (B : Nat) : ∀ l : List α, (∀ a ∈ l, (f a).length ≤ B) → (l.flatMap f).length ≤ l.length * B
 | [], _ => by simp
 | a :: l, h => by
  have h1 := wO f B l fun b hb => h b (by simp [hb])
  have h2 := h a (by simp)
  rw [List.flatMap_cons, List.length_append, List.length_cons, Nat.succ_mul]
  omega
structure Seg.Ok (wide : Bool) (s : Seg) : Prop where
 ty : s.ty < 2147483648
 flags : s.flags < 4294967296
 bJ : s.bJ < 256 ^ g_ wide
 bK : s.bK < 256 ^ g_ wide
 bP : s.bP < 256 ^ g_ wide
 align : s.align < 256 ^ g_ wide
 data : s.data.length ≤ 65536
structure Part.Ok (wide : Bool) (p : Part) : Prop where
 name : p.name.length ≤ 1024
 nul : 0 ∉ p.name
 ty : p.ty < 4294967296
 flags : p.flags < 4294967296
 zip : (oC (p.flags : Int) 2048 == 0) = true
 addr : p.addr < 256 ^ g_ wide
 link : p.link < 4294967296
 info : p.info < 4294967296
 align : p.align < 256 ^ g_ wide
 ent : p.ent < 256 ^ g_ wide
 size : p.size < 256 ^ g_ wide
 GY : p.size < 4611686018427387904
 data : p.data.length ≤ 1100000
structure dG.Ok (x : dG) : Prop where
 abi : x.abi < 256
 aC : x.aC < 256
 ty : x.ty < 65536
 machine : x.machine < 65536
 entry : x.entry < 256 ^ g_ x.wide
 cZ : x.cZ.length ≤ 100
 parts : x.parts.length ≤ 102
 seg : ∀ s ∈ x.cZ, Seg.Ok x.wide s
 part : ∀ p ∈ x.parts, Part.Ok x.wide p
def GZ (x : dG) (i : Nat) : jQ := match x.cZ[i]? with
 | some s => ⟨s.ty, s.flags, x.jI i, s.bJ, s.bK, s.data.length, s.bP, s.align⟩
 | none => ⟨0, 0, 0, 0, 0, 0, 0, 0⟩
def Du (x : dG) (i : Nat) : gV := match x.all[i]? with
 | some p => ⟨x.jS i, p.ty, p.flags, p.addr, x.iL i, rX p, p.link, p.info, p.align, p.ent⟩
 | none => ⟨0, 0, 0, 0, 0, 0, 0, 0, 0, 0⟩
def Hl (x : dG) (i : Nat) : List UInt8 := (x.names[i]?).getD []

section
variable {x : dG}
theorem dG.Ok.wV (h : x.Ok) : x.names.length = x.parts.length + 2 := by simp [dG.names, dG.firsts]
theorem dG.uD (x : dG) : x.all.length = x.parts.length + 2 := by simp [dG.all, dG.firsts]
theorem dG.Ok.pI (h : x.Ok) : (dn x.names).length ≤ 110000 := by
 have hb := wO (fun n : List UInt8 => n ++ [0]) 1025 x.names (by
  intro n hn
  simp only [dG.names, dG.firsts, List.map_cons, List.mem_append, List.mem_cons, List.mem_map, List.not_mem_nil, or_false] at hn
  rcases hn with (rfl | ⟨p, hp, rfl⟩) | rfl
  ·simp [uK]
  ·have := (h.part p hp).name
   simp; omega
  ·simp [vI])
 rw [h.wV] at hb
 have := h.parts
 unfold dn
 rw [List.length_cons]
 have : (x.parts.length + 2) * 1025 ≤ 104 * 1025 := Nat.mul_le_mul_right _ (by omega)
 omega
theorem dG.Ok.zk (h : x.Ok) : x.kY.length ≤ 6553600 := by
 have := wO (fun s : Seg => s.data) 65536 x.cZ fun s hs => (h.seg s hs).data
 have h2 : x.cZ.length * 65536 ≤ 100 * 65536 := Nat.mul_le_mul_right _ h.cZ
 unfold dG.kY
 omega
theorem Jf (p : Part) : (lW p).length ≤ p.data.length := by unfold lW; split <;> simp
theorem dG.Ok.zl (h : x.Ok) : x.lX.length ≤ 114400000 := by
 have := wO lW 1100000 x.all (by
  intro p hp
  refine Nat.le_trans (Jf p) ?_
  simp only [dG.all, dG.firsts, List.mem_append, List.mem_cons, List.not_mem_nil, or_false] at hp
  rcases hp with (rfl | hp) | rfl
  ·simp [uK]
  ·have := (h.part p hp).data
   omega
  ·have := h.pI
   show (dn x.names).length ≤ 1100000
   omega)
 have h2 : x.all.length * 1100000 ≤ 104 * 1100000 := Nat.mul_le_mul_right _ (by rw [dG.uD]; have := h.parts; omega)
 unfold dG.lX
 omega
theorem dG.Ok.Iu (h : x.Ok) : x.at0 ≤ 5664 := by
 have := h.cZ
 unfold dG.at0 fB gI
 split <;> omega
theorem dG.Ok.Dq (h : x.Ok) : x.kJ ≤ 121000000 := by
 have h1 := h.Iu
 have h2 := h.zk
 have h3 := h.zl
 unfold dG.kJ
 rw [List.length_append]
 omega
theorem dG.Ok.length_le (h : x.Ok) : x.file.length ≤ 122000000 := by
 rw [dG.yF, dG.uD]
 have h1 := h.Dq
 have h2 := h.parts
 have : (x.parts.length + 2) * gQ x.wide ≤ 104 * 64 := Nat.mul_le_mul (by omega) (by unfold gQ; split <;> omega)
 omega
theorem dG.yA (x : dG) (i : Nat) : x.jI i ≤ x.kJ := by
 have := yQ (·.data) x.cZ i
 unfold dG.jI dG.kJ dG.kY
 rw [List.length_append]
 omega
theorem dG.uO (x : dG) (i : Nat) : x.iL i ≤ x.kJ := by
 have := yQ lW x.all i
 unfold dG.iL dG.kJ dG.lX
 rw [List.length_append]
 split <;> omega
theorem JH (wide : Bool) : 4294967296 ≤ 256 ^ g_ wide := by cases wide <;> decide
theorem Oj (wide : Bool) : 256 ^ g_ wide ≤ 18446744073709551616 := by cases wide <;> decide

structure Part.Fit (wide : Bool) (p : Part) : Prop where
 ty : p.ty < 4294967296
 flags : p.flags < 4294967296
 zip : (oC (p.flags : Int) 2048 == 0) = true
 addr : p.addr < 256 ^ g_ wide
 link : p.link < 4294967296
 info : p.info < 4294967296
 align : p.align < 256 ^ g_ wide
 ent : p.ent < 256 ^ g_ wide
 size : rX p < 256 ^ g_ wide
 GY : rX p < 4611686018427387904
theorem EC : (oC ((0 : Nat) : Int) 2048 == 0) = true := by decide
theorem dG.Ok.fit (h : x.Ok) : ∀ p ∈ x.all, Part.Fit x.wide p := by
 intro p hp
 have hb := JH x.wide
 simp only [dG.all, dG.firsts, List.mem_append, List.mem_cons, List.not_mem_nil, or_false] at hp
 rcases hp with (rfl | hp) | rfl
 ·exact ⟨by decide, by decide, EC, by show 0 < _; omega, by decide, by decide, by show 0 < _; omega, by show 0 < _; omega, by show 0 < _; omega, by decide⟩
 ·have o := h.part p hp
  have h1 := o.size
  have h2 := o.GY
  have h3 := o.data
  refine ⟨o.ty, o.flags, o.zip, o.addr, o.link, o.info, o.align, o.ent, ?_, ?_⟩
  ·unfold rX qF; split <;> omega
  ·unfold rX qF; split <;> omega
 ·have hn := h.pI
  refine ⟨by show 3 < _; omega, by show 0 < _; omega, EC, by show 0 < _; omega, by show 0 < _; omega, by show 0 < _; omega, by show 1 < _; omega, by show 0 < _; omega, ?_, ?_⟩
  ·show (dn x.names).length < _; omega
  ·show (dn x.names).length < _; omega
theorem Dt (x : dG) (i : Nat) (hi : i < x.all.length) : Du x i = ⟨x.jS i, x.all[i].ty, x.all[i].flags, x.all[i].addr, x.iL i, rX x.all[i], x.all[i].link, x.all[i].info, x.all[i].align, x.all[i].ent⟩ := by
 simp [Du, hi]
theorem rV (x : dG) (i : Nat) (hi : i < x.cZ.length) : GZ x i = ⟨x.cZ[i].ty, x.cZ[i].flags, x.jI i, x.cZ[i].bJ, x.cZ[i].bK, x.cZ[i].data.length, x.cZ[i].bP, x.cZ[i].align⟩ := by
 simp [GZ, hi]
theorem dG.last (x : dG) : x.all[x.all.length - 1]? = some x.CJ := by
 have : x.all.length - 1 = x.firsts.length := by simp [dG.all]
 rw [this]
 simp [dG.all]
theorem Le (x : dG) : Du x (x.all.length - 1) = ⟨x.jS (x.all.length - 1), 3, 0, 0, x.iL (x.all.length - 1), (dn x.names).length, 0, 0, 1, 0⟩ := by
 unfold Du
 rw [dG.last]
 rfl
theorem dG.Ok.wY (h : x.Ok) (i : Nat) (hi : i < x.all.length) : x.jS i < 4294967296 := by
 unfold dG.jS
 split
 ·omega
 ·have := L6 x.names i (by rw [h.wV]; rw [dG.uD] at hi; exact hi)
  have := h.pI
  omega
theorem dG.M_ (x : dG) : ∃ r, x.file.drop (x.iL (x.all.length - 1)) = dn x.names ++ r := by
 have hl := dG.uD x
 obtain ⟨r, e⟩ := x.Oq (x.all.length - 1) (by omega) (by omega)
 have hg : x.all[x.all.length - 1]'(by omega) = x.CJ := by
  have := x.last
  rw [List.getElem?_eq_getElem (by omega)] at this
  exact Option.some.inj this
 rw [hg] at e
 exact ⟨r, e⟩
theorem dG.Ok.nul (h : x.Ok) : ∀ n ∈ x.names, 0 ∉ n := by
 intro n hn
 simp only [dG.names, dG.firsts, List.map_cons, List.mem_append, List.mem_cons, List.mem_map, List.not_mem_nil, or_false] at hn
 rcases hn with (rfl | ⟨p, hp, rfl⟩) | rfl
 ·simp [uK]
 ·exact (h.part p hp).nul
 ·decide
theorem BJ (h : x.Ok) : lJ x.file x.file.length x.wide x.big x.abi x.aC x.ty x.machine x.entry (fB x.wide) x.cZ.length x.kJ x.all.length (GZ x) (Du x) (Hl x) := by
 have hb := JH x.wide
 have ht := Oj x.wide
 have hH : fB x.wide ≤ 64 := by unfold fB; split <;> omega
 have hH0 : 52 ≤ fB x.wide := by unfold fB; split <;> omega
 have hS0 : 40 ≤ gQ x.wide := by unfold gQ; split <;> omega
 have hal := dG.uD x
 have hsh := h.Dq
 have hsg := h.cZ
 have hpt := h.parts
 have hlen := h.length_le
 have hfl := x.yF
 have h0 : x.at0 ≤ x.kJ := by unfold dG.kJ; omega
 have h00 : x.at0 = fB x.wide + gI x.wide * x.cZ.length := rfl
 have hmul : 1 * 40 ≤ x.all.length * gQ x.wide := Nat.mul_le_mul (by omega) hS0
 have hen := h.entry
 have hlast := Le x
 obtain ⟨rn, en⟩ := x.M_
 have hnl := congrArg List.length en
 rw [List.length_drop, List.length_append] at hnl
 have hnb := h.pI
 refine ⟨?_, h.abi, h.aC, h.ty, h.machine, by omega, by omega, by omega, by omega, by omega, by omega, by omega, by omega, ?_, by omega, ?_, by omega, ?_, ?_, ?_, ?_, ?_, ?_, ?_, ?_, ?_, ?_, ?_, ?_, ?_, ?_⟩
 ·obtain ⟨r, e⟩ := x.K_
  rw [e]
  exact Oe x.wide x.big x.abi x.aC x.ty x.machine x.entry x.cZ.length (fB x.wide) x.all.length x.kJ r h.ty h.machine h.entry (by omega) (by omega) (by omega) (by omega)
 ·show fB x.wide + x.cZ.length * gI x.wide ≤ _
  rw [Nat.mul_comm]; omega
 ·show x.kJ + x.all.length * gQ x.wide ≤ _
  omega
 ·intro i hi
  have e1 : (x.file.drop (fB x.wide)).take (x.cZ.length * gI x.wide) = dQ x.n_ 0 x.cZ := by
   rw [x.MB, List.take_left' (by rw [x.qW, Nat.mul_comm])]
  obtain ⟨r, e2⟩ := Au x.n_ (gI x.wide) x.cZ (fun j a _ => qw ..) i hi
  have o := h.seg _ (List.getElem_mem hi)
  have hd := o.data
  have hp := x.yA i
  rw [rV x i hi]
  show uG (((x.file.drop (fB x.wide)).take (x.cZ.length * gI x.wide)).drop (i * gI x.wide)) _ _ _ _ _ _ _ _ _ _
  rw [e1, e2]
  have hty := o.ty
  exact Om x.wide x.big _ _ _ _ _ _ _ _ r (by omega) o.flags o.bJ o.bK o.bP o.align (by omega) (by omega)
 ·intro i hi; have o := (h.seg _ (List.getElem_mem hi)).ty; rw [rV x i hi]; show x.cZ[i].ty < _; omega
 ·intro i hi; have o := (h.seg _ (List.getElem_mem hi)).data; have := x.yA i; rw [rV x i hi]; show x.jI i + x.cZ[i].data.length < _; omega
 ·intro i hi; have o := (h.seg _ (List.getElem_mem hi)).bJ; rw [rV x i hi]; show x.cZ[i].bJ ≤ _; omega
 ·intro i hi; have o := (h.seg _ (List.getElem_mem hi)).bK; rw [rV x i hi]; show x.cZ[i].bK ≤ _; omega
 ·intro i hi; have o := (h.seg _ (List.getElem_mem hi)).bP; rw [rV x i hi]; show x.cZ[i].bP ≤ _; omega
 ·intro i hi; have o := (h.seg _ (List.getElem_mem hi)).align; rw [rV x i hi]; show x.cZ[i].align ≤ _; omega
 ·intro i hi
  have e1 : (x.file.drop x.kJ).take (x.all.length * gQ x.wide) = dQ x.mO 0 x.all := by
   rw [x.KL, List.take_of_length_le (by rw [x.yK]; exact Nat.le_refl _)]
  obtain ⟨r, e2⟩ := Au x.mO (gQ x.wide) x.all (fun j a _ => qx ..) i hi
  have o := h.fit _ (List.getElem_mem hi)
  have hp := x.uO i
  rw [Dt x i hi]
  show uH (((x.file.drop x.kJ).take (x.all.length * gQ x.wide)).drop (i * gQ x.wide)) _ _ _ _ _ _ _ _ _ _ _ _
  rw [e1, e2]
  exact Oo x.wide x.big _ _ _ _ _ _ _ _ _ _ r (h.wY i hi) o.ty o.flags o.addr (by omega) o.size o.link o.info o.align o.ent
 ·intro i hi
  have o := h.fit _ (List.getElem_mem hi)
  have hp := x.uO i
  have a1 := o.addr
  have a2 := o.align
  have a3 := o.ent
  rw [Dt x i hi]
  exact ⟨h.wY i hi, o.ty, o.flags, by show x.iL i < _; omega, o.GY, by show x.all[i].addr ≤ _; omega, by show x.all[i].align ≤ _; omega, by show x.all[i].ent ≤ _; omega, o.zip⟩
 ·rw [hlast]
 ·rw [hlast]; show 0 < (dn x.names).length; simp [dn]
 ·rw [hlast]; show (dn x.names).length < _; omega
 ·rw [hlast]
  show x.iL (x.all.length - 1) + (dn x.names).length ≤ _
  have := x.uO (x.all.length - 1)
  omega
 ·intro i hi
  rw [hlast, Dt x i hi]
  show mg ((x.file.drop (x.iL (x.all.length - 1))).take (dn x.names).length) (x.jS i) = _
  rw [en, List.take_left]
  have hin : i < x.names.length := by rw [h.wV, ← hal]; exact hi
  have hnb : Hl x i = x.names[i] := by simp [Hl, hin]
  rw [hnb]
  unfold dG.jS
  split
  ·rename_i hi0
   subst hi0
   rfl
  ·exact Ku x.names i hin (h.nul _ (List.getElem_mem hin))
end
end Go.Proofs.YtdgehpocmfjbiaaDoor
