/- (*File).DynString. · (*File).ImportedLibraries; impl.DynStrings, Libraries. -/
import Derived.Test.YtdgehpocmfjbiaaDoorSn
import Derived.Test.YtdgehpocmfjbiaaDoorSp
set_option linter.unusedVariables false
set_option linter.unusedSimpArgs false
set_option maxRecDepth 100000
set_option maxHeartbeats 2000000
namespace Go.Proofs.YtdgehpocmfjbiaaDoor
open Go.RowKit

abbrev iI := fun (fb : Nat) (x : b_) (aV : Nat) (pg : Nat) => ((fb, .cells #[aQ 1, aQ (if x.img.big then 2 else 1 : Int), aQ 1, aX x.img.abi, aX x.img.aH, (aS x.img.big), bF x.img.ty, bF x.img.machine, aI x.img.entry, aC aV (x.ps.length + 2) (x.ps.length + 2), aC pg x.img.dA.length x.img.dA.length, aN, aN, aN] 131 (0, 0)) : Nat × Obj)
theorem MS {x : b_} {b c z fb pg aV : Nat} {cur eU : Array Value} {w0 : World} (hF : n_ x b c z fb pg aV cur eU w0) (hw : x.wide = false) (tg : Nat) (ps : List (Nat × Nat)) (ts : List (List UInt8)) (hd : o8 x ps ts) (yC : tg = 1 ∨ tg = 14 ∨ tg = 15 ∨ tg = 29) (hstr : ∀ p ∈ ps, p.1 = tg → p.2 < (aZ ts).length ∧ ∃ s, kR (aZ ts) p.2 = some s) :
  Calls Tryd.prog 74 #[aB fb, ay tg] w0 fun e w' => ∃ A' c', e = .returned (.tuple #[.slice A' (dh (aZ ts) ps tg ps.length).length c', .nilIface]) ∧ Below w0.heap.size w0 w' ∧ Row w' A' ((dh (aZ ts) ps tg ps.length).map lq) := by
 have hfb := hF.Ri hw
 have hsm := hF.small
 obtain ⟨p, q, hm0, hm1, hpo, hqo, hpt, hpl, hq8, xZ, uV⟩ := hd.ex
 have hn0 := hd.n0; have hn1 := hd.n1
 have hval := hd.val
 rw [hw] at xZ hval
 have hk1 := (List.getElem?_eq_some_iff.1 hm1).1
 have hD : p.data.length = 8 * ps.length := by rw [xZ, rV, Nat.mul_comm]; rfl
 have hq0 : 0 < q.data.length := by rw [uV]; exact Nat.succ_pos _
 have KU : q.data.length ≤ 1049601 := by rw [uV]; exact hd.tl
 have hlk : (jF x.img 1).link = 1 + 1 := (Dj hm0).trans hpl
 obtain ⟨Qu, sN, hs8⟩ := Option.map_eq_some_iff.1 Ea
 obtain ⟨pq, sq, q1, -, -, q4, q5⟩ := hF.at_.sec 1 (by rw [nY]; omega)
 obtain ⟨w, hw⟩ : ∃ w, w0 = w := ⟨_, rfl⟩
 have HM : Mm [] w0 w [] := hw ▸ Mm.start w0
 conv => arg 4; rw [hw]
 clear hw
 refine cu Tryd.func74 rfl Tryd.ntmps74 [(0, aB fb), (1, ay tg)] (by kernel_rfl) (Nat.le_of_ble_eq_true rfl) ?_
 intro a HF
 refine aO ?_
 refine wp_pure HF HM rfl 2 [] [(0, aB fb), (1, ay tg)] (by kernel_rfl) fun a HF => ?_
 refine aA ?_
 refine wp_seq ?_
 refine aO ?_
 refine wp_pure HF HM rfl 1 [] [(0, aB fb), (1, ay tg), (16, ay tg)] (by kernel_rfl) fun a HF => ?_
 refine aA ?_
 refine wp_block ?_
 refine wp_seq ?_
 refine aO ?_
 refine wp_pure HF HM rfl 2 [] [(0, aB fb), (1, ay tg), (16, ay tg), (18, .bool (((tg : Nat) : Int) == 1))] (by kernel_rfl) fun a HF => ?_
 refine aA ?_
 refine pJ (fun a w => (Mm [] w0 w [] ∧ Fr 127 a [(0, aB fb), (1, ay tg), (18, .bool true)])) ?_ ?_
 ·by_cases hc1 : ((tg : Nat) : Int) = 1
  ·rw [show (((tg : Nat) : Int) == 1) = true from nZ (hc1)] at HF
   refine bD HF rfl ?_
   refine wp_skip ?_
   repeat first | refine aK ?_ | refine aP ?_
   exact ⟨HM, HF.sub [(0, aB fb), (1, ay tg), (18, .bool true)] (by kernel_rfl)⟩
  rw [show (((tg : Nat) : Int) == 1) = false from oM (hc1)] at HF
  refine aY HF rfl ?_
  refine aO ?_
  refine wp_pure HF HM rfl 2 [] [(0, aB fb), (1, ay tg), (16, ay tg), (18, .bool (((tg : Nat) : Int) == 14))] (by kernel_rfl) fun a HF => ?_
  refine aA ?_
  refine pJ (fun a w => (Mm [] w0 w [] ∧ Fr 127 a [(0, aB fb), (1, ay tg), (18, .bool true)])) ?_ ?_
  ·by_cases hc2 : ((tg : Nat) : Int) = 14
   ·rw [show (((tg : Nat) : Int) == 14) = true from nZ (hc2)] at HF
    refine bD HF rfl ?_
    refine wp_skip ?_
    repeat first | refine aK ?_ | refine aP ?_
    exact ⟨HM, HF.sub [(0, aB fb), (1, ay tg), (18, .bool true)] (by kernel_rfl)⟩
   rw [show (((tg : Nat) : Int) == 14) = false from oM (hc2)] at HF
   refine aY HF rfl ?_
   refine aO ?_
   refine wp_pure HF HM rfl 2 [] [(0, aB fb), (1, ay tg), (16, ay tg), (18, .bool (((tg : Nat) : Int) == 15))] (by kernel_rfl) fun a HF => ?_
   refine aA ?_
   refine pJ (fun a w => (Mm [] w0 w [] ∧ Fr 127 a [(0, aB fb), (1, ay tg), (18, .bool true)])) ?_ ?_
   ·by_cases hc3 : ((tg : Nat) : Int) = 15
    ·rw [show (((tg : Nat) : Int) == 15) = true from nZ (hc3)] at HF
     refine bD HF rfl ?_
     refine wp_skip ?_
     repeat first | refine aK ?_ | refine aP ?_
     exact ⟨HM, HF.sub [(0, aB fb), (1, ay tg), (18, .bool true)] (by kernel_rfl)⟩
    rw [show (((tg : Nat) : Int) == 15) = false from oM (hc3)] at HF
    refine aY HF rfl ?_
    refine wp_region_lit ?_
    refine wp_pure HF HM rfl 2 [] [(0, aB fb), (1, ay tg), (18, .bool (((tg : Nat) : Int) == 29))] (by kernel_rfl) fun a HF => ?_
    refine wpList_nil ?_
    repeat first | refine aK ?_ | refine aP ?_
    rw [show (((tg : Nat) : Int) == 29) = true from nZ (by omega)] at HF
    exact ⟨HM, HF.sub [(0, aB fb), (1, ay tg), (18, .bool true)] (by kernel_rfl)⟩
   rintro a w ⟨HM, HF⟩
   repeat first | refine aK ?_ | refine aP ?_
   exact ⟨HM, HF.sub [(0, aB fb), (1, ay tg), (18, .bool true)] (by kernel_rfl)⟩
  rintro a w ⟨HM, HF⟩
  repeat first | refine aK ?_ | refine aP ?_
  exact ⟨HM, HF.sub [(0, aB fb), (1, ay tg), (18, .bool true)] (by kernel_rfl)⟩
 rintro a w ⟨HM, HF⟩
 repeat first | refine aK ?_ | refine aP ?_
 refine pJ (fun a w => (Mm [] w0 w [] ∧ Fr 127 a [(0, aB fb), (1, ay tg), (18, .bool true)])) ?_ ?_
 ·refine bD HF rfl ?_
  refine wp_skip ?_
  repeat first | refine aK ?_ | refine aP ?_
  exact ⟨HM, HF.sub [(0, aB fb), (1, ay tg), (18, .bool true)] (by kernel_rfl)⟩
 rintro a w ⟨HM, HF⟩
 repeat first | refine aK ?_ | refine aP ?_
 refine aO ?_
 refine wp_pure HF HM rfl 1 [] [(0, aB fb), (1, ay tg), (23, aB fb)] (by kernel_rfl) fun a HF => ?_
 refine bf HF (by kernel_rfl) 71 #[aB fb, iR 6] (by kernel_rfl) (fun w => by kernel_rfl) (Calls.mono (zq (hF.below HM.below) 6 1 pq (by omega) q1 ((F7 hm0).trans hpt) (fun j hj => by obtain rfl : j = 0 := (by omega); exact (by decide : (0 : Nat) ≠ 6))) ?_)
 rintro _ w1 ⟨rfl, hq⟩
 replace hq := hq.symm; subst hq
 refine ⟨_, rfl, ?_⟩; clear HF; intro a HF
 refine wp_pure HF HM rfl 1 [] [(0, aB fb), (1, ay tg), (6, aB pq)] (by kernel_rfl) fun a HF => ?_
 refine aA ?_
 refine wp_seq ?_
 refine aO ?_
 refine wp_pure HF HM rfl 2 [] [(0, aB fb), (1, ay tg), (6, aB pq), (26, .bool false)] (by kernel_rfl) fun a HF => ?_
 refine aA ?_
 refine aY HF rfl ?_
 refine wp_skip ?_
 repeat first | refine aK ?_ | refine aP ?_
 refine aO ?_
 refine wp_pure HF HM rfl 1 [] [(0, aB fb), (1, ay tg), (6, aB pq), (28, aB pq)] (by kernel_rfl) fun a HF => ?_
 refine bf HF (by kernel_rfl) 63 #[aB pq] (by kernel_rfl) (fun w => by kernel_rfl) (Calls.mono (Ap (hF.below HM.below) hm0 hpo (by omega) (by omega) pq q1) ?_)
 rintro _ w2 ⟨tb, rfl, hb, hge, hob⟩
 replace HM : Mm [] w0 w2 [(tb, .cells (p.data.map Bv).toArray 5 (0, 0))] := HM.push hb hge hob
 clear hb
 refine ⟨_, rfl, ?_⟩; clear HF; intro a HF
 rw [hD] at HF
 refine wp_pure HF HM rfl 5 [] [(0, aB fb), (1, ay tg), (6, aB pq), (7, aC tb ((8 * ps.length)) ((8 * ps.length))), (8, .nilIface)] (by kernel_rfl) fun a HF => ?_
 refine aA ?_
 refine wp_seq ?_
 refine aO ?_
 refine wp_pure HF HM rfl 2 [] [(0, aB fb), (1, ay tg), (6, aB pq), (7, aC tb ((8 * ps.length)) ((8 * ps.length))), (8, .nilIface), (33, .bool false)] (by kernel_rfl) fun a HF => ?_
 refine aA ?_
 refine aY HF rfl ?_
 refine wp_skip ?_
 repeat first | refine aK ?_ | refine aP ?_
 refine aO ?_
 refine wp_pure HF HM rfl 1 [] [(0, aB fb), (1, ay tg), (6, aB pq), (7, aC tb ((8 * ps.length)) ((8 * ps.length))), (9, aF 8)] (by kernel_rfl) fun a HF => ?_
 refine aA ?_
 refine wp_seq ?_
 refine aO ?_
 refine wp_pure HF HM rfl 4 [] [(0, aB fb), (1, ay tg), (6, aB pq), (7, aC tb ((8 * ps.length)) ((8 * ps.length))), (9, aF 8), (38, aB fb)] (by kernel_rfl) fun a HF => ?_
 refine dG HF (by kernel_rfl) (aQ 1) (by kernel_rfl) (dV rfl rfl (by kernel_rfl) ((cell_of_row w2 fb 0 _ _ _ (HM.old hfb)).trans rfl)) fun a HF => ?_
 refine wp_pure HF HM rfl 1 [] [(0, aB fb), (1, ay tg), (6, aB pq), (7, aC tb ((8 * ps.length)) ((8 * ps.length))), (9, aF 8), (40, .bool false)] (by kernel_rfl) fun a HF => ?_
 refine aA ?_
 refine aY HF rfl ?_
 refine wp_skip ?_
 repeat first | refine aK ?_ | refine aP ?_
 refine wp_seq ?_
 refine aO ?_
 refine wp_pure HF HM rfl 4 [] [(0, aB fb), (1, ay tg), (6, aB pq), (7, aC tb ((8 * ps.length)) ((8 * ps.length))), (44, aF (Int.tmod ((((8 * ps.length)) : Nat) : Int) 8))] (by kernel_rfl) fun a HF => ?_
 rw [show Int.tmod ((((8 * ps.length)) : Nat) : Int) 8 = 0 from F9 8 _] at HF
 refine wp_pure HF HM rfl 1 [] [(0, aB fb), (1, ay tg), (6, aB pq), (7, aC tb ((8 * ps.length)) ((8 * ps.length))), (45, .bool false)] (by kernel_rfl) fun a HF => ?_
 refine aA ?_
 refine aY HF rfl ?_
 refine wp_skip ?_
 repeat first | refine aK ?_ | refine aP ?_
 refine aO ?_
 refine wp_pure HF HM rfl 5 [] [(0, aB fb), (1, ay tg), (7, aC tb ((8 * ps.length)) ((8 * ps.length))), (48, aB fb), (52, .pointer (some ⟨pq, 6, none⟩))] (by kernel_rfl) fun a HF => ?_
 refine dG HF (by kernel_rfl) (bn ((jF x.img 1).link)) (by kernel_rfl) (dV rfl rfl (by kernel_rfl) ((cell_of_row w2 pq 6 _ _ _ (HM.old q4)).trans rfl)) fun a HF => ?_
 refine bf HF (by kernel_rfl) 90 #[aB fb, bn ((jF x.img 1).link)] (by kernel_rfl) (fun w => by kernel_rfl) (Calls.mono (ED (hF.below HM.below) 1 _ hlk hm1 hqo (by omega) (by omega)) ?_)
 rintro _ w3 ⟨tx, rfl, hb, QD, QA⟩
 replace HM : Mm [] w0 w3 [(tx, .cells (q.data.map Bv).toArray 5 (0, 0)), (tb, .cells (p.data.map Bv).toArray 5 (0, 0))] := HM.push hb QD QA
 clear hb
 refine ⟨_, rfl, ?_⟩; clear HF; intro a HF
 refine wp_pure HF HM rfl 5 [] [(0, aB fb), (1, ay tg), (7, aC tb ((8 * ps.length)) ((8 * ps.length))), (8, .nilIface), (10, aC tx q.data.length q.data.length)] (by kernel_rfl) fun a HF => ?_
 refine aA ?_
 refine wp_seq ?_
 refine aO ?_
 refine wp_pure HF HM rfl 2 [] [(0, aB fb), (1, ay tg), (7, aC tb ((8 * ps.length)) ((8 * ps.length))), (8, .nilIface), (10, aC tx q.data.length q.data.length), (58, .bool false)] (by kernel_rfl) fun a HF => ?_
 refine aA ?_
 refine aY HF rfl ?_
 refine wp_skip ?_
 repeat first | refine aK ?_ | refine aP ?_
 refine aO ?_
 replace HM : Mm [fb] w0 w3 [iI fb x aV pg, (tx, .cells (q.data.map Bv).toArray 5 (0, 0)), (tb, .cells (p.data.map Bv).toArray 5 (0, 0))] := HM.F6 hfb (by simp)
 refine wp_pure HF HM rfl 1 [] [(0, aB fb), (1, ay tg), (7, aC tb ((8 * ps.length)) ((8 * ps.length))), (10, aC tx q.data.length q.data.length), (11, aN)] (by kernel_rfl) fun a HF => ?_
 refine aA ?_
 refine wp_seq ?_
 refine wp_block ?_
 refine kC (ps.length) (fun i a w => (∃ o, ∃ r, (i < ps.length → o = 8 * i) ∧ (r + 8 * i = 8 * ps.length) ∧ (dh (aZ ts) ps tg i = []) ∧ Mm [fb] w0 w [iI fb x aV pg, (tx, .cells (q.data.map Bv).toArray 5 (0, 0)), (tb, .cells (p.data.map Bv).toArray 5 (0, 0))] ∧ Fr 127 a [(0, aB fb), (1, ay tg), (7, .slice (some ⟨tb, o, none⟩) r r), (10, aC tx q.data.length q.data.length), (11, aN)]) ∨ (∃ o, ∃ r, ∃ og : Nat, ∃ oc : Nat, ∃ ok : Array Value, (i < ps.length → o = 8 * i) ∧ (r + 8 * i = 8 * ps.length) ∧ (ok.toList.take (((dh (aZ ts) ps tg i).length) * 1) = (dh (aZ ts) ps tg i).map lq) ∧ (ok.size = oc * 1) ∧ (((dh (aZ ts) ps tg i).length) ≤ oc) ∧ (oc ≤ maxLen) ∧ Mm [fb] w0 w [(og, .cells ok 9 (0, 0)), iI fb x aV pg, (tx, .cells (q.data.map Bv).toArray 5 (0, 0)), (tb, .cells (p.data.map Bv).toArray 5 (0, 0))] ∧ Fr 127 a [(0, aB fb), (1, ay tg), (7, .slice (some ⟨tb, o, none⟩) r r), (10, aC tx q.data.length q.data.length), (11, aC og ((dh (aZ ts) ps tg i).length) oc)])) ?_ ?_ ?_
 ·exact Or.inl <| ⟨0, ((8 * ps.length)), fun _ => rfl, by omega, rfl, HM, HF.sub [(0, aB fb), (1, ay tg), (7, aC tb ((8 * ps.length)) ((8 * ps.length))), (10, aC tx q.data.length q.data.length), (11, aN)] (by kernel_rfl)⟩
 ·intro i a w KX hi hI KR
  rcases hI with hI | hI
  ·obtain ⟨o, r, ho, hr, h0, HM, HF⟩ := hI
   obtain rfl := ho hi
   obtain ⟨pr, hpr⟩ : ∃ m, ps[i]? = some m := ⟨_, List.getElem?_eq_getElem hi⟩
   have ht1 := hd.tag pr (List.mem_of_getElem? hpr); have ht2 := hval pr (List.mem_of_getElem? hpr)
   obtain ⟨oC, oz⟩ := wW false x.img.big ps p.data xZ i pr hpr 4 rfl (Nat.lt_of_lt_of_le ht1 (by decide)) ht2
   have hsl := yH (aZ ts) ps tg i
   simp only [Nat.reduceMul] at oC oz
   have ht3 : pr.2 < 4294967296 := ht2
   refine wp_seq ?_
   refine aO ?_
   refine wp_pure HF HM rfl 3 [] [(0, aB fb), (1, ay tg), (7, .slice (some ⟨tb, 8 * i, none⟩) r r), (10, aC tx q.data.length q.data.length), (11, aN), (62, .bool (decide (0 < ((r : Nat) : Int))))] (by kernel_rfl) fun a HF => ?_
   refine aA ?_
   rw [show decide (0 < ((r : Nat) : Int)) = true from dK (by omega)] at HF
   refine bD HF rfl ?_
   refine wp_skip ?_
   repeat first | refine aK ?_ | refine aP ?_
   refine wp_block ?_
   refine aO ?_
   refine wp_pure HF HM rfl 1 [] [(0, aB fb), (1, ay tg), (7, .slice (some ⟨tb, 8 * i, none⟩) r r), (10, aC tx q.data.length q.data.length), (11, aN), (12, aF 0)] (by kernel_rfl) fun a HF => ?_
   refine dF ?_
   refine wp_pure HF HM rfl 1 [] [(0, aB fb), (1, ay tg), (7, .slice (some ⟨tb, 8 * i, none⟩) r r), (10, aC tx q.data.length q.data.length), (11, aN), (12, aF 0), (13, bH 0)] (by kernel_rfl) fun a HF => ?_
   refine aA ?_
   refine wp_seq ?_
   refine aO ?_
   refine wp_pure HF HM rfl 5 [[2]] [(0, aB fb), (1, ay tg), (7, .slice (some ⟨tb, 8 * i, none⟩) r r), (10, aC tx q.data.length q.data.length), (11, aN), (12, aF 0), (13, bH 0), (67, aQ 1)] (by kernel_rfl) fun a HF => ?_
   refine aA ?_
   refine wp_block ?_
   refine aO ?_
   refine wp_pure HF HM rfl 2 [] [(0, aB fb), (1, ay tg), (7, .slice (some ⟨tb, 8 * i, none⟩) r r), (10, aC tx q.data.length q.data.length), (11, aN), (12, aF 0), (13, bH 0), (67, aQ 1), (68, .bool true)] (by kernel_rfl) fun a HF => ?_
   refine aA ?_
   refine bD HF rfl ?_
   refine jS HM (by kernel_rfl) [iI fb x aV pg, (tx, .cells (q.data.map Bv).toArray 5 (0, 0)), (tb, .cells (p.data.map Bv).toArray 5 (0, 0))] [(0, false), (1, false), (2, false), (3, false), (4, false), (5, false), (6, false), (7, true), (8, false), (9, false)] (by kernel_rfl) fun w4 HM => ?_
   refine bI HF (HM.told [0, 1, 2] rfl) 6 [[2]] [(0, aB fb), (1, ay tg), (7, .slice (some ⟨tb, 8 * i, none⟩) r r), (10, aC tx q.data.length q.data.length), (11, aN), (74, (aS x.img.big)), (75, .slice (some ⟨tb, 8 * i, none⟩) r r)] (by kernel_rfl) fun a HF => ?_
   refine dL rfl HF (HM.told [0, 1, 2] rfl) rfl (.slice (some ⟨tb, 8 * i + 0, none⟩) 4 (r - 0)) (by kernel_rfl) (fun w hw => oG Tryd.underlying33 sN hs8 rfl 0 4 4 (kk := .i64) (kh := .i64) rfl rfl rfl rfl (by omega) (by omega) w) ?_
   clear HF; intro a HF; replace HF := HF.sub [(0, aB fb), (1, ay tg), (7, .slice (some ⟨tb, 8 * i, none⟩) r r), (10, aC tx q.data.length q.data.length), (11, aN), (74, (aS x.img.big)), (76, .slice (some ⟨tb, 8 * i + 0, none⟩) 4 (r - 0))] (by kernel_rfl)
   refine bW rfl ?_
   refine bf HF (by kernel_rfl) 87 #[(aS x.img.big), .slice (some ⟨tb, 8 * i + 0, none⟩) 4 (r - 0)] (by kernel_rfl) (fun w => by kernel_rfl) (Calls.mono (wO (HM.get (i := 2) rfl) x.img.big (8 * i + 0) _ (by omega) (by omega) (by unfold maxLen; omega) _ (by rw [oC])) ?_)
   rintro _ w5 ⟨rfl, nq, hq⟩
   replace HM : Mm [fb] w0 w5 [iI fb x aV pg, (tx, .cells (q.data.map Bv).toArray 5 (0, 0)), (tb, .cells (p.data.map Bv).toArray 5 (0, 0))] := by rw [hq]; exact HM.drewN nq
   clear hq nq
   refine ⟨_, rfl, ?_⟩; clear HF; intro a HF
   replace HF := HF.sub [(0, aB fb), (1, ay tg), (7, .slice (some ⟨tb, 8 * i, none⟩) r r), (10, aC tx q.data.length q.data.length), (11, aN), (77, bn pr.1)] (by kernel_rfl)
   refine dH (HM.told [0, 1, 2] rfl) ?_
   refine bI HF (HM.told [0, 1, 2] rfl) 1 [] [(0, aB fb), (1, ay tg), (7, .slice (some ⟨tb, 8 * i, none⟩) r r), (10, aC tx q.data.length q.data.length), (11, aN), (78, aF (IntKind.i64.wrap ((pr.1 : Nat) : Int)))] (by kernel_rfl) fun a HF => ?_
   rw [show IntKind.i64.wrap ((pr.1 : Nat) : Int) = ((pr.1 : Nat) : Int) from IntWalk.i64_in _ (by omega)] at HF
   refine bI HF (HM.told [0, 1, 2] rfl) 1 [] [(0, aB fb), (1, ay tg), (7, .slice (some ⟨tb, 8 * i, none⟩) r r), (10, aC tx q.data.length q.data.length), (11, aN), (12, ay pr.1)] (by kernel_rfl) fun a HF => ?_
   refine iM ?_
   refine aK ?_
   refine jS HM (by kernel_rfl) [iI fb x aV pg, (tx, .cells (q.data.map Bv).toArray 5 (0, 0)), (tb, .cells (p.data.map Bv).toArray 5 (0, 0))] [(0, false), (1, false), (2, false), (3, false), (4, false), (5, false), (6, false), (7, true), (8, false), (9, false)] (by kernel_rfl) fun w6 HM => ?_
   refine bI HF (HM.told [0, 1, 2] rfl) 6 [[2]] [(0, aB fb), (1, ay tg), (7, .slice (some ⟨tb, 8 * i, none⟩) r r), (10, aC tx q.data.length q.data.length), (11, aN), (12, ay pr.1), (83, (aS x.img.big)), (84, .slice (some ⟨tb, 8 * i, none⟩) r r)] (by kernel_rfl) fun a HF => ?_
   refine dL rfl HF (HM.told [0, 1, 2] rfl) rfl (.slice (some ⟨tb, 8 * i + 4, none⟩) 4 (r - 4)) (by kernel_rfl) (fun w hw => oG Tryd.underlying33 sN hs8 rfl 4 8 4 (kk := .i64) (kh := .i64) rfl rfl rfl rfl (by omega) (by omega) w) ?_
   clear HF; intro a HF; replace HF := HF.sub [(0, aB fb), (1, ay tg), (7, .slice (some ⟨tb, 8 * i, none⟩) r r), (10, aC tx q.data.length q.data.length), (11, aN), (12, ay pr.1), (83, (aS x.img.big)), (85, .slice (some ⟨tb, 8 * i + 4, none⟩) 4 (r - 4))] (by kernel_rfl)
   refine bW rfl ?_
   refine bf HF (by kernel_rfl) 87 #[(aS x.img.big), .slice (some ⟨tb, 8 * i + 4, none⟩) 4 (r - 4)] (by kernel_rfl) (fun w => by kernel_rfl) (Calls.mono (wO (HM.get (i := 2) rfl) x.img.big (8 * i + 4) _ (by omega) (by omega) (by unfold maxLen; omega) _ (by rw [oz])) ?_)
   rintro _ w7 ⟨rfl, nq, hq⟩
   replace HM : Mm [fb] w0 w7 [iI fb x aV pg, (tx, .cells (q.data.map Bv).toArray 5 (0, 0)), (tb, .cells (p.data.map Bv).toArray 5 (0, 0))] := by rw [hq]; exact HM.drewN nq
   clear hq nq
   refine ⟨_, rfl, ?_⟩; clear HF; intro a HF
   replace HF := HF.sub [(0, aB fb), (1, ay tg), (7, .slice (some ⟨tb, 8 * i, none⟩) r r), (10, aC tx q.data.length q.data.length), (11, aN), (12, ay pr.1), (86, bn pr.2)] (by kernel_rfl)
   refine dH (HM.told [0, 1, 2] rfl) ?_
   refine bI HF (HM.told [0, 1, 2] rfl) 1 [] [(0, aB fb), (1, ay tg), (7, .slice (some ⟨tb, 8 * i, none⟩) r r), (10, aC tx q.data.length q.data.length), (11, aN), (12, ay pr.1), (87, bH (IntKind.u64.wrap ((pr.2 : Nat) : Int)))] (by kernel_rfl) fun a HF => ?_
   rw [show IntKind.u64.wrap ((pr.2 : Nat) : Int) = ((pr.2 : Nat) : Int) from IntWalk.u64_in _ (by omega)] at HF
   refine bI HF (HM.told [0, 1, 2] rfl) 1 [] [(0, aB fb), (1, ay tg), (7, .slice (some ⟨tb, 8 * i, none⟩) r r), (10, aC tx q.data.length q.data.length), (11, aN), (12, ay pr.1), (13, aI pr.2)] (by kernel_rfl) fun a HF => ?_
   refine iM ?_
   refine aK ?_
   refine wp_region_lit ?_
   refine wp_pure HF HM rfl 1 [] [(0, aB fb), (1, ay tg), (10, aC tx q.data.length q.data.length), (11, aN), (12, ay pr.1), (13, aI pr.2), (88, .slice (some ⟨tb, 8 * i, none⟩) r r)] (by kernel_rfl) fun a HF => ?_
   obtain ⟨r28, hr28⟩ : ∃ q, 8 + q = r := ⟨r - 8, by omega⟩
   refine dG HF (by kernel_rfl) (.slice (some ⟨tb, if r28 = 0 then 8 * i else 8 * i + 8, none⟩) r28 r28) (by kernel_rfl) (uO Tryd.underlying33 sN hs8 rfl 8 r28 (kk := .i64) rfl rfl (by omega) hr28 rfl w7) fun a HF => ?_
   refine wp_pure HF HM rfl 1 [] [(0, aB fb), (1, ay tg), (7, .slice (some ⟨tb, if r28 = 0 then 8 * i else 8 * i + 8, none⟩) r28 r28), (10, aC tx q.data.length q.data.length), (11, aN), (12, ay pr.1), (13, aI pr.2)] (by kernel_rfl) fun a HF => ?_
   refine wpList_nil ?_
   repeat first | refine aK ?_ | refine aP ?_
   refine aO ?_
   refine wp_pure HF HM rfl 3 [] [(0, aB fb), (1, ay tg), (7, .slice (some ⟨tb, if r28 = 0 then 8 * i else 8 * i + 8, none⟩) r28 r28), (10, aC tx q.data.length q.data.length), (11, aN), (13, aI pr.2), (113, .bool (((pr.1 : Nat) : Int) == ((tg : Nat) : Int)))] (by kernel_rfl) fun a HF => ?_
   refine aA ?_
   by_cases hc4 : ((pr.1 : Nat) : Int) = ((tg : Nat) : Int)
   ·rw [show (((pr.1 : Nat) : Int) == ((tg : Nat) : Int)) = true from nZ (hc4)] at HF
    refine bD HF rfl ?_
    refine aO ?_
    refine wp_pure HF HM rfl 2 [] [(0, aB fb), (1, ay tg), (7, .slice (some ⟨tb, if r28 = 0 then 8 * i else 8 * i + 8, none⟩) r28 r28), (10, aC tx q.data.length q.data.length), (11, aN), (115, aC tx q.data.length q.data.length), (116, aI pr.2)] (by kernel_rfl) fun a HF => ?_
    obtain ⟨hpl, tx_, hst⟩ := hstr pr (List.mem_of_getElem? hpr) (Int.ofNat.inj hc4)
    have KT := KU; rw [uV] at KT
    refine wp_pure HF HM rfl 1 [] [(0, aB fb), (1, ay tg), (7, .slice (some ⟨tb, if r28 = 0 then 8 * i else 8 * i + 8, none⟩) r28 r28), (10, aC tx q.data.length q.data.length), (11, aN), (115, aC tx q.data.length q.data.length), (117, aF (IntKind.i64.wrap ((pr.2 : Nat) : Int)))] (by kernel_rfl) fun a HF => ?_
    rw [show IntKind.i64.wrap ((pr.2 : Nat) : Int) = ((pr.2 : Nat) : Int) from IntWalk.i64_in _ (by omega)] at HF
    refine bf HF (by kernel_rfl) 91 #[aC tx q.data.length q.data.length, ay pr.2] (by kernel_rfl) (fun w => by kernel_rfl) (Calls.mono (uY _ q.data _ _ pr.2 rfl (Nat.le_refl _) (by unfold maxLen; omega) (by rw [uV]; exact hpl) w7 (nJ (HM.get (i := 1) rfl))) ?_)
    rintro _ w8 ⟨rfl, hq⟩; subst hq
    refine ⟨_, rfl, ?_⟩; clear HF; intro a HF
    rw [show Ai (kR q.data pr.2) = .tuple #[.string ⟨(kW (aZ ts) pr.2).toArray⟩, .bool true] from by rw [uV]; unfold kW; rw [hst]; rfl] at HF
    refine wp_pure HF HM rfl 5 [] [(0, aB fb), (1, ay tg), (7, .slice (some ⟨tb, if r28 = 0 then 8 * i else 8 * i + 8, none⟩) r28 r28), (10, aC tx q.data.length q.data.length), (11, aN), (14, .string (⟨(kW (aZ ts) pr.2).toArray⟩)), (15, .bool true)] (by kernel_rfl) fun a HF => ?_
    refine dF ?_
    refine wp_pure HF HM rfl 1 [] [(0, aB fb), (1, ay tg), (7, .slice (some ⟨tb, if r28 = 0 then 8 * i else 8 * i + 8, none⟩) r28 r28), (10, aC tx q.data.length q.data.length), (11, aN), (14, .string (⟨(kW (aZ ts) pr.2).toArray⟩)), (121, .bool true)] (by kernel_rfl) fun a HF => ?_
    refine aA ?_
    refine bD HF rfl ?_
    refine wp_region_lit ?_
    obtain ⟨z35, KL⟩ : ∃ z, w7.heap.size = z := ⟨_, rfl⟩
    refine aT HF HM KL 3 [] [(0, aB fb), (1, ay tg), (7, .slice (some ⟨tb, if r28 = 0 then 8 * i else 8 * i + 8, none⟩) r28 r28), (10, aC tx q.data.length q.data.length), (122, aN), (124, aC z35 1 1)] [(z35, .cells #[.string (⟨(kW (aZ ts) pr.2).toArray⟩)] 9 (0, 0)), iI fb x aV pg, (tx, .cells (q.data.map Bv).toArray 5 (0, 0)), (tb, .cells (p.data.map Bv).toArray 5 (0, 0))] (by kernel_rfl) fun a w HF HM => ?_
    clear KL
    refine oH HF HM rfl _ _ 38 rfl rfl 9 (z := .string (⟨#[]⟩ : ByteArray)) (size := 1) (bytes := 16) Tryd.underlying38 (by kernel_rfl) rfl (by decide) rfl (some ⟨z35, 0, none⟩) 1 1 ([.string (⟨(kW (aZ ts) pr.2).toArray⟩)]) rfl rfl (by omega) (HM.rowAt (i := 0) rfl) (lu rfl) (by unfold maxLen; omega) (by omega) ?_
    intro a w9 g5 cap5 rW bT rQ hsz5 x9 Fa hbel HF2; clear HF HM hbel
    have HM : Mm [fb] w0 w9 [(g5, .cells rW 9 (0, 0)), (z35, .cells #[.string (⟨(kW (aZ ts) pr.2).toArray⟩)] 9 (0, 0)), iI fb x aV pg, (tx, .cells (q.data.map Bv).toArray 5 (0, 0)), (tb, .cells (p.data.map Bv).toArray 5 (0, 0))] := bT
    have HF := HF2.sub [(0, aB fb), (1, ay tg), (7, .slice (some ⟨tb, if r28 = 0 then 8 * i else 8 * i + 8, none⟩) r28 r28), (10, aC tx q.data.length q.data.length), (125, aC g5 1 cap5)] (by kernel_rfl); clear bT HF2
    refine wp_pure HF HM rfl 1 [] [(0, aB fb), (1, ay tg), (7, .slice (some ⟨tb, if r28 = 0 then 8 * i else 8 * i + 8, none⟩) r28 r28), (10, aC tx q.data.length q.data.length), (11, aC g5 1 cap5)] (by kernel_rfl) fun a HF => ?_
    refine wpList_nil ?_
    repeat first | refine aK ?_ | refine aP ?_
    have hl1 : 1 = ((dh (aZ ts) ps tg (i + 1)).length) := by rw [uK hpr hc4, h0]; rfl
    replace HF := Fr.tell HF 11 rfl (show Value.slice (some ⟨g5, 0, none⟩) 1 cap5 = Value.slice (some ⟨g5, 0, none⟩) ((dh (aZ ts) ps tg (i + 1)).length) cap5 from congrArg (fun q => Value.slice (some ⟨g5, 0, none⟩) q cap5) hl1)
    replace rQ : rW.toList.take (((dh (aZ ts) ps tg (i + 1)).length) * 1) = [.string (⟨(kW (aZ ts) pr.2).toArray⟩)] := by rw [← hl1]; exact rQ
    replace x9 : ((dh (aZ ts) ps tg (i + 1)).length) ≤ cap5 := by rw [← hl1]; exact x9
    replace rQ : rW.toList.take (((dh (aZ ts) ps tg (i + 1)).length) * 1) = (dh (aZ ts) ps tg (i + 1)).map lq := rQ.trans (by rw [uK hpr hc4]; rw [h0]; rfl)
    exact KR _ _ (Or.inr <| ⟨if r28 = 0 then 8 * i else 8 * i + 8, r28, g5, cap5, rW, fun hlt => by rw [if_neg (by omega)]; omega, by omega, rQ, hsz5, x9, Fa, (HM.pick [0, 2, 3, 4] [(g5, .cells rW 9 (0, 0)), iI fb x aV pg, (tx, .cells (q.data.map Bv).toArray 5 (0, 0)), (tb, .cells (p.data.map Bv).toArray 5 (0, 0))] rfl (by decide)), HF.sub [(0, aB fb), (1, ay tg), (7, .slice (some ⟨tb, if r28 = 0 then 8 * i else 8 * i + 8, none⟩) r28 r28), (10, aC tx q.data.length q.data.length), (11, aC g5 ((dh (aZ ts) ps tg (i + 1)).length) cap5)] (by kernel_rfl)⟩)
   rw [show (((pr.1 : Nat) : Int) == ((tg : Nat) : Int)) = false from oM (hc4)] at HF
   refine aY HF rfl ?_
   refine wp_skip ?_
   repeat first | refine aK ?_ | refine aP ?_
   exact KR _ _ (Or.inl <| ⟨if r28 = 0 then 8 * i else 8 * i + 8, r28, fun hlt => by rw [if_neg (by omega)]; omega, by omega, ((Af hpr hc4).trans h0), HM, HF.sub [(0, aB fb), (1, ay tg), (7, .slice (some ⟨tb, if r28 = 0 then 8 * i else 8 * i + 8, none⟩) r28 r28), (10, aC tx q.data.length q.data.length), (11, aN)] (by kernel_rfl)⟩)
  ·obtain ⟨o, r, og, oc, ok, ho, hr, lX, sG, pU, sH, HM, HF⟩ := hI
   obtain rfl := ho hi
   obtain ⟨pr, hpr⟩ : ∃ m, ps[i]? = some m := ⟨_, List.getElem?_eq_getElem hi⟩
   have ht1 := hd.tag pr (List.mem_of_getElem? hpr); have ht2 := hval pr (List.mem_of_getElem? hpr)
   obtain ⟨oC, oz⟩ := wW false x.img.big ps p.data xZ i pr hpr 4 rfl (Nat.lt_of_lt_of_le ht1 (by decide)) ht2
   have hsl := yH (aZ ts) ps tg i
   simp only [Nat.reduceMul] at oC oz
   have ht3 : pr.2 < 4294967296 := ht2
   refine wp_seq ?_
   refine aO ?_
   refine wp_pure HF HM rfl 3 [] [(0, aB fb), (1, ay tg), (7, .slice (some ⟨tb, 8 * i, none⟩) r r), (10, aC tx q.data.length q.data.length), (11, aC og ((dh (aZ ts) ps tg i).length) oc), (62, .bool (decide (0 < ((r : Nat) : Int))))] (by kernel_rfl) fun a HF => ?_
   refine aA ?_
   rw [show decide (0 < ((r : Nat) : Int)) = true from dK (by omega)] at HF
   refine bD HF rfl ?_
   refine wp_skip ?_
   repeat first | refine aK ?_ | refine aP ?_
   refine wp_block ?_
   refine aO ?_
   refine wp_pure HF HM rfl 1 [] [(0, aB fb), (1, ay tg), (7, .slice (some ⟨tb, 8 * i, none⟩) r r), (10, aC tx q.data.length q.data.length), (11, aC og ((dh (aZ ts) ps tg i).length) oc), (12, aF 0)] (by kernel_rfl) fun a HF => ?_
   refine dF ?_
   refine wp_pure HF HM rfl 1 [] [(0, aB fb), (1, ay tg), (7, .slice (some ⟨tb, 8 * i, none⟩) r r), (10, aC tx q.data.length q.data.length), (11, aC og ((dh (aZ ts) ps tg i).length) oc), (12, aF 0), (13, bH 0)] (by kernel_rfl) fun a HF => ?_
   refine aA ?_
   refine wp_seq ?_
   refine aO ?_
   refine wp_pure HF HM rfl 5 [[2]] [(0, aB fb), (1, ay tg), (7, .slice (some ⟨tb, 8 * i, none⟩) r r), (10, aC tx q.data.length q.data.length), (11, aC og ((dh (aZ ts) ps tg i).length) oc), (12, aF 0), (13, bH 0), (67, aQ 1)] (by kernel_rfl) fun a HF => ?_
   refine aA ?_
   refine wp_block ?_
   refine aO ?_
   refine wp_pure HF HM rfl 2 [] [(0, aB fb), (1, ay tg), (7, .slice (some ⟨tb, 8 * i, none⟩) r r), (10, aC tx q.data.length q.data.length), (11, aC og ((dh (aZ ts) ps tg i).length) oc), (12, aF 0), (13, bH 0), (67, aQ 1), (68, .bool true)] (by kernel_rfl) fun a HF => ?_
   refine aA ?_
   refine bD HF rfl ?_
   refine jS HM (by kernel_rfl) [(og, .cells ok 9 (0, 0)), iI fb x aV pg, (tx, .cells (q.data.map Bv).toArray 5 (0, 0)), (tb, .cells (p.data.map Bv).toArray 5 (0, 0))] [(0, false), (1, false), (2, false), (3, false), (4, false), (5, false), (6, false), (7, true), (8, false), (9, false)] (by kernel_rfl) fun w10 HM => ?_
   refine bI HF (HM.told [0, 1, 2, 3] rfl) 6 [[2]] [(0, aB fb), (1, ay tg), (7, .slice (some ⟨tb, 8 * i, none⟩) r r), (10, aC tx q.data.length q.data.length), (11, aC og ((dh (aZ ts) ps tg i).length) oc), (74, (aS x.img.big)), (75, .slice (some ⟨tb, 8 * i, none⟩) r r)] (by kernel_rfl) fun a HF => ?_
   refine dL rfl HF (HM.told [0, 1, 2, 3] rfl) rfl (.slice (some ⟨tb, 8 * i + 0, none⟩) 4 (r - 0)) (by kernel_rfl) (fun w hw => oG Tryd.underlying33 sN hs8 rfl 0 4 4 (kk := .i64) (kh := .i64) rfl rfl rfl rfl (by omega) (by omega) w) ?_
   clear HF; intro a HF; replace HF := HF.sub [(0, aB fb), (1, ay tg), (7, .slice (some ⟨tb, 8 * i, none⟩) r r), (10, aC tx q.data.length q.data.length), (11, aC og ((dh (aZ ts) ps tg i).length) oc), (74, (aS x.img.big)), (76, .slice (some ⟨tb, 8 * i + 0, none⟩) 4 (r - 0))] (by kernel_rfl)
   refine bW rfl ?_
   refine bf HF (by kernel_rfl) 87 #[(aS x.img.big), .slice (some ⟨tb, 8 * i + 0, none⟩) 4 (r - 0)] (by kernel_rfl) (fun w => by kernel_rfl) (Calls.mono (wO (HM.get (i := 3) rfl) x.img.big (8 * i + 0) _ (by omega) (by omega) (by unfold maxLen; omega) _ (by rw [oC])) ?_)
   rintro _ qU ⟨rfl, nq, hq⟩
   replace HM : Mm [fb] w0 qU [(og, .cells ok 9 (0, 0)), iI fb x aV pg, (tx, .cells (q.data.map Bv).toArray 5 (0, 0)), (tb, .cells (p.data.map Bv).toArray 5 (0, 0))] := by rw [hq]; exact HM.drewN nq
   clear hq nq
   refine ⟨_, rfl, ?_⟩; clear HF; intro a HF
   replace HF := HF.sub [(0, aB fb), (1, ay tg), (7, .slice (some ⟨tb, 8 * i, none⟩) r r), (10, aC tx q.data.length q.data.length), (11, aC og ((dh (aZ ts) ps tg i).length) oc), (77, bn pr.1)] (by kernel_rfl)
   refine dH (HM.told [0, 1, 2, 3] rfl) ?_
   refine bI HF (HM.told [0, 1, 2, 3] rfl) 1 [] [(0, aB fb), (1, ay tg), (7, .slice (some ⟨tb, 8 * i, none⟩) r r), (10, aC tx q.data.length q.data.length), (11, aC og ((dh (aZ ts) ps tg i).length) oc), (78, aF (IntKind.i64.wrap ((pr.1 : Nat) : Int)))] (by kernel_rfl) fun a HF => ?_
   rw [show IntKind.i64.wrap ((pr.1 : Nat) : Int) = ((pr.1 : Nat) : Int) from IntWalk.i64_in _ (by omega)] at HF
   refine bI HF (HM.told [0, 1, 2, 3] rfl) 1 [] [(0, aB fb), (1, ay tg), (7, .slice (some ⟨tb, 8 * i, none⟩) r r), (10, aC tx q.data.length q.data.length), (11, aC og ((dh (aZ ts) ps tg i).length) oc), (12, ay pr.1)] (by kernel_rfl) fun a HF => ?_
   refine iM ?_
   refine aK ?_
   refine jS HM (by kernel_rfl) [(og, .cells ok 9 (0, 0)), iI fb x aV pg, (tx, .cells (q.data.map Bv).toArray 5 (0, 0)), (tb, .cells (p.data.map Bv).toArray 5 (0, 0))] [(0, false), (1, false), (2, false), (3, false), (4, false), (5, false), (6, false), (7, true), (8, false), (9, false)] (by kernel_rfl) fun w12 HM => ?_
   refine bI HF (HM.told [0, 1, 2, 3] rfl) 6 [[2]] [(0, aB fb), (1, ay tg), (7, .slice (some ⟨tb, 8 * i, none⟩) r r), (10, aC tx q.data.length q.data.length), (11, aC og ((dh (aZ ts) ps tg i).length) oc), (12, ay pr.1), (83, (aS x.img.big)), (84, .slice (some ⟨tb, 8 * i, none⟩) r r)] (by kernel_rfl) fun a HF => ?_
   refine dL rfl HF (HM.told [0, 1, 2, 3] rfl) rfl (.slice (some ⟨tb, 8 * i + 4, none⟩) 4 (r - 4)) (by kernel_rfl) (fun w hw => oG Tryd.underlying33 sN hs8 rfl 4 8 4 (kk := .i64) (kh := .i64) rfl rfl rfl rfl (by omega) (by omega) w) ?_
   clear HF; intro a HF; replace HF := HF.sub [(0, aB fb), (1, ay tg), (7, .slice (some ⟨tb, 8 * i, none⟩) r r), (10, aC tx q.data.length q.data.length), (11, aC og ((dh (aZ ts) ps tg i).length) oc), (12, ay pr.1), (83, (aS x.img.big)), (85, .slice (some ⟨tb, 8 * i + 4, none⟩) 4 (r - 4))] (by kernel_rfl)
   refine bW rfl ?_
   refine bf HF (by kernel_rfl) 87 #[(aS x.img.big), .slice (some ⟨tb, 8 * i + 4, none⟩) 4 (r - 4)] (by kernel_rfl) (fun w => by kernel_rfl) (Calls.mono (wO (HM.get (i := 3) rfl) x.img.big (8 * i + 4) _ (by omega) (by omega) (by unfold maxLen; omega) _ (by rw [oz])) ?_)
   rintro _ uI ⟨rfl, nq, hq⟩
   replace HM : Mm [fb] w0 uI [(og, .cells ok 9 (0, 0)), iI fb x aV pg, (tx, .cells (q.data.map Bv).toArray 5 (0, 0)), (tb, .cells (p.data.map Bv).toArray 5 (0, 0))] := by rw [hq]; exact HM.drewN nq
   clear hq nq
   refine ⟨_, rfl, ?_⟩; clear HF; intro a HF
   replace HF := HF.sub [(0, aB fb), (1, ay tg), (7, .slice (some ⟨tb, 8 * i, none⟩) r r), (10, aC tx q.data.length q.data.length), (11, aC og ((dh (aZ ts) ps tg i).length) oc), (12, ay pr.1), (86, bn pr.2)] (by kernel_rfl)
   refine dH (HM.told [0, 1, 2, 3] rfl) ?_
   refine bI HF (HM.told [0, 1, 2, 3] rfl) 1 [] [(0, aB fb), (1, ay tg), (7, .slice (some ⟨tb, 8 * i, none⟩) r r), (10, aC tx q.data.length q.data.length), (11, aC og ((dh (aZ ts) ps tg i).length) oc), (12, ay pr.1), (87, bH (IntKind.u64.wrap ((pr.2 : Nat) : Int)))] (by kernel_rfl) fun a HF => ?_
   rw [show IntKind.u64.wrap ((pr.2 : Nat) : Int) = ((pr.2 : Nat) : Int) from IntWalk.u64_in _ (by omega)] at HF
   refine bI HF (HM.told [0, 1, 2, 3] rfl) 1 [] [(0, aB fb), (1, ay tg), (7, .slice (some ⟨tb, 8 * i, none⟩) r r), (10, aC tx q.data.length q.data.length), (11, aC og ((dh (aZ ts) ps tg i).length) oc), (12, ay pr.1), (13, aI pr.2)] (by kernel_rfl) fun a HF => ?_
   refine iM ?_
   refine aK ?_
   refine wp_region_lit ?_
   refine wp_pure HF HM rfl 1 [] [(0, aB fb), (1, ay tg), (10, aC tx q.data.length q.data.length), (11, aC og ((dh (aZ ts) ps tg i).length) oc), (12, ay pr.1), (13, aI pr.2), (88, .slice (some ⟨tb, 8 * i, none⟩) r r)] (by kernel_rfl) fun a HF => ?_
   obtain ⟨nV, hr43⟩ : ∃ q, 8 + q = r := ⟨r - 8, by omega⟩
   refine dG HF (by kernel_rfl) (.slice (some ⟨tb, if nV = 0 then 8 * i else 8 * i + 8, none⟩) nV nV) (by kernel_rfl) (uO Tryd.underlying33 sN hs8 rfl 8 nV (kk := .i64) rfl rfl (by omega) hr43 rfl uI) fun a HF => ?_
   refine wp_pure HF HM rfl 1 [] [(0, aB fb), (1, ay tg), (7, .slice (some ⟨tb, if nV = 0 then 8 * i else 8 * i + 8, none⟩) nV nV), (10, aC tx q.data.length q.data.length), (11, aC og ((dh (aZ ts) ps tg i).length) oc), (12, ay pr.1), (13, aI pr.2)] (by kernel_rfl) fun a HF => ?_
   refine wpList_nil ?_
   repeat first | refine aK ?_ | refine aP ?_
   refine aO ?_
   refine wp_pure HF HM rfl 3 [] [(0, aB fb), (1, ay tg), (7, .slice (some ⟨tb, if nV = 0 then 8 * i else 8 * i + 8, none⟩) nV nV), (10, aC tx q.data.length q.data.length), (11, aC og ((dh (aZ ts) ps tg i).length) oc), (13, aI pr.2), (113, .bool (((pr.1 : Nat) : Int) == ((tg : Nat) : Int)))] (by kernel_rfl) fun a HF => ?_
   refine aA ?_
   by_cases hc6 : ((pr.1 : Nat) : Int) = ((tg : Nat) : Int)
   ·rw [show (((pr.1 : Nat) : Int) == ((tg : Nat) : Int)) = true from nZ (hc6)] at HF
    refine bD HF rfl ?_
    refine aO ?_
    refine wp_pure HF HM rfl 2 [] [(0, aB fb), (1, ay tg), (7, .slice (some ⟨tb, if nV = 0 then 8 * i else 8 * i + 8, none⟩) nV nV), (10, aC tx q.data.length q.data.length), (11, aC og ((dh (aZ ts) ps tg i).length) oc), (115, aC tx q.data.length q.data.length), (116, aI pr.2)] (by kernel_rfl) fun a HF => ?_
    obtain ⟨hpl, tx_, hst⟩ := hstr pr (List.mem_of_getElem? hpr) (Int.ofNat.inj hc6)
    have KT := KU; rw [uV] at KT
    refine wp_pure HF HM rfl 1 [] [(0, aB fb), (1, ay tg), (7, .slice (some ⟨tb, if nV = 0 then 8 * i else 8 * i + 8, none⟩) nV nV), (10, aC tx q.data.length q.data.length), (11, aC og ((dh (aZ ts) ps tg i).length) oc), (115, aC tx q.data.length q.data.length), (117, aF (IntKind.i64.wrap ((pr.2 : Nat) : Int)))] (by kernel_rfl) fun a HF => ?_
    rw [show IntKind.i64.wrap ((pr.2 : Nat) : Int) = ((pr.2 : Nat) : Int) from IntWalk.i64_in _ (by omega)] at HF
    refine bf HF (by kernel_rfl) 91 #[aC tx q.data.length q.data.length, ay pr.2] (by kernel_rfl) (fun w => by kernel_rfl) (Calls.mono (uY _ q.data _ _ pr.2 rfl (Nat.le_refl _) (by unfold maxLen; omega) (by rw [uV]; exact hpl) uI (nJ (HM.get (i := 2) rfl))) ?_)
    rintro _ Ey ⟨rfl, hq⟩; subst hq
    refine ⟨_, rfl, ?_⟩; clear HF; intro a HF
    rw [show Ai (kR q.data pr.2) = .tuple #[.string ⟨(kW (aZ ts) pr.2).toArray⟩, .bool true] from by rw [uV]; unfold kW; rw [hst]; rfl] at HF
    refine wp_pure HF HM rfl 5 [] [(0, aB fb), (1, ay tg), (7, .slice (some ⟨tb, if nV = 0 then 8 * i else 8 * i + 8, none⟩) nV nV), (10, aC tx q.data.length q.data.length), (11, aC og ((dh (aZ ts) ps tg i).length) oc), (14, .string (⟨(kW (aZ ts) pr.2).toArray⟩)), (15, .bool true)] (by kernel_rfl) fun a HF => ?_
    refine dF ?_
    refine wp_pure HF HM rfl 1 [] [(0, aB fb), (1, ay tg), (7, .slice (some ⟨tb, if nV = 0 then 8 * i else 8 * i + 8, none⟩) nV nV), (10, aC tx q.data.length q.data.length), (11, aC og ((dh (aZ ts) ps tg i).length) oc), (14, .string (⟨(kW (aZ ts) pr.2).toArray⟩)), (121, .bool true)] (by kernel_rfl) fun a HF => ?_
    refine aA ?_
    refine bD HF rfl ?_
    refine wp_region_lit ?_
    obtain ⟨z50, hz50⟩ : ∃ z, uI.heap.size = z := ⟨_, rfl⟩
    refine aT HF HM hz50 3 [] [(0, aB fb), (1, ay tg), (7, .slice (some ⟨tb, if nV = 0 then 8 * i else 8 * i + 8, none⟩) nV nV), (10, aC tx q.data.length q.data.length), (122, aC og ((dh (aZ ts) ps tg i).length) oc), (124, aC z50 1 1)] [(z50, .cells #[.string (⟨(kW (aZ ts) pr.2).toArray⟩)] 9 (0, 0)), (og, .cells ok 9 (0, 0)), iI fb x aV pg, (tx, .cells (q.data.map Bv).toArray 5 (0, 0)), (tb, .cells (p.data.map Bv).toArray 5 (0, 0))] (by kernel_rfl) fun a w HF HM => ?_
    clear hz50
    refine fZ HF HM rfl _ _ 38 38 rfl rfl 9 (z := .string (⟨#[]⟩ : ByteArray)) (size := 1) (bytes := 16) Tryd.underlying38 (by kernel_rfl) rfl (by decide) 1 og ((dh (aZ ts) ps tg i).length) oc ok rfl rfl pU sH sG ((dh (aZ ts) ps tg i).map lq) lX (aC z50 1 1) 1 [.string (⟨(kW (aZ ts) pr.2).toArray⟩)] rfl (lW Tryd.underlying38 rfl (by decide) (HM.rowAt (i := 0) rfl) (lu rfl)) (by unfold maxLen; omega) (by omega) ?_
    intro a Bg g7 Ee vZ bT Ec Qw KY QF HF2; clear HF HM
    have HM : Mm [fb] w0 Bg [(z50, .cells #[.string (⟨(kW (aZ ts) pr.2).toArray⟩)] 9 (0, 0)), (g7, .cells vZ 9 (0, 0)), iI fb x aV pg, (tx, .cells (q.data.map Bv).toArray 5 (0, 0)), (tb, .cells (p.data.map Bv).toArray 5 (0, 0))] := bT
    have HF := HF2.sub [(0, aB fb), (1, ay tg), (7, .slice (some ⟨tb, if nV = 0 then 8 * i else 8 * i + 8, none⟩) nV nV), (10, aC tx q.data.length q.data.length), (125, aC g7 (((dh (aZ ts) ps tg i).length) + 1) Ee)] (by kernel_rfl); clear bT HF2
    refine wp_pure HF HM rfl 1 [] [(0, aB fb), (1, ay tg), (7, .slice (some ⟨tb, if nV = 0 then 8 * i else 8 * i + 8, none⟩) nV nV), (10, aC tx q.data.length q.data.length), (11, aC g7 (((dh (aZ ts) ps tg i).length) + 1) Ee)] (by kernel_rfl) fun a HF => ?_
    refine wpList_nil ?_
    repeat first | refine aK ?_ | refine aP ?_
    rw [show (((dh (aZ ts) ps tg i).length) + 1) = ((dh (aZ ts) ps tg (i + 1)).length) from by rw [uK hpr hc6, List.length_append]; rfl] at HF Ec KY
    replace Ec : vZ.toList.take (((dh (aZ ts) ps tg (i + 1)).length) * 1) = (dh (aZ ts) ps tg (i + 1)).map lq := Ec.trans (by rw [uK hpr hc6]; rw [List.map_append]; rfl)
    exact KR _ _ (Or.inr <| ⟨if nV = 0 then 8 * i else 8 * i + 8, nV, g7, Ee, vZ, fun hlt => by rw [if_neg (by omega)]; omega, by omega, Ec, Qw, KY, QF, (HM.pick [1, 2, 3, 4] [(g7, .cells vZ 9 (0, 0)), iI fb x aV pg, (tx, .cells (q.data.map Bv).toArray 5 (0, 0)), (tb, .cells (p.data.map Bv).toArray 5 (0, 0))] rfl (by decide)), HF.sub [(0, aB fb), (1, ay tg), (7, .slice (some ⟨tb, if nV = 0 then 8 * i else 8 * i + 8, none⟩) nV nV), (10, aC tx q.data.length q.data.length), (11, aC g7 ((dh (aZ ts) ps tg (i + 1)).length) Ee)] (by kernel_rfl)⟩)
   rw [show (((pr.1 : Nat) : Int) == ((tg : Nat) : Int)) = false from oM (hc6)] at HF
   refine aY HF rfl ?_
   refine wp_skip ?_
   repeat first | refine aK ?_ | refine aP ?_
   rw [show ((dh (aZ ts) ps tg i).length) = ((dh (aZ ts) ps tg (i + 1)).length) from (congrArg List.length (Af hpr hc6)).symm] at HF lX pU
   replace lX : ok.toList.take (((dh (aZ ts) ps tg (i + 1)).length) * 1) = (dh (aZ ts) ps tg (i + 1)).map lq := lX.trans (by rw [Af hpr hc6])
   exact KR _ _ (Or.inr <| ⟨if nV = 0 then 8 * i else 8 * i + 8, nV, og, oc, ok, fun hlt => by rw [if_neg (by omega)]; omega, by omega, lX, sG, pU, sH, HM, HF.sub [(0, aB fb), (1, ay tg), (7, .slice (some ⟨tb, if nV = 0 then 8 * i else 8 * i + 8, none⟩) nV nV), (10, aC tx q.data.length q.data.length), (11, aC og ((dh (aZ ts) ps tg (i + 1)).length) oc)] (by kernel_rfl)⟩)
 ·intro a w KX hI
  rcases hI with hI | hI
  ·obtain ⟨o, r, ho, hr, h0, HM, HF⟩ := hI
   refine wp_seq ?_
   refine aO ?_
   refine wp_pure HF HM rfl 3 [] [(0, aB fb), (1, ay tg), (7, .slice (some ⟨tb, o, none⟩) r r), (10, aC tx q.data.length q.data.length), (11, aN), (62, .bool (decide (0 < ((r : Nat) : Int))))] (by kernel_rfl) fun a HF => ?_
   refine aA ?_
   rw [show decide (0 < ((r : Nat) : Int)) = false from cZ (by omega)] at HF
   refine aY HF rfl ?_
   refine wp_exit ?_
   repeat (first | refine eH ?_ | refine dY rfl ?_)
   refine gZ ?_
   repeat first | refine aK ?_ | refine aP ?_
   refine aO ?_
   refine wp_pure HF HM rfl 3 [] [(4, aN), (5, .nilIface)] (by kernel_rfl) fun a HF => ?_
   refine aA ?_
   refine wp_ret ?_
   repeat first | refine bJ ?_ | refine bM ?_
   replace HM : Mm [] w0 w [(tx, .cells (q.data.map Bv).toArray 5 (0, 0)), (tb, .cells (p.data.map Bv).toArray 5 (0, 0))] := HM.xg 0 rfl hfb
   exact jq HF rfl rfl rfl ⟨none, 0, by rw [h0]; rfl, HM.below, by rw [h0]; exact Row.nil _ _⟩
  ·obtain ⟨o, r, og, oc, ok, ho, hr, lX, sG, pU, sH, HM, HF⟩ := hI
   refine wp_seq ?_
   refine aO ?_
   refine wp_pure HF HM rfl 3 [] [(0, aB fb), (1, ay tg), (7, .slice (some ⟨tb, o, none⟩) r r), (10, aC tx q.data.length q.data.length), (11, aC og ((dh (aZ ts) ps tg ps.length).length) oc), (62, .bool (decide (0 < ((r : Nat) : Int))))] (by kernel_rfl) fun a HF => ?_
   refine aA ?_
   rw [show decide (0 < ((r : Nat) : Int)) = false from cZ (by omega)] at HF
   refine aY HF rfl ?_
   refine wp_exit ?_
   repeat (first | refine eH ?_ | refine dY rfl ?_)
   refine gZ ?_
   repeat first | refine aK ?_ | refine aP ?_
   refine aO ?_
   refine wp_pure HF HM rfl 3 [] [(4, aC og ((dh (aZ ts) ps tg ps.length).length) oc), (5, .nilIface)] (by kernel_rfl) fun a HF => ?_
   refine aA ?_
   refine wp_ret ?_
   repeat first | refine bJ ?_ | refine bM ?_
   replace HM : Mm [] w0 w [(og, .cells ok 9 (0, 0)), (tx, .cells (q.data.map Bv).toArray 5 (0, 0)), (tb, .cells (p.data.map Bv).toArray 5 (0, 0))] := HM.xg 1 rfl hfb
   exact jq HF rfl rfl rfl ⟨some ⟨og, 0, none⟩, oc, rfl, HM.below, HM.lZ (i := 0) rfl lX⟩

abbrev iH := fun (fb : Nat) (x : b_) (aV : Nat) (pg : Nat) => ((fb, .cells #[aQ 2, aQ (if x.img.big then 2 else 1 : Int), aQ 1, aX x.img.abi, aX x.img.aH, (aS x.img.big), bF x.img.ty, bF x.img.machine, aI x.img.entry, aC aV (x.ps.length + 2) (x.ps.length + 2), aC pg x.img.dA.length x.img.dA.length, aN, aN, aN] 131 (0, 0)) : Nat × Obj)
theorem MR {x : b_} {b c z fb pg aV : Nat} {cur eU : Array Value} {w0 : World} (hF : n_ x b c z fb pg aV cur eU w0) (hw : x.wide = true) (tg : Nat) (ps : List (Nat × Nat)) (ts : List (List UInt8)) (hd : o8 x ps ts) (yC : tg = 1 ∨ tg = 14 ∨ tg = 15 ∨ tg = 29) (hstr : ∀ p ∈ ps, p.1 = tg → p.2 < (aZ ts).length ∧ ∃ s, kR (aZ ts) p.2 = some s) :
  Calls Tryd.prog 74 #[aB fb, ay tg] w0 fun e w' => ∃ A' c', e = .returned (.tuple #[.slice A' (dh (aZ ts) ps tg ps.length).length c', .nilIface]) ∧ Below w0.heap.size w0 w' ∧ Row w' A' ((dh (aZ ts) ps tg ps.length).map lq) := by
 have hfb := hF.Rh hw
 have hsm := hF.small
 obtain ⟨p, q, hm0, hm1, hpo, hqo, hpt, hpl, hq8, xZ, uV⟩ := hd.ex
 have hn0 := hd.n0; have hn1 := hd.n1
 have hval := hd.val
 rw [hw] at xZ hval
 have hk1 := (List.getElem?_eq_some_iff.1 hm1).1
 have hD : p.data.length = 16 * ps.length := by rw [xZ, rV, Nat.mul_comm]; rfl
 have hq0 : 0 < q.data.length := by rw [uV]; exact Nat.succ_pos _
 have KU : q.data.length ≤ 1049601 := by rw [uV]; exact hd.tl
 have hlk : (jF x.img 1).link = 1 + 1 := (Dj hm0).trans hpl
 obtain ⟨Qu, sN, hs8⟩ := Option.map_eq_some_iff.1 Ea
 obtain ⟨pq, sq, q1, -, -, q4, q5⟩ := hF.at_.sec 1 (by rw [nY]; omega)
 obtain ⟨w, hw⟩ : ∃ w, w0 = w := ⟨_, rfl⟩
 have HM : Mm [] w0 w [] := hw ▸ Mm.start w0
 conv => arg 4; rw [hw]
 clear hw
 refine cu Tryd.func74 rfl Tryd.ntmps74 [(0, aB fb), (1, ay tg)] (by kernel_rfl) (Nat.le_of_ble_eq_true rfl) ?_
 intro a HF
 refine aO ?_
 refine wp_pure HF HM rfl 2 [] [(0, aB fb), (1, ay tg)] (by kernel_rfl) fun a HF => ?_
 refine aA ?_
 refine wp_seq ?_
 refine aO ?_
 refine wp_pure HF HM rfl 1 [] [(0, aB fb), (1, ay tg), (16, ay tg)] (by kernel_rfl) fun a HF => ?_
 refine aA ?_
 refine wp_block ?_
 refine wp_seq ?_
 refine aO ?_
 refine wp_pure HF HM rfl 2 [] [(0, aB fb), (1, ay tg), (16, ay tg), (18, .bool (((tg : Nat) : Int) == 1))] (by kernel_rfl) fun a HF => ?_
 refine aA ?_
 refine pJ (fun a w => (Mm [] w0 w [] ∧ Fr 127 a [(0, aB fb), (1, ay tg), (18, .bool true)])) ?_ ?_
 ·by_cases hc1 : ((tg : Nat) : Int) = 1
  ·rw [show (((tg : Nat) : Int) == 1) = true from nZ (hc1)] at HF
   refine bD HF rfl ?_
   refine wp_skip ?_
   repeat first | refine aK ?_ | refine aP ?_
   exact ⟨HM, HF.sub [(0, aB fb), (1, ay tg), (18, .bool true)] (by kernel_rfl)⟩
  rw [show (((tg : Nat) : Int) == 1) = false from oM (hc1)] at HF
  refine aY HF rfl ?_
  refine aO ?_
  refine wp_pure HF HM rfl 2 [] [(0, aB fb), (1, ay tg), (16, ay tg), (18, .bool (((tg : Nat) : Int) == 14))] (by kernel_rfl) fun a HF => ?_
  refine aA ?_
  refine pJ (fun a w => (Mm [] w0 w [] ∧ Fr 127 a [(0, aB fb), (1, ay tg), (18, .bool true)])) ?_ ?_
  ·by_cases hc2 : ((tg : Nat) : Int) = 14
   ·rw [show (((tg : Nat) : Int) == 14) = true from nZ (hc2)] at HF
    refine bD HF rfl ?_
    refine wp_skip ?_
    repeat first | refine aK ?_ | refine aP ?_
    exact ⟨HM, HF.sub [(0, aB fb), (1, ay tg), (18, .bool true)] (by kernel_rfl)⟩
   rw [show (((tg : Nat) : Int) == 14) = false from oM (hc2)] at HF
   refine aY HF rfl ?_
   refine aO ?_
   refine wp_pure HF HM rfl 2 [] [(0, aB fb), (1, ay tg), (16, ay tg), (18, .bool (((tg : Nat) : Int) == 15))] (by kernel_rfl) fun a HF => ?_
   refine aA ?_
   refine pJ (fun a w => (Mm [] w0 w [] ∧ Fr 127 a [(0, aB fb), (1, ay tg), (18, .bool true)])) ?_ ?_
   ·by_cases hc3 : ((tg : Nat) : Int) = 15
    ·rw [show (((tg : Nat) : Int) == 15) = true from nZ (hc3)] at HF
     refine bD HF rfl ?_
     refine wp_skip ?_
     repeat first | refine aK ?_ | refine aP ?_
     exact ⟨HM, HF.sub [(0, aB fb), (1, ay tg), (18, .bool true)] (by kernel_rfl)⟩
    rw [show (((tg : Nat) : Int) == 15) = false from oM (hc3)] at HF
    refine aY HF rfl ?_
    refine wp_region_lit ?_
    refine wp_pure HF HM rfl 2 [] [(0, aB fb), (1, ay tg), (18, .bool (((tg : Nat) : Int) == 29))] (by kernel_rfl) fun a HF => ?_
    refine wpList_nil ?_
    repeat first | refine aK ?_ | refine aP ?_
    rw [show (((tg : Nat) : Int) == 29) = true from nZ (by omega)] at HF
    exact ⟨HM, HF.sub [(0, aB fb), (1, ay tg), (18, .bool true)] (by kernel_rfl)⟩
   rintro a w ⟨HM, HF⟩
   repeat first | refine aK ?_ | refine aP ?_
   exact ⟨HM, HF.sub [(0, aB fb), (1, ay tg), (18, .bool true)] (by kernel_rfl)⟩
  rintro a w ⟨HM, HF⟩
  repeat first | refine aK ?_ | refine aP ?_
  exact ⟨HM, HF.sub [(0, aB fb), (1, ay tg), (18, .bool true)] (by kernel_rfl)⟩
 rintro a w ⟨HM, HF⟩
 repeat first | refine aK ?_ | refine aP ?_
 refine pJ (fun a w => (Mm [] w0 w [] ∧ Fr 127 a [(0, aB fb), (1, ay tg), (18, .bool true)])) ?_ ?_
 ·refine bD HF rfl ?_
  refine wp_skip ?_
  repeat first | refine aK ?_ | refine aP ?_
  exact ⟨HM, HF.sub [(0, aB fb), (1, ay tg), (18, .bool true)] (by kernel_rfl)⟩
 rintro a w ⟨HM, HF⟩
 repeat first | refine aK ?_ | refine aP ?_
 refine aO ?_
 refine wp_pure HF HM rfl 1 [] [(0, aB fb), (1, ay tg), (23, aB fb)] (by kernel_rfl) fun a HF => ?_
 refine bf HF (by kernel_rfl) 71 #[aB fb, iR 6] (by kernel_rfl) (fun w => by kernel_rfl) (Calls.mono (zq (hF.below HM.below) 6 1 pq (by omega) q1 ((F7 hm0).trans hpt) (fun j hj => by obtain rfl : j = 0 := (by omega); exact (by decide : (0 : Nat) ≠ 6))) ?_)
 rintro _ w1 ⟨rfl, hq⟩
 replace hq := hq.symm; subst hq
 refine ⟨_, rfl, ?_⟩; clear HF; intro a HF
 refine wp_pure HF HM rfl 1 [] [(0, aB fb), (1, ay tg), (6, aB pq)] (by kernel_rfl) fun a HF => ?_
 refine aA ?_
 refine wp_seq ?_
 refine aO ?_
 refine wp_pure HF HM rfl 2 [] [(0, aB fb), (1, ay tg), (6, aB pq), (26, .bool false)] (by kernel_rfl) fun a HF => ?_
 refine aA ?_
 refine aY HF rfl ?_
 refine wp_skip ?_
 repeat first | refine aK ?_ | refine aP ?_
 refine aO ?_
 refine wp_pure HF HM rfl 1 [] [(0, aB fb), (1, ay tg), (6, aB pq), (28, aB pq)] (by kernel_rfl) fun a HF => ?_
 refine bf HF (by kernel_rfl) 63 #[aB pq] (by kernel_rfl) (fun w => by kernel_rfl) (Calls.mono (Ap (hF.below HM.below) hm0 hpo (by omega) (by omega) pq q1) ?_)
 rintro _ w2 ⟨tb, rfl, hb, hge, hob⟩
 replace HM : Mm [] w0 w2 [(tb, .cells (p.data.map Bv).toArray 5 (0, 0))] := HM.push hb hge hob
 clear hb
 refine ⟨_, rfl, ?_⟩; clear HF; intro a HF
 rw [hD] at HF
 refine wp_pure HF HM rfl 5 [] [(0, aB fb), (1, ay tg), (6, aB pq), (7, aC tb ((16 * ps.length)) ((16 * ps.length))), (8, .nilIface)] (by kernel_rfl) fun a HF => ?_
 refine aA ?_
 refine wp_seq ?_
 refine aO ?_
 refine wp_pure HF HM rfl 2 [] [(0, aB fb), (1, ay tg), (6, aB pq), (7, aC tb ((16 * ps.length)) ((16 * ps.length))), (8, .nilIface), (33, .bool false)] (by kernel_rfl) fun a HF => ?_
 refine aA ?_
 refine aY HF rfl ?_
 refine wp_skip ?_
 repeat first | refine aK ?_ | refine aP ?_
 refine aO ?_
 refine wp_pure HF HM rfl 1 [] [(0, aB fb), (1, ay tg), (6, aB pq), (7, aC tb ((16 * ps.length)) ((16 * ps.length))), (9, aF 8)] (by kernel_rfl) fun a HF => ?_
 refine aA ?_
 refine wp_seq ?_
 refine aO ?_
 refine wp_pure HF HM rfl 4 [] [(0, aB fb), (1, ay tg), (6, aB pq), (7, aC tb ((16 * ps.length)) ((16 * ps.length))), (9, aF 8), (38, aB fb)] (by kernel_rfl) fun a HF => ?_
 refine dG HF (by kernel_rfl) (aQ 2) (by kernel_rfl) (dV rfl rfl (by kernel_rfl) ((cell_of_row w2 fb 0 _ _ _ (HM.old hfb)).trans rfl)) fun a HF => ?_
 refine wp_pure HF HM rfl 1 [] [(0, aB fb), (1, ay tg), (6, aB pq), (7, aC tb ((16 * ps.length)) ((16 * ps.length))), (9, aF 8), (40, .bool true)] (by kernel_rfl) fun a HF => ?_
 refine aA ?_
 refine bD HF rfl ?_
 refine wp_region_lit ?_
 refine wp_pure HF HM rfl 1 [] [(0, aB fb), (1, ay tg), (6, aB pq), (7, aC tb ((16 * ps.length)) ((16 * ps.length))), (9, aF 16)] (by kernel_rfl) fun a HF => ?_
 refine wpList_nil ?_
 repeat first | refine aK ?_ | refine aP ?_
 refine wp_seq ?_
 refine aO ?_
 refine wp_pure HF HM rfl 4 [] [(0, aB fb), (1, ay tg), (6, aB pq), (7, aC tb ((16 * ps.length)) ((16 * ps.length))), (44, aF (Int.tmod ((((16 * ps.length)) : Nat) : Int) 16))] (by kernel_rfl) fun a HF => ?_
 rw [show Int.tmod ((((16 * ps.length)) : Nat) : Int) 16 = 0 from F9 16 _] at HF
 refine wp_pure HF HM rfl 1 [] [(0, aB fb), (1, ay tg), (6, aB pq), (7, aC tb ((16 * ps.length)) ((16 * ps.length))), (45, .bool false)] (by kernel_rfl) fun a HF => ?_
 refine aA ?_
 refine aY HF rfl ?_
 refine wp_skip ?_
 repeat first | refine aK ?_ | refine aP ?_
 refine aO ?_
 refine wp_pure HF HM rfl 5 [] [(0, aB fb), (1, ay tg), (7, aC tb ((16 * ps.length)) ((16 * ps.length))), (48, aB fb), (52, .pointer (some ⟨pq, 6, none⟩))] (by kernel_rfl) fun a HF => ?_
 refine dG HF (by kernel_rfl) (bn ((jF x.img 1).link)) (by kernel_rfl) (dV rfl rfl (by kernel_rfl) ((cell_of_row w2 pq 6 _ _ _ (HM.old q4)).trans rfl)) fun a HF => ?_
 refine bf HF (by kernel_rfl) 90 #[aB fb, bn ((jF x.img 1).link)] (by kernel_rfl) (fun w => by kernel_rfl) (Calls.mono (ED (hF.below HM.below) 1 _ hlk hm1 hqo (by omega) (by omega)) ?_)
 rintro _ w3 ⟨tx, rfl, hb, QD, QA⟩
 replace HM : Mm [] w0 w3 [(tx, .cells (q.data.map Bv).toArray 5 (0, 0)), (tb, .cells (p.data.map Bv).toArray 5 (0, 0))] := HM.push hb QD QA
 clear hb
 refine ⟨_, rfl, ?_⟩; clear HF; intro a HF
 refine wp_pure HF HM rfl 5 [] [(0, aB fb), (1, ay tg), (7, aC tb ((16 * ps.length)) ((16 * ps.length))), (8, .nilIface), (10, aC tx q.data.length q.data.length)] (by kernel_rfl) fun a HF => ?_
 refine aA ?_
 refine wp_seq ?_
 refine aO ?_
 refine wp_pure HF HM rfl 2 [] [(0, aB fb), (1, ay tg), (7, aC tb ((16 * ps.length)) ((16 * ps.length))), (8, .nilIface), (10, aC tx q.data.length q.data.length), (58, .bool false)] (by kernel_rfl) fun a HF => ?_
 refine aA ?_
 refine aY HF rfl ?_
 refine wp_skip ?_
 repeat first | refine aK ?_ | refine aP ?_
 refine aO ?_
 replace HM : Mm [fb] w0 w3 [iH fb x aV pg, (tx, .cells (q.data.map Bv).toArray 5 (0, 0)), (tb, .cells (p.data.map Bv).toArray 5 (0, 0))] := HM.F6 hfb (by simp)
 refine wp_pure HF HM rfl 1 [] [(0, aB fb), (1, ay tg), (7, aC tb ((16 * ps.length)) ((16 * ps.length))), (10, aC tx q.data.length q.data.length), (11, aN)] (by kernel_rfl) fun a HF => ?_
 refine aA ?_
 refine wp_seq ?_
 refine wp_block ?_
 refine kC (ps.length) (fun i a w => (∃ o, ∃ r, (i < ps.length → o = 16 * i) ∧ (r + 16 * i = 16 * ps.length) ∧ (dh (aZ ts) ps tg i = []) ∧ Mm [fb] w0 w [iH fb x aV pg, (tx, .cells (q.data.map Bv).toArray 5 (0, 0)), (tb, .cells (p.data.map Bv).toArray 5 (0, 0))] ∧ Fr 127 a [(0, aB fb), (1, ay tg), (7, .slice (some ⟨tb, o, none⟩) r r), (10, aC tx q.data.length q.data.length), (11, aN)]) ∨ (∃ o, ∃ r, ∃ og : Nat, ∃ oc : Nat, ∃ ok : Array Value, (i < ps.length → o = 16 * i) ∧ (r + 16 * i = 16 * ps.length) ∧ (ok.toList.take (((dh (aZ ts) ps tg i).length) * 1) = (dh (aZ ts) ps tg i).map lq) ∧ (ok.size = oc * 1) ∧ (((dh (aZ ts) ps tg i).length) ≤ oc) ∧ (oc ≤ maxLen) ∧ Mm [fb] w0 w [(og, .cells ok 9 (0, 0)), iH fb x aV pg, (tx, .cells (q.data.map Bv).toArray 5 (0, 0)), (tb, .cells (p.data.map Bv).toArray 5 (0, 0))] ∧ Fr 127 a [(0, aB fb), (1, ay tg), (7, .slice (some ⟨tb, o, none⟩) r r), (10, aC tx q.data.length q.data.length), (11, aC og ((dh (aZ ts) ps tg i).length) oc)])) ?_ ?_ ?_
 ·exact Or.inl <| ⟨0, ((16 * ps.length)), fun _ => rfl, by omega, rfl, HM, HF.sub [(0, aB fb), (1, ay tg), (7, aC tb ((16 * ps.length)) ((16 * ps.length))), (10, aC tx q.data.length q.data.length), (11, aN)] (by kernel_rfl)⟩
 ·intro i a w KX hi hI KR
  rcases hI with hI | hI
  ·obtain ⟨o, r, ho, hr, h0, HM, HF⟩ := hI
   obtain rfl := ho hi
   obtain ⟨pr, hpr⟩ : ∃ m, ps[i]? = some m := ⟨_, List.getElem?_eq_getElem hi⟩
   have ht1 := hd.tag pr (List.mem_of_getElem? hpr); have ht2 := hval pr (List.mem_of_getElem? hpr)
   obtain ⟨oC, oz⟩ := wW true x.img.big ps p.data xZ i pr hpr 8 rfl (Nat.lt_of_lt_of_le ht1 (by decide)) ht2
   have hsl := yH (aZ ts) ps tg i
   simp only [Nat.reduceMul] at oC oz
   have ht3 : pr.2 < 18446744073709551616 := ht2
   refine wp_seq ?_
   refine aO ?_
   refine wp_pure HF HM rfl 3 [] [(0, aB fb), (1, ay tg), (7, .slice (some ⟨tb, 16 * i, none⟩) r r), (10, aC tx q.data.length q.data.length), (11, aN), (62, .bool (decide (0 < ((r : Nat) : Int))))] (by kernel_rfl) fun a HF => ?_
   refine aA ?_
   rw [show decide (0 < ((r : Nat) : Int)) = true from dK (by omega)] at HF
   refine bD HF rfl ?_
   refine wp_skip ?_
   repeat first | refine aK ?_ | refine aP ?_
   refine wp_block ?_
   refine aO ?_
   refine wp_pure HF HM rfl 1 [] [(0, aB fb), (1, ay tg), (7, .slice (some ⟨tb, 16 * i, none⟩) r r), (10, aC tx q.data.length q.data.length), (11, aN), (12, aF 0)] (by kernel_rfl) fun a HF => ?_
   refine dF ?_
   refine wp_pure HF HM rfl 1 [] [(0, aB fb), (1, ay tg), (7, .slice (some ⟨tb, 16 * i, none⟩) r r), (10, aC tx q.data.length q.data.length), (11, aN), (12, aF 0), (13, bH 0)] (by kernel_rfl) fun a HF => ?_
   refine aA ?_
   refine wp_seq ?_
   refine aO ?_
   refine wp_pure HF HM rfl 5 [[2]] [(0, aB fb), (1, ay tg), (7, .slice (some ⟨tb, 16 * i, none⟩) r r), (10, aC tx q.data.length q.data.length), (11, aN), (12, aF 0), (13, bH 0), (67, aQ 2)] (by kernel_rfl) fun a HF => ?_
   refine aA ?_
   refine wp_block ?_
   refine aO ?_
   refine wp_pure HF HM rfl 2 [] [(0, aB fb), (1, ay tg), (7, .slice (some ⟨tb, 16 * i, none⟩) r r), (10, aC tx q.data.length q.data.length), (11, aN), (12, aF 0), (13, bH 0), (67, aQ 2), (68, .bool false)] (by kernel_rfl) fun a HF => ?_
   refine aA ?_
   refine aY HF rfl ?_
   refine aO ?_
   refine wp_pure HF HM rfl 2 [] [(0, aB fb), (1, ay tg), (7, .slice (some ⟨tb, 16 * i, none⟩) r r), (10, aC tx q.data.length q.data.length), (11, aN), (12, aF 0), (13, bH 0), (90, .bool true)] (by kernel_rfl) fun a HF => ?_
   refine aA ?_
   refine bD HF rfl ?_
   refine jS HM (by kernel_rfl) [iH fb x aV pg, (tx, .cells (q.data.map Bv).toArray 5 (0, 0)), (tb, .cells (p.data.map Bv).toArray 5 (0, 0))] [(0, false), (1, false), (2, false), (3, false), (4, false), (5, false), (6, false), (7, true), (8, false), (9, false)] (by kernel_rfl) fun w4 HM => ?_
   refine bI HF (HM.told [0, 1, 2] rfl) 6 [[2]] [(0, aB fb), (1, ay tg), (7, .slice (some ⟨tb, 16 * i, none⟩) r r), (10, aC tx q.data.length q.data.length), (11, aN), (96, (aS x.img.big)), (97, .slice (some ⟨tb, 16 * i, none⟩) r r)] (by kernel_rfl) fun a HF => ?_
   refine dL rfl HF (HM.told [0, 1, 2] rfl) rfl (.slice (some ⟨tb, 16 * i + 0, none⟩) 8 (r - 0)) (by kernel_rfl) (fun w hw => oG Tryd.underlying33 sN hs8 rfl 0 8 8 (kk := .i64) (kh := .i64) rfl rfl rfl rfl (by omega) (by omega) w) ?_
   clear HF; intro a HF; replace HF := HF.sub [(0, aB fb), (1, ay tg), (7, .slice (some ⟨tb, 16 * i, none⟩) r r), (10, aC tx q.data.length q.data.length), (11, aN), (96, (aS x.img.big)), (98, .slice (some ⟨tb, 16 * i + 0, none⟩) 8 (r - 0))] (by kernel_rfl)
   refine bW rfl ?_
   refine bf HF (by kernel_rfl) 88 #[(aS x.img.big), .slice (some ⟨tb, 16 * i + 0, none⟩) 8 (r - 0)] (by kernel_rfl) (fun w => by kernel_rfl) (Calls.mono (wM (HM.get (i := 2) rfl) x.img.big (16 * i + 0) _ (by omega) (by omega) (by unfold maxLen; omega) _ (by rw [oC])) ?_)
   rintro _ w5 ⟨rfl, nq, hq⟩
   replace HM : Mm [fb] w0 w5 [iH fb x aV pg, (tx, .cells (q.data.map Bv).toArray 5 (0, 0)), (tb, .cells (p.data.map Bv).toArray 5 (0, 0))] := by rw [hq]; exact HM.drewN nq
   clear hq nq
   refine ⟨_, rfl, ?_⟩; clear HF; intro a HF
   replace HF := HF.sub [(0, aB fb), (1, ay tg), (7, .slice (some ⟨tb, 16 * i, none⟩) r r), (10, aC tx q.data.length q.data.length), (11, aN), (99, aI pr.1)] (by kernel_rfl)
   refine dH (HM.told [0, 1, 2] rfl) ?_
   refine bI HF (HM.told [0, 1, 2] rfl) 1 [] [(0, aB fb), (1, ay tg), (7, .slice (some ⟨tb, 16 * i, none⟩) r r), (10, aC tx q.data.length q.data.length), (11, aN), (100, aF (IntKind.i64.wrap ((pr.1 : Nat) : Int)))] (by kernel_rfl) fun a HF => ?_
   rw [show IntKind.i64.wrap ((pr.1 : Nat) : Int) = ((pr.1 : Nat) : Int) from IntWalk.i64_in _ (by omega)] at HF
   refine bI HF (HM.told [0, 1, 2] rfl) 1 [] [(0, aB fb), (1, ay tg), (7, .slice (some ⟨tb, 16 * i, none⟩) r r), (10, aC tx q.data.length q.data.length), (11, aN), (12, ay pr.1)] (by kernel_rfl) fun a HF => ?_
   refine iM ?_
   refine aK ?_
   refine jS HM (by kernel_rfl) [iH fb x aV pg, (tx, .cells (q.data.map Bv).toArray 5 (0, 0)), (tb, .cells (p.data.map Bv).toArray 5 (0, 0))] [(0, false), (1, false), (2, false), (3, false), (4, false), (5, false), (6, false), (7, true), (8, false)] (by kernel_rfl) fun w6 HM => ?_
   refine bI HF (HM.told [0, 1, 2] rfl) 6 [[2]] [(0, aB fb), (1, ay tg), (7, .slice (some ⟨tb, 16 * i, none⟩) r r), (10, aC tx q.data.length q.data.length), (11, aN), (12, ay pr.1), (105, (aS x.img.big)), (106, .slice (some ⟨tb, 16 * i, none⟩) r r)] (by kernel_rfl) fun a HF => ?_
   refine dL rfl HF (HM.told [0, 1, 2] rfl) rfl (.slice (some ⟨tb, 16 * i + 8, none⟩) 8 (r - 8)) (by kernel_rfl) (fun w hw => oG Tryd.underlying33 sN hs8 rfl 8 16 8 (kk := .i64) (kh := .i64) rfl rfl rfl rfl (by omega) (by omega) w) ?_
   clear HF; intro a HF; replace HF := HF.sub [(0, aB fb), (1, ay tg), (7, .slice (some ⟨tb, 16 * i, none⟩) r r), (10, aC tx q.data.length q.data.length), (11, aN), (12, ay pr.1), (105, (aS x.img.big)), (107, .slice (some ⟨tb, 16 * i + 8, none⟩) 8 (r - 8))] (by kernel_rfl)
   refine bW rfl ?_
   refine bf HF (by kernel_rfl) 88 #[(aS x.img.big), .slice (some ⟨tb, 16 * i + 8, none⟩) 8 (r - 8)] (by kernel_rfl) (fun w => by kernel_rfl) (Calls.mono (wM (HM.get (i := 2) rfl) x.img.big (16 * i + 8) _ (by omega) (by omega) (by unfold maxLen; omega) _ (by rw [oz])) ?_)
   rintro _ w7 ⟨rfl, nq, hq⟩
   replace HM : Mm [fb] w0 w7 [iH fb x aV pg, (tx, .cells (q.data.map Bv).toArray 5 (0, 0)), (tb, .cells (p.data.map Bv).toArray 5 (0, 0))] := by rw [hq]; exact HM.drewN nq
   clear hq nq
   refine ⟨_, rfl, ?_⟩; clear HF; intro a HF
   replace HF := HF.sub [(0, aB fb), (1, ay tg), (7, .slice (some ⟨tb, 16 * i, none⟩) r r), (10, aC tx q.data.length q.data.length), (11, aN), (12, ay pr.1), (108, aI pr.2)] (by kernel_rfl)
   refine dH (HM.told [0, 1, 2] rfl) ?_
   refine bI HF (HM.told [0, 1, 2] rfl) 1 [] [(0, aB fb), (1, ay tg), (7, .slice (some ⟨tb, 16 * i, none⟩) r r), (10, aC tx q.data.length q.data.length), (11, aN), (12, ay pr.1), (13, aI pr.2)] (by kernel_rfl) fun a HF => ?_
   refine iM ?_
   refine aK ?_
   refine wp_region_lit ?_
   refine wp_pure HF HM rfl 1 [] [(0, aB fb), (1, ay tg), (10, aC tx q.data.length q.data.length), (11, aN), (12, ay pr.1), (13, aI pr.2), (109, .slice (some ⟨tb, 16 * i, none⟩) r r)] (by kernel_rfl) fun a HF => ?_
   obtain ⟨nX, hr30⟩ : ∃ q, 16 + q = r := ⟨r - 16, by omega⟩
   refine dG HF (by kernel_rfl) (.slice (some ⟨tb, if nX = 0 then 16 * i else 16 * i + 16, none⟩) nX nX) (by kernel_rfl) (uO Tryd.underlying33 sN hs8 rfl 16 nX (kk := .i64) rfl rfl (by omega) hr30 rfl w7) fun a HF => ?_
   refine wp_pure HF HM rfl 1 [] [(0, aB fb), (1, ay tg), (7, .slice (some ⟨tb, if nX = 0 then 16 * i else 16 * i + 16, none⟩) nX nX), (10, aC tx q.data.length q.data.length), (11, aN), (12, ay pr.1), (13, aI pr.2)] (by kernel_rfl) fun a HF => ?_
   refine wpList_nil ?_
   repeat first | refine aK ?_ | refine aP ?_
   refine aO ?_
   refine wp_pure HF HM rfl 3 [] [(0, aB fb), (1, ay tg), (7, .slice (some ⟨tb, if nX = 0 then 16 * i else 16 * i + 16, none⟩) nX nX), (10, aC tx q.data.length q.data.length), (11, aN), (13, aI pr.2), (113, .bool (((pr.1 : Nat) : Int) == ((tg : Nat) : Int)))] (by kernel_rfl) fun a HF => ?_
   refine aA ?_
   by_cases hc4 : ((pr.1 : Nat) : Int) = ((tg : Nat) : Int)
   ·rw [show (((pr.1 : Nat) : Int) == ((tg : Nat) : Int)) = true from nZ (hc4)] at HF
    refine bD HF rfl ?_
    refine aO ?_
    refine wp_pure HF HM rfl 2 [] [(0, aB fb), (1, ay tg), (7, .slice (some ⟨tb, if nX = 0 then 16 * i else 16 * i + 16, none⟩) nX nX), (10, aC tx q.data.length q.data.length), (11, aN), (115, aC tx q.data.length q.data.length), (116, aI pr.2)] (by kernel_rfl) fun a HF => ?_
    obtain ⟨hpl, tx_, hst⟩ := hstr pr (List.mem_of_getElem? hpr) (Int.ofNat.inj hc4)
    have KT := KU; rw [uV] at KT
    refine wp_pure HF HM rfl 1 [] [(0, aB fb), (1, ay tg), (7, .slice (some ⟨tb, if nX = 0 then 16 * i else 16 * i + 16, none⟩) nX nX), (10, aC tx q.data.length q.data.length), (11, aN), (115, aC tx q.data.length q.data.length), (117, aF (IntKind.i64.wrap ((pr.2 : Nat) : Int)))] (by kernel_rfl) fun a HF => ?_
    rw [show IntKind.i64.wrap ((pr.2 : Nat) : Int) = ((pr.2 : Nat) : Int) from IntWalk.i64_in _ (by omega)] at HF
    refine bf HF (by kernel_rfl) 91 #[aC tx q.data.length q.data.length, ay pr.2] (by kernel_rfl) (fun w => by kernel_rfl) (Calls.mono (uY _ q.data _ _ pr.2 rfl (Nat.le_refl _) (by unfold maxLen; omega) (by rw [uV]; exact hpl) w7 (nJ (HM.get (i := 1) rfl))) ?_)
    rintro _ w8 ⟨rfl, hq⟩; subst hq
    refine ⟨_, rfl, ?_⟩; clear HF; intro a HF
    rw [show Ai (kR q.data pr.2) = .tuple #[.string ⟨(kW (aZ ts) pr.2).toArray⟩, .bool true] from by rw [uV]; unfold kW; rw [hst]; rfl] at HF
    refine wp_pure HF HM rfl 5 [] [(0, aB fb), (1, ay tg), (7, .slice (some ⟨tb, if nX = 0 then 16 * i else 16 * i + 16, none⟩) nX nX), (10, aC tx q.data.length q.data.length), (11, aN), (14, .string (⟨(kW (aZ ts) pr.2).toArray⟩)), (15, .bool true)] (by kernel_rfl) fun a HF => ?_
    refine dF ?_
    refine wp_pure HF HM rfl 1 [] [(0, aB fb), (1, ay tg), (7, .slice (some ⟨tb, if nX = 0 then 16 * i else 16 * i + 16, none⟩) nX nX), (10, aC tx q.data.length q.data.length), (11, aN), (14, .string (⟨(kW (aZ ts) pr.2).toArray⟩)), (121, .bool true)] (by kernel_rfl) fun a HF => ?_
    refine aA ?_
    refine bD HF rfl ?_
    refine wp_region_lit ?_
    obtain ⟨z37, KJ⟩ : ∃ z, w7.heap.size = z := ⟨_, rfl⟩
    refine aT HF HM KJ 3 [] [(0, aB fb), (1, ay tg), (7, .slice (some ⟨tb, if nX = 0 then 16 * i else 16 * i + 16, none⟩) nX nX), (10, aC tx q.data.length q.data.length), (122, aN), (124, aC z37 1 1)] [(z37, .cells #[.string (⟨(kW (aZ ts) pr.2).toArray⟩)] 9 (0, 0)), iH fb x aV pg, (tx, .cells (q.data.map Bv).toArray 5 (0, 0)), (tb, .cells (p.data.map Bv).toArray 5 (0, 0))] (by kernel_rfl) fun a w HF HM => ?_
    clear KJ
    refine oH HF HM rfl _ _ 38 rfl rfl 9 (z := .string (⟨#[]⟩ : ByteArray)) (size := 1) (bytes := 16) Tryd.underlying38 (by kernel_rfl) rfl (by decide) rfl (some ⟨z37, 0, none⟩) 1 1 ([.string (⟨(kW (aZ ts) pr.2).toArray⟩)]) rfl rfl (by omega) (HM.rowAt (i := 0) rfl) (lu rfl) (by unfold maxLen; omega) (by omega) ?_
    intro a w9 g5 cap5 rW bT rQ hsz5 x9 Fa hbel HF2; clear HF HM hbel
    have HM : Mm [fb] w0 w9 [(g5, .cells rW 9 (0, 0)), (z37, .cells #[.string (⟨(kW (aZ ts) pr.2).toArray⟩)] 9 (0, 0)), iH fb x aV pg, (tx, .cells (q.data.map Bv).toArray 5 (0, 0)), (tb, .cells (p.data.map Bv).toArray 5 (0, 0))] := bT
    have HF := HF2.sub [(0, aB fb), (1, ay tg), (7, .slice (some ⟨tb, if nX = 0 then 16 * i else 16 * i + 16, none⟩) nX nX), (10, aC tx q.data.length q.data.length), (125, aC g5 1 cap5)] (by kernel_rfl); clear bT HF2
    refine wp_pure HF HM rfl 1 [] [(0, aB fb), (1, ay tg), (7, .slice (some ⟨tb, if nX = 0 then 16 * i else 16 * i + 16, none⟩) nX nX), (10, aC tx q.data.length q.data.length), (11, aC g5 1 cap5)] (by kernel_rfl) fun a HF => ?_
    refine wpList_nil ?_
    repeat first | refine aK ?_ | refine aP ?_
    have hl1 : 1 = ((dh (aZ ts) ps tg (i + 1)).length) := by rw [uK hpr hc4, h0]; rfl
    replace HF := Fr.tell HF 11 rfl (show Value.slice (some ⟨g5, 0, none⟩) 1 cap5 = Value.slice (some ⟨g5, 0, none⟩) ((dh (aZ ts) ps tg (i + 1)).length) cap5 from congrArg (fun q => Value.slice (some ⟨g5, 0, none⟩) q cap5) hl1)
    replace rQ : rW.toList.take (((dh (aZ ts) ps tg (i + 1)).length) * 1) = [.string (⟨(kW (aZ ts) pr.2).toArray⟩)] := by rw [← hl1]; exact rQ
    replace x9 : ((dh (aZ ts) ps tg (i + 1)).length) ≤ cap5 := by rw [← hl1]; exact x9
    replace rQ : rW.toList.take (((dh (aZ ts) ps tg (i + 1)).length) * 1) = (dh (aZ ts) ps tg (i + 1)).map lq := rQ.trans (by rw [uK hpr hc4]; rw [h0]; rfl)
    exact KR _ _ (Or.inr <| ⟨if nX = 0 then 16 * i else 16 * i + 16, nX, g5, cap5, rW, fun hlt => by rw [if_neg (by omega)]; omega, by omega, rQ, hsz5, x9, Fa, (HM.pick [0, 2, 3, 4] [(g5, .cells rW 9 (0, 0)), iH fb x aV pg, (tx, .cells (q.data.map Bv).toArray 5 (0, 0)), (tb, .cells (p.data.map Bv).toArray 5 (0, 0))] rfl (by decide)), HF.sub [(0, aB fb), (1, ay tg), (7, .slice (some ⟨tb, if nX = 0 then 16 * i else 16 * i + 16, none⟩) nX nX), (10, aC tx q.data.length q.data.length), (11, aC g5 ((dh (aZ ts) ps tg (i + 1)).length) cap5)] (by kernel_rfl)⟩)
   rw [show (((pr.1 : Nat) : Int) == ((tg : Nat) : Int)) = false from oM (hc4)] at HF
   refine aY HF rfl ?_
   refine wp_skip ?_
   repeat first | refine aK ?_ | refine aP ?_
   exact KR _ _ (Or.inl <| ⟨if nX = 0 then 16 * i else 16 * i + 16, nX, fun hlt => by rw [if_neg (by omega)]; omega, by omega, ((Af hpr hc4).trans h0), HM, HF.sub [(0, aB fb), (1, ay tg), (7, .slice (some ⟨tb, if nX = 0 then 16 * i else 16 * i + 16, none⟩) nX nX), (10, aC tx q.data.length q.data.length), (11, aN)] (by kernel_rfl)⟩)
  ·obtain ⟨o, r, og, oc, ok, ho, hr, lX, sG, pU, sH, HM, HF⟩ := hI
   obtain rfl := ho hi
   obtain ⟨pr, hpr⟩ : ∃ m, ps[i]? = some m := ⟨_, List.getElem?_eq_getElem hi⟩
   have ht1 := hd.tag pr (List.mem_of_getElem? hpr); have ht2 := hval pr (List.mem_of_getElem? hpr)
   obtain ⟨oC, oz⟩ := wW true x.img.big ps p.data xZ i pr hpr 8 rfl (Nat.lt_of_lt_of_le ht1 (by decide)) ht2
   have hsl := yH (aZ ts) ps tg i
   simp only [Nat.reduceMul] at oC oz
   have ht3 : pr.2 < 18446744073709551616 := ht2
   refine wp_seq ?_
   refine aO ?_
   refine wp_pure HF HM rfl 3 [] [(0, aB fb), (1, ay tg), (7, .slice (some ⟨tb, 16 * i, none⟩) r r), (10, aC tx q.data.length q.data.length), (11, aC og ((dh (aZ ts) ps tg i).length) oc), (62, .bool (decide (0 < ((r : Nat) : Int))))] (by kernel_rfl) fun a HF => ?_
   refine aA ?_
   rw [show decide (0 < ((r : Nat) : Int)) = true from dK (by omega)] at HF
   refine bD HF rfl ?_
   refine wp_skip ?_
   repeat first | refine aK ?_ | refine aP ?_
   refine wp_block ?_
   refine aO ?_
   refine wp_pure HF HM rfl 1 [] [(0, aB fb), (1, ay tg), (7, .slice (some ⟨tb, 16 * i, none⟩) r r), (10, aC tx q.data.length q.data.length), (11, aC og ((dh (aZ ts) ps tg i).length) oc), (12, aF 0)] (by kernel_rfl) fun a HF => ?_
   refine dF ?_
   refine wp_pure HF HM rfl 1 [] [(0, aB fb), (1, ay tg), (7, .slice (some ⟨tb, 16 * i, none⟩) r r), (10, aC tx q.data.length q.data.length), (11, aC og ((dh (aZ ts) ps tg i).length) oc), (12, aF 0), (13, bH 0)] (by kernel_rfl) fun a HF => ?_
   refine aA ?_
   refine wp_seq ?_
   refine aO ?_
   refine wp_pure HF HM rfl 5 [[2]] [(0, aB fb), (1, ay tg), (7, .slice (some ⟨tb, 16 * i, none⟩) r r), (10, aC tx q.data.length q.data.length), (11, aC og ((dh (aZ ts) ps tg i).length) oc), (12, aF 0), (13, bH 0), (67, aQ 2)] (by kernel_rfl) fun a HF => ?_
   refine aA ?_
   refine wp_block ?_
   refine aO ?_
   refine wp_pure HF HM rfl 2 [] [(0, aB fb), (1, ay tg), (7, .slice (some ⟨tb, 16 * i, none⟩) r r), (10, aC tx q.data.length q.data.length), (11, aC og ((dh (aZ ts) ps tg i).length) oc), (12, aF 0), (13, bH 0), (67, aQ 2), (68, .bool false)] (by kernel_rfl) fun a HF => ?_
   refine aA ?_
   refine aY HF rfl ?_
   refine aO ?_
   refine wp_pure HF HM rfl 2 [] [(0, aB fb), (1, ay tg), (7, .slice (some ⟨tb, 16 * i, none⟩) r r), (10, aC tx q.data.length q.data.length), (11, aC og ((dh (aZ ts) ps tg i).length) oc), (12, aF 0), (13, bH 0), (90, .bool true)] (by kernel_rfl) fun a HF => ?_
   refine aA ?_
   refine bD HF rfl ?_
   refine jS HM (by kernel_rfl) [(og, .cells ok 9 (0, 0)), iH fb x aV pg, (tx, .cells (q.data.map Bv).toArray 5 (0, 0)), (tb, .cells (p.data.map Bv).toArray 5 (0, 0))] [(0, false), (1, false), (2, false), (3, false), (4, false), (5, false), (6, false), (7, true), (8, false), (9, false)] (by kernel_rfl) fun w10 HM => ?_
   refine bI HF (HM.told [0, 1, 2, 3] rfl) 6 [[2]] [(0, aB fb), (1, ay tg), (7, .slice (some ⟨tb, 16 * i, none⟩) r r), (10, aC tx q.data.length q.data.length), (11, aC og ((dh (aZ ts) ps tg i).length) oc), (96, (aS x.img.big)), (97, .slice (some ⟨tb, 16 * i, none⟩) r r)] (by kernel_rfl) fun a HF => ?_
   refine dL rfl HF (HM.told [0, 1, 2, 3] rfl) rfl (.slice (some ⟨tb, 16 * i + 0, none⟩) 8 (r - 0)) (by kernel_rfl) (fun w hw => oG Tryd.underlying33 sN hs8 rfl 0 8 8 (kk := .i64) (kh := .i64) rfl rfl rfl rfl (by omega) (by omega) w) ?_
   clear HF; intro a HF; replace HF := HF.sub [(0, aB fb), (1, ay tg), (7, .slice (some ⟨tb, 16 * i, none⟩) r r), (10, aC tx q.data.length q.data.length), (11, aC og ((dh (aZ ts) ps tg i).length) oc), (96, (aS x.img.big)), (98, .slice (some ⟨tb, 16 * i + 0, none⟩) 8 (r - 0))] (by kernel_rfl)
   refine bW rfl ?_
   refine bf HF (by kernel_rfl) 88 #[(aS x.img.big), .slice (some ⟨tb, 16 * i + 0, none⟩) 8 (r - 0)] (by kernel_rfl) (fun w => by kernel_rfl) (Calls.mono (wM (HM.get (i := 3) rfl) x.img.big (16 * i + 0) _ (by omega) (by omega) (by unfold maxLen; omega) _ (by rw [oC])) ?_)
   rintro _ qU ⟨rfl, nq, hq⟩
   replace HM : Mm [fb] w0 qU [(og, .cells ok 9 (0, 0)), iH fb x aV pg, (tx, .cells (q.data.map Bv).toArray 5 (0, 0)), (tb, .cells (p.data.map Bv).toArray 5 (0, 0))] := by rw [hq]; exact HM.drewN nq
   clear hq nq
   refine ⟨_, rfl, ?_⟩; clear HF; intro a HF
   replace HF := HF.sub [(0, aB fb), (1, ay tg), (7, .slice (some ⟨tb, 16 * i, none⟩) r r), (10, aC tx q.data.length q.data.length), (11, aC og ((dh (aZ ts) ps tg i).length) oc), (99, aI pr.1)] (by kernel_rfl)
   refine dH (HM.told [0, 1, 2, 3] rfl) ?_
   refine bI HF (HM.told [0, 1, 2, 3] rfl) 1 [] [(0, aB fb), (1, ay tg), (7, .slice (some ⟨tb, 16 * i, none⟩) r r), (10, aC tx q.data.length q.data.length), (11, aC og ((dh (aZ ts) ps tg i).length) oc), (100, aF (IntKind.i64.wrap ((pr.1 : Nat) : Int)))] (by kernel_rfl) fun a HF => ?_
   rw [show IntKind.i64.wrap ((pr.1 : Nat) : Int) = ((pr.1 : Nat) : Int) from IntWalk.i64_in _ (by omega)] at HF
   refine bI HF (HM.told [0, 1, 2, 3] rfl) 1 [] [(0, aB fb), (1, ay tg), (7, .slice (some ⟨tb, 16 * i, none⟩) r r), (10, aC tx q.data.length q.data.length), (11, aC og ((dh (aZ ts) ps tg i).length) oc), (12, ay pr.1)] (by kernel_rfl) fun a HF => ?_
   refine iM ?_
   refine aK ?_
   refine jS HM (by kernel_rfl) [(og, .cells ok 9 (0, 0)), iH fb x aV pg, (tx, .cells (q.data.map Bv).toArray 5 (0, 0)), (tb, .cells (p.data.map Bv).toArray 5 (0, 0))] [(0, false), (1, false), (2, false), (3, false), (4, false), (5, false), (6, false), (7, true), (8, false)] (by kernel_rfl) fun w12 HM => ?_
   refine bI HF (HM.told [0, 1, 2, 3] rfl) 6 [[2]] [(0, aB fb), (1, ay tg), (7, .slice (some ⟨tb, 16 * i, none⟩) r r), (10, aC tx q.data.length q.data.length), (11, aC og ((dh (aZ ts) ps tg i).length) oc), (12, ay pr.1), (105, (aS x.img.big)), (106, .slice (some ⟨tb, 16 * i, none⟩) r r)] (by kernel_rfl) fun a HF => ?_
   refine dL rfl HF (HM.told [0, 1, 2, 3] rfl) rfl (.slice (some ⟨tb, 16 * i + 8, none⟩) 8 (r - 8)) (by kernel_rfl) (fun w hw => oG Tryd.underlying33 sN hs8 rfl 8 16 8 (kk := .i64) (kh := .i64) rfl rfl rfl rfl (by omega) (by omega) w) ?_
   clear HF; intro a HF; replace HF := HF.sub [(0, aB fb), (1, ay tg), (7, .slice (some ⟨tb, 16 * i, none⟩) r r), (10, aC tx q.data.length q.data.length), (11, aC og ((dh (aZ ts) ps tg i).length) oc), (12, ay pr.1), (105, (aS x.img.big)), (107, .slice (some ⟨tb, 16 * i + 8, none⟩) 8 (r - 8))] (by kernel_rfl)
   refine bW rfl ?_
   refine bf HF (by kernel_rfl) 88 #[(aS x.img.big), .slice (some ⟨tb, 16 * i + 8, none⟩) 8 (r - 8)] (by kernel_rfl) (fun w => by kernel_rfl) (Calls.mono (wM (HM.get (i := 3) rfl) x.img.big (16 * i + 8) _ (by omega) (by omega) (by unfold maxLen; omega) _ (by rw [oz])) ?_)
   rintro _ uI ⟨rfl, nq, hq⟩
   replace HM : Mm [fb] w0 uI [(og, .cells ok 9 (0, 0)), iH fb x aV pg, (tx, .cells (q.data.map Bv).toArray 5 (0, 0)), (tb, .cells (p.data.map Bv).toArray 5 (0, 0))] := by rw [hq]; exact HM.drewN nq
   clear hq nq
   refine ⟨_, rfl, ?_⟩; clear HF; intro a HF
   replace HF := HF.sub [(0, aB fb), (1, ay tg), (7, .slice (some ⟨tb, 16 * i, none⟩) r r), (10, aC tx q.data.length q.data.length), (11, aC og ((dh (aZ ts) ps tg i).length) oc), (12, ay pr.1), (108, aI pr.2)] (by kernel_rfl)
   refine dH (HM.told [0, 1, 2, 3] rfl) ?_
   refine bI HF (HM.told [0, 1, 2, 3] rfl) 1 [] [(0, aB fb), (1, ay tg), (7, .slice (some ⟨tb, 16 * i, none⟩) r r), (10, aC tx q.data.length q.data.length), (11, aC og ((dh (aZ ts) ps tg i).length) oc), (12, ay pr.1), (13, aI pr.2)] (by kernel_rfl) fun a HF => ?_
   refine iM ?_
   refine aK ?_
   refine wp_region_lit ?_
   refine wp_pure HF HM rfl 1 [] [(0, aB fb), (1, ay tg), (10, aC tx q.data.length q.data.length), (11, aC og ((dh (aZ ts) ps tg i).length) oc), (12, ay pr.1), (13, aI pr.2), (109, .slice (some ⟨tb, 16 * i, none⟩) r r)] (by kernel_rfl) fun a HF => ?_
   obtain ⟨nU, hr46⟩ : ∃ q, 16 + q = r := ⟨r - 16, by omega⟩
   refine dG HF (by kernel_rfl) (.slice (some ⟨tb, if nU = 0 then 16 * i else 16 * i + 16, none⟩) nU nU) (by kernel_rfl) (uO Tryd.underlying33 sN hs8 rfl 16 nU (kk := .i64) rfl rfl (by omega) hr46 rfl uI) fun a HF => ?_
   refine wp_pure HF HM rfl 1 [] [(0, aB fb), (1, ay tg), (7, .slice (some ⟨tb, if nU = 0 then 16 * i else 16 * i + 16, none⟩) nU nU), (10, aC tx q.data.length q.data.length), (11, aC og ((dh (aZ ts) ps tg i).length) oc), (12, ay pr.1), (13, aI pr.2)] (by kernel_rfl) fun a HF => ?_
   refine wpList_nil ?_
   repeat first | refine aK ?_ | refine aP ?_
   refine aO ?_
   refine wp_pure HF HM rfl 3 [] [(0, aB fb), (1, ay tg), (7, .slice (some ⟨tb, if nU = 0 then 16 * i else 16 * i + 16, none⟩) nU nU), (10, aC tx q.data.length q.data.length), (11, aC og ((dh (aZ ts) ps tg i).length) oc), (13, aI pr.2), (113, .bool (((pr.1 : Nat) : Int) == ((tg : Nat) : Int)))] (by kernel_rfl) fun a HF => ?_
   refine aA ?_
   by_cases hc6 : ((pr.1 : Nat) : Int) = ((tg : Nat) : Int)
   ·rw [show (((pr.1 : Nat) : Int) == ((tg : Nat) : Int)) = true from nZ (hc6)] at HF
    refine bD HF rfl ?_
    refine aO ?_
    refine wp_pure HF HM rfl 2 [] [(0, aB fb), (1, ay tg), (7, .slice (some ⟨tb, if nU = 0 then 16 * i else 16 * i + 16, none⟩) nU nU), (10, aC tx q.data.length q.data.length), (11, aC og ((dh (aZ ts) ps tg i).length) oc), (115, aC tx q.data.length q.data.length), (116, aI pr.2)] (by kernel_rfl) fun a HF => ?_
    obtain ⟨hpl, tx_, hst⟩ := hstr pr (List.mem_of_getElem? hpr) (Int.ofNat.inj hc6)
    have KT := KU; rw [uV] at KT
    refine wp_pure HF HM rfl 1 [] [(0, aB fb), (1, ay tg), (7, .slice (some ⟨tb, if nU = 0 then 16 * i else 16 * i + 16, none⟩) nU nU), (10, aC tx q.data.length q.data.length), (11, aC og ((dh (aZ ts) ps tg i).length) oc), (115, aC tx q.data.length q.data.length), (117, aF (IntKind.i64.wrap ((pr.2 : Nat) : Int)))] (by kernel_rfl) fun a HF => ?_
    rw [show IntKind.i64.wrap ((pr.2 : Nat) : Int) = ((pr.2 : Nat) : Int) from IntWalk.i64_in _ (by omega)] at HF
    refine bf HF (by kernel_rfl) 91 #[aC tx q.data.length q.data.length, ay pr.2] (by kernel_rfl) (fun w => by kernel_rfl) (Calls.mono (uY _ q.data _ _ pr.2 rfl (Nat.le_refl _) (by unfold maxLen; omega) (by rw [uV]; exact hpl) uI (nJ (HM.get (i := 2) rfl))) ?_)
    rintro _ Ey ⟨rfl, hq⟩; subst hq
    refine ⟨_, rfl, ?_⟩; clear HF; intro a HF
    rw [show Ai (kR q.data pr.2) = .tuple #[.string ⟨(kW (aZ ts) pr.2).toArray⟩, .bool true] from by rw [uV]; unfold kW; rw [hst]; rfl] at HF
    refine wp_pure HF HM rfl 5 [] [(0, aB fb), (1, ay tg), (7, .slice (some ⟨tb, if nU = 0 then 16 * i else 16 * i + 16, none⟩) nU nU), (10, aC tx q.data.length q.data.length), (11, aC og ((dh (aZ ts) ps tg i).length) oc), (14, .string (⟨(kW (aZ ts) pr.2).toArray⟩)), (15, .bool true)] (by kernel_rfl) fun a HF => ?_
    refine dF ?_
    refine wp_pure HF HM rfl 1 [] [(0, aB fb), (1, ay tg), (7, .slice (some ⟨tb, if nU = 0 then 16 * i else 16 * i + 16, none⟩) nU nU), (10, aC tx q.data.length q.data.length), (11, aC og ((dh (aZ ts) ps tg i).length) oc), (14, .string (⟨(kW (aZ ts) pr.2).toArray⟩)), (121, .bool true)] (by kernel_rfl) fun a HF => ?_
    refine aA ?_
    refine bD HF rfl ?_
    refine wp_region_lit ?_
    obtain ⟨z53, hz53⟩ : ∃ z, uI.heap.size = z := ⟨_, rfl⟩
    refine aT HF HM hz53 3 [] [(0, aB fb), (1, ay tg), (7, .slice (some ⟨tb, if nU = 0 then 16 * i else 16 * i + 16, none⟩) nU nU), (10, aC tx q.data.length q.data.length), (122, aC og ((dh (aZ ts) ps tg i).length) oc), (124, aC z53 1 1)] [(z53, .cells #[.string (⟨(kW (aZ ts) pr.2).toArray⟩)] 9 (0, 0)), (og, .cells ok 9 (0, 0)), iH fb x aV pg, (tx, .cells (q.data.map Bv).toArray 5 (0, 0)), (tb, .cells (p.data.map Bv).toArray 5 (0, 0))] (by kernel_rfl) fun a w HF HM => ?_
    clear hz53
    refine fZ HF HM rfl _ _ 38 38 rfl rfl 9 (z := .string (⟨#[]⟩ : ByteArray)) (size := 1) (bytes := 16) Tryd.underlying38 (by kernel_rfl) rfl (by decide) 1 og ((dh (aZ ts) ps tg i).length) oc ok rfl rfl pU sH sG ((dh (aZ ts) ps tg i).map lq) lX (aC z53 1 1) 1 [.string (⟨(kW (aZ ts) pr.2).toArray⟩)] rfl (lW Tryd.underlying38 rfl (by decide) (HM.rowAt (i := 0) rfl) (lu rfl)) (by unfold maxLen; omega) (by omega) ?_
    intro a Bg g7 Ee vZ bT Ec Qw KY QF HF2; clear HF HM
    have HM : Mm [fb] w0 Bg [(z53, .cells #[.string (⟨(kW (aZ ts) pr.2).toArray⟩)] 9 (0, 0)), (g7, .cells vZ 9 (0, 0)), iH fb x aV pg, (tx, .cells (q.data.map Bv).toArray 5 (0, 0)), (tb, .cells (p.data.map Bv).toArray 5 (0, 0))] := bT
    have HF := HF2.sub [(0, aB fb), (1, ay tg), (7, .slice (some ⟨tb, if nU = 0 then 16 * i else 16 * i + 16, none⟩) nU nU), (10, aC tx q.data.length q.data.length), (125, aC g7 (((dh (aZ ts) ps tg i).length) + 1) Ee)] (by kernel_rfl); clear bT HF2
    refine wp_pure HF HM rfl 1 [] [(0, aB fb), (1, ay tg), (7, .slice (some ⟨tb, if nU = 0 then 16 * i else 16 * i + 16, none⟩) nU nU), (10, aC tx q.data.length q.data.length), (11, aC g7 (((dh (aZ ts) ps tg i).length) + 1) Ee)] (by kernel_rfl) fun a HF => ?_
    refine wpList_nil ?_
    repeat first | refine aK ?_ | refine aP ?_
    rw [show (((dh (aZ ts) ps tg i).length) + 1) = ((dh (aZ ts) ps tg (i + 1)).length) from by rw [uK hpr hc6, List.length_append]; rfl] at HF Ec KY
    replace Ec : vZ.toList.take (((dh (aZ ts) ps tg (i + 1)).length) * 1) = (dh (aZ ts) ps tg (i + 1)).map lq := Ec.trans (by rw [uK hpr hc6]; rw [List.map_append]; rfl)
    exact KR _ _ (Or.inr <| ⟨if nU = 0 then 16 * i else 16 * i + 16, nU, g7, Ee, vZ, fun hlt => by rw [if_neg (by omega)]; omega, by omega, Ec, Qw, KY, QF, (HM.pick [1, 2, 3, 4] [(g7, .cells vZ 9 (0, 0)), iH fb x aV pg, (tx, .cells (q.data.map Bv).toArray 5 (0, 0)), (tb, .cells (p.data.map Bv).toArray 5 (0, 0))] rfl (by decide)), HF.sub [(0, aB fb), (1, ay tg), (7, .slice (some ⟨tb, if nU = 0 then 16 * i else 16 * i + 16, none⟩) nU nU), (10, aC tx q.data.length q.data.length), (11, aC g7 ((dh (aZ ts) ps tg (i + 1)).length) Ee)] (by kernel_rfl)⟩)
   rw [show (((pr.1 : Nat) : Int) == ((tg : Nat) : Int)) = false from oM (hc6)] at HF
   refine aY HF rfl ?_
   refine wp_skip ?_
   repeat first | refine aK ?_ | refine aP ?_
   rw [show ((dh (aZ ts) ps tg i).length) = ((dh (aZ ts) ps tg (i + 1)).length) from (congrArg List.length (Af hpr hc6)).symm] at HF lX pU
   replace lX : ok.toList.take (((dh (aZ ts) ps tg (i + 1)).length) * 1) = (dh (aZ ts) ps tg (i + 1)).map lq := lX.trans (by rw [Af hpr hc6])
   exact KR _ _ (Or.inr <| ⟨if nU = 0 then 16 * i else 16 * i + 16, nU, og, oc, ok, fun hlt => by rw [if_neg (by omega)]; omega, by omega, lX, sG, pU, sH, HM, HF.sub [(0, aB fb), (1, ay tg), (7, .slice (some ⟨tb, if nU = 0 then 16 * i else 16 * i + 16, none⟩) nU nU), (10, aC tx q.data.length q.data.length), (11, aC og ((dh (aZ ts) ps tg (i + 1)).length) oc)] (by kernel_rfl)⟩)
 ·intro a w KX hI
  rcases hI with hI | hI
  ·obtain ⟨o, r, ho, hr, h0, HM, HF⟩ := hI
   refine wp_seq ?_
   refine aO ?_
   refine wp_pure HF HM rfl 3 [] [(0, aB fb), (1, ay tg), (7, .slice (some ⟨tb, o, none⟩) r r), (10, aC tx q.data.length q.data.length), (11, aN), (62, .bool (decide (0 < ((r : Nat) : Int))))] (by kernel_rfl) fun a HF => ?_
   refine aA ?_
   rw [show decide (0 < ((r : Nat) : Int)) = false from cZ (by omega)] at HF
   refine aY HF rfl ?_
   refine wp_exit ?_
   repeat (first | refine eH ?_ | refine dY rfl ?_)
   refine gZ ?_
   repeat first | refine aK ?_ | refine aP ?_
   refine aO ?_
   refine wp_pure HF HM rfl 3 [] [(4, aN), (5, .nilIface)] (by kernel_rfl) fun a HF => ?_
   refine aA ?_
   refine wp_ret ?_
   repeat first | refine bJ ?_ | refine bM ?_
   replace HM : Mm [] w0 w [(tx, .cells (q.data.map Bv).toArray 5 (0, 0)), (tb, .cells (p.data.map Bv).toArray 5 (0, 0))] := HM.xg 0 rfl hfb
   exact jq HF rfl rfl rfl ⟨none, 0, by rw [h0]; rfl, HM.below, by rw [h0]; exact Row.nil _ _⟩
  ·obtain ⟨o, r, og, oc, ok, ho, hr, lX, sG, pU, sH, HM, HF⟩ := hI
   refine wp_seq ?_
   refine aO ?_
   refine wp_pure HF HM rfl 3 [] [(0, aB fb), (1, ay tg), (7, .slice (some ⟨tb, o, none⟩) r r), (10, aC tx q.data.length q.data.length), (11, aC og ((dh (aZ ts) ps tg ps.length).length) oc), (62, .bool (decide (0 < ((r : Nat) : Int))))] (by kernel_rfl) fun a HF => ?_
   refine aA ?_
   rw [show decide (0 < ((r : Nat) : Int)) = false from cZ (by omega)] at HF
   refine aY HF rfl ?_
   refine wp_exit ?_
   repeat (first | refine eH ?_ | refine dY rfl ?_)
   refine gZ ?_
   repeat first | refine aK ?_ | refine aP ?_
   refine aO ?_
   refine wp_pure HF HM rfl 3 [] [(4, aC og ((dh (aZ ts) ps tg ps.length).length) oc), (5, .nilIface)] (by kernel_rfl) fun a HF => ?_
   refine aA ?_
   refine wp_ret ?_
   repeat first | refine bJ ?_ | refine bM ?_
   replace HM : Mm [] w0 w [(og, .cells ok 9 (0, 0)), (tx, .cells (q.data.map Bv).toArray 5 (0, 0)), (tb, .cells (p.data.map Bv).toArray 5 (0, 0))] := HM.xg 1 rfl hfb
   exact jq HF rfl rfl rfl ⟨some ⟨og, 0, none⟩, oc, rfl, HM.below, HM.lZ (i := 0) rfl lX⟩
theorem Ii {x : b_} {b c z fb pg aV : Nat} {cur eU : Array Value} {w0 : World} (hF : n_ x b c z fb pg aV cur eU w0) (tg : Nat) (ps : List (Nat × Nat)) (ts : List (List UInt8)) (hd : o8 x ps ts) (yC : tg = 1 ∨ tg = 14 ∨ tg = 15 ∨ tg = 29) (hstr : ∀ p ∈ ps, p.1 = tg → p.2 < (aZ ts).length ∧ ∃ s, kR (aZ ts) p.2 = some s) : Calls Tryd.prog 74 #[aB fb, ay tg] w0 fun e w' => ∃ A' c', e = .returned (.tuple #[.slice A' (dh (aZ ts) ps tg ps.length).length c', .nilIface]) ∧ Below w0.heap.size w0 w' ∧ Row w' A' ((dh (aZ ts) ps tg ps.length).map lq) := by
 rcases Ik x.wide with h | h
 ·exact MR hF h tg ps ts hd yC hstr
 ·exact MS hF h tg ps ts hd yC hstr

end Go.Proofs.YtdgehpocmfjbiaaDoor
namespace Go.Proofs.YtdgehpocmfjbiaaDoor
open Go.RowKit

theorem rG (x : b_) (A : Option Addr) (c : Nat) (hnc : x.img.file.length ≤ c) (ok : x.img.Ok) (ps : List (Nat × Nat)) (ts : List (List UInt8)) (hd : o8 x ps ts) (tg : Nat) (yC : tg = 1 ∨ tg = 14 ∨ tg = 15 ∨ tg = 29) (hstr : ∀ p ∈ ps, p.1 = tg → p.2 < (aZ ts).length ∧ ∃ s, kR (aZ ts) p.2 = some s) (w0 : World) (hr : Row w0 A (x.img.file.map Bv)) : Calls Tryd.prog 47 #[.slice A x.img.file.length c, ay tg] w0 fun e w' => ∃ A' c', e = .returned (.tuple #[.slice A' (dh (aZ ts) ps tg ps.length).length c', aF 0]) ∧ Below w0.heap.size w0 w' ∧ Row w' A' ((dh (aZ ts) ps tg ps.length).map lq) := by
 have hn1 := hd.n1
 have hsl : (dh (aZ ts) ps tg ps.length).length ≤ ps.length := yH _ ps tg ps.length
 obtain ⟨inf, K_, -⟩ := Option.map_eq_some_iff.1 (show (Tryd.prog.info? 9).map (fun i => (i.zero, i.size, i.bytes)) = some (some (.string (⟨#[]⟩ : ByteArray)), 1, 16) by kernel_rfl)
 obtain ⟨w, hw⟩ : ∃ w, w0 = w := ⟨_, rfl⟩
 have HM : Mm [] w0 w [] := hw ▸ Mm.start w0
 conv => arg 4; rw [hw]
 clear hw
 refine cu Tryd.func47 rfl Tryd.ntmps47 [(0, .slice A x.img.file.length c), (1, ay tg)] (by kernel_rfl) (Nat.le_of_ble_eq_true rfl) ?_
 intro a HF
 refine aO ?_
 refine wp_pure HF HM rfl 2 [] [(0, .slice A x.img.file.length c), (1, ay tg)] (by kernel_rfl) fun a HF => ?_
 refine dF ?_
 refine wp_pure HF HM rfl 1 [] [(1, ay tg), (11, .slice A x.img.file.length c)] (by kernel_rfl) fun a HF => ?_
 refine bf HF (by kernel_rfl) 55 #[.slice A x.img.file.length c] (by kernel_rfl) (fun w => by kernel_rfl) (Calls.mono (N9 x A _ c rfl hnc ok w (HM.row hr)) ?_)
 rintro _ w1 ⟨bg, bcap, z, fb, pg, aV, cur, eU, rfl, hb, hge, hF⟩
 replace HM := HM.call hb
 clear hb
 refine ⟨_, rfl, ?_⟩; clear HF; intro a HF
 refine wp_pure HF HM rfl 5 [] [(1, ay tg), (6, aB fb), (7, .bool true)] (by kernel_rfl) fun a HF => ?_
 refine aA ?_
 refine wp_seq ?_
 refine aO ?_
 refine wp_pure HF HM rfl 2 [] [(1, ay tg), (6, aB fb), (16, .bool false)] (by kernel_rfl) fun a HF => ?_
 refine aA ?_
 refine aY HF rfl ?_
 refine wp_skip ?_
 repeat first | refine aK ?_ | refine aP ?_
 refine aO ?_
 refine wp_pure HF HM rfl 2 [] [(18, aB fb), (19, ay tg)] (by kernel_rfl) fun a HF => ?_
 refine bf HF (by kernel_rfl) 74 #[aB fb, ay tg] (by kernel_rfl) (fun w => by kernel_rfl) (Calls.mono (Ii hF tg ps ts hd yC hstr) ?_)
 rintro _ w2 ⟨A1, c1, rfl, hb, hrow⟩
 replace HM := HM.call hb
 clear hb
 refine ⟨_, rfl, ?_⟩; clear HF; intro a HF
 replace HF := HF.sub [(20, .tuple #[.slice A1 ((dh (aZ ts) ps tg ps.length).length) c1, .nilIface])] (by kernel_rfl)
 have hbw0 := HM.below
 clear HM
 have HM : Mm [] w2 w2 [] := Mm.start w2
 refine wp_pure HF HM rfl 5 [] [(8, .slice A1 ((dh (aZ ts) ps tg ps.length).length) c1), (9, .nilIface)] (by kernel_rfl) fun a HF => ?_
 refine dF ?_
 refine wp_pure HF HM rfl 1 [] [(9, .nilIface), (23, .slice A1 ((dh (aZ ts) ps tg ps.length).length) c1)] (by kernel_rfl) fun a HF => ?_
 rcases Nat.eq_zero_or_pos (((dh (aZ ts) ps tg ps.length).length)) with yV | yV
 ·rw [yV] at HF
  refine dG HF (by kernel_rfl) (aN) (by kernel_rfl) (wF Tryd.underlying38 K_ rfl rfl rfl w2) fun a HF => ?_
  refine wp_pure HF HM rfl 1 [] [(24, aN), (25, .nilIface)] (by kernel_rfl) fun a HF => ?_
  refine bf HF (by kernel_rfl) 58 #[.nilIface] (by kernel_rfl) (fun w => by kernel_rfl) (Calls.mono (vV w2) ?_)
  rintro _ w3 ⟨rfl, hb⟩
  replace HM := HM.call hb
  clear hb
  refine ⟨_, rfl, ?_⟩; clear HF; intro a HF
  refine wp_pure HF HM rfl 2 [] [(4, aN), (5, aF 0)] (by kernel_rfl) fun a HF => ?_
  refine aA ?_
  refine wp_ret ?_
  repeat first | refine bJ ?_ | refine bM ?_
  exact jq HF rfl rfl rfl ⟨none, 0, by rw [yV], (hbw0.trans (HM.below.mono hbw0.size)), by rw [List.eq_nil_of_length_eq_zero yV]; exact Row.nil _ _⟩
 refine oH HF HM rfl _ _ 38 rfl rfl 9 (z := .string (⟨#[]⟩ : ByteArray)) (size := 1) (bytes := 16) Tryd.underlying38 (by kernel_rfl) rfl (by decide) rfl A1 ((dh (aZ ts) ps tg ps.length).length) c1 ((dh (aZ ts) ps tg ps.length).map lq) rfl (by rw [List.length_map, Nat.mul_one]) yV (HM.row hrow) (IJ (fun _ => rfl) _) (by unfold maxLen; omega) (by omega) ?_
 intro a w4 gq yu LH bT Aq Gx EI Gy hbel HF2; clear HF HM hbel
 have HM : Mm [] w2 w4 [(gq, .cells LH 9 (0, 0))] := bT
 have HF := HF2.sub [(9, .nilIface), (24, aC gq ((dh (aZ ts) ps tg ps.length).length) yu)] (by kernel_rfl); clear bT HF2
 refine wp_pure HF HM rfl 1 [] [(24, aC gq ((dh (aZ ts) ps tg ps.length).length) yu), (25, .nilIface)] (by kernel_rfl) fun a HF => ?_
 refine bf HF (by kernel_rfl) 58 #[.nilIface] (by kernel_rfl) (fun w => by kernel_rfl) (Calls.mono (vV w4) ?_)
 rintro _ w5 ⟨rfl, hb⟩
 replace HM := HM.call hb
 clear hb
 refine ⟨_, rfl, ?_⟩; clear HF; intro a HF
 refine wp_pure HF HM rfl 2 [] [(4, aC gq ((dh (aZ ts) ps tg ps.length).length) yu), (5, aF 0)] (by kernel_rfl) fun a HF => ?_
 refine aA ?_
 refine wp_ret ?_
 repeat first | refine bJ ?_ | refine bM ?_
 exact jq HF rfl rfl rfl ⟨some ⟨gq, 0, none⟩, yu, rfl, (hbw0.trans (HM.below.mono hbw0.size)), HM.lZ (i := 0) rfl Aq⟩

theorem KI {x : b_} {b c z fb pg aV : Nat} {cur eU : Array Value} {w0 : World} (hF : n_ x b c z fb pg aV cur eU w0) (ps : List (Nat × Nat)) (ts : List (List UInt8)) (hd : o8 x ps ts) (hstr : ∀ p ∈ ps, p.1 = 1 → p.2 < (aZ ts).length ∧ ∃ s, kR (aZ ts) p.2 = some s) : Calls Tryd.prog 75 #[aB fb] w0 fun e w' => ∃ A' c', e = .returned (.tuple #[.slice A' (dh (aZ ts) ps 1 ps.length).length c', .nilIface]) ∧ Below w0.heap.size w0 w' ∧ Row w' A' ((dh (aZ ts) ps 1 ps.length).map lq) := by
 obtain ⟨w, hw⟩ : ∃ w, w0 = w := ⟨_, rfl⟩
 have HM : Mm [] w0 w [] := hw ▸ Mm.start w0
 conv => arg 4; rw [hw]
 clear hw
 refine cu Tryd.func75 rfl Tryd.ntmps75 [(0, aB fb)] (by kernel_rfl) (Nat.le_of_ble_eq_true rfl) ?_
 intro a HF
 refine aO ?_
 refine wp_pure HF HM rfl 2 [] [(0, aB fb)] (by kernel_rfl) fun a HF => ?_
 refine dF ?_
 refine wp_pure HF HM rfl 1 [] [(4, aB fb)] (by kernel_rfl) fun a HF => ?_
 refine bf HF (by kernel_rfl) 74 #[aB fb, .int .i64 1] (by kernel_rfl) (fun w => by kernel_rfl) (Calls.mono (Ii (hF.below HM.below) 1 ps ts hd (.inl rfl) hstr) ?_)
 rintro _ w1 ⟨A1, c1, rfl, hb, hrow⟩
 replace HM := HM.call hb
 clear hb
 refine ⟨_, rfl, ?_⟩; clear HF; intro a HF
 refine wp_pure HF HM rfl 4 [] [(2, .slice A1 ((dh (aZ ts) ps 1 ps.length).length) c1), (3, .nilIface)] (by kernel_rfl) fun a HF => ?_
 refine aA ?_
 refine wp_ret ?_
 repeat first | refine bJ ?_ | refine bM ?_
 exact jq HF rfl rfl rfl ⟨A1, c1, rfl, HM.below, hrow⟩

theorem Gs (x : b_) (A : Option Addr) (c : Nat) (hnc : x.img.file.length ≤ c) (ok : x.img.Ok) (ps : List (Nat × Nat)) (ts : List (List UInt8)) (hd : o8 x ps ts) (hstr : ∀ p ∈ ps, p.1 = 1 → p.2 < (aZ ts).length ∧ ∃ s, kR (aZ ts) p.2 = some s) (w0 : World) (hr : Row w0 A (x.img.file.map Bv)) : Calls Tryd.prog 48 #[.slice A x.img.file.length c] w0 fun e w' => ∃ A' c', e = .returned (.tuple #[.slice A' (dh (aZ ts) ps 1 ps.length).length c', aF 0]) ∧ Below w0.heap.size w0 w' ∧ Row w' A' ((dh (aZ ts) ps 1 ps.length).map lq) := by
 have hn1 := hd.n1
 have hsl : (dh (aZ ts) ps 1 ps.length).length ≤ ps.length := yH _ ps 1 ps.length
 obtain ⟨inf, K_, -⟩ := Option.map_eq_some_iff.1 (show (Tryd.prog.info? 9).map (fun i => (i.zero, i.size, i.bytes)) = some (some (.string (⟨#[]⟩ : ByteArray)), 1, 16) by kernel_rfl)
 obtain ⟨w, hw⟩ : ∃ w, w0 = w := ⟨_, rfl⟩
 have HM : Mm [] w0 w [] := hw ▸ Mm.start w0
 conv => arg 4; rw [hw]
 clear hw
 refine cu Tryd.func48 rfl Tryd.ntmps48 [(0, .slice A x.img.file.length c)] (by kernel_rfl) (Nat.le_of_ble_eq_true rfl) ?_
 intro a HF
 refine aO ?_
 refine wp_pure HF HM rfl 2 [] [(0, .slice A x.img.file.length c)] (by kernel_rfl) fun a HF => ?_
 refine dF ?_
 refine wp_pure HF HM rfl 1 [] [(9, .slice A x.img.file.length c)] (by kernel_rfl) fun a HF => ?_
 refine bf HF (by kernel_rfl) 55 #[.slice A x.img.file.length c] (by kernel_rfl) (fun w => by kernel_rfl) (Calls.mono (N9 x A _ c rfl hnc ok w (HM.row hr)) ?_)
 rintro _ w1 ⟨bg, bcap, z, fb, pg, aV, cur, eU, rfl, hb, hge, hF⟩
 replace HM := HM.call hb
 clear hb
 refine ⟨_, rfl, ?_⟩; clear HF; intro a HF
 refine wp_pure HF HM rfl 5 [] [(4, aB fb), (5, .bool true)] (by kernel_rfl) fun a HF => ?_
 refine aA ?_
 refine wp_seq ?_
 refine aO ?_
 refine wp_pure HF HM rfl 2 [] [(4, aB fb), (14, .bool false)] (by kernel_rfl) fun a HF => ?_
 refine aA ?_
 refine aY HF rfl ?_
 refine wp_skip ?_
 repeat first | refine aK ?_ | refine aP ?_
 refine aO ?_
 refine wp_pure HF HM rfl 1 [] [(16, aB fb)] (by kernel_rfl) fun a HF => ?_
 refine bf HF (by kernel_rfl) 75 #[aB fb] (by kernel_rfl) (fun w => by kernel_rfl) (Calls.mono (KI hF ps ts hd hstr) ?_)
 rintro _ w2 ⟨A1, c1, rfl, hb, hrow⟩
 replace HM := HM.call hb
 clear hb
 refine ⟨_, rfl, ?_⟩; clear HF; intro a HF
 replace HF := HF.sub [(17, .tuple #[.slice A1 ((dh (aZ ts) ps 1 ps.length).length) c1, .nilIface])] (by kernel_rfl)
 have hbw0 := HM.below
 clear HM
 have HM : Mm [] w2 w2 [] := Mm.start w2
 refine wp_pure HF HM rfl 5 [] [(6, .slice A1 ((dh (aZ ts) ps 1 ps.length).length) c1), (7, .nilIface)] (by kernel_rfl) fun a HF => ?_
 refine dF ?_
 refine wp_pure HF HM rfl 1 [] [(7, .nilIface), (20, .slice A1 ((dh (aZ ts) ps 1 ps.length).length) c1)] (by kernel_rfl) fun a HF => ?_
 rcases Nat.eq_zero_or_pos (((dh (aZ ts) ps 1 ps.length).length)) with yV | yV
 ·rw [yV] at HF
  refine dG HF (by kernel_rfl) (aN) (by kernel_rfl) (wF Tryd.underlying38 K_ rfl rfl rfl w2) fun a HF => ?_
  refine wp_pure HF HM rfl 1 [] [(21, aN), (22, .nilIface)] (by kernel_rfl) fun a HF => ?_
  refine bf HF (by kernel_rfl) 58 #[.nilIface] (by kernel_rfl) (fun w => by kernel_rfl) (Calls.mono (vV w2) ?_)
  rintro _ w3 ⟨rfl, hb⟩
  replace HM := HM.call hb
  clear hb
  refine ⟨_, rfl, ?_⟩; clear HF; intro a HF
  refine wp_pure HF HM rfl 2 [] [(2, aN), (3, aF 0)] (by kernel_rfl) fun a HF => ?_
  refine aA ?_
  refine wp_ret ?_
  repeat first | refine bJ ?_ | refine bM ?_
  exact jq HF rfl rfl rfl ⟨none, 0, by rw [yV], (hbw0.trans (HM.below.mono hbw0.size)), by rw [List.eq_nil_of_length_eq_zero yV]; exact Row.nil _ _⟩
 refine oH HF HM rfl _ _ 38 rfl rfl 9 (z := .string (⟨#[]⟩ : ByteArray)) (size := 1) (bytes := 16) Tryd.underlying38 (by kernel_rfl) rfl (by decide) rfl A1 ((dh (aZ ts) ps 1 ps.length).length) c1 ((dh (aZ ts) ps 1 ps.length).map lq) rfl (by rw [List.length_map, Nat.mul_one]) yV (HM.row hrow) (IJ (fun _ => rfl) _) (by unfold maxLen; omega) (by omega) ?_
 intro a w4 gq yu LH bT Aq Gx EI Gy hbel HF2; clear HF HM hbel
 have HM : Mm [] w2 w4 [(gq, .cells LH 9 (0, 0))] := bT
 have HF := HF2.sub [(7, .nilIface), (21, aC gq ((dh (aZ ts) ps 1 ps.length).length) yu)] (by kernel_rfl); clear bT HF2
 refine wp_pure HF HM rfl 1 [] [(21, aC gq ((dh (aZ ts) ps 1 ps.length).length) yu), (22, .nilIface)] (by kernel_rfl) fun a HF => ?_
 refine bf HF (by kernel_rfl) 58 #[.nilIface] (by kernel_rfl) (fun w => by kernel_rfl) (Calls.mono (vV w4) ?_)
 rintro _ w5 ⟨rfl, hb⟩
 replace HM := HM.call hb
 clear hb
 refine ⟨_, rfl, ?_⟩; clear HF; intro a HF
 refine wp_pure HF HM rfl 2 [] [(2, aC gq ((dh (aZ ts) ps 1 ps.length).length) yu), (3, aF 0)] (by kernel_rfl) fun a HF => ?_
 refine aA ?_
 refine wp_ret ?_
 repeat first | refine bJ ?_ | refine bM ?_
 exact jq HF rfl rfl rfl ⟨some ⟨gq, 0, none⟩, yu, rfl, (hbw0.trans (HM.below.mono hbw0.size)), HM.lZ (i := 0) rfl Aq⟩

end Go.Proofs.YtdgehpocmfjbiaaDoor
