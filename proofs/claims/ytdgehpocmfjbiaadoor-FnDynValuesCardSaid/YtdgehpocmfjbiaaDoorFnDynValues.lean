/- Proved: the values of a tag of the dynamic section are read, in order, at every argument. No condition. -/
import Derived.Test.YtdgehpocmfjbiaaDoorSn
import Derived.Test.YtdgehpocmfjbiaaDoorSp
import Derived.Test.YtdgehpocmfjbiaaDoorSh
import Derived.Test.YtdgehpocmfjbiaaDoorSg
import Derived.Test.YtdgehpocmfjbiaaDoorSm
import Derived.Test.YtdgehpocmfjbiaaDoorSo
import Derived.Test.YtdgehpocmfjbiaaDoorCards
import Derived.Test.YtdgehpocmfjbiaaDoorTie
import Derived.Test.YtdgehpocmfjbiaaDoorFnDynValuesJ
import Derived.Test.YtdgehpocmfjbiaaDoorFnDynValuesJC
import Derived.LaidMore
import Derived.LaidLaws
import Derived.Stop.Joined
import Derived.SevenTiedAt
import Derived.ProofKit
import Derived.OpenShut
import Derived.ShutString
import Derived.ChangeOld
import Derived.Below
set_option linter.unusedVariables false
set_option linter.unusedSimpArgs false
set_option maxRecDepth 100000
set_option maxHeartbeats 2000000
namespace Go.Proofs.YtdgehpocmfjbiaaDoor
open Go.RowKit

abbrev jc := fun (fb : Nat) (x : b_) (aV : Nat) (pg : Nat) => ((fb, .cells #[aQ 1, aQ (if x.img.big then 2 else 1 : Int), aQ 1, aX x.img.abi, aX x.img.aH, (aS x.img.big), bF x.img.ty, bF x.img.machine, aI x.img.entry, aC aV (x.ps.length + 2) (x.ps.length + 2), aC pg x.img.dA.length x.img.dA.length, aN, aN, aN] 131 (0, 0)) : Nat × Obj)
abbrev jK := fun (fb : Nat) (tg : Nat) tb i r => ([(0, aB fb), (1, ay tg), (7, .slice (some ⟨tb, 8 * i, none⟩) r r), (10, aN)] : Slots)
abbrev jJ := fun (fb : Nat) (tg : Nat) tb i r og ps oc => ([(0, aB fb), (1, ay tg), (7, .slice (some ⟨tb, 8 * i, none⟩) r r), (10, aC og ((dW ps tg i).length) oc)] : Slots)
theorem OD {x : b_} {b c z fb pg aV : Nat} {cur eU : Array Value} {w0 : World} (hF : n_ x b c z fb pg aV cur eU w0) (hw : x.wide = false) (tg : Nat) (ps : List (Nat × Nat)) (ts : List (List UInt8)) (hd : o8 x ps ts) :
  Calls Tryd.prog 72 #[aB fb, ay tg] w0 fun e w' => ∃ A' c', e = .returned (.tuple #[.slice A' (dW ps tg ps.length).length c', .nilIface]) ∧ Below w0.heap.size w0 w' ∧ Row w' A' ((dW ps tg ps.length).map (fun v => Value.int .u64 ((v : Nat) : Int))) := by
 have hfb := hF.Ri hw
 have hsm := hF.small
 obtain ⟨p, q, hm0, hm1, hpo, hqo, hpt, hpl, hq8, xZ, uV⟩ := hd.ex
 have hn0 := hd.n0; have hn1 := hd.n1
 have hval := hd.val
 rw [hw] at xZ hval
 have hk1 := (List.getElem?_eq_some_iff.1 hm1).1
 have hD : p.data.length = 8 * ps.length := by rw [xZ, rV, Nat.mul_comm]; rfl
 have hq0 : 0 < q.data.length := by rw [uV]; exact Nat.succ_pos _
 have KU : q.data.length ≤ 1049601 := by rw [uV]; exact hd.tl
 have hlk : (jF x.img 1).link = 1 + 1 := (Dj hm0).trans hpl
 obtain ⟨Qu, sN, hs8⟩ := Option.map_eq_some_iff.1 Ea
 obtain ⟨pq, sq, q1, -, -, q4, q5⟩ := hF.at_.sec 1 (by rw [nY]; omega)
 obtain ⟨w, hw⟩ : ∃ w, w0 = w := ⟨_, rfl⟩
 have HM : Mm [] w0 w [] := hw ▸ Mm.start w0
 conv => arg 4; rw [hw]
 clear hw
 refine cu Tryd.func72 rfl Tryd.ntmps72 [(0, aB fb), (1, ay tg)] (by kernel_rfl) (Nat.le_of_ble_eq_true rfl) ?_
 intro a HF
 refine aO ?_
 refine wp_pure HF HM rfl 2 [] [(0, aB fb), (1, ay tg)] (by kernel_rfl) fun a HF => ?_
 refine dF ?_
 refine wp_pure HF HM rfl 1 [] [(0, aB fb), (1, ay tg), (13, aB fb)] (by kernel_rfl) fun a HF => ?_
 refine bf HF (by kernel_rfl) 71 #[aB fb, iR 6] (by kernel_rfl) (fun w => by kernel_rfl) (Calls.mono (zq (hF.below HM.below) 6 1 pq (by omega) q1 ((F7 hm0).trans hpt) (fun j hj => by obtain rfl : j = 0 := (by omega); exact (by decide : (0 : Nat) ≠ 6))) ?_)
 rintro _ w1 ⟨rfl, hq⟩
 replace hq := hq.symm; subst hq
 refine ⟨_, rfl, ?_⟩; clear HF; intro a HF
 refine wp_pure HF HM rfl 1 [] [(0, aB fb), (1, ay tg), (6, aB pq)] (by kernel_rfl) fun a HF => ?_
 refine aA ?_
 refine wp_seq ?_
 refine aO ?_
 refine wp_pure HF HM rfl 2 [] [(0, aB fb), (1, ay tg), (6, aB pq), (16, .bool false)] (by kernel_rfl) fun a HF => ?_
 refine aA ?_
 refine aY HF rfl ?_
 refine wp_skip ?_
 repeat first | refine aK ?_ | refine aP ?_
 refine aO ?_
 refine wp_pure HF HM rfl 1 [] [(0, aB fb), (1, ay tg), (18, aB pq)] (by kernel_rfl) fun a HF => ?_
 refine bf HF (by kernel_rfl) 63 #[aB pq] (by kernel_rfl) (fun w => by kernel_rfl) (Calls.mono (Ap (hF.below HM.below) hm0 hpo (by omega) (by omega) pq q1) ?_)
 rintro _ w2 ⟨tb, rfl, hb, hge, hob⟩
 replace HM : Mm [] w0 w2 [(tb, .cells (p.data.map Bv).toArray 5 (0, 0))] := HM.push hb hge hob
 clear hb
 refine ⟨_, rfl, ?_⟩; clear HF; intro a HF
 rw [hD] at HF
 refine wp_pure HF HM rfl 5 [] [(0, aB fb), (1, ay tg), (7, aC tb ((8 * ps.length)) ((8 * ps.length))), (8, .nilIface)] (by kernel_rfl) fun a HF => ?_
 refine aA ?_
 refine wp_seq ?_
 refine aO ?_
 refine wp_pure HF HM rfl 2 [] [(0, aB fb), (1, ay tg), (7, aC tb ((8 * ps.length)) ((8 * ps.length))), (8, .nilIface), (23, .bool false)] (by kernel_rfl) fun a HF => ?_
 refine aA ?_
 refine aY HF rfl ?_
 refine wp_skip ?_
 repeat first | refine aK ?_ | refine aP ?_
 refine aO ?_
 refine wp_pure HF HM rfl 1 [] [(0, aB fb), (1, ay tg), (7, aC tb ((8 * ps.length)) ((8 * ps.length))), (9, aF 8)] (by kernel_rfl) fun a HF => ?_
 refine aA ?_
 refine wp_seq ?_
 refine aO ?_
 refine wp_pure HF HM rfl 4 [] [(0, aB fb), (1, ay tg), (7, aC tb ((8 * ps.length)) ((8 * ps.length))), (9, aF 8), (28, aB fb)] (by kernel_rfl) fun a HF => ?_
 refine dG HF (by kernel_rfl) (aQ 1) (by kernel_rfl) (dV rfl rfl (by kernel_rfl) ((cell_of_row w2 fb 0 _ _ _ (HM.old hfb)).trans rfl)) fun a HF => ?_
 refine wp_pure HF HM rfl 1 [] [(0, aB fb), (1, ay tg), (7, aC tb ((8 * ps.length)) ((8 * ps.length))), (9, aF 8), (30, .bool false)] (by kernel_rfl) fun a HF => ?_
 refine aA ?_
 refine aY HF rfl ?_
 refine wp_skip ?_
 repeat first | refine aK ?_ | refine aP ?_
 refine wp_seq ?_
 refine aO ?_
 refine wp_pure HF HM rfl 4 [] [(0, aB fb), (1, ay tg), (7, aC tb ((8 * ps.length)) ((8 * ps.length))), (34, aF (Int.tmod ((((8 * ps.length)) : Nat) : Int) 8))] (by kernel_rfl) fun a HF => ?_
 rw [show Int.tmod ((((8 * ps.length)) : Nat) : Int) 8 = 0 from F9 8 _] at HF
 refine wp_pure HF HM rfl 1 [] [(0, aB fb), (1, ay tg), (7, aC tb ((8 * ps.length)) ((8 * ps.length))), (35, .bool false)] (by kernel_rfl) fun a HF => ?_
 refine aA ?_
 refine aY HF rfl ?_
 refine wp_skip ?_
 repeat first | refine aK ?_ | refine aP ?_
 refine aO ?_
 replace HM : Mm [fb] w0 w2 [jc fb x aV pg, (tb, .cells (p.data.map Bv).toArray 5 (0, 0))] := HM.F6 hfb (by simp)
 refine wp_pure HF HM rfl 1 [] [(0, aB fb), (1, ay tg), (7, aC tb ((8 * ps.length)) ((8 * ps.length))), (10, aN)] (by kernel_rfl) fun a HF => ?_
 refine aA ?_
 refine wp_seq ?_
 refine wp_block ?_
 refine kC (ps.length) (fun i a w => (∃ o, ∃ r, (i < ps.length → o = 8 * i) ∧ (r + 8 * i = 8 * ps.length) ∧ (dW ps tg i = []) ∧ Mm [fb] w0 w [jc fb x aV pg, (tb, .cells (p.data.map Bv).toArray 5 (0, 0))] ∧ Fr 96 a [(0, aB fb), (1, ay tg), (7, .slice (some ⟨tb, o, none⟩) r r), (10, aN)]) ∨ (∃ o, ∃ r, ∃ og : Nat, ∃ oc : Nat, ∃ ok : Array Value, (i < ps.length → o = 8 * i) ∧ (r + 8 * i = 8 * ps.length) ∧ (ok.toList.take (((dW ps tg i).length) * 1) = (dW ps tg i).map (fun v => Value.int .u64 ((v : Nat) : Int))) ∧ (ok.size = oc * 1) ∧ (((dW ps tg i).length) ≤ oc) ∧ (oc ≤ maxLen) ∧ Mm [fb] w0 w [(og, .cells ok 22 (0, 0)), jc fb x aV pg, (tb, .cells (p.data.map Bv).toArray 5 (0, 0))] ∧ Fr 96 a [(0, aB fb), (1, ay tg), (7, .slice (some ⟨tb, o, none⟩) r r), (10, aC og ((dW ps tg i).length) oc)])) ?_ ?_ ?_
 ·exact Or.inl <| ⟨0, ((8 * ps.length)), fun _ => rfl, by omega, rfl, HM, HF.sub [(0, aB fb), (1, ay tg), (7, aC tb ((8 * ps.length)) ((8 * ps.length))), (10, aN)] (by kernel_rfl)⟩
 ·intro i a w KX hi hI KR
  rcases hI with hI | hI
  ·obtain ⟨o, r, ho, hr, h0, HM, HF⟩ := hI
   obtain rfl := ho hi
   obtain ⟨pr, hpr⟩ : ∃ m, ps[i]? = some m := ⟨_, List.getElem?_eq_getElem hi⟩
   have ht1 := hd.tag pr (List.mem_of_getElem? hpr); have ht2 := hval pr (List.mem_of_getElem? hpr)
   obtain ⟨oC, oz⟩ := wW false x.img.big ps p.data xZ i pr hpr 4 rfl (Nat.lt_of_lt_of_le ht1 (by decide)) ht2
   have hsl := yG ps tg i
   simp only [Nat.reduceMul] at oC oz
   have ht3 : pr.2 < 4294967296 := ht2
   refine wp_seq ?_
   refine aO ?_
   refine wp_pure HF HM rfl 3 [] ((jK fb tg tb i r) ++ [(39, .bool (decide (0 < ((r : Nat) : Int))))]) (by kernel_rfl) fun a HF => ?_
   refine aA ?_
   rw [show decide (0 < ((r : Nat) : Int)) = true from dK (by omega)] at HF
   refine bD HF rfl ?_
   refine wp_skip ?_
   repeat first | refine aK ?_ | refine aP ?_
   refine wp_block ?_
   refine aO ?_
   refine wp_pure HF HM rfl 1 [] ((jK fb tg tb i r) ++ [(11, aF 0)]) (by kernel_rfl) fun a HF => ?_
   refine dF ?_
   refine wp_pure HF HM rfl 1 [] ((jK fb tg tb i r) ++ [(11, aF 0), (12, bH 0)]) (by kernel_rfl) fun a HF => ?_
   refine aA ?_
   refine wp_seq ?_
   refine aO ?_
   refine wp_pure HF HM rfl 5 [[1]] ((jK fb tg tb i r) ++ [(11, aF 0), (12, bH 0), (44, aQ 1)]) (by kernel_rfl) fun a HF => ?_
   refine aA ?_
   refine wp_block ?_
   refine aO ?_
   refine wp_pure HF HM rfl 2 [] ((jK fb tg tb i r) ++ [(11, aF 0), (12, bH 0), (44, aQ 1), (45, .bool true)]) (by kernel_rfl) fun a HF => ?_
   refine aA ?_
   refine bD HF rfl ?_
   refine jS HM (by kernel_rfl) [jc fb x aV pg, (tb, .cells (p.data.map Bv).toArray 5 (0, 0))] [(0, false), (1, false), (2, false), (3, false), (4, false), (5, false), (6, false), (7, true), (8, false), (9, false)] (by kernel_rfl) fun w3 HM => ?_
   refine bI HF (HM.told [0, 1] rfl) 6 [[1]] ((jK fb tg tb i r) ++ [(51, (aS x.img.big)), (52, .slice (some ⟨tb, 8 * i, none⟩) r r)]) (by kernel_rfl) fun a HF => ?_
   refine dL rfl HF (HM.told [0, 1] rfl) rfl (.slice (some ⟨tb, 8 * i + 0, none⟩) 4 (r - 0)) (by kernel_rfl) (fun w hw => oG Tryd.underlying33 sN hs8 rfl 0 4 4 (kk := .i64) (kh := .i64) rfl rfl rfl rfl (by omega) (by omega) w) ?_
   clear HF; intro a HF; replace HF := HF.sub ((jK fb tg tb i r) ++ [(51, (aS x.img.big)), (53, .slice (some ⟨tb, 8 * i + 0, none⟩) 4 (r - 0))]) (by kernel_rfl)
   refine bW rfl ?_
   refine bf HF (by kernel_rfl) 87 #[(aS x.img.big), .slice (some ⟨tb, 8 * i + 0, none⟩) 4 (r - 0)] (by kernel_rfl) (fun w => by kernel_rfl) (Calls.mono (wO (HM.get (i := 1) rfl) x.img.big (8 * i + 0) _ (by omega) (by omega) (by unfold maxLen; omega) _ (by rw [oC])) ?_)
   rintro _ w4 ⟨rfl, nq, hq⟩
   replace HM : Mm [fb] w0 w4 [jc fb x aV pg, (tb, .cells (p.data.map Bv).toArray 5 (0, 0))] := by rw [hq]; exact HM.drewN nq
   clear hq nq
   refine ⟨_, rfl, ?_⟩; clear HF; intro a HF
   replace HF := HF.sub ((jK fb tg tb i r) ++ [(54, bn pr.1)]) (by kernel_rfl)
   refine dH (HM.told [0, 1] rfl) ?_
   refine bI HF (HM.told [0, 1] rfl) 1 [] ((jK fb tg tb i r) ++ [(55, aF (IntKind.i64.wrap ((pr.1 : Nat) : Int)))]) (by kernel_rfl) fun a HF => ?_
   rw [show IntKind.i64.wrap ((pr.1 : Nat) : Int) = ((pr.1 : Nat) : Int) from IntWalk.i64_in _ (by omega)] at HF
   refine bI HF (HM.told [0, 1] rfl) 1 [] ((jK fb tg tb i r) ++ [(11, ay pr.1)]) (by kernel_rfl) fun a HF => ?_
   refine iM ?_
   refine aK ?_
   refine jS HM (by kernel_rfl) [jc fb x aV pg, (tb, .cells (p.data.map Bv).toArray 5 (0, 0))] [(0, false), (1, false), (2, false), (3, false), (4, false), (5, false), (6, false), (7, true), (8, false), (9, false)] (by kernel_rfl) fun w5 HM => ?_
   refine bI HF (HM.told [0, 1] rfl) 6 [[1]] ((jK fb tg tb i r) ++ [(11, ay pr.1), (60, (aS x.img.big)), (61, .slice (some ⟨tb, 8 * i, none⟩) r r)]) (by kernel_rfl) fun a HF => ?_
   refine dL rfl HF (HM.told [0, 1] rfl) rfl (.slice (some ⟨tb, 8 * i + 4, none⟩) 4 (r - 4)) (by kernel_rfl) (fun w hw => oG Tryd.underlying33 sN hs8 rfl 4 8 4 (kk := .i64) (kh := .i64) rfl rfl rfl rfl (by omega) (by omega) w) ?_
   clear HF; intro a HF; replace HF := HF.sub ((jK fb tg tb i r) ++ [(11, ay pr.1), (60, (aS x.img.big)), (62, .slice (some ⟨tb, 8 * i + 4, none⟩) 4 (r - 4))]) (by kernel_rfl)
   refine bW rfl ?_
   refine bf HF (by kernel_rfl) 87 #[(aS x.img.big), .slice (some ⟨tb, 8 * i + 4, none⟩) 4 (r - 4)] (by kernel_rfl) (fun w => by kernel_rfl) (Calls.mono (wO (HM.get (i := 1) rfl) x.img.big (8 * i + 4) _ (by omega) (by omega) (by unfold maxLen; omega) _ (by rw [oz])) ?_)
   rintro _ w6 ⟨rfl, nq, hq⟩
   replace HM : Mm [fb] w0 w6 [jc fb x aV pg, (tb, .cells (p.data.map Bv).toArray 5 (0, 0))] := by rw [hq]; exact HM.drewN nq
   clear hq nq
   refine ⟨_, rfl, ?_⟩; clear HF; intro a HF
   replace HF := HF.sub ((jK fb tg tb i r) ++ [(11, ay pr.1), (63, bn pr.2)]) (by kernel_rfl)
   refine dH (HM.told [0, 1] rfl) ?_
   refine bI HF (HM.told [0, 1] rfl) 1 [] ((jK fb tg tb i r) ++ [(11, ay pr.1), (64, bH (IntKind.u64.wrap ((pr.2 : Nat) : Int)))]) (by kernel_rfl) fun a HF => ?_
   rw [show IntKind.u64.wrap ((pr.2 : Nat) : Int) = ((pr.2 : Nat) : Int) from IntWalk.u64_in _ (by omega)] at HF
   refine bI HF (HM.told [0, 1] rfl) 1 [] ((jK fb tg tb i r) ++ [(11, ay pr.1), (12, aI pr.2)]) (by kernel_rfl) fun a HF => ?_
   refine iM ?_
   refine aK ?_
   refine wp_region_lit ?_
   refine wp_pure HF HM rfl 1 [] [(0, aB fb), (1, ay tg), (10, aN), (11, ay pr.1), (12, aI pr.2), (65, .slice (some ⟨tb, 8 * i, none⟩) r r)] (by kernel_rfl) fun a HF => ?_
   obtain ⟨rC, hr20⟩ : ∃ q, 8 + q = r := ⟨r - 8, by omega⟩
   refine dG HF (by kernel_rfl) (.slice (some ⟨tb, if rC = 0 then 8 * i else 8 * i + 8, none⟩) rC rC) (by kernel_rfl) (uO Tryd.underlying33 sN hs8 rfl 8 rC (kk := .i64) rfl rfl (by omega) hr20 rfl w6) fun a HF => ?_
   refine wp_pure HF HM rfl 1 [] [(0, aB fb), (1, ay tg), (7, .slice (some ⟨tb, if rC = 0 then 8 * i else 8 * i + 8, none⟩) rC rC), (10, aN), (11, ay pr.1), (12, aI pr.2)] (by kernel_rfl) fun a HF => ?_
   refine wpList_nil ?_
   repeat first | refine aK ?_ | refine aP ?_
   refine aO ?_
   refine wp_pure HF HM rfl 3 [] [(0, aB fb), (1, ay tg), (7, .slice (some ⟨tb, if rC = 0 then 8 * i else 8 * i + 8, none⟩) rC rC), (10, aN), (12, aI pr.2), (90, .bool (((pr.1 : Nat) : Int) == ((tg : Nat) : Int)))] (by kernel_rfl) fun a HF => ?_
   refine aA ?_
   by_cases hc1 : ((pr.1 : Nat) : Int) = ((tg : Nat) : Int)
   ·rw [show (((pr.1 : Nat) : Int) == ((tg : Nat) : Int)) = true from nZ (hc1)] at HF
    refine bD HF rfl ?_
    refine wp_region_lit ?_
    obtain ⟨z23, KN⟩ : ∃ z, w6.heap.size = z := ⟨_, rfl⟩
    refine aT HF HM KN 3 [] [(0, aB fb), (1, ay tg), (7, .slice (some ⟨tb, if rC = 0 then 8 * i else 8 * i + 8, none⟩) rC rC), (91, aN), (93, aC z23 1 1)] [(z23, .cells #[aI pr.2] 22 (0, 0)), jc fb x aV pg, (tb, .cells (p.data.map Bv).toArray 5 (0, 0))] (by kernel_rfl) fun a w HF HM => ?_
    clear KN
    refine oH HF HM rfl _ _ 83 rfl rfl 22 (z := bH 0) (size := 1) (bytes := 8) Tryd.underlying83 (by kernel_rfl) rfl (by decide) rfl (some ⟨z23, 0, none⟩) 1 1 ([aI pr.2]) rfl rfl (by omega) (HM.rowAt (i := 0) rfl) (lu rfl) (by unfold maxLen; omega) (by omega) ?_
    intro a w7 g2 cap2 mX bT qj hsz2 qQ hcm2 hbel HF2; clear HF HM hbel
    have HM : Mm [fb] w0 w7 [(g2, .cells mX 22 (0, 0)), (z23, .cells #[aI pr.2] 22 (0, 0)), jc fb x aV pg, (tb, .cells (p.data.map Bv).toArray 5 (0, 0))] := bT
    have HF := HF2.sub [(0, aB fb), (1, ay tg), (7, .slice (some ⟨tb, if rC = 0 then 8 * i else 8 * i + 8, none⟩) rC rC), (94, aC g2 1 cap2)] (by kernel_rfl); clear bT HF2
    refine wp_pure HF HM rfl 1 [] [(0, aB fb), (1, ay tg), (7, .slice (some ⟨tb, if rC = 0 then 8 * i else 8 * i + 8, none⟩) rC rC), (10, aC g2 1 cap2)] (by kernel_rfl) fun a HF => ?_
    refine wpList_nil ?_
    repeat first | refine aK ?_ | refine aP ?_
    have hl1 : 1 = ((dW ps tg (i + 1)).length) := by rw [tC hpr hc1, h0]; rfl
    replace HF := Fr.tell HF 10 rfl (show Value.slice (some ⟨g2, 0, none⟩) 1 cap2 = Value.slice (some ⟨g2, 0, none⟩) ((dW ps tg (i + 1)).length) cap2 from congrArg (fun q => Value.slice (some ⟨g2, 0, none⟩) q cap2) hl1)
    replace qj : mX.toList.take (((dW ps tg (i + 1)).length) * 1) = [aI pr.2] := by rw [← hl1]; exact qj
    replace qQ : ((dW ps tg (i + 1)).length) ≤ cap2 := by rw [← hl1]; exact qQ
    replace qj : mX.toList.take (((dW ps tg (i + 1)).length) * 1) = (dW ps tg (i + 1)).map (fun v => Value.int .u64 ((v : Nat) : Int)) := qj.trans (by rw [tC hpr hc1]; rw [h0]; rfl)
    exact KR _ _ (Or.inr <| ⟨if rC = 0 then 8 * i else 8 * i + 8, rC, g2, cap2, mX, fun hlt => by rw [if_neg (by omega)]; omega, by omega, qj, hsz2, qQ, hcm2, (HM.pick [0, 2, 3] [(g2, .cells mX 22 (0, 0)), jc fb x aV pg, (tb, .cells (p.data.map Bv).toArray 5 (0, 0))] rfl (by decide)), HF.sub [(0, aB fb), (1, ay tg), (7, .slice (some ⟨tb, if rC = 0 then 8 * i else 8 * i + 8, none⟩) rC rC), (10, aC g2 ((dW ps tg (i + 1)).length) cap2)] (by kernel_rfl)⟩)
   rw [show (((pr.1 : Nat) : Int) == ((tg : Nat) : Int)) = false from oM (hc1)] at HF
   refine aY HF rfl ?_
   refine wp_skip ?_
   repeat first | refine aK ?_ | refine aP ?_
   exact KR _ _ (Or.inl <| ⟨if rC = 0 then 8 * i else 8 * i + 8, rC, fun hlt => by rw [if_neg (by omega)]; omega, by omega, ((yF hpr hc1).trans h0), HM, HF.sub [(0, aB fb), (1, ay tg), (7, .slice (some ⟨tb, if rC = 0 then 8 * i else 8 * i + 8, none⟩) rC rC), (10, aN)] (by kernel_rfl)⟩)
  ·obtain ⟨o, r, og, oc, ok, ho, hr, lX, sG, pU, sH, HM, HF⟩ := hI
   obtain rfl := ho hi
   obtain ⟨pr, hpr⟩ : ∃ m, ps[i]? = some m := ⟨_, List.getElem?_eq_getElem hi⟩
   have ht1 := hd.tag pr (List.mem_of_getElem? hpr); have ht2 := hval pr (List.mem_of_getElem? hpr)
   obtain ⟨oC, oz⟩ := wW false x.img.big ps p.data xZ i pr hpr 4 rfl (Nat.lt_of_lt_of_le ht1 (by decide)) ht2
   have hsl := yG ps tg i
   simp only [Nat.reduceMul] at oC oz
   have ht3 : pr.2 < 4294967296 := ht2
   refine wp_seq ?_
   refine aO ?_
   refine wp_pure HF HM rfl 3 [] ((jJ fb tg tb i r og ps oc) ++ [(39, .bool (decide (0 < ((r : Nat) : Int))))]) (by kernel_rfl) fun a HF => ?_
   refine aA ?_
   rw [show decide (0 < ((r : Nat) : Int)) = true from dK (by omega)] at HF
   refine bD HF rfl ?_
   refine wp_skip ?_
   repeat first | refine aK ?_ | refine aP ?_
   refine wp_block ?_
   refine aO ?_
   refine wp_pure HF HM rfl 1 [] ((jJ fb tg tb i r og ps oc) ++ [(11, aF 0)]) (by kernel_rfl) fun a HF => ?_
   refine dF ?_
   refine wp_pure HF HM rfl 1 [] ((jJ fb tg tb i r og ps oc) ++ [(11, aF 0), (12, bH 0)]) (by kernel_rfl) fun a HF => ?_
   refine aA ?_
   refine wp_seq ?_
   refine aO ?_
   refine wp_pure HF HM rfl 5 [[1]] ((jJ fb tg tb i r og ps oc) ++ [(11, aF 0), (12, bH 0), (44, aQ 1)]) (by kernel_rfl) fun a HF => ?_
   refine aA ?_
   refine wp_block ?_
   refine aO ?_
   refine wp_pure HF HM rfl 2 [] ((jJ fb tg tb i r og ps oc) ++ [(11, aF 0), (12, bH 0), (44, aQ 1), (45, .bool true)]) (by kernel_rfl) fun a HF => ?_
   refine aA ?_
   refine bD HF rfl ?_
   refine jS HM (by kernel_rfl) [(og, .cells ok 22 (0, 0)), jc fb x aV pg, (tb, .cells (p.data.map Bv).toArray 5 (0, 0))] [(0, false), (1, false), (2, false), (3, false), (4, false), (5, false), (6, false), (7, true), (8, false), (9, false)] (by kernel_rfl) fun w8 HM => ?_
   refine bI HF (HM.told [0, 1, 2] rfl) 6 [[1]] ((jJ fb tg tb i r og ps oc) ++ [(51, (aS x.img.big)), (52, .slice (some ⟨tb, 8 * i, none⟩) r r)]) (by kernel_rfl) fun a HF => ?_
   refine dL rfl HF (HM.told [0, 1, 2] rfl) rfl (.slice (some ⟨tb, 8 * i + 0, none⟩) 4 (r - 0)) (by kernel_rfl) (fun w hw => oG Tryd.underlying33 sN hs8 rfl 0 4 4 (kk := .i64) (kh := .i64) rfl rfl rfl rfl (by omega) (by omega) w) ?_
   clear HF; intro a HF; replace HF := HF.sub ((jJ fb tg tb i r og ps oc) ++ [(51, (aS x.img.big)), (53, .slice (some ⟨tb, 8 * i + 0, none⟩) 4 (r - 0))]) (by kernel_rfl)
   refine bW rfl ?_
   refine bf HF (by kernel_rfl) 87 #[(aS x.img.big), .slice (some ⟨tb, 8 * i + 0, none⟩) 4 (r - 0)] (by kernel_rfl) (fun w => by kernel_rfl) (Calls.mono (wO (HM.get (i := 2) rfl) x.img.big (8 * i + 0) _ (by omega) (by omega) (by unfold maxLen; omega) _ (by rw [oC])) ?_)
   rintro _ w9 ⟨rfl, nq, hq⟩
   replace HM : Mm [fb] w0 w9 [(og, .cells ok 22 (0, 0)), jc fb x aV pg, (tb, .cells (p.data.map Bv).toArray 5 (0, 0))] := by rw [hq]; exact HM.drewN nq
   clear hq nq
   refine ⟨_, rfl, ?_⟩; clear HF; intro a HF
   replace HF := HF.sub ((jJ fb tg tb i r og ps oc) ++ [(54, bn pr.1)]) (by kernel_rfl)
   refine dH (HM.told [0, 1, 2] rfl) ?_
   refine bI HF (HM.told [0, 1, 2] rfl) 1 [] ((jJ fb tg tb i r og ps oc) ++ [(55, aF (IntKind.i64.wrap ((pr.1 : Nat) : Int)))]) (by kernel_rfl) fun a HF => ?_
   rw [show IntKind.i64.wrap ((pr.1 : Nat) : Int) = ((pr.1 : Nat) : Int) from IntWalk.i64_in _ (by omega)] at HF
   refine bI HF (HM.told [0, 1, 2] rfl) 1 [] ((jJ fb tg tb i r og ps oc) ++ [(11, ay pr.1)]) (by kernel_rfl) fun a HF => ?_
   refine iM ?_
   refine aK ?_
   refine jS HM (by kernel_rfl) [(og, .cells ok 22 (0, 0)), jc fb x aV pg, (tb, .cells (p.data.map Bv).toArray 5 (0, 0))] [(0, false), (1, false), (2, false), (3, false), (4, false), (5, false), (6, false), (7, true), (8, false), (9, false)] (by kernel_rfl) fun w10 HM => ?_
   refine bI HF (HM.told [0, 1, 2] rfl) 6 [[1]] ((jJ fb tg tb i r og ps oc) ++ [(11, ay pr.1), (60, (aS x.img.big)), (61, .slice (some ⟨tb, 8 * i, none⟩) r r)]) (by kernel_rfl) fun a HF => ?_
   refine dL rfl HF (HM.told [0, 1, 2] rfl) rfl (.slice (some ⟨tb, 8 * i + 4, none⟩) 4 (r - 4)) (by kernel_rfl) (fun w hw => oG Tryd.underlying33 sN hs8 rfl 4 8 4 (kk := .i64) (kh := .i64) rfl rfl rfl rfl (by omega) (by omega) w) ?_
   clear HF; intro a HF; replace HF := HF.sub ((jJ fb tg tb i r og ps oc) ++ [(11, ay pr.1), (60, (aS x.img.big)), (62, .slice (some ⟨tb, 8 * i + 4, none⟩) 4 (r - 4))]) (by kernel_rfl)
   refine bW rfl ?_
   refine bf HF (by kernel_rfl) 87 #[(aS x.img.big), .slice (some ⟨tb, 8 * i + 4, none⟩) 4 (r - 4)] (by kernel_rfl) (fun w => by kernel_rfl) (Calls.mono (wO (HM.get (i := 2) rfl) x.img.big (8 * i + 4) _ (by omega) (by omega) (by unfold maxLen; omega) _ (by rw [oz])) ?_)
   rintro _ qU ⟨rfl, nq, hq⟩
   replace HM : Mm [fb] w0 qU [(og, .cells ok 22 (0, 0)), jc fb x aV pg, (tb, .cells (p.data.map Bv).toArray 5 (0, 0))] := by rw [hq]; exact HM.drewN nq
   clear hq nq
   refine ⟨_, rfl, ?_⟩; clear HF; intro a HF
   replace HF := HF.sub ((jJ fb tg tb i r og ps oc) ++ [(11, ay pr.1), (63, bn pr.2)]) (by kernel_rfl)
   refine dH (HM.told [0, 1, 2] rfl) ?_
   refine bI HF (HM.told [0, 1, 2] rfl) 1 [] ((jJ fb tg tb i r og ps oc) ++ [(11, ay pr.1), (64, bH (IntKind.u64.wrap ((pr.2 : Nat) : Int)))]) (by kernel_rfl) fun a HF => ?_
   rw [show IntKind.u64.wrap ((pr.2 : Nat) : Int) = ((pr.2 : Nat) : Int) from IntWalk.u64_in _ (by omega)] at HF
   refine bI HF (HM.told [0, 1, 2] rfl) 1 [] ((jJ fb tg tb i r og ps oc) ++ [(11, ay pr.1), (12, aI pr.2)]) (by kernel_rfl) fun a HF => ?_
   refine iM ?_
   refine aK ?_
   refine wp_region_lit ?_
   refine wp_pure HF HM rfl 1 [] [(0, aB fb), (1, ay tg), (10, aC og ((dW ps tg i).length) oc), (11, ay pr.1), (12, aI pr.2), (65, .slice (some ⟨tb, 8 * i, none⟩) r r)] (by kernel_rfl) fun a HF => ?_
   obtain ⟨ru, hr31⟩ : ∃ q, 8 + q = r := ⟨r - 8, by omega⟩
   refine dG HF (by kernel_rfl) (.slice (some ⟨tb, if ru = 0 then 8 * i else 8 * i + 8, none⟩) ru ru) (by kernel_rfl) (uO Tryd.underlying33 sN hs8 rfl 8 ru (kk := .i64) rfl rfl (by omega) hr31 rfl qU) fun a HF => ?_
   refine wp_pure HF HM rfl 1 [] [(0, aB fb), (1, ay tg), (7, .slice (some ⟨tb, if ru = 0 then 8 * i else 8 * i + 8, none⟩) ru ru), (10, aC og ((dW ps tg i).length) oc), (11, ay pr.1), (12, aI pr.2)] (by kernel_rfl) fun a HF => ?_
   refine wpList_nil ?_
   repeat first | refine aK ?_ | refine aP ?_
   refine aO ?_
   refine wp_pure HF HM rfl 3 [] [(0, aB fb), (1, ay tg), (7, .slice (some ⟨tb, if ru = 0 then 8 * i else 8 * i + 8, none⟩) ru ru), (10, aC og ((dW ps tg i).length) oc), (12, aI pr.2), (90, .bool (((pr.1 : Nat) : Int) == ((tg : Nat) : Int)))] (by kernel_rfl) fun a HF => ?_
   refine aA ?_
   by_cases hc3 : ((pr.1 : Nat) : Int) = ((tg : Nat) : Int)
   ·rw [show (((pr.1 : Nat) : Int) == ((tg : Nat) : Int)) = true from nZ (hc3)] at HF
    refine bD HF rfl ?_
    refine wp_region_lit ?_
    obtain ⟨z34, hz34⟩ : ∃ z, qU.heap.size = z := ⟨_, rfl⟩
    refine aT HF HM hz34 3 [] [(0, aB fb), (1, ay tg), (7, .slice (some ⟨tb, if ru = 0 then 8 * i else 8 * i + 8, none⟩) ru ru), (91, aC og ((dW ps tg i).length) oc), (93, aC z34 1 1)] [(z34, .cells #[aI pr.2] 22 (0, 0)), (og, .cells ok 22 (0, 0)), jc fb x aV pg, (tb, .cells (p.data.map Bv).toArray 5 (0, 0))] (by kernel_rfl) fun a w HF HM => ?_
    clear hz34
    refine fZ HF HM rfl _ _ 83 83 rfl rfl 22 (z := bH 0) (size := 1) (bytes := 8) Tryd.underlying83 (by kernel_rfl) rfl (by decide) 1 og ((dW ps tg i).length) oc ok rfl rfl pU sH sG ((dW ps tg i).map (fun v => Value.int .u64 ((v : Nat) : Int))) lX (aC z34 1 1) 1 [aI pr.2] rfl (lW Tryd.underlying83 rfl (by decide) (HM.rowAt (i := 0) rfl) (lu rfl)) (by unfold maxLen; omega) (by omega) ?_
    intro a w12 g4 cap4 sO bT sK IQ AZ IW HF2; clear HF HM
    have HM : Mm [fb] w0 w12 [(z34, .cells #[aI pr.2] 22 (0, 0)), (g4, .cells sO 22 (0, 0)), jc fb x aV pg, (tb, .cells (p.data.map Bv).toArray 5 (0, 0))] := bT
    have HF := HF2.sub [(0, aB fb), (1, ay tg), (7, .slice (some ⟨tb, if ru = 0 then 8 * i else 8 * i + 8, none⟩) ru ru), (94, aC g4 (((dW ps tg i).length) + 1) cap4)] (by kernel_rfl); clear bT HF2
    refine wp_pure HF HM rfl 1 [] [(0, aB fb), (1, ay tg), (7, .slice (some ⟨tb, if ru = 0 then 8 * i else 8 * i + 8, none⟩) ru ru), (10, aC g4 (((dW ps tg i).length) + 1) cap4)] (by kernel_rfl) fun a HF => ?_
    refine wpList_nil ?_
    repeat first | refine aK ?_ | refine aP ?_
    rw [show (((dW ps tg i).length) + 1) = ((dW ps tg (i + 1)).length) from by rw [tC hpr hc3, List.length_append]; rfl] at HF sK AZ
    replace sK : sO.toList.take (((dW ps tg (i + 1)).length) * 1) = (dW ps tg (i + 1)).map (fun v => Value.int .u64 ((v : Nat) : Int)) := sK.trans (by rw [tC hpr hc3]; rw [List.map_append]; rfl)
    exact KR _ _ (Or.inr <| ⟨if ru = 0 then 8 * i else 8 * i + 8, ru, g4, cap4, sO, fun hlt => by rw [if_neg (by omega)]; omega, by omega, sK, IQ, AZ, IW, (HM.pick [1, 2, 3] [(g4, .cells sO 22 (0, 0)), jc fb x aV pg, (tb, .cells (p.data.map Bv).toArray 5 (0, 0))] rfl (by decide)), HF.sub [(0, aB fb), (1, ay tg), (7, .slice (some ⟨tb, if ru = 0 then 8 * i else 8 * i + 8, none⟩) ru ru), (10, aC g4 ((dW ps tg (i + 1)).length) cap4)] (by kernel_rfl)⟩)
   rw [show (((pr.1 : Nat) : Int) == ((tg : Nat) : Int)) = false from oM (hc3)] at HF
   refine aY HF rfl ?_
   refine wp_skip ?_
   repeat first | refine aK ?_ | refine aP ?_
   rw [show ((dW ps tg i).length) = ((dW ps tg (i + 1)).length) from (congrArg List.length (yF hpr hc3)).symm] at HF lX pU
   replace lX : ok.toList.take (((dW ps tg (i + 1)).length) * 1) = (dW ps tg (i + 1)).map (fun v => Value.int .u64 ((v : Nat) : Int)) := lX.trans (by rw [yF hpr hc3])
   exact KR _ _ (Or.inr <| ⟨if ru = 0 then 8 * i else 8 * i + 8, ru, og, oc, ok, fun hlt => by rw [if_neg (by omega)]; omega, by omega, lX, sG, pU, sH, HM, HF.sub [(0, aB fb), (1, ay tg), (7, .slice (some ⟨tb, if ru = 0 then 8 * i else 8 * i + 8, none⟩) ru ru), (10, aC og ((dW ps tg (i + 1)).length) oc)] (by kernel_rfl)⟩)
 ·intro a w KX hI
  rcases hI with hI | hI
  ·obtain ⟨o, r, ho, hr, h0, HM, HF⟩ := hI
   refine wp_seq ?_
   refine aO ?_
   refine wp_pure HF HM rfl 3 [] [(0, aB fb), (1, ay tg), (7, .slice (some ⟨tb, o, none⟩) r r), (10, aN), (39, .bool (decide (0 < ((r : Nat) : Int))))] (by kernel_rfl) fun a HF => ?_
   refine aA ?_
   rw [show decide (0 < ((r : Nat) : Int)) = false from cZ (by omega)] at HF
   refine aY HF rfl ?_
   refine wp_exit ?_
   repeat (first | refine eH ?_ | refine dY rfl ?_)
   refine gZ ?_
   repeat first | refine aK ?_ | refine aP ?_
   refine aO ?_
   refine wp_pure HF HM rfl 3 [] [(4, aN), (5, .nilIface)] (by kernel_rfl) fun a HF => ?_
   refine aA ?_
   refine wp_ret ?_
   repeat first | refine bJ ?_ | refine bM ?_
   replace HM : Mm [] w0 w [(tb, .cells (p.data.map Bv).toArray 5 (0, 0))] := HM.xg 0 rfl hfb
   exact jq HF rfl rfl rfl ⟨none, 0, by rw [h0]; rfl, HM.below, by rw [h0]; exact Row.nil _ _⟩
  ·obtain ⟨o, r, og, oc, ok, ho, hr, lX, sG, pU, sH, HM, HF⟩ := hI
   refine wp_seq ?_
   refine aO ?_
   refine wp_pure HF HM rfl 3 [] [(0, aB fb), (1, ay tg), (7, .slice (some ⟨tb, o, none⟩) r r), (10, aC og ((dW ps tg ps.length).length) oc), (39, .bool (decide (0 < ((r : Nat) : Int))))] (by kernel_rfl) fun a HF => ?_
   refine aA ?_
   rw [show decide (0 < ((r : Nat) : Int)) = false from cZ (by omega)] at HF
   refine aY HF rfl ?_
   refine wp_exit ?_
   repeat (first | refine eH ?_ | refine dY rfl ?_)
   refine gZ ?_
   repeat first | refine aK ?_ | refine aP ?_
   refine aO ?_
   refine wp_pure HF HM rfl 3 [] [(4, aC og ((dW ps tg ps.length).length) oc), (5, .nilIface)] (by kernel_rfl) fun a HF => ?_
   refine aA ?_
   refine wp_ret ?_
   repeat first | refine bJ ?_ | refine bM ?_
   replace HM : Mm [] w0 w [(og, .cells ok 22 (0, 0)), (tb, .cells (p.data.map Bv).toArray 5 (0, 0))] := HM.xg 1 rfl hfb
   exact jq HF rfl rfl rfl ⟨some ⟨og, 0, none⟩, oc, rfl, HM.below, HM.lZ (i := 0) rfl lX⟩

abbrev iZ := fun (fb : Nat) (x : b_) (aV : Nat) (pg : Nat) => ((fb, .cells #[aQ 2, aQ (if x.img.big then 2 else 1 : Int), aQ 1, aX x.img.abi, aX x.img.aH, (aS x.img.big), bF x.img.ty, bF x.img.machine, aI x.img.entry, aC aV (x.ps.length + 2) (x.ps.length + 2), aC pg x.img.dA.length x.img.dA.length, aN, aN, aN] 131 (0, 0)) : Nat × Obj)
abbrev jI := fun (fb : Nat) (tg : Nat) tb i r => ([(0, aB fb), (1, ay tg), (7, .slice (some ⟨tb, 16 * i, none⟩) r r), (10, aN)] : Slots)
abbrev jH := fun (fb : Nat) (tg : Nat) tb i r og ps oc => ([(0, aB fb), (1, ay tg), (7, .slice (some ⟨tb, 16 * i, none⟩) r r), (10, aC og ((dW ps tg i).length) oc)] : Slots)
theorem OC {x : b_} {b c z fb pg aV : Nat} {cur eU : Array Value} {w0 : World} (hF : n_ x b c z fb pg aV cur eU w0) (hw : x.wide = true) (tg : Nat) (ps : List (Nat × Nat)) (ts : List (List UInt8)) (hd : o8 x ps ts) :
  Calls Tryd.prog 72 #[aB fb, ay tg] w0 fun e w' => ∃ A' c', e = .returned (.tuple #[.slice A' (dW ps tg ps.length).length c', .nilIface]) ∧ Below w0.heap.size w0 w' ∧ Row w' A' ((dW ps tg ps.length).map (fun v => Value.int .u64 ((v : Nat) : Int))) := by
 have hfb := hF.Rh hw
 have hsm := hF.small
 obtain ⟨p, q, hm0, hm1, hpo, hqo, hpt, hpl, hq8, xZ, uV⟩ := hd.ex
 have hn0 := hd.n0; have hn1 := hd.n1
 have hval := hd.val
 rw [hw] at xZ hval
 have hk1 := (List.getElem?_eq_some_iff.1 hm1).1
 have hD : p.data.length = 16 * ps.length := by rw [xZ, rV, Nat.mul_comm]; rfl
 have hq0 : 0 < q.data.length := by rw [uV]; exact Nat.succ_pos _
 have KU : q.data.length ≤ 1049601 := by rw [uV]; exact hd.tl
 have hlk : (jF x.img 1).link = 1 + 1 := (Dj hm0).trans hpl
 obtain ⟨Qu, sN, hs8⟩ := Option.map_eq_some_iff.1 Ea
 obtain ⟨pq, sq, q1, -, -, q4, q5⟩ := hF.at_.sec 1 (by rw [nY]; omega)
 obtain ⟨w, hw⟩ : ∃ w, w0 = w := ⟨_, rfl⟩
 have HM : Mm [] w0 w [] := hw ▸ Mm.start w0
 conv => arg 4; rw [hw]
 clear hw
 refine cu Tryd.func72 rfl Tryd.ntmps72 [(0, aB fb), (1, ay tg)] (by kernel_rfl) (Nat.le_of_ble_eq_true rfl) ?_
 intro a HF
 refine aO ?_
 refine wp_pure HF HM rfl 2 [] [(0, aB fb), (1, ay tg)] (by kernel_rfl) fun a HF => ?_
 refine dF ?_
 refine wp_pure HF HM rfl 1 [] [(0, aB fb), (1, ay tg), (13, aB fb)] (by kernel_rfl) fun a HF => ?_
 refine bf HF (by kernel_rfl) 71 #[aB fb, iR 6] (by kernel_rfl) (fun w => by kernel_rfl) (Calls.mono (zq (hF.below HM.below) 6 1 pq (by omega) q1 ((F7 hm0).trans hpt) (fun j hj => by obtain rfl : j = 0 := (by omega); exact (by decide : (0 : Nat) ≠ 6))) ?_)
 rintro _ w1 ⟨rfl, hq⟩
 replace hq := hq.symm; subst hq
 refine ⟨_, rfl, ?_⟩; clear HF; intro a HF
 refine wp_pure HF HM rfl 1 [] [(0, aB fb), (1, ay tg), (6, aB pq)] (by kernel_rfl) fun a HF => ?_
 refine aA ?_
 refine wp_seq ?_
 refine aO ?_
 refine wp_pure HF HM rfl 2 [] [(0, aB fb), (1, ay tg), (6, aB pq), (16, .bool false)] (by kernel_rfl) fun a HF => ?_
 refine aA ?_
 refine aY HF rfl ?_
 refine wp_skip ?_
 repeat first | refine aK ?_ | refine aP ?_
 refine aO ?_
 refine wp_pure HF HM rfl 1 [] [(0, aB fb), (1, ay tg), (18, aB pq)] (by kernel_rfl) fun a HF => ?_
 refine bf HF (by kernel_rfl) 63 #[aB pq] (by kernel_rfl) (fun w => by kernel_rfl) (Calls.mono (Ap (hF.below HM.below) hm0 hpo (by omega) (by omega) pq q1) ?_)
 rintro _ w2 ⟨tb, rfl, hb, hge, hob⟩
 replace HM : Mm [] w0 w2 [(tb, .cells (p.data.map Bv).toArray 5 (0, 0))] := HM.push hb hge hob
 clear hb
 refine ⟨_, rfl, ?_⟩; clear HF; intro a HF
 rw [hD] at HF
 refine wp_pure HF HM rfl 5 [] [(0, aB fb), (1, ay tg), (7, aC tb ((16 * ps.length)) ((16 * ps.length))), (8, .nilIface)] (by kernel_rfl) fun a HF => ?_
 refine aA ?_
 refine wp_seq ?_
 refine aO ?_
 refine wp_pure HF HM rfl 2 [] [(0, aB fb), (1, ay tg), (7, aC tb ((16 * ps.length)) ((16 * ps.length))), (8, .nilIface), (23, .bool false)] (by kernel_rfl) fun a HF => ?_
 refine aA ?_
 refine aY HF rfl ?_
 refine wp_skip ?_
 repeat first | refine aK ?_ | refine aP ?_
 refine aO ?_
 refine wp_pure HF HM rfl 1 [] [(0, aB fb), (1, ay tg), (7, aC tb ((16 * ps.length)) ((16 * ps.length))), (9, aF 8)] (by kernel_rfl) fun a HF => ?_
 refine aA ?_
 refine wp_seq ?_
 refine aO ?_
 refine wp_pure HF HM rfl 4 [] [(0, aB fb), (1, ay tg), (7, aC tb ((16 * ps.length)) ((16 * ps.length))), (9, aF 8), (28, aB fb)] (by kernel_rfl) fun a HF => ?_
 refine dG HF (by kernel_rfl) (aQ 2) (by kernel_rfl) (dV rfl rfl (by kernel_rfl) ((cell_of_row w2 fb 0 _ _ _ (HM.old hfb)).trans rfl)) fun a HF => ?_
 refine wp_pure HF HM rfl 1 [] [(0, aB fb), (1, ay tg), (7, aC tb ((16 * ps.length)) ((16 * ps.length))), (9, aF 8), (30, .bool true)] (by kernel_rfl) fun a HF => ?_
 refine aA ?_
 refine bD HF rfl ?_
 refine wp_region_lit ?_
 refine wp_pure HF HM rfl 1 [] [(0, aB fb), (1, ay tg), (7, aC tb ((16 * ps.length)) ((16 * ps.length))), (9, aF 16)] (by kernel_rfl) fun a HF => ?_
 refine wpList_nil ?_
 repeat first | refine aK ?_ | refine aP ?_
 refine wp_seq ?_
 refine aO ?_
 refine wp_pure HF HM rfl 4 [] [(0, aB fb), (1, ay tg), (7, aC tb ((16 * ps.length)) ((16 * ps.length))), (34, aF (Int.tmod ((((16 * ps.length)) : Nat) : Int) 16))] (by kernel_rfl) fun a HF => ?_
 rw [show Int.tmod ((((16 * ps.length)) : Nat) : Int) 16 = 0 from F9 16 _] at HF
 refine wp_pure HF HM rfl 1 [] [(0, aB fb), (1, ay tg), (7, aC tb ((16 * ps.length)) ((16 * ps.length))), (35, .bool false)] (by kernel_rfl) fun a HF => ?_
 refine aA ?_
 refine aY HF rfl ?_
 refine wp_skip ?_
 repeat first | refine aK ?_ | refine aP ?_
 refine aO ?_
 replace HM : Mm [fb] w0 w2 [iZ fb x aV pg, (tb, .cells (p.data.map Bv).toArray 5 (0, 0))] := HM.F6 hfb (by simp)
 refine wp_pure HF HM rfl 1 [] [(0, aB fb), (1, ay tg), (7, aC tb ((16 * ps.length)) ((16 * ps.length))), (10, aN)] (by kernel_rfl) fun a HF => ?_
 refine aA ?_
 refine wp_seq ?_
 refine wp_block ?_
 refine kC (ps.length) (fun i a w => (∃ o, ∃ r, (i < ps.length → o = 16 * i) ∧ (r + 16 * i = 16 * ps.length) ∧ (dW ps tg i = []) ∧ Mm [fb] w0 w [iZ fb x aV pg, (tb, .cells (p.data.map Bv).toArray 5 (0, 0))] ∧ Fr 96 a [(0, aB fb), (1, ay tg), (7, .slice (some ⟨tb, o, none⟩) r r), (10, aN)]) ∨ (∃ o, ∃ r, ∃ og : Nat, ∃ oc : Nat, ∃ ok : Array Value, (i < ps.length → o = 16 * i) ∧ (r + 16 * i = 16 * ps.length) ∧ (ok.toList.take (((dW ps tg i).length) * 1) = (dW ps tg i).map (fun v => Value.int .u64 ((v : Nat) : Int))) ∧ (ok.size = oc * 1) ∧ (((dW ps tg i).length) ≤ oc) ∧ (oc ≤ maxLen) ∧ Mm [fb] w0 w [(og, .cells ok 22 (0, 0)), iZ fb x aV pg, (tb, .cells (p.data.map Bv).toArray 5 (0, 0))] ∧ Fr 96 a [(0, aB fb), (1, ay tg), (7, .slice (some ⟨tb, o, none⟩) r r), (10, aC og ((dW ps tg i).length) oc)])) ?_ ?_ ?_
 ·exact Or.inl <| ⟨0, ((16 * ps.length)), fun _ => rfl, by omega, rfl, HM, HF.sub [(0, aB fb), (1, ay tg), (7, aC tb ((16 * ps.length)) ((16 * ps.length))), (10, aN)] (by kernel_rfl)⟩
 ·intro i a w KX hi hI KR
  rcases hI with hI | hI
  ·obtain ⟨o, r, ho, hr, h0, HM, HF⟩ := hI
   obtain rfl := ho hi
   obtain ⟨pr, hpr⟩ : ∃ m, ps[i]? = some m := ⟨_, List.getElem?_eq_getElem hi⟩
   have ht1 := hd.tag pr (List.mem_of_getElem? hpr); have ht2 := hval pr (List.mem_of_getElem? hpr)
   obtain ⟨oC, oz⟩ := wW true x.img.big ps p.data xZ i pr hpr 8 rfl (Nat.lt_of_lt_of_le ht1 (by decide)) ht2
   have hsl := yG ps tg i
   simp only [Nat.reduceMul] at oC oz
   have ht3 : pr.2 < 18446744073709551616 := ht2
   refine wp_seq ?_
   refine aO ?_
   refine wp_pure HF HM rfl 3 [] ((jI fb tg tb i r) ++ [(39, .bool (decide (0 < ((r : Nat) : Int))))]) (by kernel_rfl) fun a HF => ?_
   refine aA ?_
   rw [show decide (0 < ((r : Nat) : Int)) = true from dK (by omega)] at HF
   refine bD HF rfl ?_
   refine wp_skip ?_
   repeat first | refine aK ?_ | refine aP ?_
   refine wp_block ?_
   refine aO ?_
   refine wp_pure HF HM rfl 1 [] ((jI fb tg tb i r) ++ [(11, aF 0)]) (by kernel_rfl) fun a HF => ?_
   refine dF ?_
   refine wp_pure HF HM rfl 1 [] ((jI fb tg tb i r) ++ [(11, aF 0), (12, bH 0)]) (by kernel_rfl) fun a HF => ?_
   refine aA ?_
   refine wp_seq ?_
   refine aO ?_
   refine wp_pure HF HM rfl 5 [[1]] ((jI fb tg tb i r) ++ [(11, aF 0), (12, bH 0), (44, aQ 2)]) (by kernel_rfl) fun a HF => ?_
   refine aA ?_
   refine wp_block ?_
   refine aO ?_
   refine wp_pure HF HM rfl 2 [] ((jI fb tg tb i r) ++ [(11, aF 0), (12, bH 0), (44, aQ 2), (45, .bool false)]) (by kernel_rfl) fun a HF => ?_
   refine aA ?_
   refine aY HF rfl ?_
   refine aO ?_
   refine wp_pure HF HM rfl 2 [] ((jI fb tg tb i r) ++ [(11, aF 0), (12, bH 0), (67, .bool true)]) (by kernel_rfl) fun a HF => ?_
   refine aA ?_
   refine bD HF rfl ?_
   refine jS HM (by kernel_rfl) [iZ fb x aV pg, (tb, .cells (p.data.map Bv).toArray 5 (0, 0))] [(0, false), (1, false), (2, false), (3, false), (4, false), (5, false), (6, false), (7, true), (8, false), (9, false)] (by kernel_rfl) fun w3 HM => ?_
   refine bI HF (HM.told [0, 1] rfl) 6 [[1]] ((jI fb tg tb i r) ++ [(73, (aS x.img.big)), (74, .slice (some ⟨tb, 16 * i, none⟩) r r)]) (by kernel_rfl) fun a HF => ?_
   refine dL rfl HF (HM.told [0, 1] rfl) rfl (.slice (some ⟨tb, 16 * i + 0, none⟩) 8 (r - 0)) (by kernel_rfl) (fun w hw => oG Tryd.underlying33 sN hs8 rfl 0 8 8 (kk := .i64) (kh := .i64) rfl rfl rfl rfl (by omega) (by omega) w) ?_
   clear HF; intro a HF; replace HF := HF.sub ((jI fb tg tb i r) ++ [(73, (aS x.img.big)), (75, .slice (some ⟨tb, 16 * i + 0, none⟩) 8 (r - 0))]) (by kernel_rfl)
   refine bW rfl ?_
   refine bf HF (by kernel_rfl) 88 #[(aS x.img.big), .slice (some ⟨tb, 16 * i + 0, none⟩) 8 (r - 0)] (by kernel_rfl) (fun w => by kernel_rfl) (Calls.mono (wM (HM.get (i := 1) rfl) x.img.big (16 * i + 0) _ (by omega) (by omega) (by unfold maxLen; omega) _ (by rw [oC])) ?_)
   rintro _ w4 ⟨rfl, nq, hq⟩
   replace HM : Mm [fb] w0 w4 [iZ fb x aV pg, (tb, .cells (p.data.map Bv).toArray 5 (0, 0))] := by rw [hq]; exact HM.drewN nq
   clear hq nq
   refine ⟨_, rfl, ?_⟩; clear HF; intro a HF
   replace HF := HF.sub ((jI fb tg tb i r) ++ [(76, aI pr.1)]) (by kernel_rfl)
   refine dH (HM.told [0, 1] rfl) ?_
   refine bI HF (HM.told [0, 1] rfl) 1 [] ((jI fb tg tb i r) ++ [(77, aF (IntKind.i64.wrap ((pr.1 : Nat) : Int)))]) (by kernel_rfl) fun a HF => ?_
   rw [show IntKind.i64.wrap ((pr.1 : Nat) : Int) = ((pr.1 : Nat) : Int) from IntWalk.i64_in _ (by omega)] at HF
   refine bI HF (HM.told [0, 1] rfl) 1 [] ((jI fb tg tb i r) ++ [(11, ay pr.1)]) (by kernel_rfl) fun a HF => ?_
   refine iM ?_
   refine aK ?_
   refine jS HM (by kernel_rfl) [iZ fb x aV pg, (tb, .cells (p.data.map Bv).toArray 5 (0, 0))] [(0, false), (1, false), (2, false), (3, false), (4, false), (5, false), (6, false), (7, true), (8, false)] (by kernel_rfl) fun w5 HM => ?_
   refine bI HF (HM.told [0, 1] rfl) 6 [[1]] ((jI fb tg tb i r) ++ [(11, ay pr.1), (82, (aS x.img.big)), (83, .slice (some ⟨tb, 16 * i, none⟩) r r)]) (by kernel_rfl) fun a HF => ?_
   refine dL rfl HF (HM.told [0, 1] rfl) rfl (.slice (some ⟨tb, 16 * i + 8, none⟩) 8 (r - 8)) (by kernel_rfl) (fun w hw => oG Tryd.underlying33 sN hs8 rfl 8 16 8 (kk := .i64) (kh := .i64) rfl rfl rfl rfl (by omega) (by omega) w) ?_
   clear HF; intro a HF; replace HF := HF.sub ((jI fb tg tb i r) ++ [(11, ay pr.1), (82, (aS x.img.big)), (84, .slice (some ⟨tb, 16 * i + 8, none⟩) 8 (r - 8))]) (by kernel_rfl)
   refine bW rfl ?_
   refine bf HF (by kernel_rfl) 88 #[(aS x.img.big), .slice (some ⟨tb, 16 * i + 8, none⟩) 8 (r - 8)] (by kernel_rfl) (fun w => by kernel_rfl) (Calls.mono (wM (HM.get (i := 1) rfl) x.img.big (16 * i + 8) _ (by omega) (by omega) (by unfold maxLen; omega) _ (by rw [oz])) ?_)
   rintro _ w6 ⟨rfl, nq, hq⟩
   replace HM : Mm [fb] w0 w6 [iZ fb x aV pg, (tb, .cells (p.data.map Bv).toArray 5 (0, 0))] := by rw [hq]; exact HM.drewN nq
   clear hq nq
   refine ⟨_, rfl, ?_⟩; clear HF; intro a HF
   replace HF := HF.sub ((jI fb tg tb i r) ++ [(11, ay pr.1), (85, aI pr.2)]) (by kernel_rfl)
   refine dH (HM.told [0, 1] rfl) ?_
   refine bI HF (HM.told [0, 1] rfl) 1 [] ((jI fb tg tb i r) ++ [(11, ay pr.1), (12, aI pr.2)]) (by kernel_rfl) fun a HF => ?_
   refine iM ?_
   refine aK ?_
   refine wp_region_lit ?_
   refine wp_pure HF HM rfl 1 [] [(0, aB fb), (1, ay tg), (10, aN), (11, ay pr.1), (12, aI pr.2), (86, .slice (some ⟨tb, 16 * i, none⟩) r r)] (by kernel_rfl) fun a HF => ?_
   obtain ⟨r22, hr22⟩ : ∃ q, 16 + q = r := ⟨r - 16, by omega⟩
   refine dG HF (by kernel_rfl) (.slice (some ⟨tb, if r22 = 0 then 16 * i else 16 * i + 16, none⟩) r22 r22) (by kernel_rfl) (uO Tryd.underlying33 sN hs8 rfl 16 r22 (kk := .i64) rfl rfl (by omega) hr22 rfl w6) fun a HF => ?_
   refine wp_pure HF HM rfl 1 [] [(0, aB fb), (1, ay tg), (7, .slice (some ⟨tb, if r22 = 0 then 16 * i else 16 * i + 16, none⟩) r22 r22), (10, aN), (11, ay pr.1), (12, aI pr.2)] (by kernel_rfl) fun a HF => ?_
   refine wpList_nil ?_
   repeat first | refine aK ?_ | refine aP ?_
   refine aO ?_
   refine wp_pure HF HM rfl 3 [] [(0, aB fb), (1, ay tg), (7, .slice (some ⟨tb, if r22 = 0 then 16 * i else 16 * i + 16, none⟩) r22 r22), (10, aN), (12, aI pr.2), (90, .bool (((pr.1 : Nat) : Int) == ((tg : Nat) : Int)))] (by kernel_rfl) fun a HF => ?_
   refine aA ?_
   by_cases hc1 : ((pr.1 : Nat) : Int) = ((tg : Nat) : Int)
   ·rw [show (((pr.1 : Nat) : Int) == ((tg : Nat) : Int)) = true from nZ (hc1)] at HF
    refine bD HF rfl ?_
    refine wp_region_lit ?_
    obtain ⟨z25, AV⟩ : ∃ z, w6.heap.size = z := ⟨_, rfl⟩
    refine aT HF HM AV 3 [] [(0, aB fb), (1, ay tg), (7, .slice (some ⟨tb, if r22 = 0 then 16 * i else 16 * i + 16, none⟩) r22 r22), (91, aN), (93, aC z25 1 1)] [(z25, .cells #[aI pr.2] 22 (0, 0)), iZ fb x aV pg, (tb, .cells (p.data.map Bv).toArray 5 (0, 0))] (by kernel_rfl) fun a w HF HM => ?_
    clear AV
    refine oH HF HM rfl _ _ 83 rfl rfl 22 (z := bH 0) (size := 1) (bytes := 8) Tryd.underlying83 (by kernel_rfl) rfl (by decide) rfl (some ⟨z25, 0, none⟩) 1 1 ([aI pr.2]) rfl rfl (by omega) (HM.rowAt (i := 0) rfl) (lu rfl) (by unfold maxLen; omega) (by omega) ?_
    intro a w7 g2 cap2 mX bT qj hsz2 qQ hcm2 hbel HF2; clear HF HM hbel
    have HM : Mm [fb] w0 w7 [(g2, .cells mX 22 (0, 0)), (z25, .cells #[aI pr.2] 22 (0, 0)), iZ fb x aV pg, (tb, .cells (p.data.map Bv).toArray 5 (0, 0))] := bT
    have HF := HF2.sub [(0, aB fb), (1, ay tg), (7, .slice (some ⟨tb, if r22 = 0 then 16 * i else 16 * i + 16, none⟩) r22 r22), (94, aC g2 1 cap2)] (by kernel_rfl); clear bT HF2
    refine wp_pure HF HM rfl 1 [] [(0, aB fb), (1, ay tg), (7, .slice (some ⟨tb, if r22 = 0 then 16 * i else 16 * i + 16, none⟩) r22 r22), (10, aC g2 1 cap2)] (by kernel_rfl) fun a HF => ?_
    refine wpList_nil ?_
    repeat first | refine aK ?_ | refine aP ?_
    have hl1 : 1 = ((dW ps tg (i + 1)).length) := by rw [tC hpr hc1, h0]; rfl
    replace HF := Fr.tell HF 10 rfl (show Value.slice (some ⟨g2, 0, none⟩) 1 cap2 = Value.slice (some ⟨g2, 0, none⟩) ((dW ps tg (i + 1)).length) cap2 from congrArg (fun q => Value.slice (some ⟨g2, 0, none⟩) q cap2) hl1)
    replace qj : mX.toList.take (((dW ps tg (i + 1)).length) * 1) = [aI pr.2] := by rw [← hl1]; exact qj
    replace qQ : ((dW ps tg (i + 1)).length) ≤ cap2 := by rw [← hl1]; exact qQ
    replace qj : mX.toList.take (((dW ps tg (i + 1)).length) * 1) = (dW ps tg (i + 1)).map (fun v => Value.int .u64 ((v : Nat) : Int)) := qj.trans (by rw [tC hpr hc1]; rw [h0]; rfl)
    exact KR _ _ (Or.inr <| ⟨if r22 = 0 then 16 * i else 16 * i + 16, r22, g2, cap2, mX, fun hlt => by rw [if_neg (by omega)]; omega, by omega, qj, hsz2, qQ, hcm2, (HM.pick [0, 2, 3] [(g2, .cells mX 22 (0, 0)), iZ fb x aV pg, (tb, .cells (p.data.map Bv).toArray 5 (0, 0))] rfl (by decide)), HF.sub [(0, aB fb), (1, ay tg), (7, .slice (some ⟨tb, if r22 = 0 then 16 * i else 16 * i + 16, none⟩) r22 r22), (10, aC g2 ((dW ps tg (i + 1)).length) cap2)] (by kernel_rfl)⟩)
   rw [show (((pr.1 : Nat) : Int) == ((tg : Nat) : Int)) = false from oM (hc1)] at HF
   refine aY HF rfl ?_
   refine wp_skip ?_
   repeat first | refine aK ?_ | refine aP ?_
   exact KR _ _ (Or.inl <| ⟨if r22 = 0 then 16 * i else 16 * i + 16, r22, fun hlt => by rw [if_neg (by omega)]; omega, by omega, ((yF hpr hc1).trans h0), HM, HF.sub [(0, aB fb), (1, ay tg), (7, .slice (some ⟨tb, if r22 = 0 then 16 * i else 16 * i + 16, none⟩) r22 r22), (10, aN)] (by kernel_rfl)⟩)
  ·obtain ⟨o, r, og, oc, ok, ho, hr, lX, sG, pU, sH, HM, HF⟩ := hI
   obtain rfl := ho hi
   obtain ⟨pr, hpr⟩ : ∃ m, ps[i]? = some m := ⟨_, List.getElem?_eq_getElem hi⟩
   have ht1 := hd.tag pr (List.mem_of_getElem? hpr); have ht2 := hval pr (List.mem_of_getElem? hpr)
   obtain ⟨oC, oz⟩ := wW true x.img.big ps p.data xZ i pr hpr 8 rfl (Nat.lt_of_lt_of_le ht1 (by decide)) ht2
   have hsl := yG ps tg i
   simp only [Nat.reduceMul] at oC oz
   have ht3 : pr.2 < 18446744073709551616 := ht2
   refine wp_seq ?_
   refine aO ?_
   refine wp_pure HF HM rfl 3 [] ((jH fb tg tb i r og ps oc) ++ [(39, .bool (decide (0 < ((r : Nat) : Int))))]) (by kernel_rfl) fun a HF => ?_
   refine aA ?_
   rw [show decide (0 < ((r : Nat) : Int)) = true from dK (by omega)] at HF
   refine bD HF rfl ?_
   refine wp_skip ?_
   repeat first | refine aK ?_ | refine aP ?_
   refine wp_block ?_
   refine aO ?_
   refine wp_pure HF HM rfl 1 [] ((jH fb tg tb i r og ps oc) ++ [(11, aF 0)]) (by kernel_rfl) fun a HF => ?_
   refine dF ?_
   refine wp_pure HF HM rfl 1 [] ((jH fb tg tb i r og ps oc) ++ [(11, aF 0), (12, bH 0)]) (by kernel_rfl) fun a HF => ?_
   refine aA ?_
   refine wp_seq ?_
   refine aO ?_
   refine wp_pure HF HM rfl 5 [[1]] ((jH fb tg tb i r og ps oc) ++ [(11, aF 0), (12, bH 0), (44, aQ 2)]) (by kernel_rfl) fun a HF => ?_
   refine aA ?_
   refine wp_block ?_
   refine aO ?_
   refine wp_pure HF HM rfl 2 [] ((jH fb tg tb i r og ps oc) ++ [(11, aF 0), (12, bH 0), (44, aQ 2), (45, .bool false)]) (by kernel_rfl) fun a HF => ?_
   refine aA ?_
   refine aY HF rfl ?_
   refine aO ?_
   refine wp_pure HF HM rfl 2 [] ((jH fb tg tb i r og ps oc) ++ [(11, aF 0), (12, bH 0), (67, .bool true)]) (by kernel_rfl) fun a HF => ?_
   refine aA ?_
   refine bD HF rfl ?_
   refine jS HM (by kernel_rfl) [(og, .cells ok 22 (0, 0)), iZ fb x aV pg, (tb, .cells (p.data.map Bv).toArray 5 (0, 0))] [(0, false), (1, false), (2, false), (3, false), (4, false), (5, false), (6, false), (7, true), (8, false), (9, false)] (by kernel_rfl) fun w8 HM => ?_
   refine bI HF (HM.told [0, 1, 2] rfl) 6 [[1]] ((jH fb tg tb i r og ps oc) ++ [(73, (aS x.img.big)), (74, .slice (some ⟨tb, 16 * i, none⟩) r r)]) (by kernel_rfl) fun a HF => ?_
   refine dL rfl HF (HM.told [0, 1, 2] rfl) rfl (.slice (some ⟨tb, 16 * i + 0, none⟩) 8 (r - 0)) (by kernel_rfl) (fun w hw => oG Tryd.underlying33 sN hs8 rfl 0 8 8 (kk := .i64) (kh := .i64) rfl rfl rfl rfl (by omega) (by omega) w) ?_
   clear HF; intro a HF; replace HF := HF.sub ((jH fb tg tb i r og ps oc) ++ [(73, (aS x.img.big)), (75, .slice (some ⟨tb, 16 * i + 0, none⟩) 8 (r - 0))]) (by kernel_rfl)
   refine bW rfl ?_
   refine bf HF (by kernel_rfl) 88 #[(aS x.img.big), .slice (some ⟨tb, 16 * i + 0, none⟩) 8 (r - 0)] (by kernel_rfl) (fun w => by kernel_rfl) (Calls.mono (wM (HM.get (i := 2) rfl) x.img.big (16 * i + 0) _ (by omega) (by omega) (by unfold maxLen; omega) _ (by rw [oC])) ?_)
   rintro _ w9 ⟨rfl, nq, hq⟩
   replace HM : Mm [fb] w0 w9 [(og, .cells ok 22 (0, 0)), iZ fb x aV pg, (tb, .cells (p.data.map Bv).toArray 5 (0, 0))] := by rw [hq]; exact HM.drewN nq
   clear hq nq
   refine ⟨_, rfl, ?_⟩; clear HF; intro a HF
   replace HF := HF.sub ((jH fb tg tb i r og ps oc) ++ [(76, aI pr.1)]) (by kernel_rfl)
   refine dH (HM.told [0, 1, 2] rfl) ?_
   refine bI HF (HM.told [0, 1, 2] rfl) 1 [] ((jH fb tg tb i r og ps oc) ++ [(77, aF (IntKind.i64.wrap ((pr.1 : Nat) : Int)))]) (by kernel_rfl) fun a HF => ?_
   rw [show IntKind.i64.wrap ((pr.1 : Nat) : Int) = ((pr.1 : Nat) : Int) from IntWalk.i64_in _ (by omega)] at HF
   refine bI HF (HM.told [0, 1, 2] rfl) 1 [] ((jH fb tg tb i r og ps oc) ++ [(11, ay pr.1)]) (by kernel_rfl) fun a HF => ?_
   refine iM ?_
   refine aK ?_
   refine jS HM (by kernel_rfl) [(og, .cells ok 22 (0, 0)), iZ fb x aV pg, (tb, .cells (p.data.map Bv).toArray 5 (0, 0))] [(0, false), (1, false), (2, false), (3, false), (4, false), (5, false), (6, false), (7, true), (8, false)] (by kernel_rfl) fun w10 HM => ?_
   refine bI HF (HM.told [0, 1, 2] rfl) 6 [[1]] ((jH fb tg tb i r og ps oc) ++ [(11, ay pr.1), (82, (aS x.img.big)), (83, .slice (some ⟨tb, 16 * i, none⟩) r r)]) (by kernel_rfl) fun a HF => ?_
   refine dL rfl HF (HM.told [0, 1, 2] rfl) rfl (.slice (some ⟨tb, 16 * i + 8, none⟩) 8 (r - 8)) (by kernel_rfl) (fun w hw => oG Tryd.underlying33 sN hs8 rfl 8 16 8 (kk := .i64) (kh := .i64) rfl rfl rfl rfl (by omega) (by omega) w) ?_
   clear HF; intro a HF; replace HF := HF.sub ((jH fb tg tb i r og ps oc) ++ [(11, ay pr.1), (82, (aS x.img.big)), (84, .slice (some ⟨tb, 16 * i + 8, none⟩) 8 (r - 8))]) (by kernel_rfl)
   refine bW rfl ?_
   refine bf HF (by kernel_rfl) 88 #[(aS x.img.big), .slice (some ⟨tb, 16 * i + 8, none⟩) 8 (r - 8)] (by kernel_rfl) (fun w => by kernel_rfl) (Calls.mono (wM (HM.get (i := 2) rfl) x.img.big (16 * i + 8) _ (by omega) (by omega) (by unfold maxLen; omega) _ (by rw [oz])) ?_)
   rintro _ qU ⟨rfl, nq, hq⟩
   replace HM : Mm [fb] w0 qU [(og, .cells ok 22 (0, 0)), iZ fb x aV pg, (tb, .cells (p.data.map Bv).toArray 5 (0, 0))] := by rw [hq]; exact HM.drewN nq
   clear hq nq
   refine ⟨_, rfl, ?_⟩; clear HF; intro a HF
   replace HF := HF.sub ((jH fb tg tb i r og ps oc) ++ [(11, ay pr.1), (85, aI pr.2)]) (by kernel_rfl)
   refine dH (HM.told [0, 1, 2] rfl) ?_
   refine bI HF (HM.told [0, 1, 2] rfl) 1 [] ((jH fb tg tb i r og ps oc) ++ [(11, ay pr.1), (12, aI pr.2)]) (by kernel_rfl) fun a HF => ?_
   refine iM ?_
   refine aK ?_
   refine wp_region_lit ?_
   refine wp_pure HF HM rfl 1 [] [(0, aB fb), (1, ay tg), (10, aC og ((dW ps tg i).length) oc), (11, ay pr.1), (12, aI pr.2), (86, .slice (some ⟨tb, 16 * i, none⟩) r r)] (by kernel_rfl) fun a HF => ?_
   obtain ⟨qZ, hr34⟩ : ∃ q, 16 + q = r := ⟨r - 16, by omega⟩
   refine dG HF (by kernel_rfl) (.slice (some ⟨tb, if qZ = 0 then 16 * i else 16 * i + 16, none⟩) qZ qZ) (by kernel_rfl) (uO Tryd.underlying33 sN hs8 rfl 16 qZ (kk := .i64) rfl rfl (by omega) hr34 rfl qU) fun a HF => ?_
   refine wp_pure HF HM rfl 1 [] [(0, aB fb), (1, ay tg), (7, .slice (some ⟨tb, if qZ = 0 then 16 * i else 16 * i + 16, none⟩) qZ qZ), (10, aC og ((dW ps tg i).length) oc), (11, ay pr.1), (12, aI pr.2)] (by kernel_rfl) fun a HF => ?_
   refine wpList_nil ?_
   repeat first | refine aK ?_ | refine aP ?_
   refine aO ?_
   refine wp_pure HF HM rfl 3 [] [(0, aB fb), (1, ay tg), (7, .slice (some ⟨tb, if qZ = 0 then 16 * i else 16 * i + 16, none⟩) qZ qZ), (10, aC og ((dW ps tg i).length) oc), (12, aI pr.2), (90, .bool (((pr.1 : Nat) : Int) == ((tg : Nat) : Int)))] (by kernel_rfl) fun a HF => ?_
   refine aA ?_
   by_cases hc3 : ((pr.1 : Nat) : Int) = ((tg : Nat) : Int)
   ·rw [show (((pr.1 : Nat) : Int) == ((tg : Nat) : Int)) = true from nZ (hc3)] at HF
    refine bD HF rfl ?_
    refine wp_region_lit ?_
    obtain ⟨z37, KJ⟩ : ∃ z, qU.heap.size = z := ⟨_, rfl⟩
    refine aT HF HM KJ 3 [] [(0, aB fb), (1, ay tg), (7, .slice (some ⟨tb, if qZ = 0 then 16 * i else 16 * i + 16, none⟩) qZ qZ), (91, aC og ((dW ps tg i).length) oc), (93, aC z37 1 1)] [(z37, .cells #[aI pr.2] 22 (0, 0)), (og, .cells ok 22 (0, 0)), iZ fb x aV pg, (tb, .cells (p.data.map Bv).toArray 5 (0, 0))] (by kernel_rfl) fun a w HF HM => ?_
    clear KJ
    refine fZ HF HM rfl _ _ 83 83 rfl rfl 22 (z := bH 0) (size := 1) (bytes := 8) Tryd.underlying83 (by kernel_rfl) rfl (by decide) 1 og ((dW ps tg i).length) oc ok rfl rfl pU sH sG ((dW ps tg i).map (fun v => Value.int .u64 ((v : Nat) : Int))) lX (aC z37 1 1) 1 [aI pr.2] rfl (lW Tryd.underlying83 rfl (by decide) (HM.rowAt (i := 0) rfl) (lu rfl)) (by unfold maxLen; omega) (by omega) ?_
    intro a w12 g4 cap4 sO bT sK IQ AZ IW HF2; clear HF HM
    have HM : Mm [fb] w0 w12 [(z37, .cells #[aI pr.2] 22 (0, 0)), (g4, .cells sO 22 (0, 0)), iZ fb x aV pg, (tb, .cells (p.data.map Bv).toArray 5 (0, 0))] := bT
    have HF := HF2.sub [(0, aB fb), (1, ay tg), (7, .slice (some ⟨tb, if qZ = 0 then 16 * i else 16 * i + 16, none⟩) qZ qZ), (94, aC g4 (((dW ps tg i).length) + 1) cap4)] (by kernel_rfl); clear bT HF2
    refine wp_pure HF HM rfl 1 [] [(0, aB fb), (1, ay tg), (7, .slice (some ⟨tb, if qZ = 0 then 16 * i else 16 * i + 16, none⟩) qZ qZ), (10, aC g4 (((dW ps tg i).length) + 1) cap4)] (by kernel_rfl) fun a HF => ?_
    refine wpList_nil ?_
    repeat first | refine aK ?_ | refine aP ?_
    rw [show (((dW ps tg i).length) + 1) = ((dW ps tg (i + 1)).length) from by rw [tC hpr hc3, List.length_append]; rfl] at HF sK AZ
    replace sK : sO.toList.take (((dW ps tg (i + 1)).length) * 1) = (dW ps tg (i + 1)).map (fun v => Value.int .u64 ((v : Nat) : Int)) := sK.trans (by rw [tC hpr hc3]; rw [List.map_append]; rfl)
    exact KR _ _ (Or.inr <| ⟨if qZ = 0 then 16 * i else 16 * i + 16, qZ, g4, cap4, sO, fun hlt => by rw [if_neg (by omega)]; omega, by omega, sK, IQ, AZ, IW, (HM.pick [1, 2, 3] [(g4, .cells sO 22 (0, 0)), iZ fb x aV pg, (tb, .cells (p.data.map Bv).toArray 5 (0, 0))] rfl (by decide)), HF.sub [(0, aB fb), (1, ay tg), (7, .slice (some ⟨tb, if qZ = 0 then 16 * i else 16 * i + 16, none⟩) qZ qZ), (10, aC g4 ((dW ps tg (i + 1)).length) cap4)] (by kernel_rfl)⟩)
   rw [show (((pr.1 : Nat) : Int) == ((tg : Nat) : Int)) = false from oM (hc3)] at HF
   refine aY HF rfl ?_
   refine wp_skip ?_
   repeat first | refine aK ?_ | refine aP ?_
   rw [show ((dW ps tg i).length) = ((dW ps tg (i + 1)).length) from (congrArg List.length (yF hpr hc3)).symm] at HF lX pU
   replace lX : ok.toList.take (((dW ps tg (i + 1)).length) * 1) = (dW ps tg (i + 1)).map (fun v => Value.int .u64 ((v : Nat) : Int)) := lX.trans (by rw [yF hpr hc3])
   exact KR _ _ (Or.inr <| ⟨if qZ = 0 then 16 * i else 16 * i + 16, qZ, og, oc, ok, fun hlt => by rw [if_neg (by omega)]; omega, by omega, lX, sG, pU, sH, HM, HF.sub [(0, aB fb), (1, ay tg), (7, .slice (some ⟨tb, if qZ = 0 then 16 * i else 16 * i + 16, none⟩) qZ qZ), (10, aC og ((dW ps tg (i + 1)).length) oc)] (by kernel_rfl)⟩)
 ·intro a w KX hI
  rcases hI with hI | hI
  ·obtain ⟨o, r, ho, hr, h0, HM, HF⟩ := hI
   refine wp_seq ?_
   refine aO ?_
   refine wp_pure HF HM rfl 3 [] [(0, aB fb), (1, ay tg), (7, .slice (some ⟨tb, o, none⟩) r r), (10, aN), (39, .bool (decide (0 < ((r : Nat) : Int))))] (by kernel_rfl) fun a HF => ?_
   refine aA ?_
   rw [show decide (0 < ((r : Nat) : Int)) = false from cZ (by omega)] at HF
   refine aY HF rfl ?_
   refine wp_exit ?_
   repeat (first | refine eH ?_ | refine dY rfl ?_)
   refine gZ ?_
   repeat first | refine aK ?_ | refine aP ?_
   refine aO ?_
   refine wp_pure HF HM rfl 3 [] [(4, aN), (5, .nilIface)] (by kernel_rfl) fun a HF => ?_
   refine aA ?_
   refine wp_ret ?_
   repeat first | refine bJ ?_ | refine bM ?_
   replace HM : Mm [] w0 w [(tb, .cells (p.data.map Bv).toArray 5 (0, 0))] := HM.xg 0 rfl hfb
   exact jq HF rfl rfl rfl ⟨none, 0, by rw [h0]; rfl, HM.below, by rw [h0]; exact Row.nil _ _⟩
  ·obtain ⟨o, r, og, oc, ok, ho, hr, lX, sG, pU, sH, HM, HF⟩ := hI
   refine wp_seq ?_
   refine aO ?_
   refine wp_pure HF HM rfl 3 [] [(0, aB fb), (1, ay tg), (7, .slice (some ⟨tb, o, none⟩) r r), (10, aC og ((dW ps tg ps.length).length) oc), (39, .bool (decide (0 < ((r : Nat) : Int))))] (by kernel_rfl) fun a HF => ?_
   refine aA ?_
   rw [show decide (0 < ((r : Nat) : Int)) = false from cZ (by omega)] at HF
   refine aY HF rfl ?_
   refine wp_exit ?_
   repeat (first | refine eH ?_ | refine dY rfl ?_)
   refine gZ ?_
   repeat first | refine aK ?_ | refine aP ?_
   refine aO ?_
   refine wp_pure HF HM rfl 3 [] [(4, aC og ((dW ps tg ps.length).length) oc), (5, .nilIface)] (by kernel_rfl) fun a HF => ?_
   refine aA ?_
   refine wp_ret ?_
   repeat first | refine bJ ?_ | refine bM ?_
   replace HM : Mm [] w0 w [(og, .cells ok 22 (0, 0)), (tb, .cells (p.data.map Bv).toArray 5 (0, 0))] := HM.xg 1 rfl hfb
   exact jq HF rfl rfl rfl ⟨some ⟨og, 0, none⟩, oc, rfl, HM.below, HM.lZ (i := 0) rfl lX⟩
theorem PZ {x : b_} {b c z fb pg aV : Nat} {cur eU : Array Value} {w0 : World} (hF : n_ x b c z fb pg aV cur eU w0) (tg : Nat) (ps : List (Nat × Nat)) (ts : List (List UInt8)) (hd : o8 x ps ts) : Calls Tryd.prog 72 #[aB fb, ay tg] w0 fun e w' => ∃ A' c', e = .returned (.tuple #[.slice A' (dW ps tg ps.length).length c', .nilIface]) ∧ Below w0.heap.size w0 w' ∧ Row w' A' ((dW ps tg ps.length).map (fun v => Value.int .u64 ((v : Nat) : Int))) := by
 rcases Ik x.wide with h | h
 ·exact OC hF h tg ps ts hd
 ·exact OD hF h tg ps ts hd

end Go.Proofs.YtdgehpocmfjbiaaDoor
namespace Go.Proofs.YtdgehpocmfjbiaaDoor
open Go.RowKit

theorem Gt (x : b_) (A : Option Addr) (c : Nat) (hnc : x.img.file.length ≤ c) (ok : x.img.Ok) (ps : List (Nat × Nat)) (ts : List (List UInt8)) (hd : o8 x ps ts) (tg : Nat) (w0 : World) (hr : Row w0 A (x.img.file.map Bv)) : Calls Tryd.prog 43 #[.slice A x.img.file.length c, ay tg] w0 fun e w' => ∃ A' c', e = .returned (.tuple #[.slice A' (dW ps tg ps.length).length c', aF 0]) ∧ Below w0.heap.size w0 w' ∧ Row w' A' ((dW ps tg ps.length).map (fun v => Value.int .u64 ((v : Nat) : Int))) := by
 have hn1 := hd.n1
 have hsl : (dW ps tg ps.length).length ≤ ps.length := yG ps tg ps.length
 obtain ⟨inf, K_, -⟩ := Option.map_eq_some_iff.1 (show (Tryd.prog.info? 22).map (fun i => (i.zero, i.size, i.bytes)) = some (some (bH 0), 1, 8) by kernel_rfl)
 obtain ⟨w, hw⟩ : ∃ w, w0 = w := ⟨_, rfl⟩
 have HM : Mm [] w0 w [] := hw ▸ Mm.start w0
 conv => arg 4; rw [hw]
 clear hw
 refine cu Tryd.func43 rfl Tryd.ntmps43 [(0, .slice A x.img.file.length c), (1, ay tg)] (by kernel_rfl) (Nat.le_of_ble_eq_true rfl) ?_
 intro a HF
 refine aO ?_
 refine wp_pure HF HM rfl 2 [] [(0, .slice A x.img.file.length c), (1, ay tg)] (by kernel_rfl) fun a HF => ?_
 refine dF ?_
 refine wp_pure HF HM rfl 1 [] [(1, ay tg), (11, .slice A x.img.file.length c)] (by kernel_rfl) fun a HF => ?_
 refine bf HF (by kernel_rfl) 55 #[.slice A x.img.file.length c] (by kernel_rfl) (fun w => by kernel_rfl) (Calls.mono (N9 x A _ c rfl hnc ok w (HM.row hr)) ?_)
 rintro _ w1 ⟨bg, bcap, z, fb, pg, aV, cur, eU, rfl, hb, hge, hF⟩
 replace HM := HM.call hb
 clear hb
 refine ⟨_, rfl, ?_⟩; clear HF; intro a HF
 refine wp_pure HF HM rfl 5 [] [(1, ay tg), (6, aB fb), (7, .bool true)] (by kernel_rfl) fun a HF => ?_
 refine aA ?_
 refine wp_seq ?_
 refine aO ?_
 refine wp_pure HF HM rfl 2 [] [(1, ay tg), (6, aB fb), (16, .bool false)] (by kernel_rfl) fun a HF => ?_
 refine aA ?_
 refine aY HF rfl ?_
 refine wp_skip ?_
 repeat first | refine aK ?_ | refine aP ?_
 refine aO ?_
 refine wp_pure HF HM rfl 2 [] [(18, aB fb), (19, ay tg)] (by kernel_rfl) fun a HF => ?_
 refine bf HF (by kernel_rfl) 72 #[aB fb, ay tg] (by kernel_rfl) (fun w => by kernel_rfl) (Calls.mono (PZ hF tg ps ts hd) ?_)
 rintro _ w2 ⟨A1, c1, rfl, hb, hrow⟩
 replace HM := HM.call hb
 clear hb
 refine ⟨_, rfl, ?_⟩; clear HF; intro a HF
 replace HF := HF.sub [(20, .tuple #[.slice A1 ((dW ps tg ps.length).length) c1, .nilIface])] (by kernel_rfl)
 have hbw0 := HM.below
 clear HM
 have HM : Mm [] w2 w2 [] := Mm.start w2
 refine wp_pure HF HM rfl 5 [] [(8, .slice A1 ((dW ps tg ps.length).length) c1), (9, .nilIface)] (by kernel_rfl) fun a HF => ?_
 refine dF ?_
 refine wp_pure HF HM rfl 1 [] [(9, .nilIface), (23, .slice A1 ((dW ps tg ps.length).length) c1)] (by kernel_rfl) fun a HF => ?_
 rcases Nat.eq_zero_or_pos (((dW ps tg ps.length).length)) with yV | yV
 ·rw [yV] at HF
  refine dG HF (by kernel_rfl) (aN) (by kernel_rfl) (wF Tryd.underlying83 K_ rfl rfl rfl w2) fun a HF => ?_
  refine wp_pure HF HM rfl 1 [] [(24, aN), (25, .nilIface)] (by kernel_rfl) fun a HF => ?_
  refine bf HF (by kernel_rfl) 58 #[.nilIface] (by kernel_rfl) (fun w => by kernel_rfl) (Calls.mono (vV w2) ?_)
  rintro _ w3 ⟨rfl, hb⟩
  replace HM := HM.call hb
  clear hb
  refine ⟨_, rfl, ?_⟩; clear HF; intro a HF
  refine wp_pure HF HM rfl 2 [] [(4, aN), (5, aF 0)] (by kernel_rfl) fun a HF => ?_
  refine aA ?_
  refine wp_ret ?_
  repeat first | refine bJ ?_ | refine bM ?_
  exact jq HF rfl rfl rfl ⟨none, 0, by rw [yV], (hbw0.trans (HM.below.mono hbw0.size)), by rw [List.eq_nil_of_length_eq_zero yV]; exact Row.nil _ _⟩
 refine oH HF HM rfl _ _ 83 rfl rfl 22 (z := bH 0) (size := 1) (bytes := 8) Tryd.underlying83 (by kernel_rfl) rfl (by decide) rfl A1 ((dW ps tg ps.length).length) c1 ((dW ps tg ps.length).map (fun v => Value.int .u64 ((v : Nat) : Int))) rfl (by rw [List.length_map, Nat.mul_one]) yV (HM.row hrow) (IJ (fun _ => rfl) _) (by unfold maxLen; omega) (by omega) ?_
 intro a w4 gq yu LH bT Aq Gx EI Gy hbel HF2; clear HF HM hbel
 have HM : Mm [] w2 w4 [(gq, .cells LH 22 (0, 0))] := bT
 have HF := HF2.sub [(9, .nilIface), (24, aC gq ((dW ps tg ps.length).length) yu)] (by kernel_rfl); clear bT HF2
 refine wp_pure HF HM rfl 1 [] [(24, aC gq ((dW ps tg ps.length).length) yu), (25, .nilIface)] (by kernel_rfl) fun a HF => ?_
 refine bf HF (by kernel_rfl) 58 #[.nilIface] (by kernel_rfl) (fun w => by kernel_rfl) (Calls.mono (vV w4) ?_)
 rintro _ w5 ⟨rfl, hb⟩
 replace HM := HM.call hb
 clear hb
 refine ⟨_, rfl, ?_⟩; clear HF; intro a HF
 refine wp_pure HF HM rfl 2 [] [(4, aC gq ((dW ps tg ps.length).length) yu), (5, aF 0)] (by kernel_rfl) fun a HF => ?_
 refine aA ?_
 refine wp_ret ?_
 repeat first | refine bJ ?_ | refine bM ?_
 exact jq HF rfl rfl rfl ⟨some ⟨gq, 0, none⟩, yu, rfl, (hbw0.trans (HM.below.mono hbw0.size)), HM.lZ (i := 0) rfl Aq⟩

end Go.Proofs.YtdgehpocmfjbiaaDoor
namespace Go.Proofs.YtdgehpocmfjbiaaDoor
open Go.RowKit

abbrev mQ := fun z1 (x : b_) => ((z1, .cells #[.bool x.wide, .bool x.big, aX x.abi, aX x.aH, .int .i64 x.ty, .int .i64 x.machine, aI x.entry, .slice x.A x.ss.length x.c, .slice x.B x.ps.length x.d] 26 (0, 0)) : Nat × Obj)
abbrev cO := fun (tz : Int) (A : Option Addr) (l : List fK) (c : Nat) z1 => ([(1, .int .i64 tz), (2, .slice A l.length c), (3, aB z1)] : Slots)
abbrev AB := fun (tz : Int) (A : Option Addr) (l : List fK) (c : Nat) z1 og i oc => ((cO tz A l c z1) ++ [(7, aC og ((fU l tz i).length) oc), (39, .slice A l.length c), (40, ay l.length), (41, ay i)] : Slots)
abbrev G7 := fun og (l : List fK) tg oc => ((7, aC og ((fU l ((tg : Nat) : Int) l.length).length) oc) : Nat × Value)
abbrev qM := fun og (l : List fK) tg oc A2 c2 => ([(7, aC og ((fU l ((tg : Nat) : Int) l.length).length) oc), (10, .slice A2 ((fU l ((tg : Nat) : Int) l.length).length) c2)] : Slots)
abbrev kP := fun og (l : List fK) tg oc A2 c2 => ((qM og l tg oc A2 c2) ++ [(74, ay ((fU l ((tg : Nat) : Int) l.length).length))] : Slots)
theorem JC (x : b_) (tz : Int) (l : List fK) (A : Option Addr) (c : Nat) (w0 : World) (h : x.At w0) (htz : -9223372036854775808 ≤ tz ∧ tz ≤ 9223372036854775807) (hr : Row w0 A (l.flatMap fK.cells)) (hat : ∀ m ∈ l, fK.At m) (hl1 : l.length ≤ c) (hl2 : c ≤ maxLen) : Calls Tryd.prog 16 #[x.val, .int .i64 tz, .slice A l.length c] w0 fun e w' => e = .returned (.bool true) ∧ Below w0.heap.size w0 w' := by
 obtain ⟨w, hw⟩ : ∃ w, w0 = w := ⟨_, rfl⟩
 have HM : Mm [] w0 w [] := hw ▸ Mm.start w0
 conv => arg 4; rw [hw]
 clear hw
 refine cu Tryd.func16 rfl Tryd.ntmps16 [(0, .agg #[.bool x.wide, .bool x.big, aX x.abi, aX x.aH, .int .i64 x.ty, .int .i64 x.machine, aI x.entry, .slice x.A x.ss.length x.c, .slice x.B x.ps.length x.d]), (1, .int .i64 tz), (2, .slice A l.length c)] (by kernel_rfl) (Nat.le_of_ble_eq_true rfl) ?_
 intro a HF
 refine aO ?_
 obtain ⟨z1, hz1⟩ : ∃ z, w.heap.size = z := ⟨_, rfl⟩
 refine aT HF HM hz1 2 [] (cO tz A l c z1) [mQ z1 x] (by kernel_rfl) fun a w HF HM => ?_
 clear hz1
 refine aA ?_
 refine wp_seq ?_
 refine aO ?_
 refine wp_pure HF HM rfl 1 [[0]] ((cO tz A l c z1) ++ [(13, .agg #[.bool x.wide, .bool x.big, aX x.abi, aX x.aH, .int .i64 x.ty, .int .i64 x.machine, aI x.entry, .slice x.A x.ss.length x.c, .slice x.B x.ps.length x.d])]) (by kernel_rfl) fun a HF => ?_
 refine bf HF (by kernel_rfl) 20 #[.agg #[.bool x.wide, .bool x.big, aX x.abi, aX x.aH, .int .i64 x.ty, .int .i64 x.machine, aI x.entry, .slice x.A x.ss.length x.c, .slice x.B x.ps.length x.d]] (by kernel_rfl) (fun w => by kernel_rfl) (Calls.mono (BZ x w (h.below HM.below)) ?_)
 rintro _ w1 ⟨b1, rfl, hb⟩
 replace HM := HM.call hb
 clear hb
 refine ⟨_, rfl, ?_⟩; clear HF; intro a HF
 replace HF := HF.sub ((cO tz A l c z1) ++ [(14, .bool b1)]) (by kernel_rfl)
 rcases dZ b1 with hc2 | hc2
 ·replace HF := Fr.sub (Fr.tell HF 14 rfl (congrArg Value.bool hc2)) ((cO tz A l c z1) ++ [(14, .bool false)]) (by kernel_rfl)
  refine wp_pure HF HM rfl 6 [] ((cO tz A l c z1) ++ [(20, .bool true)]) (by kernel_rfl) fun a HF => ?_
  refine aA ?_
  refine bD HF rfl ?_
  refine aO ?_
  refine wp_pure HF HM rfl 1 [] [(6, .bool true)] (by kernel_rfl) fun a HF => ?_
  refine aA ?_
  refine wp_ret ?_
  repeat first | refine bJ ?_ | refine bM ?_
  exact bQ HF rfl rfl ⟨rfl, HM.below⟩
 replace HF := Fr.sub (Fr.tell HF 14 rfl (congrArg Value.bool hc2)) ((cO tz A l c z1) ++ [(14, .bool true)]) (by kernel_rfl)
 refine wp_pure HF HM rfl 6 [] ((cO tz A l c z1) ++ [(20, .bool (decide (2147483647 < ((l.length : Nat) : Int))))]) (by kernel_rfl) fun a HF => ?_
 refine aA ?_
 by_cases hc3 : 2147483647 < ((l.length : Nat) : Int)
 ·rw [show decide (2147483647 < ((l.length : Nat) : Int)) = true from dK (hc3)] at HF
  refine bD HF rfl ?_
  refine aO ?_
  refine wp_pure HF HM rfl 1 [] [(6, .bool true)] (by kernel_rfl) fun a HF => ?_
  refine aA ?_
  refine wp_ret ?_
  repeat first | refine bJ ?_ | refine bM ?_
  exact bQ HF rfl rfl ⟨rfl, HM.below⟩
 rw [show decide (2147483647 < ((l.length : Nat) : Int)) = false from cZ (hc3)] at HF
 refine aY HF rfl ?_
 refine wp_skip ?_
 repeat first | refine aK ?_ | refine aP ?_
 refine wp_seq ?_
 refine aO ?_
 refine wp_pure HF HM rfl 3 [] ((cO tz A l c z1) ++ [(23, .bool (decide (tz < 1)))]) (by kernel_rfl) fun a HF => ?_
 by_cases hc4 : tz < 1
 ·rw [show decide (tz < 1) = true from dK (hc4)] at HF
  refine wp_pure HF HM rfl 14 [] ((cO tz A l c z1) ++ [(37, .bool true)]) (by kernel_rfl) fun a HF => ?_
  refine aA ?_
  refine bD HF rfl ?_
  refine aO ?_
  refine wp_pure HF HM rfl 1 [] [(6, .bool true)] (by kernel_rfl) fun a HF => ?_
  refine aA ?_
  refine wp_ret ?_
  repeat first | refine bJ ?_ | refine bM ?_
  exact bQ HF rfl rfl ⟨rfl, HM.below⟩
 rw [show decide (tz < 1) = false from cZ (hc4)] at HF
 refine wp_pure HF HM rfl 4 [] ((cO tz A l c z1) ++ [(27, .bool (decide (2147483648 ≤ tz)))]) (by kernel_rfl) fun a HF => ?_
 by_cases hc5 : 2147483648 ≤ tz
 ·rw [show decide (2147483648 ≤ tz) = true from dK (hc5)] at HF
  refine wp_pure HF HM rfl 10 [] ((cO tz A l c z1) ++ [(37, .bool true)]) (by kernel_rfl) fun a HF => ?_
  refine aA ?_
  refine bD HF rfl ?_
  refine aO ?_
  refine wp_pure HF HM rfl 1 [] [(6, .bool true)] (by kernel_rfl) fun a HF => ?_
  refine aA ?_
  refine wp_ret ?_
  repeat first | refine bJ ?_ | refine bM ?_
  exact bQ HF rfl rfl ⟨rfl, HM.below⟩
 rw [show decide (2147483648 ≤ tz) = false from cZ (hc5)] at HF
 refine wp_pure HF HM rfl 1 [[0]] ((cO tz A l c z1) ++ [(27, .bool false), (28, .agg #[.bool x.wide, .bool x.big, aX x.abi, aX x.aH, .int .i64 x.ty, .int .i64 x.machine, aI x.entry, .slice x.A x.ss.length x.c, .slice x.B x.ps.length x.d])]) (by kernel_rfl) fun a HF => ?_
 refine bf HF (by kernel_rfl) 22 #[.agg #[.bool x.wide, .bool x.big, aX x.abi, aX x.aH, .int .i64 x.ty, .int .i64 x.machine, aI x.entry, .slice x.A x.ss.length x.c, .slice x.B x.ps.length x.d]] (by kernel_rfl) (fun w => by kernel_rfl) (Calls.mono (uy x w1 (h.below HM.below)) ?_)
 rintro _ w2 ⟨b6, rfl, hb, Qz⟩
 replace HM := HM.call hb
 clear hb
 refine ⟨_, rfl, ?_⟩; clear HF; intro a HF
 replace HF := HF.sub ((cO tz A l c z1) ++ [(27, .bool false), (29, .bool b6)]) (by kernel_rfl)
 rcases dZ b6 with hc8 | hc8
 ·replace HF := Fr.sub (Fr.tell HF 29 rfl (congrArg Value.bool hc8)) ((cO tz A l c z1) ++ [(27, .bool false), (29, .bool false)]) (by kernel_rfl)
  refine wp_pure HF HM rfl 8 [] ((cO tz A l c z1) ++ [(37, .bool true)]) (by kernel_rfl) fun a HF => ?_
  refine aA ?_
  refine bD HF rfl ?_
  refine aO ?_
  refine wp_pure HF HM rfl 1 [] [(6, .bool true)] (by kernel_rfl) fun a HF => ?_
  refine aA ?_
  refine wp_ret ?_
  repeat first | refine bJ ?_ | refine bM ?_
  exact bQ HF rfl rfl ⟨rfl, HM.below⟩
 replace HF := Fr.sub (Fr.tell HF 29 rfl (congrArg Value.bool hc8)) ((cO tz A l c z1) ++ [(27, .bool false), (29, .bool true)]) (by kernel_rfl)
 refine wp_pure HF HM rfl 5 [[0]] ((cO tz A l c z1) ++ [(32, .bool false), (33, .agg #[.bool x.wide, .bool x.big, aX x.abi, aX x.aH, .int .i64 x.ty, .int .i64 x.machine, aI x.entry, .slice x.A x.ss.length x.c, .slice x.B x.ps.length x.d]), (34, .slice A l.length c)]) (by kernel_rfl) fun a HF => ?_
 refine bf HF (by kernel_rfl) 42 #[.agg #[.bool x.wide, .bool x.big, aX x.abi, aX x.aH, .int .i64 x.ty, .int .i64 x.machine, aI x.entry, .slice x.A x.ss.length x.c, .slice x.B x.ps.length x.d], aF (-1), .slice A l.length c] (by kernel_rfl) (fun w => by kernel_rfl) (Calls.mono (qH x (-1) l A c w2 (HM.row hr)) ?_)
 rintro _ w3 ⟨b9, rfl, hb, zh⟩
 replace HM := HM.call hb
 clear hb
 refine ⟨_, rfl, ?_⟩; clear HF; intro a HF
 replace HF := HF.sub ((cO tz A l c z1) ++ [(32, .bool false), (35, .bool b9)]) (by kernel_rfl)
 rcases dZ b9 with yL | yL
 ·replace HF := Fr.sub (Fr.tell HF 35 rfl (congrArg Value.bool yL)) ((cO tz A l c z1) ++ [(32, .bool false), (35, .bool false)]) (by kernel_rfl)
  refine wp_pure HF HM rfl 2 [] ((cO tz A l c z1) ++ [(37, .bool true)]) (by kernel_rfl) fun a HF => ?_
  refine aA ?_
  refine bD HF rfl ?_
  refine aO ?_
  refine wp_pure HF HM rfl 1 [] [(6, .bool true)] (by kernel_rfl) fun a HF => ?_
  refine aA ?_
  refine wp_ret ?_
  repeat first | refine bJ ?_ | refine bM ?_
  exact bQ HF rfl rfl ⟨rfl, HM.below⟩
 replace HF := Fr.sub (Fr.tell HF 35 rfl (congrArg Value.bool yL)) ((cO tz A l c z1) ++ [(32, .bool false), (35, .bool true)]) (by kernel_rfl)
 refine wp_pure HF HM rfl 2 [] ((cO tz A l c z1) ++ [(37, .bool false)]) (by kernel_rfl) fun a HF => ?_
 refine aA ?_
 refine aY HF rfl ?_
 refine wp_skip ?_
 repeat first | refine aK ?_ | refine aP ?_
 refine aO ?_
 have hln := (zh yL).1
 obtain ⟨z20, KO⟩ : ∃ z, w3.heap.size = z := ⟨_, rfl⟩
 refine aT HF HM KO 2 [] ((cO tz A l c z1) ++ [(7, aC z20 0 0)]) [(z20, .cells #[] 22 (0, 0)), mQ z1 x] (by kernel_rfl) fun a w HF HM => ?_
 clear KO
 refine aA ?_
 refine wp_seq ?_
 refine aO ?_
 refine wp_pure HF HM rfl 3 [] ((cO tz A l c z1) ++ [(7, aC z20 0 0), (39, .slice A l.length c), (40, ay l.length), (41, aF 0)]) (by kernel_rfl) fun a HF => ?_
 refine aA ?_
 refine wp_block ?_
 refine kC (l.length) (fun i a w => (∃ og : Nat, ∃ oc : Nat, ∃ ok : Array Value, (ok.toList.take (((fU l tz i).length) * 1) = (fU l tz i).map (fun v => Value.int .u64 ((v : Nat) : Int))) ∧ (ok.size = oc * 1) ∧ (((fU l tz i).length) ≤ oc) ∧ (oc ≤ maxLen) ∧ Mm [] w0 w [(og, .cells ok 22 (0, 0)), mQ z1 x] ∧ Fr 88 a (AB tz A l c z1 og i oc))) ?_ ?_ ?_
 ·exact ⟨z20, 0, #[], rfl, rfl, Nat.le_refl _, by unfold maxLen; omega, HM, HF.sub ((cO tz A l c z1) ++ [(7, aC z20 ((fU l tz 0).length) 0), (39, .slice A l.length c), (40, ay l.length), (41, aF 0)]) (by kernel_rfl)⟩
 ·intro i a w KX hi hI KR
  obtain ⟨og, oc, ok, lX, sG, pU, sH, HM, HF⟩ := hI
  have hil := Ja l tz i
  refine aO ?_
  refine wp_pure HF HM rfl 1 [] ((AB tz A l c z1 og i oc) ++ [(42, .bool (decide (((i : Nat) : Int) < ((l.length : Nat) : Int))))]) (by kernel_rfl) fun a HF => ?_
  refine aA ?_
  refine wp_seq ?_
  rw [show decide (((i : Nat) : Int) < ((l.length : Nat) : Int)) = true from dK (by omega)] at HF
  refine bD HF rfl ?_
  refine wp_skip ?_
  repeat first | refine aK ?_ | refine aP ?_
  refine wp_seq ?_
  refine wp_block ?_
  refine aO ?_
  obtain ⟨wK, Gg⟩ : ∃ m, l[i]? = some m := ⟨_, List.getElem?_eq_getElem (by omega)⟩
  refine dG HF (by kernel_rfl) (.pointer (Option.map (fun q : Addr => q.add (i * 2)) A)) (by kernel_rfl) (fD Tryd.underlying81 (by kernel_rfl) rfl i rfl rfl (by omega) (ji (ku (f := fK.cells) (k := 2) (fun _ => rfl) (HM.row hr) i Gg) (Nat.zero_lt_succ _))) fun a HF => ?_
  refine dG HF (by kernel_rfl) (.agg #[.int .i64 wK.tag, aI wK.val]) (by kernel_rfl) (lJ rfl rfl (ku (f := fK.cells) (k := 2) (fun _ => rfl) (HM.row hr) i Gg) (Nat.zero_lt_succ _) Tryd.underlying85 rfl (by kernel_rfl)) fun a HF => ?_
  obtain ⟨z23, KN⟩ : ∃ z, w.heap.size = z := ⟨_, rfl⟩
  refine aT HF HM KN 2 [[2]] ((cO tz A l c z1) ++ [(7, aC og ((fU l tz i).length) oc), (9, aB z23), (39, .slice A l.length c), (40, ay l.length), (41, ay i)]) [(z23, .cells #[.int .i64 wK.tag, aI wK.val] 85 (0, 0)), (og, .cells ok 22 (0, 0)), mQ z1 x] (by kernel_rfl) fun a w HF HM => ?_
  clear KN
  refine dF ?_
  refine wp_pure HF HM rfl 4 [[2]] ((cO tz A l c z1) ++ [(7, aC og ((fU l tz i).length) oc), (9, aB z23), (39, .slice A l.length c), (40, ay l.length), (41, ay i), (48, .bool (wK.tag == tz))]) (by kernel_rfl) fun a HF => ?_
  refine aA ?_
  by_cases hc12 : wK.tag = tz
  ·rw [show (wK.tag == tz) = true from nZ (hc12)] at HF
   refine bD HF rfl ?_
   refine wp_region_lit ?_
   obtain ⟨z25, AV⟩ : ∃ z, w.heap.size = z := ⟨_, rfl⟩
   refine aT HF HM AV 4 [[2]] ((cO tz A l c z1) ++ [(39, .slice A l.length c), (40, ay l.length), (41, ay i), (49, aC og ((fU l tz i).length) oc), (52, aC z25 1 1)]) [(z25, .cells #[aI wK.val] 22 (0, 0)), (z23, .cells #[.int .i64 wK.tag, aI wK.val] 85 (0, 0)), (og, .cells ok 22 (0, 0)), mQ z1 x] (by kernel_rfl) fun a w HF HM => ?_
   clear AV
   refine fZ HF HM rfl _ _ 83 83 rfl rfl 22 (z := bH 0) (size := 1) (bytes := 8) Tryd.underlying83 (by kernel_rfl) rfl (by decide) 2 og ((fU l tz i).length) oc ok rfl rfl pU sH sG ((fU l tz i).map (fun v => Value.int .u64 ((v : Nat) : Int))) lX (aC z25 1 1) 1 [aI wK.val] rfl (lW Tryd.underlying83 rfl (by decide) (HM.rowAt (i := 0) rfl) (lu rfl)) (by unfold maxLen; omega) (by omega) ?_
   intro a w4 g13 Gl JX bT JO hsz13 Q_ hcm13 HF2; clear HF HM
   have HM : Mm [] w0 w4 [(z25, .cells #[aI wK.val] 22 (0, 0)), (z23, .cells #[.int .i64 wK.tag, aI wK.val] 85 (0, 0)), (g13, .cells JX 22 (0, 0)), mQ z1 x] := bT
   have HF := HF2.sub ((cO tz A l c z1) ++ [(39, .slice A l.length c), (40, ay l.length), (41, ay i), (53, aC g13 (((fU l tz i).length) + 1) Gl)]) (by kernel_rfl); clear bT HF2
   refine wp_pure HF HM rfl 1 [] ((cO tz A l c z1) ++ [(7, aC g13 (((fU l tz i).length) + 1) Gl), (39, .slice A l.length c), (40, ay l.length), (41, ay i)]) (by kernel_rfl) fun a HF => ?_
   refine wpList_nil ?_
   repeat first | refine aK ?_ | refine aP ?_
   refine wp_region_lit ?_
   refine wp_pure HF HM rfl 1 [] ((cO tz A l c z1) ++ [(7, aC g13 (((fU l tz i).length) + 1) Gl), (39, .slice A l.length c), (40, ay l.length), (54, aF (IntKind.i64.wrap (((i : Nat) : Int) + 1)))]) (by kernel_rfl) fun a HF => ?_
   rw [show IntKind.i64.wrap (((i : Nat) : Int) + 1) = (((i + 1) : Nat) : Int) from (IntWalk.i64_in _ (by omega)).trans (by omega)] at HF
   refine wp_pure HF HM rfl 1 [] ((cO tz A l c z1) ++ [(7, aC g13 (((fU l tz i).length) + 1) Gl), (39, .slice A l.length c), (40, ay l.length), (41, ay (i + 1))]) (by kernel_rfl) fun a HF => ?_
   refine wpList_nil ?_
   repeat first | refine aK ?_ | refine aP ?_
   rw [show (((fU l tz i).length) + 1) = ((fU l tz (i + 1)).length) from by rw [I_ Gg hc12, List.length_append]; rfl] at HF JO Q_
   replace JO : JX.toList.take (((fU l tz (i + 1)).length) * 1) = (fU l tz (i + 1)).map (fun v => Value.int .u64 ((v : Nat) : Int)) := JO.trans (by rw [I_ Gg hc12]; rw [List.map_append]; rfl)
   exact KR _ _ (⟨g13, Gl, JX, JO, hsz13, Q_, hcm13, (HM.pick [2, 3] [(g13, .cells JX 22 (0, 0)), mQ z1 x] rfl (by decide)), HF.sub ((cO tz A l c z1) ++ [(7, aC g13 ((fU l tz (i + 1)).length) Gl), (39, .slice A l.length c), (40, ay l.length), (41, ay (i + 1))]) (by kernel_rfl)⟩)
  rw [show (wK.tag == tz) = false from oM (hc12)] at HF
  refine aY HF rfl ?_
  refine wp_skip ?_
  repeat first | refine aK ?_ | refine aP ?_
  refine wp_region_lit ?_
  refine wp_pure HF HM rfl 1 [] ((cO tz A l c z1) ++ [(7, aC og ((fU l tz i).length) oc), (39, .slice A l.length c), (40, ay l.length), (54, aF (IntKind.i64.wrap (((i : Nat) : Int) + 1)))]) (by kernel_rfl) fun a HF => ?_
  rw [show IntKind.i64.wrap (((i : Nat) : Int) + 1) = (((i + 1) : Nat) : Int) from (IntWalk.i64_in _ (by omega)).trans (by omega)] at HF
  refine wp_pure HF HM rfl 1 [] ((cO tz A l c z1) ++ [(7, aC og ((fU l tz i).length) oc), (39, .slice A l.length c), (40, ay l.length), (41, ay (i + 1))]) (by kernel_rfl) fun a HF => ?_
  refine wpList_nil ?_
  repeat first | refine aK ?_ | refine aP ?_
  rw [show ((fU l tz i).length) = ((fU l tz (i + 1)).length) from (congrArg List.length (J3 Gg hc12)).symm] at HF lX pU
  replace lX : ok.toList.take (((fU l tz (i + 1)).length) * 1) = (fU l tz (i + 1)).map (fun v => Value.int .u64 ((v : Nat) : Int)) := lX.trans (by rw [J3 Gg hc12])
  exact KR _ _ (⟨og, oc, ok, lX, sG, pU, sH, (HM.pick [1, 2] [(og, .cells ok 22 (0, 0)), mQ z1 x] rfl (by decide)), HF.sub ((cO tz A l c z1) ++ [(7, aC og ((fU l tz (i + 1)).length) oc), (39, .slice A l.length c), (40, ay l.length), (41, ay (i + 1))]) (by kernel_rfl)⟩)
 ·intro a w KX hI
  obtain ⟨og, oc, ok, lX, sG, pU, sH, HM, HF⟩ := hI
  refine aO ?_
  refine wp_pure HF HM rfl 1 [] ((cO tz A l c z1) ++ [(7, aC og ((fU l tz l.length).length) oc), (39, .slice A l.length c), (40, ay l.length), (41, ay l.length), (42, .bool (decide (((l.length : Nat) : Int) < ((l.length : Nat) : Int))))]) (by kernel_rfl) fun a HF => ?_
  refine aA ?_
  refine wp_seq ?_
  rw [show decide (((l.length : Nat) : Int) < ((l.length : Nat) : Int)) = false from cZ (by omega)] at HF
  refine aY HF rfl ?_
  refine wp_exit ?_
  repeat (first | refine eH ?_ | refine dY rfl ?_)
  refine gZ ?_
  repeat first | refine aK ?_ | refine aP ?_
  refine aO ?_
  obtain ⟨tg, rfl⟩ := Int.eq_ofNat_of_zero_le (show 0 ≤ tz by omega)
  refine wp_pure HF HM rfl 2 [[0]] [(1, ay tg), (7, aC og ((fU l ((tg : Nat) : Int) l.length).length) oc), (56, .agg #[.bool x.wide, .bool x.big, aX x.abi, aX x.aH, .int .i64 x.ty, .int .i64 x.machine, aI x.entry, .slice x.A x.ss.length x.c, .slice x.B x.ps.length x.d]), (57, .slice A l.length c)] (by kernel_rfl) fun a HF => ?_
  have uS := Qz hc8
  have lH := zh yL
  have ok := uS.1; have hln := lH.1
  have kS : ([] : List (List UInt8)).length ≤ 1024 ∧ ∀ s ∈ ([] : List (List UInt8)), yZ s := ⟨Nat.zero_le _, fun s hs => by cases hs⟩
  refine bf HF (by kernel_rfl) 44 #[.agg #[.bool x.wide, .bool x.big, aX x.abi, aX x.aH, .int .i64 x.ty, .int .i64 x.machine, aI x.entry, .slice x.A x.ss.length x.c, .slice x.B x.ps.length x.d], aF 1, aN, .slice A l.length c] (by kernel_rfl) (fun w => by kernel_rfl) (Calls.mono (o9 x 1 (by omega) [] none 0 l ((-1)) A c w (h.below HM.below) uS.2 (Row.nil _ _) kS.1 kS.2 (HM.row hr) hat lH.1 lH.2) ?_)
  rintro _ w5 ⟨gd, nM, gn, qm, g, cap, rfl, hb, hy⟩
  replace HM := HM.call hb
  clear hb
  obtain ⟨y, hye⟩ : ∃ y, x.more (qG x 1 [] l gd nM) (qE [] gn qm) g cap = y := ⟨_, rfl⟩
  rw [hye] at hy
  have hd : o8 y (kQ 1 [] l) [] := hye ▸ uw (by omega) kS.1 kS.2 lH.1 lH.2 hat
  have yU : y.Ok := hye ▸ b_.Ag ok uS.2 (uj x 1 [] l gd nM kS.1 lH.1) (tu x.wide [] gn qm (rM [] kS.1 kS.2))
  have AL := b_.ok yU hy
  refine ⟨_, rfl, ?_⟩; clear HF; intro a HF
  rw [hye] at HF
  refine bf HF (by kernel_rfl) 25 #[.agg #[.bool y.wide, .bool y.big, aX y.abi, aX y.aH, .int .i64 y.ty, .int .i64 y.machine, aI y.entry, .slice y.A y.ss.length y.c, .slice y.B y.ps.length y.d]] (by kernel_rfl) (fun w => by kernel_rfl) (Calls.mono (vU y w5 hy yU) ?_)
  rintro _ w6 ⟨gf, qN, LJ, rfl, hb, hof⟩
  replace HM := HM.call hb
  clear hb
  refine ⟨_, rfl, ?_⟩; clear HF; intro a HF
  refine wp_pure HF HM rfl 1 [] [(7, aC og ((fU l ((tg : Nat) : Int) l.length).length) oc), (59, aC gf y.img.file.length qN), (60, ay tg)] (by kernel_rfl) fun a HF => ?_
  have hsel : dW (kQ 1 [] l) tg (kQ 1 [] l).length = fU l ((tg : Nat) : Int) l.length := Qe (by omega) lH.2
  have hil := Ja l ((tg : Nat) : Int) l.length
  refine bf HF (by kernel_rfl) 43 #[aC gf y.img.file.length qN, ay tg] (by kernel_rfl) (fun w => by kernel_rfl) (Calls.mono (Gt y (some ⟨gf, 0, none⟩) qN hof.nc AL (kQ 1 [] l) [] hd tg w6 hof.row) ?_)
  rintro _ w7 ⟨A2, c2, rfl, hb, hrow⟩
  replace HM := HM.call hb
  clear hb
  rw [hsel] at hrow
  refine ⟨_, rfl, ?_⟩; clear HF; intro a HF
  rw [hsel] at HF
  replace HF := HF.sub [G7 og l tg oc, (61, .tuple #[.slice A2 ((fU l ((tg : Nat) : Int) l.length).length) c2, aF 0])] (by kernel_rfl)
  have hbw0 := HM.below
  have hwant : Row w7 (some ⟨og, 0, none⟩) ((fU l ((tg : Nat) : Int) l.length).map (fun v => Value.int .u64 ((v : Nat) : Int))) := HM.lZ (i := 0) rfl lX
  clear HM
  have HM : Mm [] w7 w7 [] := Mm.start w7
  refine wp_pure HF HM rfl 5 [] ((qM og l tg oc A2 c2) ++ [(11, aF 0)]) (by kernel_rfl) fun a HF => ?_
  refine aA ?_
  refine wp_seq ?_
  refine aO ?_
  refine wp_pure HF HM rfl 9 [] ((qM og l tg oc A2 c2) ++ [(72, .bool (((((fU l ((tg : Nat) : Int) l.length).length) : Nat) : Int) != ((((fU l ((tg : Nat) : Int) l.length).length) : Nat) : Int)))]) (by kernel_rfl) fun a HF => ?_
  refine aA ?_
  rw [show (((((fU l ((tg : Nat) : Int) l.length).length) : Nat) : Int) != ((((fU l ((tg : Nat) : Int) l.length).length) : Nat) : Int)) = false from yS (fun hq => hq rfl)] at HF
  refine aY HF rfl ?_
  refine wp_skip ?_
  repeat first | refine aK ?_ | refine aP ?_
  refine wp_seq ?_
  refine aO ?_
  refine wp_pure HF HM rfl 3 [] ((kP og l tg oc A2 c2) ++ [(75, aF 0)]) (by kernel_rfl) fun a HF => ?_
  refine aA ?_
  refine wp_block ?_
  refine kC ((fU l ((tg : Nat) : Int) l.length).length) (fun i a w => (Mm [] w7 w [] ∧ Fr 88 a ((kP og l tg oc A2 c2) ++ [(75, ay i)]))) ?_ ?_ ?_
  ·exact ⟨HM, HF.sub ((kP og l tg oc A2 c2) ++ [(75, aF 0)]) (by kernel_rfl)⟩
  ·intro i a w KX hi hI KR
   obtain ⟨HM, HF⟩ := hI
   refine aO ?_
   refine wp_pure HF HM rfl 1 [] ((kP og l tg oc A2 c2) ++ [(75, ay i), (76, .bool (decide (((i : Nat) : Int) < ((((fU l ((tg : Nat) : Int) l.length).length) : Nat) : Int))))]) (by kernel_rfl) fun a HF => ?_
   refine aA ?_
   refine wp_seq ?_
   rw [show decide (((i : Nat) : Int) < ((((fU l ((tg : Nat) : Int) l.length).length) : Nat) : Int)) = true from dK (by omega)] at HF
   refine bD HF rfl ?_
   refine wp_skip ?_
   repeat first | refine aK ?_ | refine aP ?_
   refine wp_seq ?_
   refine wp_block ?_
   refine aO ?_
   refine wp_pure HF HM rfl 2 [] ((qM og l tg oc A2 c2) ++ [(12, ay i), (74, ay ((fU l ((tg : Nat) : Int) l.length).length)), (75, ay i)]) (by kernel_rfl) fun a HF => ?_
   refine aA ?_
   refine vF (by kernel_rfl) (by kernel_rfl) ?_
   refine oU HF HM rfl 2 [] ((qM og l tg oc A2 c2) ++ [(12, ay i), (74, ay ((fU l ((tg : Nat) : Int) l.length).length)), (75, ay i), (78, .slice A2 ((fU l ((tg : Nat) : Int) l.length).length) c2), (79, ay i)]) (by kernel_rfl) fun a HF => ?_
   obtain ⟨GN, JJ⟩ : ∃ m, (fU l ((tg : Nat) : Int) l.length)[i]? = some m := ⟨_, List.getElem?_eq_getElem (by omega)⟩
   refine sU HF rfl (.pointer (Option.map (fun q : Addr => q.add (i * 1)) A2)) (by kernel_rfl) (fun j => fD Tryd.underlying83 (by kernel_rfl) rfl i rfl rfl (by omega) (ji (kU (HM.row hrow) i JJ) (Nat.zero_lt_succ _))) fun a HF => ?_
   refine sU HF rfl (aI GN) (by kernel_rfl) (fun j => lI rfl rfl (Bj (kU (HM.row hrow) i JJ) j) (by kernel_rfl)) fun a HF => ?_
   refine oU HF HM rfl 2 [] ((kP og l tg oc A2 c2) ++ [(75, ay i), (81, aI GN), (82, aC og ((fU l ((tg : Nat) : Int) l.length).length) oc), (83, ay i)]) (by kernel_rfl) fun a HF => ?_
   refine sU HF rfl (.pointer (Option.map (fun q : Addr => q.add (i * 1)) (some ⟨og, 0, none⟩))) (by kernel_rfl) (fun j => fD Tryd.underlying83 (by kernel_rfl) rfl i rfl rfl (by omega) (ji (kU (HM.row hwant) i JJ) (Nat.zero_lt_succ _))) fun a HF => ?_
   refine sU HF rfl (aI GN) (by kernel_rfl) (fun j => lI rfl rfl (Bj (kU (HM.row hwant) i JJ) j) (by kernel_rfl)) fun a HF => ?_
   refine oU HF HM rfl 1 [] ((kP og l tg oc A2 c2) ++ [(75, ay i), (86, .bool (((GN : Nat) : Int) != ((GN : Nat) : Int)))]) (by kernel_rfl) fun a HF => ?_
   refine wR ?_
   rintro w8 ⟨nq, hq⟩
   replace HM : Mm [] w7 w8 [] := by rw [hq]; exact HM.drewN nq
   clear hq nq
   rw [show (((GN : Nat) : Int) != ((GN : Nat) : Int)) = false from yS (fun hq => hq rfl)] at HF
   refine aY HF rfl ?_
   refine wp_skip ?_
   repeat first | refine aK ?_ | refine aP ?_
   refine wp_region_lit ?_
   refine wp_pure HF HM rfl 1 [] ((kP og l tg oc A2 c2) ++ [(87, aF (IntKind.i64.wrap (((i : Nat) : Int) + 1)))]) (by kernel_rfl) fun a HF => ?_
   rw [show IntKind.i64.wrap (((i : Nat) : Int) + 1) = (((i + 1) : Nat) : Int) from (IntWalk.i64_in _ (by omega)).trans (by omega)] at HF
   refine wp_pure HF HM rfl 1 [] ((kP og l tg oc A2 c2) ++ [(75, ay (i + 1))]) (by kernel_rfl) fun a HF => ?_
   refine wpList_nil ?_
   repeat first | refine aK ?_ | refine aP ?_
   exact KR _ _ (⟨HM, HF.sub ((kP og l tg oc A2 c2) ++ [(75, ay (i + 1))]) (by kernel_rfl)⟩)
  ·intro a w KX hI
   obtain ⟨HM, HF⟩ := hI
   refine aO ?_
   refine wp_pure HF HM rfl 1 [] ((kP og l tg oc A2 c2) ++ [(75, ay ((fU l ((tg : Nat) : Int) l.length).length)), (76, .bool (decide (((((fU l ((tg : Nat) : Int) l.length).length) : Nat) : Int) < ((((fU l ((tg : Nat) : Int) l.length).length) : Nat) : Int))))]) (by kernel_rfl) fun a HF => ?_
   refine aA ?_
   refine wp_seq ?_
   rw [show decide (((((fU l ((tg : Nat) : Int) l.length).length) : Nat) : Int) < ((((fU l ((tg : Nat) : Int) l.length).length) : Nat) : Int)) = false from cZ (by omega)] at HF
   refine aY HF rfl ?_
   refine wp_exit ?_
   repeat (first | refine eH ?_ | refine dY rfl ?_)
   refine gZ ?_
   repeat first | refine aK ?_ | refine aP ?_
   refine aO ?_
   refine wp_pure HF HM rfl 1 [] [(6, .bool true)] (by kernel_rfl) fun a HF => ?_
   refine aA ?_
   refine wp_ret ?_
   repeat first | refine bJ ?_ | refine bM ?_
   exact bQ HF rfl rfl ⟨rfl, (hbw0.trans (HM.below.mono hbw0.size))⟩

end Go.Proofs.YtdgehpocmfjbiaaDoor
namespace Go.Proofs.YtdgehpocmfjbiaaDoor.fnDynValues
open Go Go.ChangeShapes Go.WideShapes Go.ChangeAt Go.RowKit Go.Deep

theorem own : ownKnob Tryd.prog.godebug = none := by kernel_rfl
theorem laidOut : laidOutB Tryd.prog = true := by kernel_rfl
theorem door_met (os : Os) (args : Array Value) : laidMetH Tryd.prog Rows.fnDynValuesRow.laid ((World.doorLaid Tryd.prog 123 os).forCall (fun _ _ => 0) ⟨#[], args, []⟩).memory :=
  laidMetH_of_parts3 (fuel := 8) (laidMet_of_run' 8 (by kernel_rfl) (by kernel_rfl)) (by kernel_rfl) (by kernel_rfl)

set_option maxRecDepth 100000 in
theorem lifted (os : Os) (started : os.Started) (H : Type) (enc : TypeId × Value → H) :
    ReturnsInHanded {} Tryd.checked os 16 .any (fun w args => (Rows.fnDynValuesSpec.pre enc Tryd.prog Tryd.f16 [] false w args ∧ laidMetH Tryd.prog Rows.fnDynValuesRow.laid w) ∧ sizedMet enc Tryd.prog Tryd.f16 (OpenSpec.ofChange Rows.fnDynValuesSpec) false w args)
      (Rows.fnDynValuesSpec.post enc Tryd.prog Tryd.f16 false true false false) := by
  refine returnsInHanded_of_change_and (C := Tryd.checked) (X := fun w _ => laidMetH Tryd.prog Rows.fnDynValuesRow.laid w) (fun _ _ _ hh h => h.of_heap hh) own started (by kernel_rfl) Tryd.func16
    (ChangeSpec.witness_shaped (enc := enc) (C := Tryd.checked) (os := os) (X := fun w _ => laidMetH Tryd.prog Rows.fnDynValuesRow.laid w) false (World.doorLaid Tryd.prog 123 os) #[.agg #[.bool false, .bool false, .int .u8 0, .int .u8 0, .int .i64 0, .int .i64 0, .int .u64 0, .slice none 0 0, .slice none 0 0], .int .i64 0, .slice none 0 0] 8 rfl (World.shaped_of_RefB (by kernel_rfl) (by kernel_rfl)) (by kernel_rfl) (by kernel_rfl) (by kernel_rfl) (door_met os _)) ?_
  intro W base args ds gs before hval0 hW _ _ hL _
  have hval : ∀ (j : Nat) t v, Tryd.f16.params[j]? = some t → args[j]? = some v → Value.okWide Tryd.prog W .any base t v := hval0
  have hW' := hW
  obtain ⟨p, q, hA0, hV, rfl, hfz, hnd⟩ := hW
  have hA : DataW.TrodAll enc Tryd.prog W 0 (fun _ => true) true Tryd.f16.params.toList args.toList ds p := hA0
  rw [Tryd.params16] at hA hval
  obtain ⟨v0, vs0, d0, ds0, p0, q0, hargs, rfl, rfl, h0, r0⟩ := trodAll_cons hA
  obtain ⟨v1, vs1, d1, ds1, p1, q1, rfl, rfl, rfl, h1, r1⟩ := trodAll_cons r0
  obtain ⟨v2, vs2, d2, ds2, p2, q2, rfl, rfl, rfl, h2, r2⟩ := trodAll_cons r1
  obtain ⟨rfl, rfl, rfl⟩ := trodAll_nil r2
  obtain rfl : args = #[v0, v1, v2] := by cases args; simp_all
  obtain ⟨ea, hv0, hE⟩ := Hl (by kernel_rfl) hL
  have hV1 : DataW.TrodVars enc Tryd.prog W (fun _ => true) ["loop.example/pub-g03028/pub/elf.ErrNoSymbols"] gs q := hV
  obtain ⟨rfl, rfl⟩ := hV1.unique (vars_read1 enc qC uh Tryd.underlying103 hv0 trivial _)
  have k0 := h0
  have lt0 : ∀ x ∈ p0, x.block < W.heap.size := by obtain ⟨m, hm⟩ := k0; exact DataW.trod_lt m _ _ _ hm
  have k1 := h1
  have lt1 : ∀ x ∈ p1, x.block < W.heap.size := by obtain ⟨m, hm⟩ := k1; exact DataW.trod_lt m _ _ _ hm
  have k2 := h2
  have lt2 : ∀ x ∈ p2, x.block < W.heap.size := by obtain ⟨m, hm⟩ := k2; exact DataW.trod_lt m _ _ _ hm
  obtain ⟨x0, rfl, hx0⟩ := G6 (hval 0 26 v0 rfl rfl) h0
  obtain ⟨a1, rfl, -, -, z1⟩ := open_int Tryd.underlying3 (hval 1 3 v1 rfl rfl) h1
  have q1 := bounds_i64 z1
  obtain ⟨l2, A2, c2, rfl, hr2, hl2, hn2, hk2⟩ := wH (hval 2 81 v2 rfl rfl) h2
  clear hA0 hval0
  refine (JC x0 a1 l2 A2 c2 W hx0 q1 hr2 hl2 hn2 hk2).mono fun e W' ⟨he, bel⟩ => ?_
  subst he
  exact ⟨_, rfl, _, _, _, [], _, [.cell 0 0], hW', trodAll_mk1 (shut_bool Tryd.underlying4 _), (trodAll_cons_mk (Below.trod laidOut (by kernel_rfl) (of_decide_eq_true (by kernel_rfl)) k0 bel lt0) (trodAll_cons_mk (Below.trod laidOut (by kernel_rfl) (of_decide_eq_true (by kernel_rfl)) k1 bel lt1) (trodAll_cons_mk (Below.trod laidOut (by kernel_rfl) (of_decide_eq_true (by kernel_rfl)) k2 bel lt2) trodAll_mk0))), vars_read1 enc qC uh Tryd.underlying103 (var_below bel hv0) trivial _, bel.frame _, fun h => by cases h⟩

set_option maxRecDepth 100000 in
theorem EL : joinedFacts Tryd.pinned.checked.prog 16 Tryd.f16 Rows.fnDynValuesSpec Rows.fnDynValuesRow = true := (and_t (and_t (and_t (and_t (and_t (and_t (and_t (and_t (and_t (and_t (and_t (and_t (and_t (and_t (and_t (and_t (and_t (and_t (and_t (and_t (and_t (and_t (and_t (and_t (and_t (and_t (and_t (and_t (and_t (and_t (and_t l0 l1) l2) l3) l4) l5) l6) l7) l8) l9) l10) l11) l12) l13) l14) l15) l16) l17) l18) l19) l20) l21) l22) l23) l24) l25) l26) l27) l28) l29) l30) l31)

theorem over : Rows.FnDynValuesSaid :=
  OpenClaim.holds_of_wide 16 Tryd.f16 rfl rfl rfl rfl rfl rfl rfl ⟨rfl, rfl, rfl, rfl, rfl⟩ rfl rfl rfl rfl rfl c5 Tryd.func16 EL
    (of_decide_eq_true (by kernel_rfl)) (by unfold Func.isWrapper; first | (rw [if_pos (by decide +kernel)]; kernel_rfl) | (rw [if_neg (by decide +kernel)]; exact ⟨rfl, rfl⟩))
    (fun os started H enc _ => lifted os started H enc)

theorem proved : Rows.FnDynValuesCardSaid :=
  Claim7.holds_tied_plain_at .later [] [.sentinel, .sentinel, .sentinel, .sentinel, .sentinel, .sentinel] true (true, "ed888367449acd6afd80057b2906ce1b79ec16b7beef13a0a9ac5f630eedede4") true
    over (fun _ h => by cases h) c1 (fun _ h => by cases h) fnDynValues_row_tie rfl ⟨rfl, rfl⟩ qc4 rfl
    (fun f fn hf hfn => by
      obtain rfl : f = 16 := Option.some.inj (c5.symm.trans hf) |>.symm
      obtain rfl : fn = Tryd.f16 := (Option.some.inj (Tryd.func16.symm.trans hfn)).symm
      exact ⟨qc2, fun j t ht => by
        rw [Tryd.params16] at ht
        have hm : t ∈ [26, 3, 81] := by simpa using Array.mem_of_getElem? ht
        have hall : ([26, 3, 81].all fun u => !Tryd.prog.wantsStandIn u) = true := by kernel_rfl
        exact (show Tryd.prog.wantsStandIn t = false by simpa using List.all_eq_true.1 hall t hm)⟩)
    c3
#print axioms proved
end Go.Proofs.YtdgehpocmfjbiaaDoor.fnDynValues
