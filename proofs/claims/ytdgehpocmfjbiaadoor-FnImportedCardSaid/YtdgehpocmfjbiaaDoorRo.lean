/- (*File).getSymbols32, getSymbols64. -/
import Derived.Test.YtdgehpocmfjbiaaDoorRn
import Derived.Test.YtdgehpocmfjbiaaDoorRm
import Derived.Test.YtdgehpocmfjbiaaDoorRa
set_option linter.unusedVariables false
set_option linter.unusedSimpArgs false
set_option maxRecDepth 100000
set_option maxHeartbeats 2000000
namespace Go.Proofs.YtdgehpocmfjbiaaDoor
open Go.RowKit

abbrev dZ := fun tb (p : dL) => ((tb, .cells (p.data.map Bv).toArray 5 (0, 0)) : Nat × Obj)
abbrev rH := fun (fb : Nat) pq tb (l : List SymM) => ([(0, aA fb), (7, aA pq), (8, aC tb ((16 * (l.length + 1))) ((16 * (l.length + 1))))] : Slots)
abbrev xW := fun (fb : Nat) tb (l : List SymM) => ([(0, aA fb), (8, aC tb ((16 * (l.length + 1))) ((16 * (l.length + 1))))] : Slots)
abbrev eU := fun tx (q : dL) => ((tx, .cells (q.data.map Bv).toArray 5 (0, 0)) : Nat × Obj)
abbrev fC := fun (fb : Nat) (x : bZ) (aV : Nat) (pg : Nat) => ((fb, .cells #[aO 1, aO (if x.img.big then 2 else 1 : Int), aO 1, aT x.img.abi, aT x.img.aH, (aU x.img.big), bn x.img.ty, bn x.img.machine, aI x.img.entry, aC aV (x.ps.length + 2) (x.ps.length + 2), aC pg x.img.dJ.length x.img.dJ.length, aQ, aQ, aQ] 131 (0, 0)) : Nat × Obj)
abbrev cZ := fun (fb : Nat) tb i r tx (q : dL) og (l : List SymM) oc z20 => ([(0, aA fb), (8, .slice (some ⟨tb, 16 * (i + 1), none⟩) r r), (10, aC tx q.data.length q.data.length), (11, aC og l.length oc), (12, ay i), (13, aA z20)] : Slots)
theorem MW {x : bZ} {b c z fb pg aV : Nat} {cur dU : Array Value} {w0 : World} (hF : kR x b c z fb pg aV cur dU w0) (hw : x.wide = false) (tv : Nat) (htv : tv ≠ 0) (htv8 : tv ≠ 8) {p q : dL} (hm0 : x.ps[0]? = some p) (hm1 : x.ps[1]? = some q) (hpo : dL.Ok x.wide p) (hqo : dL.Ok x.wide q) (hpt : p.ty = tv) (hpl : p.link = 2) (hq8 : q.ty ≠ 8) (l : List SymM) (FI : p.data = dN false x.img.big l l.length) (Dk : q.data = dB (dF l)) (hn : l.length ≤ 1024) (hok : ∀ m ∈ l, SymM.Ok false m) (hat : ∀ m ∈ l, SymM.At m) :
  Calls Tryd.prog 101 #[aA fb, aX tv] w0 fun e w' => ∃ gs cap gk tx, e = .returned (.tuple #[aC gs l.length cap, aC tx q.data.length q.data.length, .nilIface]) ∧ Below w0.heap.size w0 w' ∧ Own w0.heap.size w' 188 10 gs l.length cap gk (l.flatMap t_) := by
 have hfb := hF.Qj hw
 have hsm := hF.small
 have hnl := oL l
 have hnb := rP l false hn hok
 have hk1 := (List.getElem?_eq_some_iff.1 hm1).1
 have hD : p.data.length = 16 * (l.length + 1) := by rw [FI, Cm _ _ _ _ (Nat.le_refl _), Nat.mul_comm]; rfl
 have hq0 : 0 < q.data.length := by rw [Dk]; exact Nat.succ_pos _
 have hqL : q.data.length ≤ 1049601 := by rw [Dk]; exact hnb
 have hlk : (jw x.img 1).link = 1 + 1 := (Oo hm0).trans hpl
 obtain ⟨inf8, Dn, hs8⟩ := Option.map_eq_some_iff.1 yG
 obtain ⟨pq, sq, q1, -, -, q4, q5⟩ := hF.at_.sec 1 (by rw [oI]; omega)
 obtain ⟨w, hw⟩ : ∃ w, w0 = w := ⟨_, rfl⟩
 have HM : Mm [] w0 w [] := hw ▸ Mm.start w0
 conv => arg 4; rw [hw]
 clear hw
 refine bI Tryd.func101 rfl Tryd.ntmps101 [(0, aA fb), (1, aX tv)] (by kernel_rfl) (Nat.le_of_ble_eq_true rfl) ?_
 intro a HF
 refine aN ?_
 refine wp_pure HF HM rfl 3 [] [(0, aA fb), (1, aX tv)] (by kernel_rfl) fun a HF => ?_
 refine bT ?_
 refine wp_pure HF HM rfl 2 [] [(0, aA fb), (16, aA fb), (17, aX tv)] (by kernel_rfl) fun a HF => ?_
 refine bf HF (by kernel_rfl) 71 #[aA fb, aX tv] (by kernel_rfl) (fun w => by kernel_rfl) (Calls.mono (H9 (hF.below HM.below) tv 1 pq (by omega) q1 ((Gi hm0).trans hpt) (fun j hj => by obtain rfl : j = 0 := (by omega); exact fun e => htv e.symm)) ?_)
 rintro _ w1 ⟨rfl, hq⟩
 replace hq := hq.symm; subst hq
 refine ⟨_, rfl, ?_⟩; clear HF; intro a HF
 refine wp_pure HF HM rfl 1 [] [(0, aA fb), (7, aA pq)] (by kernel_rfl) fun a HF => ?_
 refine aB ?_
 refine wp_seq ?_
 refine aN ?_
 refine wp_pure HF HM rfl 2 [] [(0, aA fb), (7, aA pq), (20, .bool false)] (by kernel_rfl) fun a HF => ?_
 refine aB ?_
 refine aZ HF rfl ?_
 refine wp_skip ?_
 repeat first | refine aK ?_ | refine aS ?_
 refine aN ?_
 refine wp_pure HF HM rfl 1 [] [(0, aA fb), (7, aA pq), (23, aA pq)] (by kernel_rfl) fun a HF => ?_
 refine bf HF (by kernel_rfl) 63 #[aA pq] (by kernel_rfl) (fun w => by kernel_rfl) (Calls.mono (G9 (hF.below HM.below) hm0 hpo (by omega) (by omega) pq q1) ?_)
 rintro _ w2 ⟨tb, rfl, hb, hge, hob⟩
 replace HM : Mm [] w0 w2 [dZ tb p] := HM.push hb hge hob
 clear hb
 refine ⟨_, rfl, ?_⟩; clear HF; intro a HF
 rw [hD] at HF
 refine wp_pure HF HM rfl 5 [] ((rH fb pq tb l) ++ [(9, .nilIface)]) (by kernel_rfl) fun a HF => ?_
 refine aB ?_
 refine wp_seq ?_
 refine aN ?_
 refine wp_pure HF HM rfl 2 [] ((rH fb pq tb l) ++ [(9, .nilIface), (28, .bool false)]) (by kernel_rfl) fun a HF => ?_
 refine aB ?_
 refine aZ HF rfl ?_
 refine wp_skip ?_
 repeat first | refine aK ?_ | refine aS ?_
 refine wp_seq ?_
 refine aN ?_
 refine wp_pure HF HM rfl 3 [] ((rH fb pq tb l) ++ [(35, .bool (((((16 * (l.length + 1))) : Nat) : Int) == 0))]) (by kernel_rfl) fun a HF => ?_
 refine aB ?_
 rw [show (((((16 * (l.length + 1))) : Nat) : Int) == 0) = false from rW (by omega)] at HF
 refine aZ HF rfl ?_
 refine wp_skip ?_
 repeat first | refine aK ?_ | refine aS ?_
 refine wp_seq ?_
 refine aN ?_
 refine wp_pure HF HM rfl 3 [] ((rH fb pq tb l) ++ [(39, aF (Int.tmod ((((16 * (l.length + 1))) : Nat) : Int) 16))]) (by kernel_rfl) fun a HF => ?_
 rw [show Int.tmod ((((16 * (l.length + 1))) : Nat) : Int) 16 = 0 from Ov 16 _] at HF
 refine wp_pure HF HM rfl 1 [] ((rH fb pq tb l) ++ [(40, .bool false)]) (by kernel_rfl) fun a HF => ?_
 refine aB ?_
 refine aZ HF rfl ?_
 refine wp_skip ?_
 repeat first | refine aK ?_ | refine aS ?_
 refine aN ?_
 refine wp_pure HF HM rfl 5 [] ((xW fb tb l) ++ [(43, aA fb), (47, .pointer (some ⟨pq, 6, none⟩))]) (by kernel_rfl) fun a HF => ?_
 refine bU HF (by kernel_rfl) (aX ((jw x.img 1).link)) (by kernel_rfl) (dP rfl rfl (by kernel_rfl) ((cell_of_row w2 pq 6 _ _ _ (HM.old q4)).trans rfl)) fun a HF => ?_
 refine bf HF (by kernel_rfl) 90 #[aA fb, aX ((jw x.img 1).link)] (by kernel_rfl) (fun w => by kernel_rfl) (Calls.mono (EU (hF.below HM.below) 1 _ hlk hm1 hqo (by omega) (by omega)) ?_)
 rintro _ w3 ⟨tx, rfl, hb, SE, SA⟩
 replace HM : Mm [] w0 w3 [eU tx q, dZ tb p] := HM.push hb SE SA
 clear hb
 refine ⟨_, rfl, ?_⟩; clear HF; intro a HF
 refine wp_pure HF HM rfl 5 [] ((xW fb tb l) ++ [(9, .nilIface), (10, aC tx q.data.length q.data.length)]) (by kernel_rfl) fun a HF => ?_
 refine aB ?_
 refine wp_seq ?_
 refine aN ?_
 refine wp_pure HF HM rfl 2 [] ((xW fb tb l) ++ [(9, .nilIface), (10, aC tx q.data.length q.data.length), (53, .bool false)]) (by kernel_rfl) fun a HF => ?_
 refine aB ?_
 refine aZ HF rfl ?_
 refine wp_skip ?_
 repeat first | refine aK ?_ | refine aS ?_
 refine aN ?_
 refine wp_pure HF HM rfl 1 [] [(0, aA fb), (10, aC tx q.data.length q.data.length), (58, aC tb ((16 * (l.length + 1))) ((16 * (l.length + 1))))] (by kernel_rfl) fun a HF => ?_
 obtain ⟨r, hr⟩ : ∃ q, 16 + q = ((16 * (l.length + 1))) := ⟨((16 * (l.length + 1))) - 16, by omega⟩
 refine bU HF (by kernel_rfl) (.slice (some ⟨tb, if r = 0 then 0 else 0 + 16, none⟩) r r) (by kernel_rfl) (DN Tryd.underlying33 Dn hs8 rfl 16 r (kk := .i64) rfl rfl (by omega) hr rfl w3) fun a HF => ?_
 refine wp_pure HF HM rfl 1 [] [(0, aA fb), (8, .slice (some ⟨tb, if r = 0 then 0 else 0 + 16, none⟩) r r), (10, aC tx q.data.length q.data.length)] (by kernel_rfl) fun a HF => ?_
 refine bT ?_
 refine wp_pure HF HM rfl 3 [] [(0, aA fb), (8, .slice (some ⟨tb, if r = 0 then 0 else 0 + 16, none⟩) r r), (10, aC tx q.data.length q.data.length), (62, aF (IntKind.i64.wrap (Int.tdiv ((r : Nat) : Int) 16)))] (by kernel_rfl) fun a HF => ?_
 rw [show IntKind.i64.wrap (Int.tdiv ((r : Nat) : Int) 16) = ((l.length : Nat) : Int) from (by rw [show r = 16 * l.length by omega]; exact Oy 16 _ (by decide) (by omega))] at HF
 refine AA HF HM rfl _ _ 101 rfl rfl 188 (.agg #[.string (⟨#[]⟩ : ByteArray), aO 0, aO 0, .bool false, .int .u16 0, aF 0, bF 0, bF 0, .string (⟨#[]⟩ : ByteArray), .string (⟨#[]⟩ : ByteArray)]) 10 80 Tryd.underlying101 MF rfl .i64 .i64 l.length rfl rfl (by omega) (by unfold maxLen; omega) ?_
 intro a2 w4 gs gk MR gsz bJ HF2; clear HF HM; have HM := bJ; have HF := HF2; clear bJ HF2
 replace MR := MR.trans (GV l _)
 have gnc : l.length ≤ l.length := Nat.le_refl _; have gcm : l.length ≤ maxLen := by unfold maxLen; omega
 refine wp_pure HF HM rfl 1 [] [(0, aA fb), (8, .slice (some ⟨tb, if r = 0 then 0 else 0 + 16, none⟩) r r), (10, aC tx q.data.length q.data.length), (11, aC gs l.length l.length)] (by kernel_rfl) fun a HF => ?_
 refine bT ?_
 refine wp_pure HF HM rfl 1 [] [(0, aA fb), (8, .slice (some ⟨tb, if r = 0 then 0 else 0 + 16, none⟩) r r), (10, aC tx q.data.length q.data.length), (11, aC gs l.length l.length), (12, aF 0)] (by kernel_rfl) fun a HF => ?_
 refine bT ?_
 replace HM : Mm [fb] w0 w4 [fC fb x aV pg, (gs, .cells gk 188 (0, 0)), eU tx q, dZ tb p] := HM.Ol hfb (by simp)
 obtain ⟨z20, FC⟩ : ∃ z, w4.heap.size = z := ⟨_, rfl⟩
 refine aP HF HM FC 1 [] [(0, aA fb), (8, .slice (some ⟨tb, if r = 0 then 0 else 0 + 16, none⟩) r r), (10, aC tx q.data.length q.data.length), (11, aC gs l.length l.length), (12, aF 0), (13, aA z20)] [(z20, .cells #[gV 0, gV 0, gV 0, aO 0, aO 0, .int .u16 0] 254 (0, 0)), fC fb x aV pg, (gs, .cells gk 188 (0, 0)), eU tx q, dZ tb p] (by kernel_rfl) fun a w HF HM => ?_
 clear FC
 refine aB ?_
 refine wp_seq ?_
 refine wp_block ?_
 refine jX (l.length) (fun i a w => (∃ o, ∃ r, ∃ v0 : Value, ∃ v1 : Value, ∃ v2 : Value, ∃ v3 : Value, ∃ v4 : Value, ∃ v5 : Value, ∃ og : Nat, ∃ oc : Nat, ∃ ok : Array Value, (i < l.length → o = 16 * (i + 1)) ∧ (r + 16 * (i + 1) = 16 * (l.length + 1)) ∧ (ok.toList.take (l.length * 10) = (List.range l.length).flatMap (iW l i)) ∧ (ok.size = oc * 10) ∧ (l.length ≤ oc) ∧ (oc ≤ maxLen) ∧ Mm [fb] w0 w [(og, .cells ok 188 (0, 0)), (z20, .cells #[v0, v1, v2, v3, v4, v5] 254 (0, 0)), fC fb x aV pg, eU tx q, dZ tb p] ∧ Fr 163 a [(0, aA fb), (8, .slice (some ⟨tb, o, none⟩) r r), (10, aC tx q.data.length q.data.length), (11, aC og l.length oc), (12, ay i), (13, aA z20)])) ?_ ?_ ?_
 ·exact ⟨if r = 0 then 0 else 0 + 16, r, (gV 0), (gV 0), (gV 0), (aO 0), (aO 0), (.int .u16 0), gs, l.length, gk, fun hlt => by rw [if_neg (by omega)], by omega, MR, gsz, gnc, gcm, (HM.pick [2, 0, 1, 3, 4] [(gs, .cells gk 188 (0, 0)), (z20, .cells #[gV 0, gV 0, gV 0, aO 0, aO 0, .int .u16 0] 254 (0, 0)), fC fb x aV pg, eU tx q, dZ tb p] rfl (by decide)), HF.sub [(0, aA fb), (8, .slice (some ⟨tb, if r = 0 then 0 else 0 + 16, none⟩) r r), (10, aC tx q.data.length q.data.length), (11, aC gs l.length l.length), (12, aF 0), (13, aA z20)] (by kernel_rfl)⟩
 ·intro i a w KX hi hI KR
  obtain ⟨o, r, v0, v1, v2, v3, v4, v5, og, oc, ok, ho, hr, jV, oQ, lu, pV, HM, HF⟩ := hI
  obtain rfl := ho hi
  obtain ⟨m, hm⟩ : ∃ m, l[i]? = some m := ⟨_, List.getElem?_eq_getElem hi⟩
  have hmm := List.mem_of_getElem? hm; have hmo := hok m hmm; have hma := hat m hmm
  have PX := DI (l := l) (i := i) hi hnb
  obtain ⟨Nh, Ju, Nb, Bz, Jv, Nc⟩ := TG x.img.big l p.data FI i m hm hmo hma PX
  have hse : ((m.dH.toNat : Nat) : Int) = m.dH := Int.toNat_of_nonneg hmo.s0
  have hbi := hma.info; have hbo := hma.other; have hbv := hma.value; have hbs := hma.size; have hs1 := hmo.s1
  replace jV := jV.trans (JG l i _)
  refine wp_seq ?_
  refine aN ?_
  refine wp_pure HF HM rfl 3 [] ((cZ fb tb i r tx q og l oc z20) ++ [(66, .bool (decide (0 < ((r : Nat) : Int))))]) (by kernel_rfl) fun a HF => ?_
  refine aB ?_
  rw [show decide (0 < ((r : Nat) : Int)) = true from dV (by omega)] at HF
  refine bC HF rfl ?_
  refine wp_skip ?_
  repeat first | refine aK ?_ | refine aS ?_
  refine wp_block ?_
  refine nI HM (by kernel_rfl) [fC fb x aV pg, eU tx q, dZ tb p] [(0, false), (1, false), (2, false), (3, false), (4, false), (5, false), (6, false), (7, true), (8, false), (9, true)] (by kernel_rfl) fun w5 HM => ?_
  refine bK HF (HM.told [2, 3, 4] rfl) 6 [[2]] ((cZ fb tb i r tx q og l oc z20) ++ [(71, (aU x.img.big)), (72, .slice (some ⟨tb, 16 * (i + 1), none⟩) r r)]) (by kernel_rfl) fun a HF => ?_
  refine eu rfl HF (HM.told [2, 3, 4] rfl) rfl (.slice (some ⟨tb, 16 * (i + 1) + 0, none⟩) 4 (r - 0)) (by kernel_rfl) (fun w hw => wG Tryd.underlying33 Dn hs8 rfl 0 4 4 (kk := .i64) (kh := .i64) rfl rfl rfl rfl (by omega) (by omega) w) ?_
  clear HF; intro a HF; replace HF := HF.sub ((cZ fb tb i r tx q og l oc z20) ++ [(71, (aU x.img.big)), (73, .slice (some ⟨tb, 16 * (i + 1) + 0, none⟩) 4 (r - 0))]) (by kernel_rfl)
  refine bQ rfl ?_
  refine bf HF (by kernel_rfl) 87 #[(aU x.img.big), .slice (some ⟨tb, 16 * (i + 1) + 0, none⟩) 4 (r - 0)] (by kernel_rfl) (fun w => by kernel_rfl) (Calls.mono (Gg (HM.get (i := 4) rfl) x.img.big (16 * (i + 1) + 0) _ (by omega) (by omega) (by unfold maxLen; omega) _ (by rw [Nh])) ?_)
  rintro _ w6 ⟨rfl, nq, hq⟩
  replace HM : Mm [fb] w0 w6 [(og, .cells ok 188 (0, 0)), (z20, .cells #[v0, v1, v2, v3, v4, v5] 254 (0, 0)), fC fb x aV pg, eU tx q, dZ tb p] := by rw [hq]; exact HM.drewN nq
  clear hq nq
  refine ⟨_, rfl, ?_⟩; clear HF; intro a HF
  replace HF := HF.sub ((cZ fb tb i r tx q og l oc z20) ++ [(74, aX (nameAt (dF l) i))]) (by kernel_rfl)
  refine dD (HM.told [2, 3, 4] rfl) ?_
  refine bK HF (HM.told [2, 3, 4] rfl) 1 [] ((cZ fb tb i r tx q og l oc z20) ++ [(74, aX (nameAt (dF l) i)), (75, aA z20)]) (by kernel_rfl) fun a HF => ?_
  refine bQ rfl ?_
  refine aP HF HM rfl 1 [[3]] (cZ fb tb i r tx q og l oc z20) [(og, .cells ok 188 (0, 0)), (z20, .cells #[aX (nameAt (dF l) i), v1, v2, v3, v4, v5] 254 (0, 0)), fC fb x aV pg, eU tx q, dZ tb p] (by kernel_rfl) fun a w HF HM => ?_
  refine dD (HM.told [2, 3, 4] rfl) ?_
  refine jR ?_
  refine aK ?_
  refine nI HM (by kernel_rfl) [fC fb x aV pg, eU tx q, dZ tb p] [(0, false), (1, false), (2, false), (3, false), (4, false), (5, false), (6, false), (7, true), (8, false), (9, true)] (by kernel_rfl) fun w7 HM => ?_
  refine bK HF (HM.told [2, 3, 4] rfl) 6 [[2]] ((cZ fb tb i r tx q og l oc z20) ++ [(80, (aU x.img.big)), (81, .slice (some ⟨tb, 16 * (i + 1), none⟩) r r)]) (by kernel_rfl) fun a HF => ?_
  refine eu rfl HF (HM.told [2, 3, 4] rfl) rfl (.slice (some ⟨tb, 16 * (i + 1) + 4, none⟩) 4 (r - 4)) (by kernel_rfl) (fun w hw => wG Tryd.underlying33 Dn hs8 rfl 4 8 4 (kk := .i64) (kh := .i64) rfl rfl rfl rfl (by omega) (by omega) w) ?_
  clear HF; intro a HF; replace HF := HF.sub ((cZ fb tb i r tx q og l oc z20) ++ [(80, (aU x.img.big)), (82, .slice (some ⟨tb, 16 * (i + 1) + 4, none⟩) 4 (r - 4))]) (by kernel_rfl)
  refine bQ rfl ?_
  refine bf HF (by kernel_rfl) 87 #[(aU x.img.big), .slice (some ⟨tb, 16 * (i + 1) + 4, none⟩) 4 (r - 4)] (by kernel_rfl) (fun w => by kernel_rfl) (Calls.mono (Gg (HM.get (i := 4) rfl) x.img.big (16 * (i + 1) + 4) _ (by omega) (by omega) (by unfold maxLen; omega) _ (by rw [Ju])) ?_)
  rintro _ w8 ⟨rfl, nq, hq⟩
  replace HM : Mm [fb] w0 w8 [(og, .cells ok 188 (0, 0)), (z20, .cells #[aX (nameAt (dF l) i), v1, v2, v3, v4, v5] 254 (0, 0)), fC fb x aV pg, eU tx q, dZ tb p] := by rw [hq]; exact HM.drewN nq
  clear hq nq
  refine ⟨_, rfl, ?_⟩; clear HF; intro a HF
  replace HF := HF.sub ((cZ fb tb i r tx q og l oc z20) ++ [(83, aX (m.value))]) (by kernel_rfl)
  refine dD (HM.told [2, 3, 4] rfl) ?_
  refine bK HF (HM.told [2, 3, 4] rfl) 1 [] ((cZ fb tb i r tx q og l oc z20) ++ [(83, aX (m.value)), (84, .pointer (some ⟨z20, 1, none⟩))]) (by kernel_rfl) fun a HF => ?_
  refine bQ rfl ?_
  refine aP HF HM rfl 1 [[3]] (cZ fb tb i r tx q og l oc z20) [(og, .cells ok 188 (0, 0)), (z20, .cells #[aX (nameAt (dF l) i), aX (m.value), v2, v3, v4, v5] 254 (0, 0)), fC fb x aV pg, eU tx q, dZ tb p] (by kernel_rfl) fun a w HF HM => ?_
  refine dD (HM.told [2, 3, 4] rfl) ?_
  refine jR ?_
  refine aK ?_
  refine nI HM (by kernel_rfl) [fC fb x aV pg, eU tx q, dZ tb p] [(0, false), (1, false), (2, false), (3, false), (4, false), (5, false), (6, false), (7, true), (8, false), (9, true)] (by kernel_rfl) fun w9 HM => ?_
  refine bK HF (HM.told [2, 3, 4] rfl) 6 [[2]] ((cZ fb tb i r tx q og l oc z20) ++ [(89, (aU x.img.big)), (90, .slice (some ⟨tb, 16 * (i + 1), none⟩) r r)]) (by kernel_rfl) fun a HF => ?_
  refine eu rfl HF (HM.told [2, 3, 4] rfl) rfl (.slice (some ⟨tb, 16 * (i + 1) + 8, none⟩) 4 (r - 8)) (by kernel_rfl) (fun w hw => wG Tryd.underlying33 Dn hs8 rfl 8 12 4 (kk := .i64) (kh := .i64) rfl rfl rfl rfl (by omega) (by omega) w) ?_
  clear HF; intro a HF; replace HF := HF.sub ((cZ fb tb i r tx q og l oc z20) ++ [(89, (aU x.img.big)), (91, .slice (some ⟨tb, 16 * (i + 1) + 8, none⟩) 4 (r - 8))]) (by kernel_rfl)
  refine bQ rfl ?_
  refine bf HF (by kernel_rfl) 87 #[(aU x.img.big), .slice (some ⟨tb, 16 * (i + 1) + 8, none⟩) 4 (r - 8)] (by kernel_rfl) (fun w => by kernel_rfl) (Calls.mono (Gg (HM.get (i := 4) rfl) x.img.big (16 * (i + 1) + 8) _ (by omega) (by omega) (by unfold maxLen; omega) _ (by rw [Nb])) ?_)
  rintro _ w10 ⟨rfl, nq, hq⟩
  replace HM : Mm [fb] w0 w10 [(og, .cells ok 188 (0, 0)), (z20, .cells #[aX (nameAt (dF l) i), aX (m.value), v2, v3, v4, v5] 254 (0, 0)), fC fb x aV pg, eU tx q, dZ tb p] := by rw [hq]; exact HM.drewN nq
  clear hq nq
  refine ⟨_, rfl, ?_⟩; clear HF; intro a HF
  replace HF := HF.sub ((cZ fb tb i r tx q og l oc z20) ++ [(92, aX (m.size))]) (by kernel_rfl)
  refine dD (HM.told [2, 3, 4] rfl) ?_
  refine bK HF (HM.told [2, 3, 4] rfl) 1 [] ((cZ fb tb i r tx q og l oc z20) ++ [(92, aX (m.size)), (93, .pointer (some ⟨z20, 2, none⟩))]) (by kernel_rfl) fun a HF => ?_
  refine bQ rfl ?_
  refine aP HF HM rfl 1 [[3]] (cZ fb tb i r tx q og l oc z20) [(og, .cells ok 188 (0, 0)), (z20, .cells #[aX (nameAt (dF l) i), aX (m.value), aX (m.size), v3, v4, v5] 254 (0, 0)), fC fb x aV pg, eU tx q, dZ tb p] (by kernel_rfl) fun a w HF HM => ?_
  refine dD (HM.told [2, 3, 4] rfl) ?_
  refine jR ?_
  refine aK ?_
  refine aN ?_
  refine wp_pure HF HM rfl 1 [] ((cZ fb tb i r tx q og l oc z20) ++ [(94, .slice (some ⟨tb, 16 * (i + 1), none⟩) r r)]) (by kernel_rfl) fun a HF => ?_
  refine bU HF (by kernel_rfl) (.pointer (some ⟨tb, 16 * (i + 1) + 12 * 1, none⟩)) (by kernel_rfl) (jy Tryd.underlying33 yG rfl 12 rfl (kk := .i64) rfl rfl (by omega)) fun a HF => ?_
  refine bU HF (by kernel_rfl) (aT m.info) (by kernel_rfl) (dP rfl rfl (by kernel_rfl) ((cell_of_row w tb _ _ _ _ (HM.get (i := 4) rfl)).trans Bz)) fun a HF => ?_
  refine aP HF HM rfl 2 [[3]] (cZ fb tb i r tx q og l oc z20) [(og, .cells ok 188 (0, 0)), (z20, .cells #[aX (nameAt (dF l) i), aX (m.value), aX (m.size), aT m.info, v4, v5] 254 (0, 0)), fC fb x aV pg, eU tx q, dZ tb p] (by kernel_rfl) fun a w HF HM => ?_
  refine bT ?_
  refine wp_pure HF HM rfl 1 [] ((cZ fb tb i r tx q og l oc z20) ++ [(98, .slice (some ⟨tb, 16 * (i + 1), none⟩) r r)]) (by kernel_rfl) fun a HF => ?_
  refine bU HF (by kernel_rfl) (.pointer (some ⟨tb, 16 * (i + 1) + 13 * 1, none⟩)) (by kernel_rfl) (jy Tryd.underlying33 yG rfl 13 rfl (kk := .i64) rfl rfl (by omega)) fun a HF => ?_
  refine bU HF (by kernel_rfl) (aT m.other) (by kernel_rfl) (dP rfl rfl (by kernel_rfl) ((cell_of_row w tb _ _ _ _ (HM.get (i := 4) rfl)).trans Jv)) fun a HF => ?_
  refine aP HF HM rfl 2 [[3]] (cZ fb tb i r tx q og l oc z20) [(og, .cells ok 188 (0, 0)), (z20, .cells #[aX (nameAt (dF l) i), aX (m.value), aX (m.size), aT m.info, aT m.other, v5] 254 (0, 0)), fC fb x aV pg, eU tx q, dZ tb p] (by kernel_rfl) fun a w HF HM => ?_
  refine aB ?_
  refine nI HM (by kernel_rfl) [fC fb x aV pg, eU tx q, dZ tb p] [(0, false), (1, false), (2, false), (3, false), (4, false), (5, false), (6, false), (7, true), (8, false), (9, true)] (by kernel_rfl) fun wQ HM => ?_
  refine bK HF (HM.told [2, 3, 4] rfl) 6 [[2]] ((cZ fb tb i r tx q og l oc z20) ++ [(106, (aU x.img.big)), (107, .slice (some ⟨tb, 16 * (i + 1), none⟩) r r)]) (by kernel_rfl) fun a HF => ?_
  refine eu rfl HF (HM.told [2, 3, 4] rfl) rfl (.slice (some ⟨tb, 16 * (i + 1) + 14, none⟩) 2 (r - 14)) (by kernel_rfl) (fun w hw => wG Tryd.underlying33 Dn hs8 rfl 14 16 2 (kk := .i64) (kh := .i64) rfl rfl rfl rfl (by omega) (by omega) w) ?_
  clear HF; intro a HF; replace HF := HF.sub ((cZ fb tb i r tx q og l oc z20) ++ [(106, (aU x.img.big)), (108, .slice (some ⟨tb, 16 * (i + 1) + 14, none⟩) 2 (r - 14))]) (by kernel_rfl)
  refine bQ rfl ?_
  refine bf HF (by kernel_rfl) 94 #[(aU x.img.big), .slice (some ⟨tb, 16 * (i + 1) + 14, none⟩) 2 (r - 14)] (by kernel_rfl) (fun w => by kernel_rfl) (Calls.mono (Oj (HM.get (i := 4) rfl) x.img.big (16 * (i + 1) + 14) _ (by omega) _ (by rw [Nc])) ?_)
  rintro _ w12 ⟨rfl, nq, hq⟩
  replace HM : Mm [fb] w0 w12 [(og, .cells ok 188 (0, 0)), (z20, .cells #[aX (nameAt (dF l) i), aX (m.value), aX (m.size), aT m.info, aT m.other, v5] 254 (0, 0)), fC fb x aV pg, eU tx q, dZ tb p] := by rw [hq]; exact HM.drewN nq
  clear hq nq
  refine ⟨_, rfl, ?_⟩; clear HF; intro a HF
  replace HF := HF.sub ((cZ fb tb i r tx q og l oc z20) ++ [(109, bn (m.dH.toNat))]) (by kernel_rfl)
  refine dD (HM.told [2, 3, 4] rfl) ?_
  refine bK HF (HM.told [2, 3, 4] rfl) 1 [] ((cZ fb tb i r tx q og l oc z20) ++ [(109, bn (m.dH.toNat)), (110, .pointer (some ⟨z20, 5, none⟩))]) (by kernel_rfl) fun a HF => ?_
  refine bQ rfl ?_
  refine aP HF HM rfl 1 [[3]] (cZ fb tb i r tx q og l oc z20) [(og, .cells ok 188 (0, 0)), (z20, .cells #[aX (nameAt (dF l) i), aX (m.value), aX (m.size), aT m.info, aT m.other, bn (m.dH.toNat)] 254 (0, 0)), fC fb x aV pg, eU tx q, dZ tb p] (by kernel_rfl) fun a w HF HM => ?_
  refine dD (HM.told [2, 3, 4] rfl) ?_
  refine jR ?_
  refine aK ?_
  refine aN ?_
  refine wp_pure HF HM rfl 4 [[3]] ((cZ fb tb i r tx q og l oc z20) ++ [(112, aC tx q.data.length q.data.length), (115, aF (IntKind.i64.wrap (((nameAt (dF l) i) : Nat) : Int)))]) (by kernel_rfl) fun a HF => ?_
  rw [show IntKind.i64.wrap (((nameAt (dF l) i) : Nat) : Int) = (((nameAt (dF l) i) : Nat) : Int) from IntWalk.i64_in _ (by omega)] at HF
  refine bf HF (by kernel_rfl) 91 #[aC tx q.data.length q.data.length, ay (nameAt (dF l) i)] (by kernel_rfl) (fun w => by kernel_rfl) (Calls.mono (Bl _ q.data _ _ (nameAt (dF l) i) rfl (Nat.le_refl _) (by unfold maxLen; omega) (by rw [Dk]; exact Cb _ _ (by rw [oL]; exact hi)) w (o_ (HM.get (i := 3) rfl))) ?_)
  rintro _ CW ⟨rfl, hq⟩; subst hq
  refine ⟨_, rfl, ?_⟩; clear HF; intro a HF
  rw [show EW (nR q.data (nameAt (dF l) i)) = .tuple #[.string ⟨m.name.toArray⟩, .bool true] from by rw [Dk, Lj hm hmo]; rfl] at HF
  refine wp_pure HF HM rfl 5 [] ((cZ fb tb i r tx q og l oc z20) ++ [(14, .string (⟨m.name.toArray⟩))]) (by kernel_rfl) fun a HF => ?_
  refine bT ?_
  refine wp_pure HF HM rfl 3 [] ((cZ fb tb i r tx q og l oc z20) ++ [(119, aC og l.length oc), (120, ay i), (121, .string (⟨m.name.toArray⟩))]) (by kernel_rfl) fun a HF => ?_
  refine bU HF (by kernel_rfl) (.pointer (some ⟨og, 0 + i * 10, none⟩)) (by kernel_rfl) (jy Tryd.underlying101 nS rfl i rfl (kk := .i64) rfl rfl (by omega)) fun a HF => ?_
  refine wp_pure HF HM rfl 1 [] ((cZ fb tb i r tx q og l oc z20) ++ [(121, .string (⟨m.name.toArray⟩)), (123, .pointer (some ⟨og, 0 + i * 10, none⟩))]) (by kernel_rfl) fun a HF => ?_
  refine jv HF HM rfl 9 _ _ rfl rfl 0 og (0 + i * 10) ok 188 rfl rfl (.string (⟨m.name.toArray⟩)) rfl rfl rfl (by rw [oQ]; have hq := lu; omega) (by kernel_rfl) ?_
  intro a EN nC bJ jF HF2; clear HF HM
  have G6 : nC.toList.take (l.length * 10) = ((List.range l.length).flatMap (putAt (iW l i) i [.string (⟨#[]⟩ : ByteArray), aO 0, aO 0, .bool false, .int .u16 0, aF 0, bF 0, bF 0, .string (⟨#[]⟩ : ByteArray), .string (⟨#[]⟩ : ByteArray)]) : List Value).set (0 + i * 10) (.string (⟨m.name.toArray⟩)) := by rw [jF, List.take_set, jV]
  have Lh : nC.size = oc * 10 := by rw [← Array.length_toList, jF, List.length_set, Array.length_toList, oQ]
  have HM : Mm [fb] w0 EN [(og, .cells nC 188 (0, 0)), (z20, .cells #[aX (nameAt (dF l) i), aX (m.value), aX (m.size), aT m.info, aT m.other, bn (m.dH.toNat)] 254 (0, 0)), fC fb x aV pg, eU tx q, dZ tb p] := bJ
  have HF := HF2.sub (cZ fb tb i r tx q og l oc z20) (by kernel_rfl); clear bJ HF2 jF
  replace G6 : nC.toList.take (l.length * 10) = (List.range l.length).flatMap (putAt (iW l i) i [.string (⟨m.name.toArray⟩), aO 0, aO 0, .bool false, .int .u16 0, aF 0, bF 0, bF 0, .string (⟨#[]⟩ : ByteArray), .string (⟨#[]⟩ : ByteArray)]) := G6.trans (by rw [show 0 + i * 10 = i * 10 + 0 by omega]; exact qQ l i _ 0 _ _ _ hi (by omega) rfl rfl)
  refine bT ?_
  refine wp_pure HF HM rfl 4 [[3]] ((cZ fb tb i r tx q og l oc z20) ++ [(124, aC og l.length oc), (125, ay i), (127, aT m.info)]) (by kernel_rfl) fun a HF => ?_
  refine bU HF (by kernel_rfl) (.pointer (some ⟨og, 0 + i * 10, none⟩)) (by kernel_rfl) (jy Tryd.underlying101 nS rfl i rfl (kk := .i64) rfl rfl (by omega)) fun a HF => ?_
  refine wp_pure HF HM rfl 1 [] ((cZ fb tb i r tx q og l oc z20) ++ [(127, aT m.info), (129, .pointer (some ⟨og, 0 + i * 10 + 1, none⟩))]) (by kernel_rfl) fun a HF => ?_
  refine jv HF HM rfl 5 _ _ rfl rfl 0 og (0 + i * 10 + 1) nC 188 rfl rfl (aT m.info) rfl rfl rfl (by rw [Lh]; have hq := lu; omega) (by kernel_rfl) ?_
  intro a EH jY bJ jF HF2; clear HF HM
  have G5 : jY.toList.take (l.length * 10) = ((List.range l.length).flatMap (putAt (iW l i) i [.string (⟨m.name.toArray⟩), aO 0, aO 0, .bool false, .int .u16 0, aF 0, bF 0, bF 0, .string (⟨#[]⟩ : ByteArray), .string (⟨#[]⟩ : ByteArray)]) : List Value).set (0 + i * 10 + 1) (aT m.info) := by rw [jF, List.take_set, G6]
  have Le : jY.size = oc * 10 := by rw [← Array.length_toList, jF, List.length_set, Array.length_toList, Lh]
  have HM : Mm [fb] w0 EH [(og, .cells jY 188 (0, 0)), (z20, .cells #[aX (nameAt (dF l) i), aX (m.value), aX (m.size), aT m.info, aT m.other, bn (m.dH.toNat)] 254 (0, 0)), fC fb x aV pg, eU tx q, dZ tb p] := bJ
  have HF := HF2.sub (cZ fb tb i r tx q og l oc z20) (by kernel_rfl); clear bJ HF2 jF
  replace G5 : jY.toList.take (l.length * 10) = (List.range l.length).flatMap (putAt (iW l i) i [.string (⟨m.name.toArray⟩), aT m.info, aO 0, .bool false, .int .u16 0, aF 0, bF 0, bF 0, .string (⟨#[]⟩ : ByteArray), .string (⟨#[]⟩ : ByteArray)]) := G5.trans (by rw [show 0 + i * 10 + 1 = i * 10 + 1 by omega]; exact qQ l i _ 1 _ _ _ hi (by omega) rfl rfl)
  refine bT ?_
  refine wp_pure HF HM rfl 4 [[3]] ((cZ fb tb i r tx q og l oc z20) ++ [(130, aC og l.length oc), (131, ay i), (133, aT m.other)]) (by kernel_rfl) fun a HF => ?_
  refine bU HF (by kernel_rfl) (.pointer (some ⟨og, 0 + i * 10, none⟩)) (by kernel_rfl) (jy Tryd.underlying101 nS rfl i rfl (kk := .i64) rfl rfl (by omega)) fun a HF => ?_
  refine wp_pure HF HM rfl 1 [] ((cZ fb tb i r tx q og l oc z20) ++ [(133, aT m.other), (135, .pointer (some ⟨og, 0 + i * 10 + 2, none⟩))]) (by kernel_rfl) fun a HF => ?_
  refine jv HF HM rfl 5 _ _ rfl rfl 0 og (0 + i * 10 + 2) jY 188 rfl rfl (aT m.other) rfl rfl rfl (by rw [Le]; have hq := lu; omega) (by kernel_rfl) ?_
  intro a w16 oG bJ jF HF2; clear HF HM
  have GZ : oG.toList.take (l.length * 10) = ((List.range l.length).flatMap (putAt (iW l i) i [.string (⟨m.name.toArray⟩), aT m.info, aO 0, .bool false, .int .u16 0, aF 0, bF 0, bF 0, .string (⟨#[]⟩ : ByteArray), .string (⟨#[]⟩ : ByteArray)]) : List Value).set (0 + i * 10 + 2) (aT m.other) := by rw [jF, List.take_set, G5]
  have Ld : oG.size = oc * 10 := by rw [← Array.length_toList, jF, List.length_set, Array.length_toList, Le]
  have HM : Mm [fb] w0 w16 [(og, .cells oG 188 (0, 0)), (z20, .cells #[aX (nameAt (dF l) i), aX (m.value), aX (m.size), aT m.info, aT m.other, bn (m.dH.toNat)] 254 (0, 0)), fC fb x aV pg, eU tx q, dZ tb p] := bJ
  have HF := HF2.sub (cZ fb tb i r tx q og l oc z20) (by kernel_rfl); clear bJ HF2 jF
  replace GZ : oG.toList.take (l.length * 10) = (List.range l.length).flatMap (putAt (iW l i) i [.string (⟨m.name.toArray⟩), aT m.info, aT m.other, .bool false, .int .u16 0, aF 0, bF 0, bF 0, .string (⟨#[]⟩ : ByteArray), .string (⟨#[]⟩ : ByteArray)]) := GZ.trans (by rw [show 0 + i * 10 + 2 = i * 10 + 2 by omega]; exact qQ l i _ 2 _ _ _ hi (by omega) rfl rfl)
  refine bT ?_
  refine wp_pure HF HM rfl 5 [[3]] [(0, aA fb), (8, .slice (some ⟨tb, 16 * (i + 1), none⟩) r r), (10, aC tx q.data.length q.data.length), (11, aC og l.length oc), (12, ay i), (13, aA z20), (136, aC og l.length oc), (137, ay i), (140, aF (IntKind.i64.wrap (((m.dH.toNat) : Nat) : Int)))] (by kernel_rfl) fun a HF => ?_
  rw [show IntKind.i64.wrap (((m.dH.toNat) : Nat) : Int) = (((m.dH.toNat) : Nat) : Int) from IntWalk.i64_in _ (by omega)] at HF
  try simp only [ay] at HF
  rw [hse] at HF
  refine bU HF (by kernel_rfl) (.pointer (some ⟨og, 0 + i * 10, none⟩)) (by kernel_rfl) (jy Tryd.underlying101 nS rfl i rfl (kk := .i64) rfl rfl (by omega)) fun a HF => ?_
  refine wp_pure HF HM rfl 1 [] ((cZ fb tb i r tx q og l oc z20) ++ [(140, .int .i64 m.dH), (142, .pointer (some ⟨og, 0 + i * 10 + 5, none⟩))]) (by kernel_rfl) fun a HF => ?_
  refine jv HF HM rfl 186 _ _ rfl rfl 0 og (0 + i * 10 + 5) oG 188 rfl rfl (.int .i64 m.dH) rfl rfl rfl (by rw [Ld]; have hq := lu; omega) (by kernel_rfl) ?_
  intro a w17 lg bJ jF HF2; clear HF HM
  have GY : lg.toList.take (l.length * 10) = ((List.range l.length).flatMap (putAt (iW l i) i [.string (⟨m.name.toArray⟩), aT m.info, aT m.other, .bool false, .int .u16 0, aF 0, bF 0, bF 0, .string (⟨#[]⟩ : ByteArray), .string (⟨#[]⟩ : ByteArray)]) : List Value).set (0 + i * 10 + 5) (.int .i64 m.dH) := by rw [jF, List.take_set, GZ]
  have Lc : lg.size = oc * 10 := by rw [← Array.length_toList, jF, List.length_set, Array.length_toList, Ld]
  have HM : Mm [fb] w0 w17 [(og, .cells lg 188 (0, 0)), (z20, .cells #[aX (nameAt (dF l) i), aX (m.value), aX (m.size), aT m.info, aT m.other, bn (m.dH.toNat)] 254 (0, 0)), fC fb x aV pg, eU tx q, dZ tb p] := bJ
  have HF := HF2.sub (cZ fb tb i r tx q og l oc z20) (by kernel_rfl); clear bJ HF2 jF
  replace GY : lg.toList.take (l.length * 10) = (List.range l.length).flatMap (putAt (iW l i) i [.string (⟨m.name.toArray⟩), aT m.info, aT m.other, .bool false, .int .u16 0, .int .i64 m.dH, bF 0, bF 0, .string (⟨#[]⟩ : ByteArray), .string (⟨#[]⟩ : ByteArray)]) := GY.trans (by rw [show 0 + i * 10 + 5 = i * 10 + 5 by omega]; exact qQ l i _ 5 _ _ _ hi (by omega) rfl rfl)
  refine bT ?_
  refine wp_pure HF HM rfl 5 [[3]] ((cZ fb tb i r tx q og l oc z20) ++ [(143, aC og l.length oc), (144, ay i), (147, bF (IntKind.u64.wrap (((m.value) : Nat) : Int)))]) (by kernel_rfl) fun a HF => ?_
  rw [show IntKind.u64.wrap (((m.value) : Nat) : Int) = (((m.value) : Nat) : Int) from IntWalk.u64_in _ (by omega)] at HF
  refine bU HF (by kernel_rfl) (.pointer (some ⟨og, 0 + i * 10, none⟩)) (by kernel_rfl) (jy Tryd.underlying101 nS rfl i rfl (kk := .i64) rfl rfl (by omega)) fun a HF => ?_
  refine wp_pure HF HM rfl 1 [] ((cZ fb tb i r tx q og l oc z20) ++ [(147, aI (m.value)), (149, .pointer (some ⟨og, 0 + i * 10 + 6, none⟩))]) (by kernel_rfl) fun a HF => ?_
  refine jv HF HM rfl 22 _ _ rfl rfl 0 og (0 + i * 10 + 6) lg 188 rfl rfl (aI (m.value)) rfl rfl rfl (by rw [Lc]; have hq := lu; omega) (by kernel_rfl) ?_
  intro a w18 nJ bJ jF HF2; clear HF HM
  have AB : nJ.toList.take (l.length * 10) = ((List.range l.length).flatMap (putAt (iW l i) i [.string (⟨m.name.toArray⟩), aT m.info, aT m.other, .bool false, .int .u16 0, .int .i64 m.dH, bF 0, bF 0, .string (⟨#[]⟩ : ByteArray), .string (⟨#[]⟩ : ByteArray)]) : List Value).set (0 + i * 10 + 6) (aI (m.value)) := by rw [jF, List.take_set, GY]
  have EO : nJ.size = oc * 10 := by rw [← Array.length_toList, jF, List.length_set, Array.length_toList, Lc]
  have HM : Mm [fb] w0 w18 [(og, .cells nJ 188 (0, 0)), (z20, .cells #[aX (nameAt (dF l) i), aX (m.value), aX (m.size), aT m.info, aT m.other, bn (m.dH.toNat)] 254 (0, 0)), fC fb x aV pg, eU tx q, dZ tb p] := bJ
  have HF := HF2.sub (cZ fb tb i r tx q og l oc z20) (by kernel_rfl); clear bJ HF2 jF
  replace AB : nJ.toList.take (l.length * 10) = (List.range l.length).flatMap (putAt (iW l i) i [.string (⟨m.name.toArray⟩), aT m.info, aT m.other, .bool false, .int .u16 0, .int .i64 m.dH, aI (m.value), bF 0, .string (⟨#[]⟩ : ByteArray), .string (⟨#[]⟩ : ByteArray)]) := AB.trans (by rw [show 0 + i * 10 + 6 = i * 10 + 6 by omega]; exact qQ l i _ 6 _ _ _ hi (by omega) rfl rfl)
  refine bT ?_
  refine wp_pure HF HM rfl 5 [[3]] ((cZ fb tb i r tx q og l oc z20) ++ [(150, aC og l.length oc), (151, ay i), (154, bF (IntKind.u64.wrap (((m.size) : Nat) : Int)))]) (by kernel_rfl) fun a HF => ?_
  rw [show IntKind.u64.wrap (((m.size) : Nat) : Int) = (((m.size) : Nat) : Int) from IntWalk.u64_in _ (by omega)] at HF
  refine bU HF (by kernel_rfl) (.pointer (some ⟨og, 0 + i * 10, none⟩)) (by kernel_rfl) (jy Tryd.underlying101 nS rfl i rfl (kk := .i64) rfl rfl (by omega)) fun a HF => ?_
  refine wp_pure HF HM rfl 1 [] ((cZ fb tb i r tx q og l oc z20) ++ [(154, aI (m.size)), (156, .pointer (some ⟨og, 0 + i * 10 + 7, none⟩))]) (by kernel_rfl) fun a HF => ?_
  refine jv HF HM rfl 22 _ _ rfl rfl 0 og (0 + i * 10 + 7) nJ 188 rfl rfl (aI (m.size)) rfl rfl rfl (by rw [EO]; have hq := lu; omega) (by kernel_rfl) ?_
  intro a w19 sD bJ jF HF2; clear HF HM
  have vY : sD.toList.take (l.length * 10) = ((List.range l.length).flatMap (putAt (iW l i) i [.string (⟨m.name.toArray⟩), aT m.info, aT m.other, .bool false, .int .u16 0, .int .i64 m.dH, aI (m.value), bF 0, .string (⟨#[]⟩ : ByteArray), .string (⟨#[]⟩ : ByteArray)]) : List Value).set (0 + i * 10 + 7) (aI (m.size)) := by rw [jF, List.take_set, AB]
  have La : sD.size = oc * 10 := by rw [← Array.length_toList, jF, List.length_set, Array.length_toList, EO]
  have HM : Mm [fb] w0 w19 [(og, .cells sD 188 (0, 0)), (z20, .cells #[aX (nameAt (dF l) i), aX (m.value), aX (m.size), aT m.info, aT m.other, bn (m.dH.toNat)] 254 (0, 0)), fC fb x aV pg, eU tx q, dZ tb p] := bJ
  have HF := HF2.sub (cZ fb tb i r tx q og l oc z20) (by kernel_rfl); clear bJ HF2 jF
  replace vY : sD.toList.take (l.length * 10) = (List.range l.length).flatMap (putAt (iW l i) i [.string (⟨m.name.toArray⟩), aT m.info, aT m.other, .bool false, .int .u16 0, .int .i64 m.dH, aI (m.value), aI (m.size), .string (⟨#[]⟩ : ByteArray), .string (⟨#[]⟩ : ByteArray)]) := vY.trans (by rw [show 0 + i * 10 + 7 = i * 10 + 7 by omega]; exact qQ l i _ 7 _ _ _ hi (by omega) rfl rfl)
  refine bT ?_
  refine wp_pure HF HM rfl 2 [] [(0, aA fb), (8, .slice (some ⟨tb, 16 * (i + 1), none⟩) r r), (10, aC tx q.data.length q.data.length), (11, aC og l.length oc), (13, aA z20), (158, aF (IntKind.i64.wrap (((i : Nat) : Int) + 1)))] (by kernel_rfl) fun a HF => ?_
  rw [show IntKind.i64.wrap (((i : Nat) : Int) + 1) = (((i + 1) : Nat) : Int) from (IntWalk.i64_in _ (by omega)).trans (by omega)] at HF
  refine wp_pure HF HM rfl 1 [] [(0, aA fb), (8, .slice (some ⟨tb, 16 * (i + 1), none⟩) r r), (10, aC tx q.data.length q.data.length), (11, aC og l.length oc), (12, ay (i + 1)), (13, aA z20)] (by kernel_rfl) fun a HF => ?_
  refine aB ?_
  refine wp_region_lit ?_
  refine wp_pure HF HM rfl 1 [] [(0, aA fb), (10, aC tx q.data.length q.data.length), (11, aC og l.length oc), (12, ay (i + 1)), (13, aA z20), (159, .slice (some ⟨tb, 16 * (i + 1), none⟩) r r)] (by kernel_rfl) fun a HF => ?_
  obtain ⟨uf, hr47⟩ : ∃ q, 16 + q = r := ⟨r - 16, by omega⟩
  refine bU HF (by kernel_rfl) (.slice (some ⟨tb, if uf = 0 then 16 * (i + 1) else 16 * (i + 1) + 16, none⟩) uf uf) (by kernel_rfl) (DN Tryd.underlying33 Dn hs8 rfl 16 uf (kk := .i64) rfl rfl (by omega) hr47 rfl w19) fun a HF => ?_
  refine wp_pure HF HM rfl 1 [] [(0, aA fb), (8, .slice (some ⟨tb, if uf = 0 then 16 * (i + 1) else 16 * (i + 1) + 16, none⟩) uf uf), (10, aC tx q.data.length q.data.length), (11, aC og l.length oc), (12, ay (i + 1)), (13, aA z20)] (by kernel_rfl) fun a HF => ?_
  refine wpList_nil ?_
  repeat first | refine aK ?_ | refine aS ?_
  exact KR _ _ (⟨if uf = 0 then 16 * (i + 1) else 16 * (i + 1) + 16, uf, (aX (nameAt (dF l) i)), (aX (m.value)), (aX (m.size)), (aT m.info), (aT m.other), (bn (m.dH.toNat)), og, oc, sD, fun hlt => by rw [if_neg (by omega)]; omega, by omega, (vY.trans (L6 hm _)), La, lu, pV, HM, HF.sub [(0, aA fb), (8, .slice (some ⟨tb, if uf = 0 then 16 * (i + 1) else 16 * (i + 1) + 16, none⟩) uf uf), (10, aC tx q.data.length q.data.length), (11, aC og l.length oc), (12, ay (i + 1)), (13, aA z20)] (by kernel_rfl)⟩)
 ·intro a w KX hI
  obtain ⟨o, r, v0, v1, v2, v3, v4, v5, og, oc, ok, ho, hr, jV, oQ, lu, pV, HM, HF⟩ := hI
  refine wp_seq ?_
  refine aN ?_
  refine wp_pure HF HM rfl 3 [] [(0, aA fb), (8, .slice (some ⟨tb, o, none⟩) r r), (10, aC tx q.data.length q.data.length), (11, aC og l.length oc), (12, ay l.length), (13, aA z20), (66, .bool (decide (0 < ((r : Nat) : Int))))] (by kernel_rfl) fun a HF => ?_
  refine aB ?_
  rw [show decide (0 < ((r : Nat) : Int)) = false from dI (by omega)] at HF
  refine aZ HF rfl ?_
  refine wp_exit ?_
  repeat (first | refine fG ?_ | refine fA rfl ?_)
  refine iD ?_
  repeat first | refine aK ?_ | refine aS ?_
  refine aN ?_
  refine wp_pure HF HM rfl 5 [] [(4, aC og l.length oc), (5, aC tx q.data.length q.data.length), (6, .nilIface)] (by kernel_rfl) fun a HF => ?_
  refine aB ?_
  refine wp_ret ?_
  repeat first | refine bH ?_ | refine bM ?_
  replace HM : Mm [] w0 w [(og, .cells ok 188 (0, 0)), (z20, .cells #[v0, v1, v2, v3, v4, v5] 254 (0, 0)), eU tx q, dZ tb p] := HM.OX 2 rfl hfb
  rw [IX] at jV
  exact pz HF rfl rfl rfl rfl ⟨og, oc, ok, tx, rfl, HM.below, ⟨HM.ge (i := 0) rfl, HM.get (i := 0) rfl, jV, oQ, lu, pV⟩⟩

abbrev dY := fun tb (p : dL) => ((tb, .cells (p.data.map Bv).toArray 5 (0, 0)) : Nat × Obj)
abbrev rG := fun (fb : Nat) pq tb (l : List SymM) => ([(0, aA fb), (7, aA pq), (8, aC tb ((24 * (l.length + 1))) ((24 * (l.length + 1))))] : Slots)
abbrev xU := fun (fb : Nat) tb (l : List SymM) => ([(0, aA fb), (8, aC tb ((24 * (l.length + 1))) ((24 * (l.length + 1))))] : Slots)
abbrev eP := fun tx (q : dL) => ((tx, .cells (q.data.map Bv).toArray 5 (0, 0)) : Nat × Obj)
abbrev fB := fun (fb : Nat) (x : bZ) (aV : Nat) (pg : Nat) => ((fb, .cells #[aO 2, aO (if x.img.big then 2 else 1 : Int), aO 1, aT x.img.abi, aT x.img.aH, (aU x.img.big), bn x.img.ty, bn x.img.machine, aI x.img.entry, aC aV (x.ps.length + 2) (x.ps.length + 2), aC pg x.img.dJ.length x.img.dJ.length, aQ, aQ, aQ] 131 (0, 0)) : Nat × Obj)
abbrev cO := fun (fb : Nat) tb i r tx (q : dL) og (l : List SymM) oc z20 => ([(0, aA fb), (8, .slice (some ⟨tb, 24 * (i + 1), none⟩) r r), (10, aC tx q.data.length q.data.length), (11, aC og l.length oc), (12, ay i), (13, aA z20)] : Slots)
theorem MV {x : bZ} {b c z fb pg aV : Nat} {cur dU : Array Value} {w0 : World} (hF : kR x b c z fb pg aV cur dU w0) (hw : x.wide = true) (tv : Nat) (htv : tv ≠ 0) (htv8 : tv ≠ 8) {p q : dL} (hm0 : x.ps[0]? = some p) (hm1 : x.ps[1]? = some q) (hpo : dL.Ok x.wide p) (hqo : dL.Ok x.wide q) (hpt : p.ty = tv) (hpl : p.link = 2) (hq8 : q.ty ≠ 8) (l : List SymM) (FI : p.data = dN true x.img.big l l.length) (Dk : q.data = dB (dF l)) (hn : l.length ≤ 1024) (hok : ∀ m ∈ l, SymM.Ok true m) (hat : ∀ m ∈ l, SymM.At m) :
  Calls Tryd.prog 100 #[aA fb, aX tv] w0 fun e w' => ∃ gs cap gk tx, e = .returned (.tuple #[aC gs l.length cap, aC tx q.data.length q.data.length, .nilIface]) ∧ Below w0.heap.size w0 w' ∧ Own w0.heap.size w' 188 10 gs l.length cap gk (l.flatMap t_) := by
 have hfb := hF.Qi hw
 have hsm := hF.small
 have hnl := oL l
 have hnb := rP l true hn hok
 have hk1 := (List.getElem?_eq_some_iff.1 hm1).1
 have hD : p.data.length = 24 * (l.length + 1) := by rw [FI, Cm _ _ _ _ (Nat.le_refl _), Nat.mul_comm]; rfl
 have hq0 : 0 < q.data.length := by rw [Dk]; exact Nat.succ_pos _
 have hqL : q.data.length ≤ 1049601 := by rw [Dk]; exact hnb
 have hlk : (jw x.img 1).link = 1 + 1 := (Oo hm0).trans hpl
 obtain ⟨inf8, Dn, hs8⟩ := Option.map_eq_some_iff.1 yG
 obtain ⟨pq, sq, q1, -, -, q4, q5⟩ := hF.at_.sec 1 (by rw [oI]; omega)
 obtain ⟨w, hw⟩ : ∃ w, w0 = w := ⟨_, rfl⟩
 have HM : Mm [] w0 w [] := hw ▸ Mm.start w0
 conv => arg 4; rw [hw]
 clear hw
 refine bI Tryd.func100 rfl Tryd.ntmps100 [(0, aA fb), (1, aX tv)] (by kernel_rfl) (Nat.le_of_ble_eq_true rfl) ?_
 intro a HF
 refine aN ?_
 refine wp_pure HF HM rfl 3 [] [(0, aA fb), (1, aX tv)] (by kernel_rfl) fun a HF => ?_
 refine bT ?_
 refine wp_pure HF HM rfl 2 [] [(0, aA fb), (16, aA fb), (17, aX tv)] (by kernel_rfl) fun a HF => ?_
 refine bf HF (by kernel_rfl) 71 #[aA fb, aX tv] (by kernel_rfl) (fun w => by kernel_rfl) (Calls.mono (H9 (hF.below HM.below) tv 1 pq (by omega) q1 ((Gi hm0).trans hpt) (fun j hj => by obtain rfl : j = 0 := (by omega); exact fun e => htv e.symm)) ?_)
 rintro _ w1 ⟨rfl, hq⟩
 replace hq := hq.symm; subst hq
 refine ⟨_, rfl, ?_⟩; clear HF; intro a HF
 refine wp_pure HF HM rfl 1 [] [(0, aA fb), (7, aA pq)] (by kernel_rfl) fun a HF => ?_
 refine aB ?_
 refine wp_seq ?_
 refine aN ?_
 refine wp_pure HF HM rfl 2 [] [(0, aA fb), (7, aA pq), (20, .bool false)] (by kernel_rfl) fun a HF => ?_
 refine aB ?_
 refine aZ HF rfl ?_
 refine wp_skip ?_
 repeat first | refine aK ?_ | refine aS ?_
 refine aN ?_
 refine wp_pure HF HM rfl 1 [] [(0, aA fb), (7, aA pq), (23, aA pq)] (by kernel_rfl) fun a HF => ?_
 refine bf HF (by kernel_rfl) 63 #[aA pq] (by kernel_rfl) (fun w => by kernel_rfl) (Calls.mono (G9 (hF.below HM.below) hm0 hpo (by omega) (by omega) pq q1) ?_)
 rintro _ w2 ⟨tb, rfl, hb, hge, hob⟩
 replace HM : Mm [] w0 w2 [dY tb p] := HM.push hb hge hob
 clear hb
 refine ⟨_, rfl, ?_⟩; clear HF; intro a HF
 rw [hD] at HF
 refine wp_pure HF HM rfl 5 [] ((rG fb pq tb l) ++ [(9, .nilIface)]) (by kernel_rfl) fun a HF => ?_
 refine aB ?_
 refine wp_seq ?_
 refine aN ?_
 refine wp_pure HF HM rfl 2 [] ((rG fb pq tb l) ++ [(9, .nilIface), (28, .bool false)]) (by kernel_rfl) fun a HF => ?_
 refine aB ?_
 refine aZ HF rfl ?_
 refine wp_skip ?_
 repeat first | refine aK ?_ | refine aS ?_
 refine wp_seq ?_
 refine aN ?_
 refine wp_pure HF HM rfl 3 [] ((rG fb pq tb l) ++ [(35, .bool (((((24 * (l.length + 1))) : Nat) : Int) == 0))]) (by kernel_rfl) fun a HF => ?_
 refine aB ?_
 rw [show (((((24 * (l.length + 1))) : Nat) : Int) == 0) = false from rW (by omega)] at HF
 refine aZ HF rfl ?_
 refine wp_skip ?_
 repeat first | refine aK ?_ | refine aS ?_
 refine wp_seq ?_
 refine aN ?_
 refine wp_pure HF HM rfl 3 [] ((rG fb pq tb l) ++ [(39, aF (Int.tmod ((((24 * (l.length + 1))) : Nat) : Int) 24))]) (by kernel_rfl) fun a HF => ?_
 rw [show Int.tmod ((((24 * (l.length + 1))) : Nat) : Int) 24 = 0 from Ov 24 _] at HF
 refine wp_pure HF HM rfl 1 [] ((rG fb pq tb l) ++ [(40, .bool false)]) (by kernel_rfl) fun a HF => ?_
 refine aB ?_
 refine aZ HF rfl ?_
 refine wp_skip ?_
 repeat first | refine aK ?_ | refine aS ?_
 refine aN ?_
 refine wp_pure HF HM rfl 5 [] ((xU fb tb l) ++ [(43, aA fb), (47, .pointer (some ⟨pq, 6, none⟩))]) (by kernel_rfl) fun a HF => ?_
 refine bU HF (by kernel_rfl) (aX ((jw x.img 1).link)) (by kernel_rfl) (dP rfl rfl (by kernel_rfl) ((cell_of_row w2 pq 6 _ _ _ (HM.old q4)).trans rfl)) fun a HF => ?_
 refine bf HF (by kernel_rfl) 90 #[aA fb, aX ((jw x.img 1).link)] (by kernel_rfl) (fun w => by kernel_rfl) (Calls.mono (EU (hF.below HM.below) 1 _ hlk hm1 hqo (by omega) (by omega)) ?_)
 rintro _ w3 ⟨tx, rfl, hb, SE, SA⟩
 replace HM : Mm [] w0 w3 [eP tx q, dY tb p] := HM.push hb SE SA
 clear hb
 refine ⟨_, rfl, ?_⟩; clear HF; intro a HF
 refine wp_pure HF HM rfl 5 [] ((xU fb tb l) ++ [(9, .nilIface), (10, aC tx q.data.length q.data.length)]) (by kernel_rfl) fun a HF => ?_
 refine aB ?_
 refine wp_seq ?_
 refine aN ?_
 refine wp_pure HF HM rfl 2 [] ((xU fb tb l) ++ [(9, .nilIface), (10, aC tx q.data.length q.data.length), (53, .bool false)]) (by kernel_rfl) fun a HF => ?_
 refine aB ?_
 refine aZ HF rfl ?_
 refine wp_skip ?_
 repeat first | refine aK ?_ | refine aS ?_
 refine aN ?_
 refine wp_pure HF HM rfl 1 [] [(0, aA fb), (10, aC tx q.data.length q.data.length), (58, aC tb ((24 * (l.length + 1))) ((24 * (l.length + 1))))] (by kernel_rfl) fun a HF => ?_
 obtain ⟨r, hr⟩ : ∃ q, 24 + q = ((24 * (l.length + 1))) := ⟨((24 * (l.length + 1))) - 24, by omega⟩
 refine bU HF (by kernel_rfl) (.slice (some ⟨tb, if r = 0 then 0 else 0 + 24, none⟩) r r) (by kernel_rfl) (DN Tryd.underlying33 Dn hs8 rfl 24 r (kk := .i64) rfl rfl (by omega) hr rfl w3) fun a HF => ?_
 refine wp_pure HF HM rfl 1 [] [(0, aA fb), (8, .slice (some ⟨tb, if r = 0 then 0 else 0 + 24, none⟩) r r), (10, aC tx q.data.length q.data.length)] (by kernel_rfl) fun a HF => ?_
 refine bT ?_
 refine wp_pure HF HM rfl 3 [] [(0, aA fb), (8, .slice (some ⟨tb, if r = 0 then 0 else 0 + 24, none⟩) r r), (10, aC tx q.data.length q.data.length), (62, aF (IntKind.i64.wrap (Int.tdiv ((r : Nat) : Int) 24)))] (by kernel_rfl) fun a HF => ?_
 rw [show IntKind.i64.wrap (Int.tdiv ((r : Nat) : Int) 24) = ((l.length : Nat) : Int) from (by rw [show r = 24 * l.length by omega]; exact Oy 24 _ (by decide) (by omega))] at HF
 refine AA HF HM rfl _ _ 101 rfl rfl 188 (.agg #[.string (⟨#[]⟩ : ByteArray), aO 0, aO 0, .bool false, .int .u16 0, aF 0, bF 0, bF 0, .string (⟨#[]⟩ : ByteArray), .string (⟨#[]⟩ : ByteArray)]) 10 80 Tryd.underlying101 MF rfl .i64 .i64 l.length rfl rfl (by omega) (by unfold maxLen; omega) ?_
 intro a2 w4 gs gk MR gsz bJ HF2; clear HF HM; have HM := bJ; have HF := HF2; clear bJ HF2
 replace MR := MR.trans (GV l _)
 have gnc : l.length ≤ l.length := Nat.le_refl _; have gcm : l.length ≤ maxLen := by unfold maxLen; omega
 refine wp_pure HF HM rfl 1 [] [(0, aA fb), (8, .slice (some ⟨tb, if r = 0 then 0 else 0 + 24, none⟩) r r), (10, aC tx q.data.length q.data.length), (11, aC gs l.length l.length)] (by kernel_rfl) fun a HF => ?_
 refine bT ?_
 refine wp_pure HF HM rfl 1 [] [(0, aA fb), (8, .slice (some ⟨tb, if r = 0 then 0 else 0 + 24, none⟩) r r), (10, aC tx q.data.length q.data.length), (11, aC gs l.length l.length), (12, aF 0)] (by kernel_rfl) fun a HF => ?_
 refine bT ?_
 replace HM : Mm [fb] w0 w4 [fB fb x aV pg, (gs, .cells gk 188 (0, 0)), eP tx q, dY tb p] := HM.Ol hfb (by simp)
 obtain ⟨z20, FC⟩ : ∃ z, w4.heap.size = z := ⟨_, rfl⟩
 refine aP HF HM FC 1 [] [(0, aA fb), (8, .slice (some ⟨tb, if r = 0 then 0 else 0 + 24, none⟩) r r), (10, aC tx q.data.length q.data.length), (11, aC gs l.length l.length), (12, aF 0), (13, aA z20)] [(z20, .cells #[gV 0, aO 0, aO 0, .int .u16 0, bF 0, bF 0] 252 (0, 0)), fB fb x aV pg, (gs, .cells gk 188 (0, 0)), eP tx q, dY tb p] (by kernel_rfl) fun a w HF HM => ?_
 clear FC
 refine aB ?_
 refine wp_seq ?_
 refine wp_block ?_
 refine jX (l.length) (fun i a w => (∃ o, ∃ r, ∃ v0 : Value, ∃ v1 : Value, ∃ v2 : Value, ∃ v3 : Value, ∃ v4 : Value, ∃ v5 : Value, ∃ og : Nat, ∃ oc : Nat, ∃ ok : Array Value, (i < l.length → o = 24 * (i + 1)) ∧ (r + 24 * (i + 1) = 24 * (l.length + 1)) ∧ (ok.toList.take (l.length * 10) = (List.range l.length).flatMap (iW l i)) ∧ (ok.size = oc * 10) ∧ (l.length ≤ oc) ∧ (oc ≤ maxLen) ∧ Mm [fb] w0 w [(og, .cells ok 188 (0, 0)), (z20, .cells #[v0, v1, v2, v3, v4, v5] 252 (0, 0)), fB fb x aV pg, eP tx q, dY tb p] ∧ Fr 161 a [(0, aA fb), (8, .slice (some ⟨tb, o, none⟩) r r), (10, aC tx q.data.length q.data.length), (11, aC og l.length oc), (12, ay i), (13, aA z20)])) ?_ ?_ ?_
 ·exact ⟨if r = 0 then 0 else 0 + 24, r, (gV 0), (aO 0), (aO 0), (.int .u16 0), (bF 0), (bF 0), gs, l.length, gk, fun hlt => by rw [if_neg (by omega)], by omega, MR, gsz, gnc, gcm, (HM.pick [2, 0, 1, 3, 4] [(gs, .cells gk 188 (0, 0)), (z20, .cells #[gV 0, aO 0, aO 0, .int .u16 0, bF 0, bF 0] 252 (0, 0)), fB fb x aV pg, eP tx q, dY tb p] rfl (by decide)), HF.sub [(0, aA fb), (8, .slice (some ⟨tb, if r = 0 then 0 else 0 + 24, none⟩) r r), (10, aC tx q.data.length q.data.length), (11, aC gs l.length l.length), (12, aF 0), (13, aA z20)] (by kernel_rfl)⟩
 ·intro i a w KX hi hI KR
  obtain ⟨o, r, v0, v1, v2, v3, v4, v5, og, oc, ok, ho, hr, jV, oQ, lu, pV, HM, HF⟩ := hI
  obtain rfl := ho hi
  obtain ⟨m, hm⟩ : ∃ m, l[i]? = some m := ⟨_, List.getElem?_eq_getElem hi⟩
  have hmm := List.mem_of_getElem? hm; have hmo := hok m hmm; have hma := hat m hmm
  have PX := DI (l := l) (i := i) hi hnb
  obtain ⟨Nh, Bz, Jv, Nc, Ju, Nb⟩ := TF x.img.big l p.data FI i m hm hmo hma PX
  have hse : ((m.dH.toNat : Nat) : Int) = m.dH := Int.toNat_of_nonneg hmo.s0
  have hbi := hma.info; have hbo := hma.other; have hbv := hma.value; have hbs := hma.size; have hs1 := hmo.s1
  replace jV := jV.trans (JG l i _)
  refine wp_seq ?_
  refine aN ?_
  refine wp_pure HF HM rfl 3 [] ((cO fb tb i r tx q og l oc z20) ++ [(66, .bool (decide (0 < ((r : Nat) : Int))))]) (by kernel_rfl) fun a HF => ?_
  refine aB ?_
  rw [show decide (0 < ((r : Nat) : Int)) = true from dV (by omega)] at HF
  refine bC HF rfl ?_
  refine wp_skip ?_
  repeat first | refine aK ?_ | refine aS ?_
  refine wp_block ?_
  refine nI HM (by kernel_rfl) [fB fb x aV pg, eP tx q, dY tb p] [(0, false), (1, false), (2, false), (3, false), (4, false), (5, false), (6, false), (7, true), (8, false), (9, true)] (by kernel_rfl) fun w5 HM => ?_
  refine bK HF (HM.told [2, 3, 4] rfl) 6 [[2]] ((cO fb tb i r tx q og l oc z20) ++ [(71, (aU x.img.big)), (72, .slice (some ⟨tb, 24 * (i + 1), none⟩) r r)]) (by kernel_rfl) fun a HF => ?_
  refine eu rfl HF (HM.told [2, 3, 4] rfl) rfl (.slice (some ⟨tb, 24 * (i + 1) + 0, none⟩) 4 (r - 0)) (by kernel_rfl) (fun w hw => wG Tryd.underlying33 Dn hs8 rfl 0 4 4 (kk := .i64) (kh := .i64) rfl rfl rfl rfl (by omega) (by omega) w) ?_
  clear HF; intro a HF; replace HF := HF.sub ((cO fb tb i r tx q og l oc z20) ++ [(71, (aU x.img.big)), (73, .slice (some ⟨tb, 24 * (i + 1) + 0, none⟩) 4 (r - 0))]) (by kernel_rfl)
  refine bQ rfl ?_
  refine bf HF (by kernel_rfl) 87 #[(aU x.img.big), .slice (some ⟨tb, 24 * (i + 1) + 0, none⟩) 4 (r - 0)] (by kernel_rfl) (fun w => by kernel_rfl) (Calls.mono (Gg (HM.get (i := 4) rfl) x.img.big (24 * (i + 1) + 0) _ (by omega) (by omega) (by unfold maxLen; omega) _ (by rw [Nh])) ?_)
  rintro _ w6 ⟨rfl, nq, hq⟩
  replace HM : Mm [fb] w0 w6 [(og, .cells ok 188 (0, 0)), (z20, .cells #[v0, v1, v2, v3, v4, v5] 252 (0, 0)), fB fb x aV pg, eP tx q, dY tb p] := by rw [hq]; exact HM.drewN nq
  clear hq nq
  refine ⟨_, rfl, ?_⟩; clear HF; intro a HF
  replace HF := HF.sub ((cO fb tb i r tx q og l oc z20) ++ [(74, aX (nameAt (dF l) i))]) (by kernel_rfl)
  refine dD (HM.told [2, 3, 4] rfl) ?_
  refine bK HF (HM.told [2, 3, 4] rfl) 1 [] ((cO fb tb i r tx q og l oc z20) ++ [(74, aX (nameAt (dF l) i)), (75, aA z20)]) (by kernel_rfl) fun a HF => ?_
  refine bQ rfl ?_
  refine aP HF HM rfl 1 [[3]] (cO fb tb i r tx q og l oc z20) [(og, .cells ok 188 (0, 0)), (z20, .cells #[aX (nameAt (dF l) i), v1, v2, v3, v4, v5] 252 (0, 0)), fB fb x aV pg, eP tx q, dY tb p] (by kernel_rfl) fun a w HF HM => ?_
  refine dD (HM.told [2, 3, 4] rfl) ?_
  refine jR ?_
  refine aK ?_
  refine aN ?_
  refine wp_pure HF HM rfl 1 [] ((cO fb tb i r tx q og l oc z20) ++ [(76, .slice (some ⟨tb, 24 * (i + 1), none⟩) r r)]) (by kernel_rfl) fun a HF => ?_
  refine bU HF (by kernel_rfl) (.pointer (some ⟨tb, 24 * (i + 1) + 4 * 1, none⟩)) (by kernel_rfl) (jy Tryd.underlying33 yG rfl 4 rfl (kk := .i64) rfl rfl (by omega)) fun a HF => ?_
  refine bU HF (by kernel_rfl) (aT m.info) (by kernel_rfl) (dP rfl rfl (by kernel_rfl) ((cell_of_row w tb _ _ _ _ (HM.get (i := 4) rfl)).trans Bz)) fun a HF => ?_
  refine aP HF HM rfl 2 [[3]] (cO fb tb i r tx q og l oc z20) [(og, .cells ok 188 (0, 0)), (z20, .cells #[aX (nameAt (dF l) i), aT m.info, v2, v3, v4, v5] 252 (0, 0)), fB fb x aV pg, eP tx q, dY tb p] (by kernel_rfl) fun a w HF HM => ?_
  refine bT ?_
  refine wp_pure HF HM rfl 1 [] ((cO fb tb i r tx q og l oc z20) ++ [(80, .slice (some ⟨tb, 24 * (i + 1), none⟩) r r)]) (by kernel_rfl) fun a HF => ?_
  refine bU HF (by kernel_rfl) (.pointer (some ⟨tb, 24 * (i + 1) + 5 * 1, none⟩)) (by kernel_rfl) (jy Tryd.underlying33 yG rfl 5 rfl (kk := .i64) rfl rfl (by omega)) fun a HF => ?_
  refine bU HF (by kernel_rfl) (aT m.other) (by kernel_rfl) (dP rfl rfl (by kernel_rfl) ((cell_of_row w tb _ _ _ _ (HM.get (i := 4) rfl)).trans Jv)) fun a HF => ?_
  refine aP HF HM rfl 2 [[3]] (cO fb tb i r tx q og l oc z20) [(og, .cells ok 188 (0, 0)), (z20, .cells #[aX (nameAt (dF l) i), aT m.info, aT m.other, v3, v4, v5] 252 (0, 0)), fB fb x aV pg, eP tx q, dY tb p] (by kernel_rfl) fun a w HF HM => ?_
  refine aB ?_
  refine nI HM (by kernel_rfl) [fB fb x aV pg, eP tx q, dY tb p] [(0, false), (1, false), (2, false), (3, false), (4, false), (5, false), (6, false), (7, true), (8, false), (9, true)] (by kernel_rfl) fun w7 HM => ?_
  refine bK HF (HM.told [2, 3, 4] rfl) 6 [[2]] ((cO fb tb i r tx q og l oc z20) ++ [(88, (aU x.img.big)), (89, .slice (some ⟨tb, 24 * (i + 1), none⟩) r r)]) (by kernel_rfl) fun a HF => ?_
  refine eu rfl HF (HM.told [2, 3, 4] rfl) rfl (.slice (some ⟨tb, 24 * (i + 1) + 6, none⟩) 2 (r - 6)) (by kernel_rfl) (fun w hw => wG Tryd.underlying33 Dn hs8 rfl 6 8 2 (kk := .i64) (kh := .i64) rfl rfl rfl rfl (by omega) (by omega) w) ?_
  clear HF; intro a HF; replace HF := HF.sub ((cO fb tb i r tx q og l oc z20) ++ [(88, (aU x.img.big)), (90, .slice (some ⟨tb, 24 * (i + 1) + 6, none⟩) 2 (r - 6))]) (by kernel_rfl)
  refine bQ rfl ?_
  refine bf HF (by kernel_rfl) 94 #[(aU x.img.big), .slice (some ⟨tb, 24 * (i + 1) + 6, none⟩) 2 (r - 6)] (by kernel_rfl) (fun w => by kernel_rfl) (Calls.mono (Oj (HM.get (i := 4) rfl) x.img.big (24 * (i + 1) + 6) _ (by omega) _ (by rw [Nc])) ?_)
  rintro _ w8 ⟨rfl, nq, hq⟩
  replace HM : Mm [fb] w0 w8 [(og, .cells ok 188 (0, 0)), (z20, .cells #[aX (nameAt (dF l) i), aT m.info, aT m.other, v3, v4, v5] 252 (0, 0)), fB fb x aV pg, eP tx q, dY tb p] := by rw [hq]; exact HM.drewN nq
  clear hq nq
  refine ⟨_, rfl, ?_⟩; clear HF; intro a HF
  replace HF := HF.sub ((cO fb tb i r tx q og l oc z20) ++ [(91, bn (m.dH.toNat))]) (by kernel_rfl)
  refine dD (HM.told [2, 3, 4] rfl) ?_
  refine bK HF (HM.told [2, 3, 4] rfl) 1 [] ((cO fb tb i r tx q og l oc z20) ++ [(91, bn (m.dH.toNat)), (92, .pointer (some ⟨z20, 3, none⟩))]) (by kernel_rfl) fun a HF => ?_
  refine bQ rfl ?_
  refine aP HF HM rfl 1 [[3]] (cO fb tb i r tx q og l oc z20) [(og, .cells ok 188 (0, 0)), (z20, .cells #[aX (nameAt (dF l) i), aT m.info, aT m.other, bn (m.dH.toNat), v4, v5] 252 (0, 0)), fB fb x aV pg, eP tx q, dY tb p] (by kernel_rfl) fun a w HF HM => ?_
  refine dD (HM.told [2, 3, 4] rfl) ?_
  refine jR ?_
  refine aK ?_
  refine nI HM (by kernel_rfl) [fB fb x aV pg, eP tx q, dY tb p] [(0, false), (1, false), (2, false), (3, false), (4, false), (5, false), (6, false), (7, true), (8, false), (9, true)] (by kernel_rfl) fun w9 HM => ?_
  refine bK HF (HM.told [2, 3, 4] rfl) 6 [[2]] ((cO fb tb i r tx q og l oc z20) ++ [(97, (aU x.img.big)), (98, .slice (some ⟨tb, 24 * (i + 1), none⟩) r r)]) (by kernel_rfl) fun a HF => ?_
  refine eu rfl HF (HM.told [2, 3, 4] rfl) rfl (.slice (some ⟨tb, 24 * (i + 1) + 8, none⟩) 8 (r - 8)) (by kernel_rfl) (fun w hw => wG Tryd.underlying33 Dn hs8 rfl 8 16 8 (kk := .i64) (kh := .i64) rfl rfl rfl rfl (by omega) (by omega) w) ?_
  clear HF; intro a HF; replace HF := HF.sub ((cO fb tb i r tx q og l oc z20) ++ [(97, (aU x.img.big)), (99, .slice (some ⟨tb, 24 * (i + 1) + 8, none⟩) 8 (r - 8))]) (by kernel_rfl)
  refine bQ rfl ?_
  refine bf HF (by kernel_rfl) 88 #[(aU x.img.big), .slice (some ⟨tb, 24 * (i + 1) + 8, none⟩) 8 (r - 8)] (by kernel_rfl) (fun w => by kernel_rfl) (Calls.mono (Oi (HM.get (i := 4) rfl) x.img.big (24 * (i + 1) + 8) _ (by omega) (by omega) (by unfold maxLen; omega) _ (by rw [Ju])) ?_)
  rintro _ w10 ⟨rfl, nq, hq⟩
  replace HM : Mm [fb] w0 w10 [(og, .cells ok 188 (0, 0)), (z20, .cells #[aX (nameAt (dF l) i), aT m.info, aT m.other, bn (m.dH.toNat), v4, v5] 252 (0, 0)), fB fb x aV pg, eP tx q, dY tb p] := by rw [hq]; exact HM.drewN nq
  clear hq nq
  refine ⟨_, rfl, ?_⟩; clear HF; intro a HF
  replace HF := HF.sub ((cO fb tb i r tx q og l oc z20) ++ [(100, aI (m.value))]) (by kernel_rfl)
  refine dD (HM.told [2, 3, 4] rfl) ?_
  refine bK HF (HM.told [2, 3, 4] rfl) 1 [] ((cO fb tb i r tx q og l oc z20) ++ [(100, aI (m.value)), (101, .pointer (some ⟨z20, 4, none⟩))]) (by kernel_rfl) fun a HF => ?_
  refine bQ rfl ?_
  refine aP HF HM rfl 1 [[3]] (cO fb tb i r tx q og l oc z20) [(og, .cells ok 188 (0, 0)), (z20, .cells #[aX (nameAt (dF l) i), aT m.info, aT m.other, bn (m.dH.toNat), aI (m.value), v5] 252 (0, 0)), fB fb x aV pg, eP tx q, dY tb p] (by kernel_rfl) fun a w HF HM => ?_
  refine dD (HM.told [2, 3, 4] rfl) ?_
  refine jR ?_
  refine aK ?_
  refine nI HM (by kernel_rfl) [fB fb x aV pg, eP tx q, dY tb p] [(0, false), (1, false), (2, false), (3, false), (4, false), (5, false), (6, false), (7, true), (8, false), (9, true)] (by kernel_rfl) fun wQ HM => ?_
  refine bK HF (HM.told [2, 3, 4] rfl) 6 [[2]] ((cO fb tb i r tx q og l oc z20) ++ [(106, (aU x.img.big)), (107, .slice (some ⟨tb, 24 * (i + 1), none⟩) r r)]) (by kernel_rfl) fun a HF => ?_
  refine eu rfl HF (HM.told [2, 3, 4] rfl) rfl (.slice (some ⟨tb, 24 * (i + 1) + 16, none⟩) 8 (r - 16)) (by kernel_rfl) (fun w hw => wG Tryd.underlying33 Dn hs8 rfl 16 24 8 (kk := .i64) (kh := .i64) rfl rfl rfl rfl (by omega) (by omega) w) ?_
  clear HF; intro a HF; replace HF := HF.sub ((cO fb tb i r tx q og l oc z20) ++ [(106, (aU x.img.big)), (108, .slice (some ⟨tb, 24 * (i + 1) + 16, none⟩) 8 (r - 16))]) (by kernel_rfl)
  refine bQ rfl ?_
  refine bf HF (by kernel_rfl) 88 #[(aU x.img.big), .slice (some ⟨tb, 24 * (i + 1) + 16, none⟩) 8 (r - 16)] (by kernel_rfl) (fun w => by kernel_rfl) (Calls.mono (Oi (HM.get (i := 4) rfl) x.img.big (24 * (i + 1) + 16) _ (by omega) (by omega) (by unfold maxLen; omega) _ (by rw [Nb])) ?_)
  rintro _ w12 ⟨rfl, nq, hq⟩
  replace HM : Mm [fb] w0 w12 [(og, .cells ok 188 (0, 0)), (z20, .cells #[aX (nameAt (dF l) i), aT m.info, aT m.other, bn (m.dH.toNat), aI (m.value), v5] 252 (0, 0)), fB fb x aV pg, eP tx q, dY tb p] := by rw [hq]; exact HM.drewN nq
  clear hq nq
  refine ⟨_, rfl, ?_⟩; clear HF; intro a HF
  replace HF := HF.sub ((cO fb tb i r tx q og l oc z20) ++ [(109, aI (m.size))]) (by kernel_rfl)
  refine dD (HM.told [2, 3, 4] rfl) ?_
  refine bK HF (HM.told [2, 3, 4] rfl) 1 [] ((cO fb tb i r tx q og l oc z20) ++ [(109, aI (m.size)), (110, .pointer (some ⟨z20, 5, none⟩))]) (by kernel_rfl) fun a HF => ?_
  refine bQ rfl ?_
  refine aP HF HM rfl 1 [[3]] (cO fb tb i r tx q og l oc z20) [(og, .cells ok 188 (0, 0)), (z20, .cells #[aX (nameAt (dF l) i), aT m.info, aT m.other, bn (m.dH.toNat), aI (m.value), aI (m.size)] 252 (0, 0)), fB fb x aV pg, eP tx q, dY tb p] (by kernel_rfl) fun a w HF HM => ?_
  refine dD (HM.told [2, 3, 4] rfl) ?_
  refine jR ?_
  refine aK ?_
  refine aN ?_
  refine wp_pure HF HM rfl 4 [[3]] ((cO fb tb i r tx q og l oc z20) ++ [(112, aC tx q.data.length q.data.length), (115, aF (IntKind.i64.wrap (((nameAt (dF l) i) : Nat) : Int)))]) (by kernel_rfl) fun a HF => ?_
  rw [show IntKind.i64.wrap (((nameAt (dF l) i) : Nat) : Int) = (((nameAt (dF l) i) : Nat) : Int) from IntWalk.i64_in _ (by omega)] at HF
  refine bf HF (by kernel_rfl) 91 #[aC tx q.data.length q.data.length, ay (nameAt (dF l) i)] (by kernel_rfl) (fun w => by kernel_rfl) (Calls.mono (Bl _ q.data _ _ (nameAt (dF l) i) rfl (Nat.le_refl _) (by unfold maxLen; omega) (by rw [Dk]; exact Cb _ _ (by rw [oL]; exact hi)) w (o_ (HM.get (i := 3) rfl))) ?_)
  rintro _ CW ⟨rfl, hq⟩; subst hq
  refine ⟨_, rfl, ?_⟩; clear HF; intro a HF
  rw [show EW (nR q.data (nameAt (dF l) i)) = .tuple #[.string ⟨m.name.toArray⟩, .bool true] from by rw [Dk, Lj hm hmo]; rfl] at HF
  refine wp_pure HF HM rfl 5 [] ((cO fb tb i r tx q og l oc z20) ++ [(14, .string (⟨m.name.toArray⟩))]) (by kernel_rfl) fun a HF => ?_
  refine bT ?_
  refine wp_pure HF HM rfl 3 [] ((cO fb tb i r tx q og l oc z20) ++ [(119, aC og l.length oc), (120, ay i), (121, .string (⟨m.name.toArray⟩))]) (by kernel_rfl) fun a HF => ?_
  refine bU HF (by kernel_rfl) (.pointer (some ⟨og, 0 + i * 10, none⟩)) (by kernel_rfl) (jy Tryd.underlying101 nS rfl i rfl (kk := .i64) rfl rfl (by omega)) fun a HF => ?_
  refine wp_pure HF HM rfl 1 [] ((cO fb tb i r tx q og l oc z20) ++ [(121, .string (⟨m.name.toArray⟩)), (123, .pointer (some ⟨og, 0 + i * 10, none⟩))]) (by kernel_rfl) fun a HF => ?_
  refine jv HF HM rfl 9 _ _ rfl rfl 0 og (0 + i * 10) ok 188 rfl rfl (.string (⟨m.name.toArray⟩)) rfl rfl rfl (by rw [oQ]; have hq := lu; omega) (by kernel_rfl) ?_
  intro a EN nC bJ jF HF2; clear HF HM
  have G6 : nC.toList.take (l.length * 10) = ((List.range l.length).flatMap (putAt (iW l i) i [.string (⟨#[]⟩ : ByteArray), aO 0, aO 0, .bool false, .int .u16 0, aF 0, bF 0, bF 0, .string (⟨#[]⟩ : ByteArray), .string (⟨#[]⟩ : ByteArray)]) : List Value).set (0 + i * 10) (.string (⟨m.name.toArray⟩)) := by rw [jF, List.take_set, jV]
  have Lh : nC.size = oc * 10 := by rw [← Array.length_toList, jF, List.length_set, Array.length_toList, oQ]
  have HM : Mm [fb] w0 EN [(og, .cells nC 188 (0, 0)), (z20, .cells #[aX (nameAt (dF l) i), aT m.info, aT m.other, bn (m.dH.toNat), aI (m.value), aI (m.size)] 252 (0, 0)), fB fb x aV pg, eP tx q, dY tb p] := bJ
  have HF := HF2.sub (cO fb tb i r tx q og l oc z20) (by kernel_rfl); clear bJ HF2 jF
  replace G6 : nC.toList.take (l.length * 10) = (List.range l.length).flatMap (putAt (iW l i) i [.string (⟨m.name.toArray⟩), aO 0, aO 0, .bool false, .int .u16 0, aF 0, bF 0, bF 0, .string (⟨#[]⟩ : ByteArray), .string (⟨#[]⟩ : ByteArray)]) := G6.trans (by rw [show 0 + i * 10 = i * 10 + 0 by omega]; exact qQ l i _ 0 _ _ _ hi (by omega) rfl rfl)
  refine bT ?_
  refine wp_pure HF HM rfl 4 [[3]] ((cO fb tb i r tx q og l oc z20) ++ [(124, aC og l.length oc), (125, ay i), (127, aT m.info)]) (by kernel_rfl) fun a HF => ?_
  refine bU HF (by kernel_rfl) (.pointer (some ⟨og, 0 + i * 10, none⟩)) (by kernel_rfl) (jy Tryd.underlying101 nS rfl i rfl (kk := .i64) rfl rfl (by omega)) fun a HF => ?_
  refine wp_pure HF HM rfl 1 [] ((cO fb tb i r tx q og l oc z20) ++ [(127, aT m.info), (129, .pointer (some ⟨og, 0 + i * 10 + 1, none⟩))]) (by kernel_rfl) fun a HF => ?_
  refine jv HF HM rfl 5 _ _ rfl rfl 0 og (0 + i * 10 + 1) nC 188 rfl rfl (aT m.info) rfl rfl rfl (by rw [Lh]; have hq := lu; omega) (by kernel_rfl) ?_
  intro a EH jY bJ jF HF2; clear HF HM
  have G5 : jY.toList.take (l.length * 10) = ((List.range l.length).flatMap (putAt (iW l i) i [.string (⟨m.name.toArray⟩), aO 0, aO 0, .bool false, .int .u16 0, aF 0, bF 0, bF 0, .string (⟨#[]⟩ : ByteArray), .string (⟨#[]⟩ : ByteArray)]) : List Value).set (0 + i * 10 + 1) (aT m.info) := by rw [jF, List.take_set, G6]
  have Le : jY.size = oc * 10 := by rw [← Array.length_toList, jF, List.length_set, Array.length_toList, Lh]
  have HM : Mm [fb] w0 EH [(og, .cells jY 188 (0, 0)), (z20, .cells #[aX (nameAt (dF l) i), aT m.info, aT m.other, bn (m.dH.toNat), aI (m.value), aI (m.size)] 252 (0, 0)), fB fb x aV pg, eP tx q, dY tb p] := bJ
  have HF := HF2.sub (cO fb tb i r tx q og l oc z20) (by kernel_rfl); clear bJ HF2 jF
  replace G5 : jY.toList.take (l.length * 10) = (List.range l.length).flatMap (putAt (iW l i) i [.string (⟨m.name.toArray⟩), aT m.info, aO 0, .bool false, .int .u16 0, aF 0, bF 0, bF 0, .string (⟨#[]⟩ : ByteArray), .string (⟨#[]⟩ : ByteArray)]) := G5.trans (by rw [show 0 + i * 10 + 1 = i * 10 + 1 by omega]; exact qQ l i _ 1 _ _ _ hi (by omega) rfl rfl)
  refine bT ?_
  refine wp_pure HF HM rfl 4 [[3]] ((cO fb tb i r tx q og l oc z20) ++ [(130, aC og l.length oc), (131, ay i), (133, aT m.other)]) (by kernel_rfl) fun a HF => ?_
  refine bU HF (by kernel_rfl) (.pointer (some ⟨og, 0 + i * 10, none⟩)) (by kernel_rfl) (jy Tryd.underlying101 nS rfl i rfl (kk := .i64) rfl rfl (by omega)) fun a HF => ?_
  refine wp_pure HF HM rfl 1 [] ((cO fb tb i r tx q og l oc z20) ++ [(133, aT m.other), (135, .pointer (some ⟨og, 0 + i * 10 + 2, none⟩))]) (by kernel_rfl) fun a HF => ?_
  refine jv HF HM rfl 5 _ _ rfl rfl 0 og (0 + i * 10 + 2) jY 188 rfl rfl (aT m.other) rfl rfl rfl (by rw [Le]; have hq := lu; omega) (by kernel_rfl) ?_
  intro a w16 oG bJ jF HF2; clear HF HM
  have GZ : oG.toList.take (l.length * 10) = ((List.range l.length).flatMap (putAt (iW l i) i [.string (⟨m.name.toArray⟩), aT m.info, aO 0, .bool false, .int .u16 0, aF 0, bF 0, bF 0, .string (⟨#[]⟩ : ByteArray), .string (⟨#[]⟩ : ByteArray)]) : List Value).set (0 + i * 10 + 2) (aT m.other) := by rw [jF, List.take_set, G5]
  have Ld : oG.size = oc * 10 := by rw [← Array.length_toList, jF, List.length_set, Array.length_toList, Le]
  have HM : Mm [fb] w0 w16 [(og, .cells oG 188 (0, 0)), (z20, .cells #[aX (nameAt (dF l) i), aT m.info, aT m.other, bn (m.dH.toNat), aI (m.value), aI (m.size)] 252 (0, 0)), fB fb x aV pg, eP tx q, dY tb p] := bJ
  have HF := HF2.sub (cO fb tb i r tx q og l oc z20) (by kernel_rfl); clear bJ HF2 jF
  replace GZ : oG.toList.take (l.length * 10) = (List.range l.length).flatMap (putAt (iW l i) i [.string (⟨m.name.toArray⟩), aT m.info, aT m.other, .bool false, .int .u16 0, aF 0, bF 0, bF 0, .string (⟨#[]⟩ : ByteArray), .string (⟨#[]⟩ : ByteArray)]) := GZ.trans (by rw [show 0 + i * 10 + 2 = i * 10 + 2 by omega]; exact qQ l i _ 2 _ _ _ hi (by omega) rfl rfl)
  refine bT ?_
  refine wp_pure HF HM rfl 5 [[3]] [(0, aA fb), (8, .slice (some ⟨tb, 24 * (i + 1), none⟩) r r), (10, aC tx q.data.length q.data.length), (11, aC og l.length oc), (12, ay i), (13, aA z20), (136, aC og l.length oc), (137, ay i), (140, aF (IntKind.i64.wrap (((m.dH.toNat) : Nat) : Int)))] (by kernel_rfl) fun a HF => ?_
  rw [show IntKind.i64.wrap (((m.dH.toNat) : Nat) : Int) = (((m.dH.toNat) : Nat) : Int) from IntWalk.i64_in _ (by omega)] at HF
  try simp only [ay] at HF
  rw [hse] at HF
  refine bU HF (by kernel_rfl) (.pointer (some ⟨og, 0 + i * 10, none⟩)) (by kernel_rfl) (jy Tryd.underlying101 nS rfl i rfl (kk := .i64) rfl rfl (by omega)) fun a HF => ?_
  refine wp_pure HF HM rfl 1 [] ((cO fb tb i r tx q og l oc z20) ++ [(140, .int .i64 m.dH), (142, .pointer (some ⟨og, 0 + i * 10 + 5, none⟩))]) (by kernel_rfl) fun a HF => ?_
  refine jv HF HM rfl 186 _ _ rfl rfl 0 og (0 + i * 10 + 5) oG 188 rfl rfl (.int .i64 m.dH) rfl rfl rfl (by rw [Ld]; have hq := lu; omega) (by kernel_rfl) ?_
  intro a w17 lg bJ jF HF2; clear HF HM
  have GY : lg.toList.take (l.length * 10) = ((List.range l.length).flatMap (putAt (iW l i) i [.string (⟨m.name.toArray⟩), aT m.info, aT m.other, .bool false, .int .u16 0, aF 0, bF 0, bF 0, .string (⟨#[]⟩ : ByteArray), .string (⟨#[]⟩ : ByteArray)]) : List Value).set (0 + i * 10 + 5) (.int .i64 m.dH) := by rw [jF, List.take_set, GZ]
  have Lc : lg.size = oc * 10 := by rw [← Array.length_toList, jF, List.length_set, Array.length_toList, Ld]
  have HM : Mm [fb] w0 w17 [(og, .cells lg 188 (0, 0)), (z20, .cells #[aX (nameAt (dF l) i), aT m.info, aT m.other, bn (m.dH.toNat), aI (m.value), aI (m.size)] 252 (0, 0)), fB fb x aV pg, eP tx q, dY tb p] := bJ
  have HF := HF2.sub (cO fb tb i r tx q og l oc z20) (by kernel_rfl); clear bJ HF2 jF
  replace GY : lg.toList.take (l.length * 10) = (List.range l.length).flatMap (putAt (iW l i) i [.string (⟨m.name.toArray⟩), aT m.info, aT m.other, .bool false, .int .u16 0, .int .i64 m.dH, bF 0, bF 0, .string (⟨#[]⟩ : ByteArray), .string (⟨#[]⟩ : ByteArray)]) := GY.trans (by rw [show 0 + i * 10 + 5 = i * 10 + 5 by omega]; exact qQ l i _ 5 _ _ _ hi (by omega) rfl rfl)
  refine bT ?_
  refine wp_pure HF HM rfl 4 [[3]] ((cO fb tb i r tx q og l oc z20) ++ [(143, aC og l.length oc), (144, ay i), (146, aI (m.value))]) (by kernel_rfl) fun a HF => ?_
  refine bU HF (by kernel_rfl) (.pointer (some ⟨og, 0 + i * 10, none⟩)) (by kernel_rfl) (jy Tryd.underlying101 nS rfl i rfl (kk := .i64) rfl rfl (by omega)) fun a HF => ?_
  refine wp_pure HF HM rfl 1 [] ((cO fb tb i r tx q og l oc z20) ++ [(146, aI (m.value)), (148, .pointer (some ⟨og, 0 + i * 10 + 6, none⟩))]) (by kernel_rfl) fun a HF => ?_
  refine jv HF HM rfl 22 _ _ rfl rfl 0 og (0 + i * 10 + 6) lg 188 rfl rfl (aI (m.value)) rfl rfl rfl (by rw [Lc]; have hq := lu; omega) (by kernel_rfl) ?_
  intro a w18 nJ bJ jF HF2; clear HF HM
  have AB : nJ.toList.take (l.length * 10) = ((List.range l.length).flatMap (putAt (iW l i) i [.string (⟨m.name.toArray⟩), aT m.info, aT m.other, .bool false, .int .u16 0, .int .i64 m.dH, bF 0, bF 0, .string (⟨#[]⟩ : ByteArray), .string (⟨#[]⟩ : ByteArray)]) : List Value).set (0 + i * 10 + 6) (aI (m.value)) := by rw [jF, List.take_set, GY]
  have EO : nJ.size = oc * 10 := by rw [← Array.length_toList, jF, List.length_set, Array.length_toList, Lc]
  have HM : Mm [fb] w0 w18 [(og, .cells nJ 188 (0, 0)), (z20, .cells #[aX (nameAt (dF l) i), aT m.info, aT m.other, bn (m.dH.toNat), aI (m.value), aI (m.size)] 252 (0, 0)), fB fb x aV pg, eP tx q, dY tb p] := bJ
  have HF := HF2.sub (cO fb tb i r tx q og l oc z20) (by kernel_rfl); clear bJ HF2 jF
  replace AB : nJ.toList.take (l.length * 10) = (List.range l.length).flatMap (putAt (iW l i) i [.string (⟨m.name.toArray⟩), aT m.info, aT m.other, .bool false, .int .u16 0, .int .i64 m.dH, aI (m.value), bF 0, .string (⟨#[]⟩ : ByteArray), .string (⟨#[]⟩ : ByteArray)]) := AB.trans (by rw [show 0 + i * 10 + 6 = i * 10 + 6 by omega]; exact qQ l i _ 6 _ _ _ hi (by omega) rfl rfl)
  refine bT ?_
  refine wp_pure HF HM rfl 4 [[3]] ((cO fb tb i r tx q og l oc z20) ++ [(149, aC og l.length oc), (150, ay i), (152, aI (m.size))]) (by kernel_rfl) fun a HF => ?_
  refine bU HF (by kernel_rfl) (.pointer (some ⟨og, 0 + i * 10, none⟩)) (by kernel_rfl) (jy Tryd.underlying101 nS rfl i rfl (kk := .i64) rfl rfl (by omega)) fun a HF => ?_
  refine wp_pure HF HM rfl 1 [] ((cO fb tb i r tx q og l oc z20) ++ [(152, aI (m.size)), (154, .pointer (some ⟨og, 0 + i * 10 + 7, none⟩))]) (by kernel_rfl) fun a HF => ?_
  refine jv HF HM rfl 22 _ _ rfl rfl 0 og (0 + i * 10 + 7) nJ 188 rfl rfl (aI (m.size)) rfl rfl rfl (by rw [EO]; have hq := lu; omega) (by kernel_rfl) ?_
  intro a w19 sD bJ jF HF2; clear HF HM
  have vY : sD.toList.take (l.length * 10) = ((List.range l.length).flatMap (putAt (iW l i) i [.string (⟨m.name.toArray⟩), aT m.info, aT m.other, .bool false, .int .u16 0, .int .i64 m.dH, aI (m.value), bF 0, .string (⟨#[]⟩ : ByteArray), .string (⟨#[]⟩ : ByteArray)]) : List Value).set (0 + i * 10 + 7) (aI (m.size)) := by rw [jF, List.take_set, AB]
  have La : sD.size = oc * 10 := by rw [← Array.length_toList, jF, List.length_set, Array.length_toList, EO]
  have HM : Mm [fb] w0 w19 [(og, .cells sD 188 (0, 0)), (z20, .cells #[aX (nameAt (dF l) i), aT m.info, aT m.other, bn (m.dH.toNat), aI (m.value), aI (m.size)] 252 (0, 0)), fB fb x aV pg, eP tx q, dY tb p] := bJ
  have HF := HF2.sub (cO fb tb i r tx q og l oc z20) (by kernel_rfl); clear bJ HF2 jF
  replace vY : sD.toList.take (l.length * 10) = (List.range l.length).flatMap (putAt (iW l i) i [.string (⟨m.name.toArray⟩), aT m.info, aT m.other, .bool false, .int .u16 0, .int .i64 m.dH, aI (m.value), aI (m.size), .string (⟨#[]⟩ : ByteArray), .string (⟨#[]⟩ : ByteArray)]) := vY.trans (by rw [show 0 + i * 10 + 7 = i * 10 + 7 by omega]; exact qQ l i _ 7 _ _ _ hi (by omega) rfl rfl)
  refine bT ?_
  refine wp_pure HF HM rfl 2 [] [(0, aA fb), (8, .slice (some ⟨tb, 24 * (i + 1), none⟩) r r), (10, aC tx q.data.length q.data.length), (11, aC og l.length oc), (13, aA z20), (156, aF (IntKind.i64.wrap (((i : Nat) : Int) + 1)))] (by kernel_rfl) fun a HF => ?_
  rw [show IntKind.i64.wrap (((i : Nat) : Int) + 1) = (((i + 1) : Nat) : Int) from (IntWalk.i64_in _ (by omega)).trans (by omega)] at HF
  refine wp_pure HF HM rfl 1 [] [(0, aA fb), (8, .slice (some ⟨tb, 24 * (i + 1), none⟩) r r), (10, aC tx q.data.length q.data.length), (11, aC og l.length oc), (12, ay (i + 1)), (13, aA z20)] (by kernel_rfl) fun a HF => ?_
  refine aB ?_
  refine wp_region_lit ?_
  refine wp_pure HF HM rfl 1 [] [(0, aA fb), (10, aC tx q.data.length q.data.length), (11, aC og l.length oc), (12, ay (i + 1)), (13, aA z20), (157, .slice (some ⟨tb, 24 * (i + 1), none⟩) r r)] (by kernel_rfl) fun a HF => ?_
  obtain ⟨uf, hr47⟩ : ∃ q, 24 + q = r := ⟨r - 24, by omega⟩
  refine bU HF (by kernel_rfl) (.slice (some ⟨tb, if uf = 0 then 24 * (i + 1) else 24 * (i + 1) + 24, none⟩) uf uf) (by kernel_rfl) (DN Tryd.underlying33 Dn hs8 rfl 24 uf (kk := .i64) rfl rfl (by omega) hr47 rfl w19) fun a HF => ?_
  refine wp_pure HF HM rfl 1 [] [(0, aA fb), (8, .slice (some ⟨tb, if uf = 0 then 24 * (i + 1) else 24 * (i + 1) + 24, none⟩) uf uf), (10, aC tx q.data.length q.data.length), (11, aC og l.length oc), (12, ay (i + 1)), (13, aA z20)] (by kernel_rfl) fun a HF => ?_
  refine wpList_nil ?_
  repeat first | refine aK ?_ | refine aS ?_
  exact KR _ _ (⟨if uf = 0 then 24 * (i + 1) else 24 * (i + 1) + 24, uf, (aX (nameAt (dF l) i)), (aT m.info), (aT m.other), (bn (m.dH.toNat)), (aI (m.value)), (aI (m.size)), og, oc, sD, fun hlt => by rw [if_neg (by omega)]; omega, by omega, (vY.trans (L6 hm _)), La, lu, pV, HM, HF.sub [(0, aA fb), (8, .slice (some ⟨tb, if uf = 0 then 24 * (i + 1) else 24 * (i + 1) + 24, none⟩) uf uf), (10, aC tx q.data.length q.data.length), (11, aC og l.length oc), (12, ay (i + 1)), (13, aA z20)] (by kernel_rfl)⟩)
 ·intro a w KX hI
  obtain ⟨o, r, v0, v1, v2, v3, v4, v5, og, oc, ok, ho, hr, jV, oQ, lu, pV, HM, HF⟩ := hI
  refine wp_seq ?_
  refine aN ?_
  refine wp_pure HF HM rfl 3 [] [(0, aA fb), (8, .slice (some ⟨tb, o, none⟩) r r), (10, aC tx q.data.length q.data.length), (11, aC og l.length oc), (12, ay l.length), (13, aA z20), (66, .bool (decide (0 < ((r : Nat) : Int))))] (by kernel_rfl) fun a HF => ?_
  refine aB ?_
  rw [show decide (0 < ((r : Nat) : Int)) = false from dI (by omega)] at HF
  refine aZ HF rfl ?_
  refine wp_exit ?_
  repeat (first | refine fG ?_ | refine fA rfl ?_)
  refine iD ?_
  repeat first | refine aK ?_ | refine aS ?_
  refine aN ?_
  refine wp_pure HF HM rfl 5 [] [(4, aC og l.length oc), (5, aC tx q.data.length q.data.length), (6, .nilIface)] (by kernel_rfl) fun a HF => ?_
  refine aB ?_
  refine wp_ret ?_
  repeat first | refine bH ?_ | refine bM ?_
  replace HM : Mm [] w0 w [(og, .cells ok 188 (0, 0)), (z20, .cells #[v0, v1, v2, v3, v4, v5] 252 (0, 0)), eP tx q, dY tb p] := HM.OX 2 rfl hfb
  rw [IX] at jV
  exact pz HF rfl rfl rfl rfl ⟨og, oc, ok, tx, rfl, HM.below, ⟨HM.ge (i := 0) rfl, HM.get (i := 0) rfl, jV, oQ, lu, pV⟩⟩

end Go.Proofs.YtdgehpocmfjbiaaDoor
