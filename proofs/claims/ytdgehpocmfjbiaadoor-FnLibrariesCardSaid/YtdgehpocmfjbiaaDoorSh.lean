/- spec.File and laws.fileOf. · laws.fileOf. · A struct by value, opened: each field's own reading, whatever the number of one-cell fields. · Arguments,  -/
import Derived.Test.YtdgehpocmfjbiaaDoorSg
import Derived.Test.YtdgehpocmfjbiaaDoorRows
import Derived.WalkKit
import Derived.ProofKit
import Derived.OpenShut
import Derived.ShutString
import Derived.ChangeOld
import Derived.Below
import Derived.Deep.Slices
import Derived.Deep.Fields
set_option linter.unusedVariables false
set_option linter.unusedSimpArgs false
set_option maxRecDepth 100000
set_option maxHeartbeats 2000000
namespace Go.Proofs.YtdgehpocmfjbiaaDoor
open Go.RowKit

abbrev dI := fun z1 (x : b_) => ((z1, .cells #[.bool x.wide, .bool x.big, aX x.abi, aX x.aH, .int .i64 x.ty, .int .i64 x.machine, aI x.entry, .slice x.A x.ss.length x.c, .slice x.B x.ps.length x.d] 26 (0, 0)) : Nat × Obj)
abbrev fV := fun z1 (x : b_) gl dn => ([(1, aB z1), (5, ay (gV x.wide)), (8, aC gl (x.ps.length + 2) dn)] : Slots)
abbrev GK := fun z1 (x : b_) gl dn bg i bc pg pc z10 => ((fV z1 x gl dn) ++ [(9, ay x.img.at0), (10, aC bg ((jQ x i).length) bc), (11, aC pg i pc), (12, aC (z10 + 2) 0 0), (45, .slice x.A x.ss.length x.c), (46, ay x.ss.length), (47, ay i)] : Slots)
abbrev yP := fun z13 (m1 : kL) => ((z13, .cells #[bn m1.ty, bn m1.flags, aI m1.bU, aI m1.bV, aI m1.bY, aI m1.align, .slice m1.A m1.data.length m1.c] 57 (0, 0)) : Nat × Obj)
abbrev Cm := fun z1 (x : b_) gl dn bg i bc z10 z13 => ((fV z1 x gl dn) ++ [(9, ay x.img.at0), (10, aC bg ((jQ x i).length) bc), (12, aC (z10 + 2) 0 0), (14, aB z13), (45, .slice x.A x.ss.length x.c), (46, ay x.ss.length), (47, ay i)] : Slots)
abbrev GI := fun z1 (x : b_) gl dn g3 i (m1 : kL) cap3 g2 cap2 z10 => ((fV z1 x gl dn) ++ [(9, ay x.img.at0), (10, aC g3 (((jQ x i).length) + m1.data.length) cap3), (11, aC g2 (i + 1) cap2), (12, aC (z10 + 2) 0 0), (45, .slice x.A x.ss.length x.c), (46, ay x.ss.length)] : Slots)
abbrev nK := fun z1 (x : b_) gl dn bg gt dB i bc pg pc => ((fV z1 x gl dn) ++ [(9, ay x.img.at0), (10, aC bg ((g_ x gt dB i).length) bc), (11, aC pg x.ss.length pc)] : Slots)
abbrev mY := fun z28 (x : b_) gt dB i => ((z28, .cells #[ay (x.img.at0 + (g_ x gt dB i).length)] 3 (0, 0)) : Nat × Obj)
abbrev uz := fun z1 (x : b_) gl dn bg gt dB i bc pg pc g5 cap5 ng nc z26 => ((nK z1 x gl dn bg gt dB i bc pg pc) ++ [(12, aC g5 (i + 1) cap5), (15, aC ng i nc), (17, aB z26), (64, aC gl (x.ps.length + 2) dn), (65, ay (x.ps.length + 2)), (66, ay i)] : Slots)
abbrev yO := fun z1 (x : b_) gl dn cg gt dB i cc pg pc rg rc => ((fV z1 x gl dn) ++ [(9, ay x.img.at0), (10, aC cg ((g_ x gt dB (i + 1)).length) cc), (11, aC pg x.ss.length pc), (12, aC rg (i + 1) rc)] : Slots)
abbrev yh := fun z1 (x : b_) gl dn cg gt dB i cc pg pc rg rc g10 BU => ((yO z1 x gl dn cg gt dB i cc pg pc rg rc) ++ [(15, aC g10 (i + 1) BU), (64, aC gl (x.ps.length + 2) dn), (65, ay (x.ps.length + 2))] : Slots)
abbrev uZ := fun z1 (x : b_) gl dn bg gt dB bc pg pc qg qc => ((fV z1 x gl dn) ++ [(9, ay x.img.at0), (10, aC bg ((g_ x gt dB (x.ps.length + 2)).length) bc), (11, aC pg x.ss.length pc), (12, aC qg (x.ps.length + 2) qc)] : Slots)
abbrev kK := fun z1 gl (x : b_) dn bg gt dB bc pg pc qg qc gp gJ => ([(1, aB z1), (8, aC gl (x.ps.length + 2) dn), (10, aC bg ((g_ x gt dB (x.ps.length + 2)).length) bc), (11, aC pg x.ss.length pc), (12, aC qg (x.ps.length + 2) qc), (19, aC gp x.img.names.length gJ)] : Slots)
abbrev Bc := fun z1 gl (x : b_) dn bg gt dB bc pg pc qg qc gp gJ ug i uc => ((kK z1 gl x dn bg gt dB bc pg pc qg qc gp gJ) ++ [(20, aC ug ((kT x i).length) uc), (115, .slice x.A x.ss.length x.c), (116, ay x.ss.length), (117, ay i)] : Slots)
abbrev yj := fun z48 (m12 : kL) => ((z48, .cells #[bn m12.ty, bn m12.flags, aI m12.bU, aI m12.bV, aI m12.bY, aI m12.align, .slice m12.A m12.data.length m12.c] 57 (0, 0)) : Nat × Obj)
abbrev Fg := fun z1 gl (x : b_) dn bg gt dB bc pg pc qg qc gp gJ i ug uc (m12 : kL) => ((kK z1 gl x dn bg gt dB bc pg pc qg qc gp gJ) ++ [(115, .slice x.A x.ss.length x.c), (116, ay x.ss.length), (117, ay i), (122, aC ug ((kT x i).length) uc), (123, .agg #[.bool x.wide, .bool x.big, aX x.abi, aX x.aH, .int .i64 x.ty, .int .i64 x.machine, aI x.entry, .slice x.A x.ss.length x.c, .slice x.B x.ps.length x.d]), (124, .agg #[bn m12.ty, bn m12.flags, aI m12.bU, aI m12.bV, aI m12.bY, aI m12.align, .slice m12.A m12.data.length m12.c])] : Slots)
abbrev kJ := fun z1 pg (x : b_) pc qg qc gp gJ => ([(1, aB z1), (11, aC pg x.ss.length pc), (12, aC qg (x.ps.length + 2) qc), (19, aC gp x.img.names.length gJ)] : Slots)
abbrev Ba := fun z1 pg (x : b_) pc qg qc gp gJ ug i uc gl dn => ((kJ z1 pg x pc qg qc gp gJ) ++ [(20, aC ug ((nC x i).length) uc), (135, aC gl (x.ps.length + 2) dn), (136, ay (x.ps.length + 2)), (137, ay i)] : Slots)
abbrev Lp := fun z1 pg (x : b_) pc qg qc gp gJ i z57 gl dn ug uc => ((kJ z1 pg x pc qg qc gp gJ) ++ [(23, ay i), (24, aB z57), (135, aC gl (x.ps.length + 2) dn), (136, ay (x.ps.length + 2)), (137, ay i), (142, aC ug ((nC x i).length) uc), (143, .agg #[.bool x.wide, .bool x.big, aX x.abi, aX x.aH, .int .i64 x.ty, .int .i64 x.machine, aI x.entry, .slice x.A x.ss.length x.c, .slice x.B x.ps.length x.d])] : Slots)
abbrev Fh := fun (x : b_) => ((143, .agg #[.bool x.wide, .bool x.big, aX x.abi, aX x.aH, .int .i64 x.ty, .int .i64 x.machine, aI x.entry, .slice x.A x.ss.length x.c, .slice x.B x.ps.length x.d]) : Nat × Value)
theorem QG (x : b_) (w0 : World) (h : x.At w0) (ok : x.Ok) :
  Calls Tryd.prog 36 #[x.val] w0 fun e w' => ∃ g cap cur g2 cap2 mX g3 cap3 vg, e = .returned (.tuple #[aC g x.img.file.length cap, aC g2 x.ss.length cap2, aC g3 (x.ps.length + 2) cap3]) ∧ Below w0.heap.size w0 w' ∧
   Own w0.heap.size w' 5 1 g x.img.file.length cap cur (x.img.file.map Bv) ∧ Own w0.heap.size w' 3 1 g2 x.ss.length cap2 mX ((List.range x.ss.length).map (fun j => sJ (x.img.kN j))) ∧ Own w0.heap.size w' 3 1 g3 (x.ps.length + 2) cap3 vg ((List.range (x.ps.length + 2)).map (fun j => sJ (x.img.iK j))) := by
 have zl := b_.ok ok h
 have hk1 := ok.dA; have hk2 := ok.parts; have hk3 := zl.sZ; have hk4 := zl.Dh; have hk5 := zl.Di; have hk6 := zl.LQ; have hk7 := zl.GU; have hk8 := zl.length_le
 have hsz : gV x.wide ≤ 64 ∧ iF x.wide ≤ 64 ∧ iV x.wide ≤ 64 := by unfold gV iF iV; cases x.wide <;> decide
 have hat0 := SV x
 have hmul : iF x.wide * x.ss.length ≤ 64 * 100 := Nat.mul_le_mul hsz.2.1 hk1
 obtain ⟨w, hw⟩ : ∃ w, w0 = w := ⟨_, rfl⟩
 have HM : Mm [] w0 w [] := hw ▸ Mm.start w0
 conv => arg 4; rw [hw]
 clear hw
 refine cu Tryd.func36 rfl Tryd.ntmps36 [(0, .agg #[.bool x.wide, .bool x.big, aX x.abi, aX x.aH, .int .i64 x.ty, .int .i64 x.machine, aI x.entry, .slice x.A x.ss.length x.c, .slice x.B x.ps.length x.d])] (by kernel_rfl) (Nat.le_of_ble_eq_true rfl) ?_
 intro a HF
 refine aO ?_
 obtain ⟨z1, hz1⟩ : ∃ z, w.heap.size = z := ⟨_, rfl⟩
 refine aT HF HM hz1 4 [] [(1, aB z1)] [dI z1 x] (by kernel_rfl) fun a w HF HM => ?_
 clear hz1
 refine dF ?_
 refine wp_pure HF HM rfl 2 [[0]] [(1, aB z1), (27, .bool x.wide)] (by kernel_rfl) fun a HF => ?_
 refine bf HF (by kernel_rfl) 64 #[.bool x.wide] (by kernel_rfl) (fun w => by kernel_rfl) (Calls.mono (Jd x.wide w) ?_)
 rintro _ w1 ⟨rfl, hb⟩
 replace HM := HM.call hb
 clear hb
 refine ⟨_, rfl, ?_⟩; clear HF; intro a HF
 refine wp_pure HF HM rfl 7 [] [(1, aB z1), (5, ay (gV x.wide)), (6, ay (iF x.wide))] (by kernel_rfl) fun a HF => ?_
 refine dF ?_
 refine wp_pure HF HM rfl 1 [[0]] [(1, aB z1), (5, ay (gV x.wide)), (6, ay (iF x.wide)), (32, .agg #[.bool x.wide, .bool x.big, aX x.abi, aX x.aH, .int .i64 x.ty, .int .i64 x.machine, aI x.entry, .slice x.A x.ss.length x.c, .slice x.B x.ps.length x.d])] (by kernel_rfl) fun a HF => ?_
 refine bf HF (by kernel_rfl) 38 #[.agg #[.bool x.wide, .bool x.big, aX x.abi, aX x.aH, .int .i64 x.ty, .int .i64 x.machine, aI x.entry, .slice x.A x.ss.length x.c, .slice x.B x.ps.length x.d]] (by kernel_rfl) (fun w => by kernel_rfl) (Calls.mono (R_ x w1 (h.below HM.below) (by omega) (by omega)) ?_)
 rintro _ w2 ⟨gl, dn, curl, gt, dB, jo, rfl, hb, hol, hot, hne⟩
 replace HM : Mm [] w0 w2 [(gl, .cells curl 46 (0, 0)), (gt, .cells jo 5 (0, 0)), dI z1 x] := HM.QV hb hot.new hot.obj hol.new hol.obj hne
 have hal := CG x gt dB
 refine ⟨_, rfl, ?_⟩; clear HF; intro a HF
 refine wp_pure HF HM rfl 1 [] [(1, aB z1), (5, ay (gV x.wide)), (6, ay (iF x.wide)), (8, aC gl (x.ps.length + 2) dn)] (by kernel_rfl) fun a HF => ?_
 refine dF ?_
 refine wp_pure HF HM rfl 5 [[0]] ((fV z1 x gl dn) ++ [(34, ay (gV x.wide)), (35, ay (iF x.wide)), (38, ay x.ss.length)]) (by kernel_rfl) fun a HF => ?_
 refine wp_pure HF HM rfl 1 [] ((fV z1 x gl dn) ++ [(34, ay (gV x.wide)), (39, aF (IntKind.i64.wrap ((((iF x.wide) : Nat) : Int) * ((x.ss.length : Nat) : Int))))]) (by kernel_rfl) fun a HF => ?_
 rw [show IntKind.i64.wrap ((((iF x.wide) : Nat) : Int) * ((x.ss.length : Nat) : Int)) = ((((iF x.wide * x.ss.length)) : Nat) : Int) from (IntWalk.i64_in _ (by rw [← Int.natCast_mul]; omega)).trans (Int.natCast_mul _ _).symm] at HF
 refine wp_pure HF HM rfl 1 [] ((fV z1 x gl dn) ++ [(40, aF (IntKind.i64.wrap ((((gV x.wide) : Nat) : Int) + ((((iF x.wide * x.ss.length)) : Nat) : Int))))]) (by kernel_rfl) fun a HF => ?_
 rw [show IntKind.i64.wrap ((((gV x.wide) : Nat) : Int) + ((((iF x.wide * x.ss.length)) : Nat) : Int)) = ((x.img.at0 : Nat) : Int) from (IntWalk.i64_in _ (by omega)).trans (by omega)] at HF
 refine wp_pure HF HM rfl 1 [] ((fV z1 x gl dn) ++ [(9, ay x.img.at0)]) (by kernel_rfl) fun a HF => ?_
 refine dF ?_
 obtain ⟨z10, E5⟩ : ∃ z, w2.heap.size = z := ⟨_, rfl⟩
 refine aT HF HM E5 6 [] ((fV z1 x gl dn) ++ [(9, ay x.img.at0), (10, aC z10 0 0), (11, aC (z10 + 1) 0 0), (12, aC (z10 + 2) 0 0)]) [((z10 + 2), .cells #[] 3 (0, 0)), ((z10 + 1), .cells #[] 3 (0, 0)), (z10, .cells #[] 5 (0, 0)), (gl, .cells curl 46 (0, 0)), (gt, .cells jo 5 (0, 0)), dI z1 x] (by kernel_rfl) fun a w HF HM => ?_
 clear E5
 refine aA ?_
 refine wp_seq ?_
 refine aO ?_
 refine wp_pure HF HM rfl 4 [[0]] ((fV z1 x gl dn) ++ [(9, ay x.img.at0), (10, aC z10 0 0), (11, aC (z10 + 1) 0 0), (12, aC (z10 + 2) 0 0), (45, .slice x.A x.ss.length x.c), (46, ay x.ss.length), (47, aF 0)]) (by kernel_rfl) fun a HF => ?_
 refine aA ?_
 refine wp_block ?_
 refine kC (x.ss.length) (fun i a w => (∃ bg : Nat, ∃ bc : Nat, ∃ bk : Array Value, ∃ pg : Nat, ∃ pc : Nat, ∃ pk : Array Value, (bk.toList.take (((jQ x i).length) * 1) = (jQ x i).map Bv) ∧ (bk.size = bc * 1) ∧ (((jQ x i).length) ≤ bc) ∧ (bc ≤ maxLen) ∧ (pk.toList.take (i * 1) = (List.range i).map (fun j => sJ (x.img.kN j))) ∧ (pk.size = pc * 1) ∧ (i ≤ pc) ∧ (pc ≤ maxLen) ∧ Mm [] w0 w [(pg, .cells pk 3 (0, 0)), (bg, .cells bk 5 (0, 0)), ((z10 + 2), .cells #[] 3 (0, 0)), (gl, .cells curl 46 (0, 0)), (gt, .cells jo 5 (0, 0)), dI z1 x] ∧ Fr 159 a (GK z1 x gl dn bg i bc pg pc z10))) ?_ ?_ ?_
 ·exact ⟨z10, 0, #[], (z10 + 1), 0, #[], rfl, rfl, Nat.le_refl _, by unfold maxLen; omega, rfl, rfl, Nat.le_refl _, by unfold maxLen; omega, (HM.pick [1, 2, 0, 3, 4, 5] [((z10 + 1), .cells #[] 3 (0, 0)), (z10, .cells #[] 5 (0, 0)), ((z10 + 2), .cells #[] 3 (0, 0)), (gl, .cells curl 46 (0, 0)), (gt, .cells jo 5 (0, 0)), dI z1 x] rfl (by decide)), HF.sub ((fV z1 x gl dn) ++ [(9, ay x.img.at0), (10, aC z10 ((jQ x 0).length) 0), (11, aC (z10 + 1) 0 0), (12, aC (z10 + 2) 0 0), (45, .slice x.A x.ss.length x.c), (46, ay x.ss.length), (47, aF 0)]) (by kernel_rfl)⟩
 ·intro i a w KX hi hI KR
  obtain ⟨bg, bc, bk, pg, pc, pk, C9, Jq, GL, LP, ptk, psz, pnc, pcm, HM, HF⟩ := hI
  have hpl := Md x i; have hsl := OW x i
  refine aO ?_
  refine wp_pure HF HM rfl 1 [] ((GK z1 x gl dn bg i bc pg pc z10) ++ [(48, .bool (decide (((i : Nat) : Int) < ((x.ss.length : Nat) : Int))))]) (by kernel_rfl) fun a HF => ?_
  refine aA ?_
  refine wp_seq ?_
  rw [show decide (((i : Nat) : Int) < ((x.ss.length : Nat) : Int)) = true from dK (by omega)] at HF
  refine bD HF rfl ?_
  refine wp_skip ?_
  repeat first | refine aK ?_ | refine aP ?_
  refine wp_seq ?_
  refine wp_block ?_
  refine aO ?_
  obtain ⟨m1, hm1⟩ : ∃ m, x.ss[i]? = some m := ⟨_, List.getElem?_eq_getElem (by omega)⟩
  have SS := ok.seg m1 (List.mem_of_getElem? hm1)
  have hmd_m1 := SS.data
  have KZ := h.seg m1 (List.mem_of_getElem? hm1)
  have hmt_m1 := KZ.ty; have hmf_m1 := KZ.flags
  refine dG HF (by kernel_rfl) (.pointer (Option.map (fun q : Addr => q.add (i * 7)) x.A)) (by kernel_rfl) (fD Tryd.underlying23 (by kernel_rfl) rfl i rfl rfl (by omega) (ji (ku (f := kL.cells) (k := 7) (fun _ => rfl) (HM.row h.dA) i hm1) (Nat.zero_lt_succ _))) fun a HF => ?_
  refine dG HF (by kernel_rfl) (.agg #[bn m1.ty, bn m1.flags, aI m1.bU, aI m1.bV, aI m1.bY, aI m1.align, .slice m1.A m1.data.length m1.c]) (by kernel_rfl) (lJ rfl rfl (ku (f := kL.cells) (k := 7) (fun _ => rfl) (HM.row h.dA) i hm1) (Nat.zero_lt_succ _) Tryd.underlying57 rfl (by kernel_rfl)) fun a HF => ?_
  obtain ⟨z13, KP⟩ : ∃ z, w.heap.size = z := ⟨_, rfl⟩
  refine aT HF HM KP 2 [[6]] ((fV z1 x gl dn) ++ [(9, ay x.img.at0), (10, aC bg ((jQ x i).length) bc), (11, aC pg i pc), (12, aC (z10 + 2) 0 0), (14, aB z13), (45, .slice x.A x.ss.length x.c), (46, ay x.ss.length), (47, ay i)]) [yP z13 m1, (pg, .cells pk 3 (0, 0)), (bg, .cells bk 5 (0, 0)), ((z10 + 2), .cells #[] 3 (0, 0)), (gl, .cells curl 46 (0, 0)), (gt, .cells jo 5 (0, 0)), dI z1 x] (by kernel_rfl) fun a w HF HM => ?_
  clear KP
  refine dF ?_
  refine wp_pure HF HM rfl 5 [] ((Cm z1 x gl dn bg i bc z10 z13) ++ [(51, aC pg i pc), (55, aF (IntKind.i64.wrap (((x.img.at0 : Nat) : Int) + ((((jQ x i).length) : Nat) : Int))))]) (by kernel_rfl) fun a HF => ?_
  rw [show IntKind.i64.wrap (((x.img.at0 : Nat) : Int) + ((((jQ x i).length) : Nat) : Int)) = (((x.img.kN i) : Nat) : Int) from (IntWalk.i64_in _ (by omega)).trans (by omega)] at HF
  obtain ⟨xq, EZ⟩ : ∃ z, w.heap.size = z := ⟨_, rfl⟩
  refine aT HF HM EZ 1 [] ((Cm z1 x gl dn bg i bc z10 z13) ++ [(51, aC pg i pc), (56, aC xq 1 1)]) [(xq, .cells #[ay (x.img.kN i)] 3 (0, 0)), yP z13 m1, (pg, .cells pk 3 (0, 0)), (bg, .cells bk 5 (0, 0)), ((z10 + 2), .cells #[] 3 (0, 0)), (gl, .cells curl 46 (0, 0)), (gt, .cells jo 5 (0, 0)), dI z1 x] (by kernel_rfl) fun a w HF HM => ?_
  clear EZ
  refine fZ HF HM rfl _ _ 66 66 rfl rfl 3 (z := aF 0) (size := 1) (bytes := 8) Tryd.underlying66 (by kernel_rfl) rfl (by decide) 2 pg i pc pk rfl rfl pnc pcm psz ((List.range i).map (fun j => sJ (x.img.kN j))) ptk (aC xq 1 1) 1 [ay (x.img.kN i)] rfl (lW Tryd.underlying66 rfl (by decide) (HM.rowAt (i := 0) rfl) (lu rfl)) (by unfold maxLen; omega) (by omega) ?_
  intro a w3 g2 cap2 mX bT qj hsz2 qQ hcm2 HF2; clear HF HM
  replace qj : mX.toList.take ((i + 1) * 1) = (List.range (i + 1)).map (fun j => sJ (x.img.kN j)) := qj.trans (H8 i)
  have HM : Mm [] w0 w3 [(xq, .cells #[ay (x.img.kN i)] 3 (0, 0)), yP z13 m1, (g2, .cells mX 3 (0, 0)), (bg, .cells bk 5 (0, 0)), ((z10 + 2), .cells #[] 3 (0, 0)), (gl, .cells curl 46 (0, 0)), (gt, .cells jo 5 (0, 0)), dI z1 x] := bT
  have HF := HF2.sub ((Cm z1 x gl dn bg i bc z10 z13) ++ [(57, aC g2 (i + 1) cap2)]) (by kernel_rfl); clear bT HF2
  refine wp_pure HF HM rfl 1 [] ((fV z1 x gl dn) ++ [(9, ay x.img.at0), (10, aC bg ((jQ x i).length) bc), (11, aC g2 (i + 1) cap2), (12, aC (z10 + 2) 0 0), (14, aB z13), (45, .slice x.A x.ss.length x.c), (46, ay x.ss.length), (47, ay i)]) (by kernel_rfl) fun a HF => ?_
  refine aA ?_
  refine wp_region_lit ?_
  refine wp_pure HF HM rfl 3 [[6]] ((fV z1 x gl dn) ++ [(9, ay x.img.at0), (11, aC g2 (i + 1) cap2), (12, aC (z10 + 2) 0 0), (45, .slice x.A x.ss.length x.c), (46, ay x.ss.length), (47, ay i), (58, aC bg ((jQ x i).length) bc), (60, .slice m1.A m1.data.length m1.c)]) (by kernel_rfl) fun a HF => ?_
  refine fZ HF HM rfl _ _ 33 33 rfl rfl 5 (z := aQ 0) (size := 1) (bytes := 1) Tryd.underlying33 (by kernel_rfl) rfl (by decide) 3 bg ((jQ x i).length) bc bk rfl rfl GL LP Jq ((jQ x i).map Bv) C9 (.slice m1.A m1.data.length m1.c) m1.data.length (m1.data.map Bv) rfl (lW Tryd.underlying33 (by simp) (by decide) (HM.row KZ.row) (sS _)) (by unfold maxLen; omega) (by omega) ?_
  intro a w4 g3 cap3 vg bT Ci hsz3 IU Le HF2; clear HF HM
  replace Ci : vg.toList.take ((((jQ x i).length) + m1.data.length) * 1) = (jQ x (i + 1)).map Bv := Ci.trans (by rw [Gw hm1, List.map_append])
  have HM : Mm [] w0 w4 [(xq, .cells #[ay (x.img.kN i)] 3 (0, 0)), yP z13 m1, (g2, .cells mX 3 (0, 0)), (g3, .cells vg 5 (0, 0)), ((z10 + 2), .cells #[] 3 (0, 0)), (gl, .cells curl 46 (0, 0)), (gt, .cells jo 5 (0, 0)), dI z1 x] := bT
  have HF := HF2.sub ((fV z1 x gl dn) ++ [(9, ay x.img.at0), (11, aC g2 (i + 1) cap2), (12, aC (z10 + 2) 0 0), (45, .slice x.A x.ss.length x.c), (46, ay x.ss.length), (47, ay i), (61, aC g3 (((jQ x i).length) + m1.data.length) cap3)]) (by kernel_rfl); clear bT HF2
  refine wp_pure HF HM rfl 1 [] ((GI z1 x gl dn g3 i m1 cap3 g2 cap2 z10) ++ [(47, ay i)]) (by kernel_rfl) fun a HF => ?_
  refine wpList_nil ?_
  repeat first | refine aK ?_ | refine aP ?_
  refine wp_region_lit ?_
  refine wp_pure HF HM rfl 1 [] ((GI z1 x gl dn g3 i m1 cap3 g2 cap2 z10) ++ [(62, aF (IntKind.i64.wrap (((i : Nat) : Int) + 1)))]) (by kernel_rfl) fun a HF => ?_
  rw [show IntKind.i64.wrap (((i : Nat) : Int) + 1) = (((i + 1) : Nat) : Int) from (IntWalk.i64_in _ (by omega)).trans (by omega)] at HF
  refine wp_pure HF HM rfl 1 [] ((fV z1 x gl dn) ++ [(9, ay x.img.at0), (10, aC g3 (((jQ x i).length) + m1.data.length) cap3), (11, aC g2 (i + 1) cap2), (12, aC (z10 + 2) 0 0), (45, .slice x.A x.ss.length x.c), (46, ay x.ss.length), (47, ay (i + 1))]) (by kernel_rfl) fun a HF => ?_
  refine wpList_nil ?_
  repeat first | refine aK ?_ | refine aP ?_
  rw [show (((jQ x i).length) + m1.data.length) = ((jQ x (i + 1)).length) from by rw [Gw hm1, List.length_append]] at HF Ci IU
  exact KR _ _ (⟨g3, cap3, vg, g2, cap2, mX, Ci, hsz3, IU, Le, qj, hsz2, qQ, hcm2, (HM.pick [2, 3, 4, 5, 6, 7] [(g2, .cells mX 3 (0, 0)), (g3, .cells vg 5 (0, 0)), ((z10 + 2), .cells #[] 3 (0, 0)), (gl, .cells curl 46 (0, 0)), (gt, .cells jo 5 (0, 0)), dI z1 x] rfl (by decide)), HF.sub ((fV z1 x gl dn) ++ [(9, ay x.img.at0), (10, aC g3 ((jQ x (i + 1)).length) cap3), (11, aC g2 (i + 1) cap2), (12, aC (z10 + 2) 0 0), (45, .slice x.A x.ss.length x.c), (46, ay x.ss.length), (47, ay (i + 1))]) (by kernel_rfl)⟩)
 ·intro a w KX hI
  obtain ⟨bg, bc, bk, pg, pc, pk, C9, Jq, GL, LP, ptk, psz, pnc, pcm, HM, HF⟩ := hI
  refine aO ?_
  refine wp_pure HF HM rfl 1 [] ((fV z1 x gl dn) ++ [(9, ay x.img.at0), (10, aC bg ((jQ x x.ss.length).length) bc), (11, aC pg x.ss.length pc), (12, aC (z10 + 2) 0 0), (45, .slice x.A x.ss.length x.c), (46, ay x.ss.length), (47, ay x.ss.length), (48, .bool (decide (((x.ss.length : Nat) : Int) < ((x.ss.length : Nat) : Int))))]) (by kernel_rfl) fun a HF => ?_
  refine aA ?_
  refine wp_seq ?_
  rw [show decide (((x.ss.length : Nat) : Int) < ((x.ss.length : Nat) : Int)) = false from cZ (by omega)] at HF
  refine aY HF rfl ?_
  refine wp_exit ?_
  repeat (first | refine eH ?_ | refine dY rfl ?_)
  refine gZ ?_
  repeat first | refine aK ?_ | refine aP ?_
  refine aO ?_
  obtain ⟨z22, hz22⟩ : ∃ z, w.heap.size = z := ⟨_, rfl⟩
  refine aT HF HM hz22 2 [] ((fV z1 x gl dn) ++ [(9, ay x.img.at0), (10, aC bg ((jQ x x.ss.length).length) bc), (11, aC pg x.ss.length pc), (12, aC (z10 + 2) 0 0), (15, aC z22 0 0)]) [(z22, .cells #[] 9 (0, 0)), (pg, .cells pk 3 (0, 0)), (bg, .cells bk 5 (0, 0)), ((z10 + 2), .cells #[] 3 (0, 0)), (gl, .cells curl 46 (0, 0)), (gt, .cells jo 5 (0, 0)), dI z1 x] (by kernel_rfl) fun a w HF HM => ?_
  clear hz22
  refine aA ?_
  refine wp_seq ?_
  refine aO ?_
  refine wp_pure HF HM rfl 3 [] ((fV z1 x gl dn) ++ [(9, ay x.img.at0), (10, aC bg ((jQ x x.ss.length).length) bc), (11, aC pg x.ss.length pc), (12, aC (z10 + 2) 0 0), (15, aC z22 0 0), (64, aC gl (x.ps.length + 2) dn), (65, ay (x.ps.length + 2)), (66, aF 0)]) (by kernel_rfl) fun a HF => ?_
  refine aA ?_
  refine wp_block ?_
  refine kC ((x.ps.length + 2)) (fun i a w => (∃ bg : Nat, ∃ bc : Nat, ∃ bk : Array Value, ∃ qg : Nat, ∃ qc : Nat, ∃ qk : Array Value, ∃ ng : Nat, ∃ nc : Nat, ∃ nk : Array Value, (bk.toList.take (((g_ x gt dB i).length) * 1) = (g_ x gt dB i).map Bv) ∧ (bk.size = bc * 1) ∧ (((g_ x gt dB i).length) ≤ bc) ∧ (bc ≤ maxLen) ∧ (qk.toList.take (i * 1) = (List.range i).map (fun j => sJ (x.img.iK j))) ∧ (qk.size = qc * 1) ∧ (i ≤ qc) ∧ (qc ≤ maxLen) ∧ (nk.toList.take (i * 1) = ((allM x gt dB).take i).map (fun p => lq p.name)) ∧ (nk.size = nc * 1) ∧ (i ≤ nc) ∧ (nc ≤ maxLen) ∧ Mm [] w0 w [(ng, .cells nk 9 (0, 0)), (qg, .cells qk 3 (0, 0)), (bg, .cells bk 5 (0, 0)), (pg, .cells pk 3 (0, 0)), (gl, .cells curl 46 (0, 0)), (gt, .cells jo 5 (0, 0)), dI z1 x] ∧ Fr 159 a [(1, aB z1), (5, ay (gV x.wide)), (8, aC gl (x.ps.length + 2) dn), (9, ay x.img.at0), (10, aC bg ((g_ x gt dB i).length) bc), (11, aC pg x.ss.length pc), (12, aC qg i qc), (15, aC ng i nc), (64, aC gl (x.ps.length + 2) dn), (65, ay (x.ps.length + 2)), (66, ay i)])) ?_ ?_ ?_
  rw [NU, ← OL x gt dB] at HF C9 GL
  ·exact ⟨bg, bc, bk, (z10 + 2), 0, #[], z22, 0, #[], C9, Jq, GL, LP, rfl, rfl, Nat.le_refl _, by unfold maxLen; omega, rfl, rfl, Nat.le_refl _, by unfold maxLen; omega, (HM.pick [0, 3, 2, 1, 4, 5, 6] [(z22, .cells #[] 9 (0, 0)), ((z10 + 2), .cells #[] 3 (0, 0)), (bg, .cells bk 5 (0, 0)), (pg, .cells pk 3 (0, 0)), (gl, .cells curl 46 (0, 0)), (gt, .cells jo 5 (0, 0)), dI z1 x] rfl (by decide)), HF.sub ((fV z1 x gl dn) ++ [(9, ay x.img.at0), (10, aC bg ((g_ x gt dB 0).length) bc), (11, aC pg x.ss.length pc), (12, aC (z10 + 2) 0 0), (15, aC z22 0 0), (64, aC gl (x.ps.length + 2) dn), (65, ay (x.ps.length + 2)), (66, aF 0)]) (by kernel_rfl)⟩
  ·intro i a w KX hi hI KR
   obtain ⟨bg, bc, bk, qg, qc, qk, ng, nc, nk, C9, Jq, GL, LP, Aq, Gx, EI, Gy, ntk, nsz, nnc, ncm, HM, HF⟩ := hI
   have hsl := Hr x gt dB i zl; have hsl2 := Hr x gt dB (i + 1) zl; have hat9 := zl.LQ
   refine aO ?_
   refine wp_pure HF HM rfl 1 [] ((nK z1 x gl dn bg gt dB i bc pg pc) ++ [(12, aC qg i qc), (15, aC ng i nc), (64, aC gl (x.ps.length + 2) dn), (65, ay (x.ps.length + 2)), (66, ay i), (67, .bool (decide (((i : Nat) : Int) < (((x.ps.length + 2) : Nat) : Int))))]) (by kernel_rfl) fun a HF => ?_
   refine aA ?_
   refine wp_seq ?_
   rw [show decide (((i : Nat) : Int) < (((x.ps.length + 2) : Nat) : Int)) = true from dK (by omega)] at HF
   refine bD HF rfl ?_
   refine wp_skip ?_
   repeat first | refine aK ?_ | refine aP ?_
   refine wp_seq ?_
   refine wp_block ?_
   refine aO ?_
   refine wp_pure HF HM rfl 1 [] ((nK z1 x gl dn bg gt dB i bc pg pc) ++ [(12, aC qg i qc), (15, aC ng i nc), (64, aC gl (x.ps.length + 2) dn), (65, ay (x.ps.length + 2)), (66, ay i), (68, ay i)]) (by kernel_rfl) fun a HF => ?_
   obtain ⟨m4, hm4⟩ : ∃ m, (allM x gt dB)[i]? = some m := ⟨_, List.getElem?_eq_getElem (by omega)⟩
   have PW := List.mem_of_getElem? hm4
   have E_ := P9 h ok m4 PW
   have hmd_m4 := E_.data; have hmt_m4 := E_.ty; have hmf_m4 := E_.flags; have hml_m4 := E_.link; have hmi_m4 := E_.info
   refine dG HF (by kernel_rfl) (.pointer (Option.map (fun q : Addr => q.add (i * 10)) (some ⟨gl, 0, none⟩))) (by kernel_rfl) (fD Tryd.underlying24 (by kernel_rfl) rfl i rfl rfl (by omega) (Option.some_ne_none _)) fun a HF => ?_
   refine dG HF (by kernel_rfl) (.agg #[.string (⟨m4.name.toArray⟩), bn m4.ty, bn m4.flags, aI m4.addr, bn m4.link, bn m4.info, aI m4.align, aI m4.ent, aI m4.size, .slice m4.A m4.data.length m4.c]) (by kernel_rfl) (lJ rfl rfl (ku (f := dP.cells) (k := 10) (fun _ => rfl) (HM.lZ (i := 4) rfl hol.tk) i hm4) (Nat.zero_lt_succ _) Tryd.underlying46 rfl (by kernel_rfl)) fun a HF => ?_
   obtain ⟨z26, hz26⟩ : ∃ z, w.heap.size = z := ⟨_, rfl⟩
   refine aT HF HM hz26 3 [[7]] ((nK z1 x gl dn bg gt dB i bc pg pc) ++ [(12, aC qg i qc), (15, aC ng i nc), (16, ay i), (17, aB z26), (64, aC gl (x.ps.length + 2) dn), (65, ay (x.ps.length + 2)), (66, ay i)]) [(z26, .cells #[.string (⟨m4.name.toArray⟩), bn m4.ty, bn m4.flags, aI m4.addr, bn m4.link, bn m4.info, aI m4.align, aI m4.ent, aI m4.size, .slice m4.A m4.data.length m4.c] 46 (0, 0)), (ng, .cells nk 9 (0, 0)), (qg, .cells qk 3 (0, 0)), (bg, .cells bk 5 (0, 0)), (pg, .cells pk 3 (0, 0)), (gl, .cells curl 46 (0, 0)), (gt, .cells jo 5 (0, 0)), dI z1 x] (by kernel_rfl) fun a w HF HM => ?_
   clear hz26
   refine dF ?_
   refine wp_pure HF HM rfl 5 [] ((nK z1 x gl dn bg gt dB i bc pg pc) ++ [(15, aC ng i nc), (16, ay i), (17, aB z26), (64, aC gl (x.ps.length + 2) dn), (65, ay (x.ps.length + 2)), (66, ay i), (71, aC qg i qc), (75, aF (IntKind.i64.wrap (((x.img.at0 : Nat) : Int) + ((((g_ x gt dB i).length) : Nat) : Int))))]) (by kernel_rfl) fun a HF => ?_
   rw [show IntKind.i64.wrap (((x.img.at0 : Nat) : Int) + ((((g_ x gt dB i).length) : Nat) : Int)) = (((x.img.at0 + (g_ x gt dB i).length) : Nat) : Int) from (IntWalk.i64_in _ (by omega)).trans (by omega)] at HF
   obtain ⟨z28, hz28⟩ : ∃ z, w.heap.size = z := ⟨_, rfl⟩
   refine aT HF HM hz28 1 [] ((nK z1 x gl dn bg gt dB i bc pg pc) ++ [(15, aC ng i nc), (16, ay i), (17, aB z26), (64, aC gl (x.ps.length + 2) dn), (65, ay (x.ps.length + 2)), (66, ay i), (71, aC qg i qc), (76, aC z28 1 1)]) [mY z28 x gt dB i, (z26, .cells #[.string (⟨m4.name.toArray⟩), bn m4.ty, bn m4.flags, aI m4.addr, bn m4.link, bn m4.info, aI m4.align, aI m4.ent, aI m4.size, .slice m4.A m4.data.length m4.c] 46 (0, 0)), (ng, .cells nk 9 (0, 0)), (qg, .cells qk 3 (0, 0)), (bg, .cells bk 5 (0, 0)), (pg, .cells pk 3 (0, 0)), (gl, .cells curl 46 (0, 0)), (gt, .cells jo 5 (0, 0)), dI z1 x] (by kernel_rfl) fun a w HF HM => ?_
   clear hz28
   refine fZ HF HM rfl _ _ 66 66 rfl rfl 3 (z := aF 0) (size := 1) (bytes := 8) Tryd.underlying66 (by kernel_rfl) rfl (by decide) 3 qg i qc qk rfl rfl EI Gy Gx ((List.range i).map (fun j => sJ (x.img.iK j))) Aq (aC z28 1 1) 1 [ay (x.img.at0 + (g_ x gt dB i).length)] rfl (lW Tryd.underlying66 rfl (by decide) (HM.rowAt (i := 0) rfl) (lu rfl)) (by unfold maxLen; omega) (by omega) ?_
   intro a w5 g5 cap5 rW bT rQ hsz5 x9 Fa HF2; clear HF HM
   have HM : Mm [] w0 w5 [mY z28 x gt dB i, (z26, .cells #[.string (⟨m4.name.toArray⟩), bn m4.ty, bn m4.flags, aI m4.addr, bn m4.link, bn m4.info, aI m4.align, aI m4.ent, aI m4.size, .slice m4.A m4.data.length m4.c] 46 (0, 0)), (ng, .cells nk 9 (0, 0)), (g5, .cells rW 3 (0, 0)), (bg, .cells bk 5 (0, 0)), (pg, .cells pk 3 (0, 0)), (gl, .cells curl 46 (0, 0)), (gt, .cells jo 5 (0, 0)), dI z1 x] := bT
   have HF := HF2.sub ((nK z1 x gl dn bg gt dB i bc pg pc) ++ [(15, aC ng i nc), (16, ay i), (17, aB z26), (64, aC gl (x.ps.length + 2) dn), (65, ay (x.ps.length + 2)), (66, ay i), (77, aC g5 (i + 1) cap5)]) (by kernel_rfl); clear bT HF2
   refine wp_pure HF HM rfl 1 [] ((nK z1 x gl dn bg gt dB i bc pg pc) ++ [(12, aC g5 (i + 1) cap5), (15, aC ng i nc), (16, ay i), (17, aB z26), (64, aC gl (x.ps.length + 2) dn), (65, ay (x.ps.length + 2)), (66, ay i)]) (by kernel_rfl) fun a HF => ?_
   refine aA ?_
   refine wp_seq ?_
   refine aO ?_
   refine wp_pure HF HM rfl 2 [] ((uz z1 x gl dn bg gt dB i bc pg pc g5 cap5 ng nc z26) ++ [(79, .bool (((i : Nat) : Int) == 0))]) (by kernel_rfl) fun a HF => ?_
   refine aA ?_
   refine pJ (fun a w => (∃ rg : Nat, ∃ rc : Nat, ∃ rk : Array Value, (rk.toList.take ((i + 1) * 1) = (List.range (i + 1)).map (fun j => sJ (x.img.iK j))) ∧ (rk.size = rc * 1) ∧ ((i + 1) ≤ rc) ∧ (rc ≤ maxLen) ∧ Mm [] w0 w [(rg, .cells rk 3 (0, 0)), mY z28 x gt dB i, (z26, .cells #[.string (⟨m4.name.toArray⟩), bn m4.ty, bn m4.flags, aI m4.addr, bn m4.link, bn m4.info, aI m4.align, aI m4.ent, aI m4.size, .slice m4.A m4.data.length m4.c] 46 (0, 0)), (ng, .cells nk 9 (0, 0)), (bg, .cells bk 5 (0, 0)), (pg, .cells pk 3 (0, 0)), (gl, .cells curl 46 (0, 0)), (gt, .cells jo 5 (0, 0)), dI z1 x] ∧ Fr 159 a ((nK z1 x gl dn bg gt dB i bc pg pc) ++ [(12, aC rg (i + 1) rc), (15, aC ng i nc), (17, aB z26), (64, aC gl (x.ps.length + 2) dn), (65, ay (x.ps.length + 2)), (66, ay i)]))) ?_ ?_
   ·by_cases hc6 : ((i : Nat) : Int) = 0
    ·rw [show (((i : Nat) : Int) == 0) = true from nZ (hc6)] at HF
     refine bD HF rfl ?_
     refine wp_region_lit ?_
     refine wp_pure HF HM rfl 1 [] ((uz z1 x gl dn bg gt dB i bc pg pc g5 cap5 ng nc z26) ++ [(80, aC g5 (i + 1) cap5)]) (by kernel_rfl) fun a HF => ?_
     refine dG HF (by kernel_rfl) (aB g5) (by kernel_rfl) (fD Tryd.underlying66 (k := 1) (by kernel_rfl) rfl 0 rfl rfl (by omega) (Option.some_ne_none _)) ?_
     clear HF; intro a HF; replace HF := HF.sub ((uz z1 x gl dn bg gt dB i bc pg pc g5 cap5 ng nc z26) ++ [(81, aB g5)]) (by kernel_rfl)
     have hi0 : i = 0 := by omega
     refine Ew HF HM rfl 3 _ _ rfl rfl 3 g5 0 rW 3 rfl rfl (aF 0) rfl rfl rfl (by rw [hsz5]; have hq := x9; omega) (by kernel_rfl) ?_
     intro a w6 vZ bT Ld HF2; clear HF HM
     have Qa : vZ.toList.take ((i + 1) * 1) = (((List.range i).map (fun j => sJ (x.img.iK j)) ++ [ay (x.img.at0 + (g_ x gt dB i).length)]) : List Value).set 0 (aF 0) := by rw [Ld, List.take_set, rQ]
     have szs7 : vZ.size = cap5 * 1 := by rw [← Array.length_toList, Ld, List.length_set, Array.length_toList, hsz5]
     have HM : Mm [] w0 w6 [mY z28 x gt dB i, (z26, .cells #[.string (⟨m4.name.toArray⟩), bn m4.ty, bn m4.flags, aI m4.addr, bn m4.link, bn m4.info, aI m4.align, aI m4.ent, aI m4.size, .slice m4.A m4.data.length m4.c] 46 (0, 0)), (ng, .cells nk 9 (0, 0)), (g5, .cells vZ 3 (0, 0)), (bg, .cells bk 5 (0, 0)), (pg, .cells pk 3 (0, 0)), (gl, .cells curl 46 (0, 0)), (gt, .cells jo 5 (0, 0)), dI z1 x] := bT
     have HF := HF2.sub (uz z1 x gl dn bg gt dB i bc pg pc g5 cap5 ng nc z26) (by kernel_rfl); clear bT HF2 Ld
     replace Qa : vZ.toList.take ((i + 1) * 1) = (List.range (i + 1)).map (fun j => sJ (x.img.iK j)) := Qa.trans (by subst hi0; rfl)
     refine wpList_nil ?_
     repeat first | refine aK ?_ | refine aP ?_
     exact ⟨g5, cap5, vZ, Qa, szs7, x9, Fa, (HM.pick [3, 0, 1, 2, 4, 5, 6, 7, 8] [(g5, .cells vZ 3 (0, 0)), mY z28 x gt dB i, (z26, .cells #[.string (⟨m4.name.toArray⟩), bn m4.ty, bn m4.flags, aI m4.addr, bn m4.link, bn m4.info, aI m4.align, aI m4.ent, aI m4.size, .slice m4.A m4.data.length m4.c] 46 (0, 0)), (ng, .cells nk 9 (0, 0)), (bg, .cells bk 5 (0, 0)), (pg, .cells pk 3 (0, 0)), (gl, .cells curl 46 (0, 0)), (gt, .cells jo 5 (0, 0)), dI z1 x] rfl (by decide)), HF.sub (uz z1 x gl dn bg gt dB i bc pg pc g5 cap5 ng nc z26) (by kernel_rfl)⟩
    rw [show (((i : Nat) : Int) == 0) = false from oM (hc6)] at HF
    refine aY HF rfl ?_
    refine wp_skip ?_
    repeat first | refine aK ?_ | refine aP ?_
    replace rQ : rW.toList.take ((i + 1) * 1) = (List.range (i + 1)).map (fun j => sJ (x.img.iK j)) := rQ.trans (by rw [← MC x gt dB i (by omega)]; exact H8 i)
    exact ⟨g5, cap5, rW, rQ, hsz5, x9, Fa, (HM.pick [3, 0, 1, 2, 4, 5, 6, 7, 8] [(g5, .cells rW 3 (0, 0)), mY z28 x gt dB i, (z26, .cells #[.string (⟨m4.name.toArray⟩), bn m4.ty, bn m4.flags, aI m4.addr, bn m4.link, bn m4.info, aI m4.align, aI m4.ent, aI m4.size, .slice m4.A m4.data.length m4.c] 46 (0, 0)), (ng, .cells nk 9 (0, 0)), (bg, .cells bk 5 (0, 0)), (pg, .cells pk 3 (0, 0)), (gl, .cells curl 46 (0, 0)), (gt, .cells jo 5 (0, 0)), dI z1 x] rfl (by decide)), HF.sub (uz z1 x gl dn bg gt dB i bc pg pc g5 cap5 ng nc z26) (by kernel_rfl)⟩
   rintro a w ⟨rg, rc, rk, rtk, rsz, rnc, rcm, HM, HF⟩
   repeat first | refine aK ?_ | refine aP ?_
   refine wp_seq ?_
   refine aO ?_
   refine wp_pure HF HM rfl 3 [[6]] ((nK z1 x gl dn bg gt dB i bc pg pc) ++ [(12, aC rg (i + 1) rc), (15, aC ng i nc), (17, aB z26), (64, aC gl (x.ps.length + 2) dn), (65, ay (x.ps.length + 2)), (66, ay i), (84, .bool (((m4.ty : Nat) : Int) != 8))]) (by kernel_rfl) fun a HF => ?_
   refine aA ?_
   refine pJ (fun a w => (∃ cg : Nat, ∃ cc : Nat, ∃ ck : Array Value, (ck.toList.take (((g_ x gt dB (i + 1)).length) * 1) = (g_ x gt dB (i + 1)).map Bv) ∧ (ck.size = cc * 1) ∧ (((g_ x gt dB (i + 1)).length) ≤ cc) ∧ (cc ≤ maxLen) ∧ Mm [] w0 w [(cg, .cells ck 5 (0, 0)), (rg, .cells rk 3 (0, 0)), mY z28 x gt dB i, (z26, .cells #[.string (⟨m4.name.toArray⟩), bn m4.ty, bn m4.flags, aI m4.addr, bn m4.link, bn m4.info, aI m4.align, aI m4.ent, aI m4.size, .slice m4.A m4.data.length m4.c] 46 (0, 0)), (ng, .cells nk 9 (0, 0)), (pg, .cells pk 3 (0, 0)), (gl, .cells curl 46 (0, 0)), (gt, .cells jo 5 (0, 0)), dI z1 x] ∧ Fr 159 a ((yO z1 x gl dn cg gt dB i cc pg pc rg rc) ++ [(15, aC ng i nc), (17, aB z26), (64, aC gl (x.ps.length + 2) dn), (65, ay (x.ps.length + 2)), (66, ay i)]))) ?_ ?_
   ·by_cases hc8 : ((m4.ty : Nat) : Int) ≠ 8
    ·rw [show (((m4.ty : Nat) : Int) != 8) = true from Gm (hc8)] at HF
     refine bD HF rfl ?_
     refine wp_region_lit ?_
     refine wp_pure HF HM rfl 3 [[6]] ((fV z1 x gl dn) ++ [(9, ay x.img.at0), (11, aC pg x.ss.length pc), (12, aC rg (i + 1) rc), (15, aC ng i nc), (17, aB z26), (64, aC gl (x.ps.length + 2) dn), (65, ay (x.ps.length + 2)), (66, ay i), (85, aC bg ((g_ x gt dB i).length) bc), (87, .slice m4.A m4.data.length m4.c)]) (by kernel_rfl) fun a HF => ?_
     refine fZ HF HM rfl _ _ 33 33 rfl rfl 5 (z := aQ 0) (size := 1) (bytes := 1) Tryd.underlying33 (by kernel_rfl) rfl (by decide) 4 bg ((g_ x gt dB i).length) bc bk rfl rfl GL LP Jq ((g_ x gt dB i).map Bv) C9 (.slice m4.A m4.data.length m4.c) m4.data.length (m4.data.map Bv) rfl (lW Tryd.underlying33 (by simp) (by decide) (Si h HM (k := 7) rfl hot.tk m4 PW) (sS _)) (by unfold maxLen; omega) (by omega) ?_
     intro a w7 g9 OJ OH bT Oh hsz9 hnc9 hcm9 HF2; clear HF HM
     have HM : Mm [] w0 w7 [(rg, .cells rk 3 (0, 0)), mY z28 x gt dB i, (z26, .cells #[.string (⟨m4.name.toArray⟩), bn m4.ty, bn m4.flags, aI m4.addr, bn m4.link, bn m4.info, aI m4.align, aI m4.ent, aI m4.size, .slice m4.A m4.data.length m4.c] 46 (0, 0)), (ng, .cells nk 9 (0, 0)), (g9, .cells OH 5 (0, 0)), (pg, .cells pk 3 (0, 0)), (gl, .cells curl 46 (0, 0)), (gt, .cells jo 5 (0, 0)), dI z1 x] := bT
     have HF := HF2.sub ((fV z1 x gl dn) ++ [(9, ay x.img.at0), (11, aC pg x.ss.length pc), (12, aC rg (i + 1) rc), (15, aC ng i nc), (17, aB z26), (64, aC gl (x.ps.length + 2) dn), (65, ay (x.ps.length + 2)), (66, ay i), (88, aC g9 (((g_ x gt dB i).length) + m4.data.length) OJ)]) (by kernel_rfl); clear bT HF2
     refine wp_pure HF HM rfl 1 [] ((fV z1 x gl dn) ++ [(9, ay x.img.at0), (10, aC g9 (((g_ x gt dB i).length) + m4.data.length) OJ), (11, aC pg x.ss.length pc), (12, aC rg (i + 1) rc), (15, aC ng i nc), (17, aB z26), (64, aC gl (x.ps.length + 2) dn), (65, ay (x.ps.length + 2)), (66, ay i)]) (by kernel_rfl) fun a HF => ?_
     refine wpList_nil ?_
     repeat first | refine aK ?_ | refine aP ?_
     replace Oh : OH.toList.take ((((g_ x gt dB i).length) + m4.data.length) * 1) = (g_ x gt dB (i + 1)).map Bv := Oh.trans (by rw [Aa hm4, NC hc8, List.map_append])
     rw [show (((g_ x gt dB i).length) + m4.data.length) = ((g_ x gt dB (i + 1)).length) from by rw [Aa hm4, NC hc8, List.length_append]] at HF Oh hnc9
     exact ⟨g9, OJ, OH, Oh, hsz9, hnc9, hcm9, (HM.pick [4, 0, 1, 2, 3, 5, 6, 7, 8] [(g9, .cells OH 5 (0, 0)), (rg, .cells rk 3 (0, 0)), mY z28 x gt dB i, (z26, .cells #[.string (⟨m4.name.toArray⟩), bn m4.ty, bn m4.flags, aI m4.addr, bn m4.link, bn m4.info, aI m4.align, aI m4.ent, aI m4.size, .slice m4.A m4.data.length m4.c] 46 (0, 0)), (ng, .cells nk 9 (0, 0)), (pg, .cells pk 3 (0, 0)), (gl, .cells curl 46 (0, 0)), (gt, .cells jo 5 (0, 0)), dI z1 x] rfl (by decide)), HF.sub ((fV z1 x gl dn) ++ [(9, ay x.img.at0), (10, aC g9 ((g_ x gt dB (i + 1)).length) OJ), (11, aC pg x.ss.length pc), (12, aC rg (i + 1) rc), (15, aC ng i nc), (17, aB z26), (64, aC gl (x.ps.length + 2) dn), (65, ay (x.ps.length + 2)), (66, ay i)]) (by kernel_rfl)⟩
    rw [show (((m4.ty : Nat) : Int) != 8) = false from yS (hc8)] at HF
    refine aY HF rfl ?_
    refine wp_skip ?_
    repeat first | refine aK ?_ | refine aP ?_
    replace C9 : bk.toList.take (((g_ x gt dB i).length) * 1) = (g_ x gt dB (i + 1)).map Bv := C9.trans (by rw [Aa hm4, PY hc8, List.append_nil])
    simp only [nK] at HF
    rw [show ((g_ x gt dB i).length) = ((g_ x gt dB (i + 1)).length) from by rw [Aa hm4, PY hc8, List.append_nil]] at HF C9 GL
    exact ⟨bg, bc, bk, C9, Jq, GL, LP, (HM.pick [4, 0, 1, 2, 3, 5, 6, 7, 8] [(bg, .cells bk 5 (0, 0)), (rg, .cells rk 3 (0, 0)), mY z28 x gt dB i, (z26, .cells #[.string (⟨m4.name.toArray⟩), bn m4.ty, bn m4.flags, aI m4.addr, bn m4.link, bn m4.info, aI m4.align, aI m4.ent, aI m4.size, .slice m4.A m4.data.length m4.c] 46 (0, 0)), (ng, .cells nk 9 (0, 0)), (pg, .cells pk 3 (0, 0)), (gl, .cells curl 46 (0, 0)), (gt, .cells jo 5 (0, 0)), dI z1 x] rfl (by decide)), HF.sub ((fV z1 x gl dn) ++ [(9, ay x.img.at0), (10, aC bg ((g_ x gt dB (i + 1)).length) bc), (11, aC pg x.ss.length pc), (12, aC rg (i + 1) rc), (15, aC ng i nc), (17, aB z26), (64, aC gl (x.ps.length + 2) dn), (65, ay (x.ps.length + 2)), (66, ay i)]) (by kernel_rfl)⟩
   rintro a w ⟨cg, cc, ck, ctk, csz, cnc, ccm, HM, HF⟩
   repeat first | refine aK ?_ | refine aP ?_
   refine wp_region_lit ?_
   obtain ⟨z35, KL⟩ : ∃ z, w.heap.size = z := ⟨_, rfl⟩
   refine aT HF HM KL 4 [[5]] ((yO z1 x gl dn cg gt dB i cc pg pc rg rc) ++ [(64, aC gl (x.ps.length + 2) dn), (65, ay (x.ps.length + 2)), (66, ay i), (89, aC ng i nc), (92, aC z35 1 1)]) [(z35, .cells #[.string (⟨m4.name.toArray⟩)] 9 (0, 0)), (cg, .cells ck 5 (0, 0)), (rg, .cells rk 3 (0, 0)), mY z28 x gt dB i, (z26, .cells #[.string (⟨m4.name.toArray⟩), bn m4.ty, bn m4.flags, aI m4.addr, bn m4.link, bn m4.info, aI m4.align, aI m4.ent, aI m4.size, .slice m4.A m4.data.length m4.c] 46 (0, 0)), (ng, .cells nk 9 (0, 0)), (pg, .cells pk 3 (0, 0)), (gl, .cells curl 46 (0, 0)), (gt, .cells jo 5 (0, 0)), dI z1 x] (by kernel_rfl) fun a w HF HM => ?_
   clear KL
   refine fZ HF HM rfl _ _ 38 38 rfl rfl 9 (z := .string (⟨#[]⟩ : ByteArray)) (size := 1) (bytes := 16) Tryd.underlying38 (by kernel_rfl) rfl (by decide) 5 ng i nc nk rfl rfl nnc ncm nsz (((allM x gt dB).take i).map (fun p => lq p.name)) ntk (aC z35 1 1) 1 [.string (⟨m4.name.toArray⟩)] rfl (lW Tryd.underlying38 rfl (by decide) (HM.rowAt (i := 0) rfl) (lu rfl)) (by unfold maxLen; omega) (by omega) ?_
   intro a w8 g10 BU JY bT Oi hsz10 hnc10 hcm10 HF2; clear HF HM
   replace Oi : JY.toList.take ((i + 1) * 1) = ((allM x gt dB).take (i + 1)).map (fun p => lq p.name) := Oi.trans (by rw [qW hm4, List.map_append]; rfl)
   have HM : Mm [] w0 w8 [(z35, .cells #[.string (⟨m4.name.toArray⟩)] 9 (0, 0)), (cg, .cells ck 5 (0, 0)), (rg, .cells rk 3 (0, 0)), mY z28 x gt dB i, (z26, .cells #[.string (⟨m4.name.toArray⟩), bn m4.ty, bn m4.flags, aI m4.addr, bn m4.link, bn m4.info, aI m4.align, aI m4.ent, aI m4.size, .slice m4.A m4.data.length m4.c] 46 (0, 0)), (g10, .cells JY 9 (0, 0)), (pg, .cells pk 3 (0, 0)), (gl, .cells curl 46 (0, 0)), (gt, .cells jo 5 (0, 0)), dI z1 x] := bT
   have HF := HF2.sub ((yO z1 x gl dn cg gt dB i cc pg pc rg rc) ++ [(64, aC gl (x.ps.length + 2) dn), (65, ay (x.ps.length + 2)), (66, ay i), (93, aC g10 (i + 1) BU)]) (by kernel_rfl); clear bT HF2
   refine wp_pure HF HM rfl 1 [] ((yh z1 x gl dn cg gt dB i cc pg pc rg rc g10 BU) ++ [(66, ay i)]) (by kernel_rfl) fun a HF => ?_
   refine wpList_nil ?_
   repeat first | refine aK ?_ | refine aP ?_
   refine wp_region_lit ?_
   refine wp_pure HF HM rfl 1 [] ((yh z1 x gl dn cg gt dB i cc pg pc rg rc g10 BU) ++ [(94, aF (IntKind.i64.wrap (((i : Nat) : Int) + 1)))]) (by kernel_rfl) fun a HF => ?_
   rw [show IntKind.i64.wrap (((i : Nat) : Int) + 1) = (((i + 1) : Nat) : Int) from (IntWalk.i64_in _ (by omega)).trans (by omega)] at HF
   refine wp_pure HF HM rfl 1 [] ((yh z1 x gl dn cg gt dB i cc pg pc rg rc g10 BU) ++ [(66, ay (i + 1))]) (by kernel_rfl) fun a HF => ?_
   refine wpList_nil ?_
   repeat first | refine aK ?_ | refine aP ?_
   exact KR _ _ (⟨cg, cc, ck, rg, rc, rk, g10, BU, JY, ctk, csz, cnc, ccm, rtk, rsz, rnc, rcm, Oi, hsz10, hnc10, hcm10, (HM.pick [5, 2, 1, 6, 7, 8, 9] [(g10, .cells JY 9 (0, 0)), (rg, .cells rk 3 (0, 0)), (cg, .cells ck 5 (0, 0)), (pg, .cells pk 3 (0, 0)), (gl, .cells curl 46 (0, 0)), (gt, .cells jo 5 (0, 0)), dI z1 x] rfl (by decide)), HF.sub ((yh z1 x gl dn cg gt dB i cc pg pc rg rc g10 BU) ++ [(66, ay (i + 1))]) (by kernel_rfl)⟩)
  ·intro a w KX hI
   obtain ⟨bg, bc, bk, qg, qc, qk, ng, nc, nk, C9, Jq, GL, LP, Aq, Gx, EI, Gy, ntk, nsz, nnc, ncm, HM, HF⟩ := hI
   refine aO ?_
   refine wp_pure HF HM rfl 1 [] ((uZ z1 x gl dn bg gt dB bc pg pc qg qc) ++ [(15, aC ng (x.ps.length + 2) nc), (64, aC gl (x.ps.length + 2) dn), (65, ay (x.ps.length + 2)), (66, ay (x.ps.length + 2)), (67, .bool (decide ((((x.ps.length + 2) : Nat) : Int) < (((x.ps.length + 2) : Nat) : Int))))]) (by kernel_rfl) fun a HF => ?_
   refine aA ?_
   refine wp_seq ?_
   rw [show decide ((((x.ps.length + 2) : Nat) : Int) < (((x.ps.length + 2) : Nat) : Int)) = false from cZ (by omega)] at HF
   refine aY HF rfl ?_
   refine wp_exit ?_
   repeat (first | refine eH ?_ | refine dY rfl ?_)
   refine gZ ?_
   repeat first | refine aK ?_ | refine aP ?_
   refine aO ?_
   refine wp_pure HF HM rfl 1 [] ((uZ z1 x gl dn bg gt dB bc pg pc qg qc) ++ [(96, aC ng (x.ps.length + 2) nc)]) (by kernel_rfl) fun a HF => ?_
   refine bf HF (by kernel_rfl) 65 #[aC ng (x.ps.length + 2) nc] (by kernel_rfl) (fun w => by kernel_rfl) (Calls.mono (EW x.img.names _ _ _ (by rw [ET]) w (HM.lZ (i := 0) rfl (ntk.trans (MJ x gt dB))) (by omega) (by omega)) ?_)
   rintro _ w9 ⟨gu, jL, yt, gp, gJ, Hq, rfl, hb, hou, hop, hnu⟩
   replace HM : Mm [] w0 w9 [(gp, .cells Hq 3 (0, 0)), (ng, .cells nk 9 (0, 0)), (qg, .cells qk 3 (0, 0)), (bg, .cells bk 5 (0, 0)), (pg, .cells pk 3 (0, 0)), (gl, .cells curl 46 (0, 0)), (gt, .cells jo 5 (0, 0)), dI z1 x] := HM.push hb hop.new hop.obj
   have hnl := ET x; have hso := Qd x gt dB; have hbl := Hr x gt dB (x.ps.length + 2) zl; have hou9 := G5 x x.ss.length zl
   refine ⟨_, rfl, ?_⟩; clear HF; intro a HF
   refine wp_pure HF HM rfl 5 [] ((uZ z1 x gl dn bg gt dB bc pg pc qg qc) ++ [(19, aC gp x.img.names.length gJ)]) (by kernel_rfl) fun a HF => ?_
   refine dF ?_
   refine wp_pure HF HM rfl 1 [] ((uZ z1 x gl dn bg gt dB bc pg pc qg qc) ++ [(19, aC gp x.img.names.length gJ), (100, aC gp x.img.names.length gJ)]) (by kernel_rfl) fun a HF => ?_
   refine dG HF (by kernel_rfl) (aB gp) (by kernel_rfl) (fD Tryd.underlying66 (k := 1) (by kernel_rfl) rfl 0 rfl rfl (by omega) (Option.some_ne_none _)) fun a HF => ?_
   refine Ew HF HM rfl 3 _ _ rfl rfl 0 gp 0 Hq 3 rfl rfl (aF 0) rfl rfl rfl (by rw [hop.sz]; have hq := hop.nc; omega) (by kernel_rfl) ?_
   intro a w10 pI bT Ld HF2; clear HF HM
   have NM : pI.toList.take (x.img.names.length * 1) = ((List.range x.img.names.length).map (fun j => sJ (nameAt x.img.names j)) : List Value).set 0 (aF 0) := by rw [Ld, List.take_set, hop.tk]
   have szs11 : pI.size = gJ * 1 := by rw [← Array.length_toList, Ld, List.length_set, Array.length_toList, hop.sz]
   have HM : Mm [] w0 w10 [(gp, .cells pI 3 (0, 0)), (ng, .cells nk 9 (0, 0)), (qg, .cells qk 3 (0, 0)), (bg, .cells bk 5 (0, 0)), (pg, .cells pk 3 (0, 0)), (gl, .cells curl 46 (0, 0)), (gt, .cells jo 5 (0, 0)), dI z1 x] := bT
   have HF := HF2.sub ((uZ z1 x gl dn bg gt dB bc pg pc qg qc) ++ [(19, aC gp x.img.names.length gJ)]) (by kernel_rfl); clear bT HF2 Ld
   replace NM : pI.toList.take (x.img.names.length * 1) = (List.range x.img.names.length).map (fun j => sJ (x.img.lD j)) := NM.trans (N8 x)
   refine dF ?_
   refine wp_pure HF HM rfl 11 [[0], [0]] ((kK z1 gl x dn bg gt dB bc pg pc qg qc gp gJ) ++ [(102, .agg #[.bool x.wide, .bool x.big, aX x.abi, aX x.aH, .int .i64 x.ty, .int .i64 x.machine, aI x.entry, .slice x.A x.ss.length x.c, .slice x.B x.ps.length x.d]), (105, ay x.ss.length), (106, ay (gV x.wide)), (108, ay (x.ps.length + 2)), (112, aF (IntKind.i64.wrap (((x.img.at0 : Nat) : Int) + ((((g_ x gt dB (x.ps.length + 2)).length) : Nat) : Int))))]) (by kernel_rfl) fun a HF => ?_
   rw [show IntKind.i64.wrap (((x.img.at0 : Nat) : Int) + ((((g_ x gt dB (x.ps.length + 2)).length) : Nat) : Int)) = ((x.img.m_ : Nat) : Int) from (IntWalk.i64_in _ (by omega)).trans (by omega)] at HF
   refine bf HF (by kernel_rfl) 66 #[.agg #[.bool x.wide, .bool x.big, aX x.abi, aX x.aH, .int .i64 x.ty, .int .i64 x.machine, aI x.entry, .slice x.A x.ss.length x.c, .slice x.B x.ps.length x.d], ay x.ss.length, ay (gV x.wide), ay (x.ps.length + 2), ay x.img.m_] (by kernel_rfl) (fun w => by kernel_rfl) (Calls.mono (JD x x.ss.length (gV x.wide) (x.ps.length + 2) x.img.m_ (by omega) (by omega) (by omega) (by omega) (by omega) ok.J7 ok.J6 ok.mc0 ok.mc1 w10 (h.below HM.below)) ?_)
   rintro _ qU ⟨go, OI, QO, rfl, hb, KW⟩
   rw [head_eq, ← Jf] at KW
   replace HM : Mm [] w0 qU [(go, .cells QO 5 (0, 0)), (gp, .cells pI 3 (0, 0)), (ng, .cells nk 9 (0, 0)), (qg, .cells qk 3 (0, 0)), (bg, .cells bk 5 (0, 0)), (pg, .cells pk 3 (0, 0)), (gl, .cells curl 46 (0, 0)), (gt, .cells jo 5 (0, 0)), dI z1 x] := HM.push hb KW.new KW.obj
   rw [head_eq, ← Jf]
   refine ⟨_, rfl, ?_⟩; clear HF; intro a HF
   refine wp_pure HF HM rfl 1 [] ((kK z1 gl x dn bg gt dB bc pg pc qg qc gp gJ) ++ [(20, aC go ((kT x 0).length) OI)]) (by kernel_rfl) fun a HF => ?_
   refine aA ?_
   refine wp_seq ?_
   refine aO ?_
   refine wp_pure HF HM rfl 4 [[0]] ((kK z1 gl x dn bg gt dB bc pg pc qg qc gp gJ) ++ [(20, aC go ((kT x 0).length) OI), (115, .slice x.A x.ss.length x.c), (116, ay x.ss.length), (117, aF 0)]) (by kernel_rfl) fun a HF => ?_
   refine aA ?_
   refine wp_block ?_
   replace HM := HM.pick [0, 1, 3, 4, 5, 6, 7, 8] [(go, .cells QO 5 (0, 0)), (gp, .cells pI 3 (0, 0)), (qg, .cells qk 3 (0, 0)), (bg, .cells bk 5 (0, 0)), (pg, .cells pk 3 (0, 0)), (gl, .cells curl 46 (0, 0)), (gt, .cells jo 5 (0, 0)), dI z1 x] rfl (by decide)
   refine kC (x.ss.length) (fun i a w => (∃ ug : Nat, ∃ uc : Nat, ∃ uk : Array Value, (uk.toList.take (((kT x i).length) * 1) = (kT x i).map Bv) ∧ (uk.size = uc * 1) ∧ (((kT x i).length) ≤ uc) ∧ (uc ≤ maxLen) ∧ Mm [] w0 w [(ug, .cells uk 5 (0, 0)), (gp, .cells pI 3 (0, 0)), (qg, .cells qk 3 (0, 0)), (bg, .cells bk 5 (0, 0)), (pg, .cells pk 3 (0, 0)), (gl, .cells curl 46 (0, 0)), (gt, .cells jo 5 (0, 0)), dI z1 x] ∧ Fr 159 a (Bc z1 gl x dn bg gt dB bc pg pc qg qc gp gJ ug i uc))) ?_ ?_ ?_
   ·exact ⟨go, OI, QO, KW.tk, KW.sz, KW.nc, KW.cm, HM, HF.sub ((kK z1 gl x dn bg gt dB bc pg pc qg qc gp gJ) ++ [(20, aC go ((kT x 0).length) OI), (115, .slice x.A x.ss.length x.c), (116, ay x.ss.length), (117, aF 0)]) (by kernel_rfl)⟩
   ·intro i a w KX hi hI KR
    obtain ⟨ug, uc, uk, Jb, J4, Jc, J5, HM, HF⟩ := hI
    have hoz := G5 x i zl; have hoz2 := G5 x (i + 1) zl; have hpl := x.img.Cc i
    refine aO ?_
    refine wp_pure HF HM rfl 1 [] ((Bc z1 gl x dn bg gt dB bc pg pc qg qc gp gJ ug i uc) ++ [(118, .bool (decide (((i : Nat) : Int) < ((x.ss.length : Nat) : Int))))]) (by kernel_rfl) fun a HF => ?_
    refine aA ?_
    refine wp_seq ?_
    rw [show decide (((i : Nat) : Int) < ((x.ss.length : Nat) : Int)) = true from dK (by omega)] at HF
    refine bD HF rfl ?_
    refine wp_skip ?_
    repeat first | refine aK ?_ | refine aP ?_
    refine wp_seq ?_
    refine wp_block ?_
    refine aO ?_
    refine wp_pure HF HM rfl 1 [] ((Bc z1 gl x dn bg gt dB bc pg pc qg qc gp gJ ug i uc) ++ [(119, ay i)]) (by kernel_rfl) fun a HF => ?_
    obtain ⟨m12, zi⟩ : ∃ m, x.ss[i]? = some m := ⟨_, List.getElem?_eq_getElem (by omega)⟩
    have RX := ok.seg m12 (List.mem_of_getElem? zi)
    have hmd_m12 := RX.data
    have Nw := h.seg m12 (List.mem_of_getElem? zi)
    have hmt_m12 := Nw.ty; have hmf_m12 := Nw.flags
    refine dG HF (by kernel_rfl) (.pointer (Option.map (fun q : Addr => q.add (i * 7)) x.A)) (by kernel_rfl) (fD Tryd.underlying23 (by kernel_rfl) rfl i rfl rfl (by omega) (ji (ku (f := kL.cells) (k := 7) (fun _ => rfl) (HM.row h.dA) i zi) (Nat.zero_lt_succ _))) fun a HF => ?_
    refine dG HF (by kernel_rfl) (.agg #[bn m12.ty, bn m12.flags, aI m12.bU, aI m12.bV, aI m12.bY, aI m12.align, .slice m12.A m12.data.length m12.c]) (by kernel_rfl) (lJ rfl rfl (ku (f := kL.cells) (k := 7) (fun _ => rfl) (HM.row h.dA) i zi) (Nat.zero_lt_succ _) Tryd.underlying57 rfl (by kernel_rfl)) fun a HF => ?_
    obtain ⟨z48, hz48⟩ : ∃ z, w.heap.size = z := ⟨_, rfl⟩
    refine aT HF HM hz48 3 [[8]] ((kK z1 gl x dn bg gt dB bc pg pc qg qc gp gJ) ++ [(20, aC ug ((kT x i).length) uc), (21, ay i), (22, aB z48), (115, .slice x.A x.ss.length x.c), (116, ay x.ss.length), (117, ay i)]) [yj z48 m12, (ug, .cells uk 5 (0, 0)), (gp, .cells pI 3 (0, 0)), (qg, .cells qk 3 (0, 0)), (bg, .cells bk 5 (0, 0)), (pg, .cells pk 3 (0, 0)), (gl, .cells curl 46 (0, 0)), (gt, .cells jo 5 (0, 0)), dI z1 x] (by kernel_rfl) fun a w HF HM => ?_
    clear hz48
    refine aA ?_
    refine wQ HM (by kernel_rfl) [yj z48 m12, (gp, .cells pI 3 (0, 0)), (qg, .cells qk 3 (0, 0)), (bg, .cells bk 5 (0, 0)), (pg, .cells pk 3 (0, 0)), (gl, .cells curl 46 (0, 0)), (gt, .cells jo 5 (0, 0)), dI z1 x] [(0, false), (1, false), (2, false), (3, false), (4, false), (5, false), (6, false), (7, true), (8, true), (9, false)] (by kernel_rfl) fun w12 HM => ?_
    refine bI HF (HM.told [0, 2, 3, 4, 5, 6, 7, 8] rfl) 5 [[0], [7]] ((Fg z1 gl x dn bg gt dB bc pg pc qg qc gp gJ i ug uc m12) ++ [(125, aC pg x.ss.length pc), (126, ay i)]) (by kernel_rfl) fun a HF => ?_
    refine dL rfl HF (HM.told [0, 2, 3, 4, 5, 6, 7, 8] rfl) rfl (.pointer (Option.map (fun q : Addr => q.add (i * 1)) (some ⟨pg, 0, none⟩))) (by kernel_rfl) (fun w hw => fD Tryd.underlying66 (by kernel_rfl) rfl i rfl rfl (by omega) (Option.some_ne_none _)) fun a HF => ?_
    refine dL rfl HF (HM.told [0, 2, 3, 4, 5, 6, 7, 8] rfl) rfl (ay (x.img.kN i)) (by kernel_rfl) (fun w hw => lI rfl rfl (kU (Told.lZ hw (i := 4) rfl ptk) i (List.getElem?_range (by omega))) (by kernel_rfl)) ?_
    clear HF; intro a HF; replace HF := HF.sub ((Fg z1 gl x dn bg gt dB bc pg pc qg qc gp gJ i ug uc m12) ++ [(128, ay (x.img.kN i))]) (by kernel_rfl)
    refine bW rfl ?_
    refine bf HF (by kernel_rfl) 67 #[.agg #[.bool x.wide, .bool x.big, aX x.abi, aX x.aH, .int .i64 x.ty, .int .i64 x.machine, aI x.entry, .slice x.A x.ss.length x.c, .slice x.B x.ps.length x.d], .agg #[bn m12.ty, bn m12.flags, aI m12.bU, aI m12.bV, aI m12.bY, aI m12.align, .slice m12.A m12.data.length m12.c], ay (x.img.kN i)] (by kernel_rfl) (fun w => by kernel_rfl) (Calls.mono (Mc x.wide x.big _ _ _ _ _ _ _ m12.ty m12.flags m12.bU m12.bV m12.bY m12.align m12.data.length m12.c (x.img.kN i) m12.A (by omega) (by omega) (by omega) (by omega) w12) ?_)
    rintro _ uI ⟨gr, LM, curr, rfl, hb, hor⟩
    replace HM : Mm [] w0 uI [(gr, .cells curr 5 (0, 0)), yj z48 m12, (ug, .cells uk 5 (0, 0)), (gp, .cells pI 3 (0, 0)), (qg, .cells qk 3 (0, 0)), (bg, .cells bk 5 (0, 0)), (pg, .cells pk 3 (0, 0)), (gl, .cells curl 46 (0, 0)), (gt, .cells jo 5 (0, 0)), dI z1 x] := HM.push hb hor.new hor.obj
    have hrl : (pz x i m12).length ≤ 64 := by rw [show (pz x i m12).length = iF x.wide from uo ..]; omega
    refine ⟨_, rfl, ?_⟩; clear HF; intro a HF
    replace HF := HF.sub ((kK z1 gl x dn bg gt dB bc pg pc qg qc gp gJ) ++ [(115, .slice x.A x.ss.length x.c), (116, ay x.ss.length), (117, ay i), (122, aC ug ((kT x i).length) uc), (129, aC gr ((pz x i m12).length) LM)]) (by kernel_rfl)
    refine dH (HM.told [1, 3, 4, 5, 6, 7, 8, 9] rfl) ?_
    refine bW rfl ?_
    refine fZ HF HM rfl _ _ 33 33 rfl rfl 5 (z := aQ 0) (size := 1) (bytes := 1) Tryd.underlying33 (by kernel_rfl) rfl (by decide) 2 ug ((kT x i).length) uc uk rfl rfl Jc J5 J4 ((kT x i).map Bv) Jb (aC gr ((pz x i m12).length) LM) ((pz x i m12).length) ((pz x i m12).map Bv) rfl (lW Tryd.underlying33 (IE hor.tk hor.sz hor.nc) (by decide) (HM.lZ (i := 0) rfl hor.tk) (sS _)) (by unfold maxLen; omega) (by omega) ?_
    intro a Ey g14 Gj JW bT JM hsz14 Q9 hcm14 HF2; clear HF HM
    replace JM : JW.toList.take ((((kT x i).length) + ((pz x i m12).length)) * 1) = (kT x (i + 1)).map Bv := JM.trans (by rw [Jg zi, List.map_append])
    have HM : Mm [] w0 Ey [(gr, .cells curr 5 (0, 0)), yj z48 m12, (g14, .cells JW 5 (0, 0)), (gp, .cells pI 3 (0, 0)), (qg, .cells qk 3 (0, 0)), (bg, .cells bk 5 (0, 0)), (pg, .cells pk 3 (0, 0)), (gl, .cells curl 46 (0, 0)), (gt, .cells jo 5 (0, 0)), dI z1 x] := bT
    have HF := HF2.sub ((kK z1 gl x dn bg gt dB bc pg pc qg qc gp gJ) ++ [(115, .slice x.A x.ss.length x.c), (116, ay x.ss.length), (117, ay i), (130, aC g14 (((kT x i).length) + ((pz x i m12).length)) Gj)]) (by kernel_rfl); clear bT HF2
    refine dH (HM.told [1, 3, 4, 5, 6, 7, 8, 9] rfl) ?_
    refine bI HF (HM.told [1, 3, 4, 5, 6, 7, 8, 9] rfl) 1 [] ((kK z1 gl x dn bg gt dB bc pg pc qg qc gp gJ) ++ [(20, aC g14 (((kT x i).length) + ((pz x i m12).length)) Gj), (115, .slice x.A x.ss.length x.c), (116, ay x.ss.length), (117, ay i)]) (by kernel_rfl) fun a HF => ?_
    refine iM ?_
    repeat first | refine aK ?_ | refine aP ?_
    refine wp_region_lit ?_
    refine wp_pure HF HM rfl 1 [] ((kK z1 gl x dn bg gt dB bc pg pc qg qc gp gJ) ++ [(20, aC g14 (((kT x i).length) + ((pz x i m12).length)) Gj), (115, .slice x.A x.ss.length x.c), (116, ay x.ss.length), (131, aF (IntKind.i64.wrap (((i : Nat) : Int) + 1)))]) (by kernel_rfl) fun a HF => ?_
    rw [show IntKind.i64.wrap (((i : Nat) : Int) + 1) = (((i + 1) : Nat) : Int) from (IntWalk.i64_in _ (by omega)).trans (by omega)] at HF
    refine wp_pure HF HM rfl 1 [] ((kK z1 gl x dn bg gt dB bc pg pc qg qc gp gJ) ++ [(20, aC g14 (((kT x i).length) + ((pz x i m12).length)) Gj), (115, .slice x.A x.ss.length x.c), (116, ay x.ss.length), (117, ay (i + 1))]) (by kernel_rfl) fun a HF => ?_
    refine wpList_nil ?_
    repeat first | refine aK ?_ | refine aP ?_
    rw [show (((kT x i).length) + ((pz x i m12).length)) = ((kT x (i + 1)).length) from by rw [Jg zi, List.length_append]] at HF JM Q9
    exact KR _ _ (⟨g14, Gj, JW, JM, hsz14, Q9, hcm14, (HM.pick [2, 3, 4, 5, 6, 7, 8, 9] [(g14, .cells JW 5 (0, 0)), (gp, .cells pI 3 (0, 0)), (qg, .cells qk 3 (0, 0)), (bg, .cells bk 5 (0, 0)), (pg, .cells pk 3 (0, 0)), (gl, .cells curl 46 (0, 0)), (gt, .cells jo 5 (0, 0)), dI z1 x] rfl (by decide)), HF.sub ((kK z1 gl x dn bg gt dB bc pg pc qg qc gp gJ) ++ [(20, aC g14 ((kT x (i + 1)).length) Gj), (115, .slice x.A x.ss.length x.c), (116, ay x.ss.length), (117, ay (i + 1))]) (by kernel_rfl)⟩)
   ·intro a w KX hI
    obtain ⟨ug, uc, uk, Jb, J4, Jc, J5, HM, HF⟩ := hI
    refine aO ?_
    refine wp_pure HF HM rfl 1 [] ((kK z1 gl x dn bg gt dB bc pg pc qg qc gp gJ) ++ [(20, aC ug ((kT x x.ss.length).length) uc), (115, .slice x.A x.ss.length x.c), (116, ay x.ss.length), (117, ay x.ss.length), (118, .bool (decide (((x.ss.length : Nat) : Int) < ((x.ss.length : Nat) : Int))))]) (by kernel_rfl) fun a HF => ?_
    refine aA ?_
    refine wp_seq ?_
    rw [show decide (((x.ss.length : Nat) : Int) < ((x.ss.length : Nat) : Int)) = false from cZ (by omega)] at HF
    refine aY HF rfl ?_
    refine wp_exit ?_
    repeat (first | refine eH ?_ | refine dY rfl ?_)
    refine gZ ?_
    repeat first | refine aK ?_ | refine aP ?_
    refine aO ?_
    refine wp_pure HF HM rfl 2 [] [(1, aB z1), (8, aC gl (x.ps.length + 2) dn), (11, aC pg x.ss.length pc), (12, aC qg (x.ps.length + 2) qc), (19, aC gp x.img.names.length gJ), (132, aC ug ((kT x x.ss.length).length) uc), (133, aC bg ((g_ x gt dB (x.ps.length + 2)).length) bc)] (by kernel_rfl) fun a HF => ?_
    refine fZ HF HM rfl _ _ 33 33 rfl rfl 5 (z := aQ 0) (size := 1) (bytes := 1) Tryd.underlying33 (by kernel_rfl) rfl (by decide) 0 ug ((kT x x.ss.length).length) uc uk rfl rfl Jc J5 J4 ((kT x x.ss.length).map Bv) Jb (aC bg ((g_ x gt dB (x.ps.length + 2)).length) bc) ((g_ x gt dB (x.ps.length + 2)).length) ((g_ x gt dB (x.ps.length + 2)).map Bv) rfl (lW Tryd.underlying33 (IE C9 Jq GL) (by decide) (HM.lZ (i := 3) rfl C9) (sS _)) (by unfold maxLen; omega) (by omega) ?_
    intro a Bg g15 Ij JV bT JL hsz15 Q8 hcm15 HF2; clear HF HM
    replace JL : JV.toList.take ((((kT x x.ss.length).length) + ((g_ x gt dB (x.ps.length + 2)).length)) * 1) = (nC x 0).map Bv := JL.trans (by rw [Jo, Fq, List.map_append (l₁ := kT x x.ss.length)])
    have HM : Mm [] w0 Bg [(g15, .cells JV 5 (0, 0)), (gp, .cells pI 3 (0, 0)), (qg, .cells qk 3 (0, 0)), (bg, .cells bk 5 (0, 0)), (pg, .cells pk 3 (0, 0)), (gl, .cells curl 46 (0, 0)), (gt, .cells jo 5 (0, 0)), dI z1 x] := bT
    have HF := HF2.sub [(1, aB z1), (8, aC gl (x.ps.length + 2) dn), (11, aC pg x.ss.length pc), (12, aC qg (x.ps.length + 2) qc), (19, aC gp x.img.names.length gJ), (134, aC g15 (((kT x x.ss.length).length) + ((g_ x gt dB (x.ps.length + 2)).length)) Ij)] (by kernel_rfl); clear bT HF2
    refine wp_pure HF HM rfl 1 [] [(1, aB z1), (8, aC gl (x.ps.length + 2) dn), (11, aC pg x.ss.length pc), (12, aC qg (x.ps.length + 2) qc), (19, aC gp x.img.names.length gJ), (20, aC g15 (((kT x x.ss.length).length) + ((g_ x gt dB (x.ps.length + 2)).length)) Ij)] (by kernel_rfl) fun a HF => ?_
    refine aA ?_
    refine wp_seq ?_
    refine aO ?_
    refine wp_pure HF HM rfl 3 [] ((kJ z1 pg x pc qg qc gp gJ) ++ [(20, aC g15 (((kT x x.ss.length).length) + ((g_ x gt dB (x.ps.length + 2)).length)) Ij), (135, aC gl (x.ps.length + 2) dn), (136, ay (x.ps.length + 2)), (137, aF 0)]) (by kernel_rfl) fun a HF => ?_
    refine aA ?_
    refine wp_block ?_
    replace HM := HM.pick [0, 1, 2, 4, 5, 6, 7] [(g15, .cells JV 5 (0, 0)), (gp, .cells pI 3 (0, 0)), (qg, .cells qk 3 (0, 0)), (pg, .cells pk 3 (0, 0)), (gl, .cells curl 46 (0, 0)), (gt, .cells jo 5 (0, 0)), dI z1 x] rfl (by decide)
    refine kC ((x.ps.length + 2)) (fun i a w => (∃ ug : Nat, ∃ uc : Nat, ∃ uk : Array Value, (uk.toList.take (((nC x i).length) * 1) = (nC x i).map Bv) ∧ (uk.size = uc * 1) ∧ (((nC x i).length) ≤ uc) ∧ (uc ≤ maxLen) ∧ Mm [] w0 w [(ug, .cells uk 5 (0, 0)), (gp, .cells pI 3 (0, 0)), (qg, .cells qk 3 (0, 0)), (pg, .cells pk 3 (0, 0)), (gl, .cells curl 46 (0, 0)), (gt, .cells jo 5 (0, 0)), dI z1 x] ∧ Fr 159 a (Ba z1 pg x pc qg qc gp gJ ug i uc gl dn))) ?_ ?_ ?_
    rw [show (((kT x x.ss.length).length) + ((g_ x gt dB (x.ps.length + 2)).length)) = ((nC x 0).length) from by rw [Jo, Fq]; exact (List.length_append ..).symm] at HF JL Q8
    ·exact ⟨g15, Ij, JV, JL, hsz15, Q8, hcm15, HM, HF.sub ((kJ z1 pg x pc qg qc gp gJ) ++ [(20, aC g15 ((nC x 0).length) Ij), (135, aC gl (x.ps.length + 2) dn), (136, ay (x.ps.length + 2)), (137, aF 0)]) (by kernel_rfl)⟩
    ·intro i a w KX hi hI KR
     obtain ⟨ug, uc, uk, Jb, J4, Jc, J5, HM, HF⟩ := hI
     have hoz := Ls x i zl; have hoz2 := Ls x (i + 1) zl; have hpl := x.img.wu i; have hnp := zl.Az i (by rw [nY]; omega)
     refine aO ?_
     refine wp_pure HF HM rfl 1 [] ((Ba z1 pg x pc qg qc gp gJ ug i uc gl dn) ++ [(138, .bool (decide (((i : Nat) : Int) < (((x.ps.length + 2) : Nat) : Int))))]) (by kernel_rfl) fun a HF => ?_
     refine aA ?_
     refine wp_seq ?_
     rw [show decide (((i : Nat) : Int) < (((x.ps.length + 2) : Nat) : Int)) = true from dK (by omega)] at HF
     refine bD HF rfl ?_
     refine wp_skip ?_
     repeat first | refine aK ?_ | refine aP ?_
     refine wp_seq ?_
     refine wp_block ?_
     refine aO ?_
     refine wp_pure HF HM rfl 1 [] ((Ba z1 pg x pc qg qc gp gJ ug i uc gl dn) ++ [(139, ay i)]) (by kernel_rfl) fun a HF => ?_
     obtain ⟨m16, Ol⟩ : ∃ m, (allM x gt dB)[i]? = some m := ⟨_, List.getElem?_eq_getElem (by omega)⟩
     have RV := List.mem_of_getElem? Ol
     have CW := P9 h ok m16 RV
     have hmd_m16 := CW.data; have hmt_m16 := CW.ty; have hmf_m16 := CW.flags; have hml_m16 := CW.link; have hmi_m16 := CW.info
     refine dG HF (by kernel_rfl) (.pointer (Option.map (fun q : Addr => q.add (i * 10)) (some ⟨gl, 0, none⟩))) (by kernel_rfl) (fD Tryd.underlying24 (by kernel_rfl) rfl i rfl rfl (by omega) (Option.some_ne_none _)) fun a HF => ?_
     refine dG HF (by kernel_rfl) (.agg #[.string (⟨m16.name.toArray⟩), bn m16.ty, bn m16.flags, aI m16.addr, bn m16.link, bn m16.info, aI m16.align, aI m16.ent, aI m16.size, .slice m16.A m16.data.length m16.c]) (by kernel_rfl) (lJ rfl rfl (ku (f := dP.cells) (k := 10) (fun _ => rfl) (HM.lZ (i := 4) rfl hol.tk) i Ol) (Nat.zero_lt_succ _) Tryd.underlying46 rfl (by kernel_rfl)) fun a HF => ?_
     obtain ⟨z57, hz57⟩ : ∃ z, w.heap.size = z := ⟨_, rfl⟩
     refine aT HF HM hz57 3 [[7]] ((kJ z1 pg x pc qg qc gp gJ) ++ [(20, aC ug ((nC x i).length) uc), (23, ay i), (24, aB z57), (135, aC gl (x.ps.length + 2) dn), (136, ay (x.ps.length + 2)), (137, ay i)]) [(z57, .cells #[.string (⟨m16.name.toArray⟩), bn m16.ty, bn m16.flags, aI m16.addr, bn m16.link, bn m16.info, aI m16.align, aI m16.ent, aI m16.size, .slice m16.A m16.data.length m16.c] 46 (0, 0)), (ug, .cells uk 5 (0, 0)), (gp, .cells pI 3 (0, 0)), (qg, .cells qk 3 (0, 0)), (pg, .cells pk 3 (0, 0)), (gl, .cells curl 46 (0, 0)), (gt, .cells jo 5 (0, 0)), dI z1 x] (by kernel_rfl) fun a w HF HM => ?_
     clear hz57
     refine aA ?_
     refine wQ HM (by kernel_rfl) [(z57, .cells #[.string (⟨m16.name.toArray⟩), bn m16.ty, bn m16.flags, aI m16.addr, bn m16.link, bn m16.info, aI m16.align, aI m16.ent, aI m16.size, .slice m16.A m16.data.length m16.c] 46 (0, 0)), (gp, .cells pI 3 (0, 0)), (qg, .cells qk 3 (0, 0)), (pg, .cells pk 3 (0, 0)), (gl, .cells curl 46 (0, 0)), (gt, .cells jo 5 (0, 0)), dI z1 x] [(0, false), (1, false), (2, false), (3, false), (4, false), (5, false), (6, false), (7, false), (8, false), (9, false), (10, false), (11, true), (12, true), (13, false)] (by kernel_rfl) fun w16 HM => ?_
     refine bI HF (HM.told [0, 2, 3, 4, 5, 6, 7] rfl) 4 [[0]] ((Lp z1 pg x pc qg qc gp gJ i z57 gl dn ug uc) ++ [(144, aC gp x.img.names.length gJ), (145, ay i)]) (by kernel_rfl) fun a HF => ?_
     refine dL rfl HF (HM.told [0, 2, 3, 4, 5, 6, 7] rfl) rfl (.pointer (Option.map (fun q : Addr => q.add (i * 1)) (some ⟨gp, 0, none⟩))) (by kernel_rfl) (fun w hw => fD Tryd.underlying66 (by kernel_rfl) rfl i rfl rfl (by omega) (Option.some_ne_none _)) fun a HF => ?_
     refine dL rfl HF (HM.told [0, 2, 3, 4, 5, 6, 7] rfl) rfl (ay (x.img.lD i)) (by kernel_rfl) (fun w hw => lI rfl rfl (kU (Told.lZ hw (i := 1) rfl NM) i (List.getElem?_range (by omega))) (by kernel_rfl)) fun a HF => ?_
     refine bI HF (HM.told [0, 2, 3, 4, 5, 6, 7] rfl) 3 [[6]] ((kJ z1 pg x pc qg qc gp gJ) ++ [(135, aC gl (x.ps.length + 2) dn), (136, ay (x.ps.length + 2)), (137, ay i), (142, aC ug ((nC x i).length) uc), Fh x, (147, ay (x.img.lD i)), (148, .agg #[.string (⟨m16.name.toArray⟩), bn m16.ty, bn m16.flags, aI m16.addr, bn m16.link, bn m16.info, aI m16.align, aI m16.ent, aI m16.size, .slice m16.A m16.data.length m16.c]), (149, aC qg (x.ps.length + 2) qc), (150, ay i)]) (by kernel_rfl) fun a HF => ?_
     refine dL rfl HF (HM.told [0, 2, 3, 4, 5, 6, 7] rfl) rfl (.pointer (Option.map (fun q : Addr => q.add (i * 1)) (some ⟨qg, 0, none⟩))) (by kernel_rfl) (fun w hw => fD Tryd.underlying66 (by kernel_rfl) rfl i rfl rfl (by omega) (Option.some_ne_none _)) fun a HF => ?_
     refine dL rfl HF (HM.told [0, 2, 3, 4, 5, 6, 7] rfl) rfl (ay (x.img.iK i)) (by kernel_rfl) (fun w hw => lI rfl rfl (kU (Told.lZ hw (i := 2) rfl Aq) i (List.getElem?_range (by omega))) (by kernel_rfl)) ?_
     clear HF; intro a HF; replace HF := HF.sub ((kJ z1 pg x pc qg qc gp gJ) ++ [(135, aC gl (x.ps.length + 2) dn), (136, ay (x.ps.length + 2)), (137, ay i), (142, aC ug ((nC x i).length) uc), Fh x, (147, ay (x.img.lD i)), (148, .agg #[.string (⟨m16.name.toArray⟩), bn m16.ty, bn m16.flags, aI m16.addr, bn m16.link, bn m16.info, aI m16.align, aI m16.ent, aI m16.size, .slice m16.A m16.data.length m16.c]), (152, ay (x.img.iK i))]) (by kernel_rfl)
     refine bW rfl ?_
     refine bf HF (by kernel_rfl) 68 #[.agg #[.bool x.wide, .bool x.big, aX x.abi, aX x.aH, .int .i64 x.ty, .int .i64 x.machine, aI x.entry, .slice x.A x.ss.length x.c, .slice x.B x.ps.length x.d], ay (x.img.lD i), .agg #[.string (⟨m16.name.toArray⟩), bn m16.ty, bn m16.flags, aI m16.addr, bn m16.link, bn m16.info, aI m16.align, aI m16.ent, aI m16.size, .slice m16.A m16.data.length m16.c], ay (x.img.iK i)] (by kernel_rfl) (fun w => by kernel_rfl) (Calls.mono (MB x.wide x.big _ _ _ _ _ _ _ (x.img.lD i) ⟨m16.name.toArray⟩ m16.ty m16.flags m16.addr m16.link m16.info m16.align m16.ent m16.size m16.data.length m16.c (x.img.iK i) m16.A (by omega) (by omega) (by omega) (by omega) (by omega) (by omega) (by omega) w16) ?_)
     rintro _ w17 ⟨gr, LM, curr, rfl, hb, hor⟩
     replace HM : Mm [] w0 w17 [(gr, .cells curr 5 (0, 0)), (z57, .cells #[.string (⟨m16.name.toArray⟩), bn m16.ty, bn m16.flags, aI m16.addr, bn m16.link, bn m16.info, aI m16.align, aI m16.ent, aI m16.size, .slice m16.A m16.data.length m16.c] 46 (0, 0)), (ug, .cells uk 5 (0, 0)), (gp, .cells pI 3 (0, 0)), (qg, .cells qk 3 (0, 0)), (pg, .cells pk 3 (0, 0)), (gl, .cells curl 46 (0, 0)), (gt, .cells jo 5 (0, 0)), dI z1 x] := HM.push hb hor.new hor.obj
     have hrl : (pF x i m16).length ≤ 64 := by rw [show (pF x i m16).length = iV x.wide from uq ..]; omega
     refine ⟨_, rfl, ?_⟩; clear HF; intro a HF
     replace HF := HF.sub ((kJ z1 pg x pc qg qc gp gJ) ++ [(135, aC gl (x.ps.length + 2) dn), (136, ay (x.ps.length + 2)), (137, ay i), (142, aC ug ((nC x i).length) uc), (153, aC gr ((pF x i m16).length) LM)]) (by kernel_rfl)
     refine dH (HM.told [1, 3, 4, 5, 6, 7, 8] rfl) ?_
     refine bW rfl ?_
     refine fZ HF HM rfl _ _ 33 33 rfl rfl 5 (z := aQ 0) (size := 1) (bytes := 1) Tryd.underlying33 (by kernel_rfl) rfl (by decide) 2 ug ((nC x i).length) uc uk rfl rfl Jc J5 J4 ((nC x i).map Bv) Jb (aC gr ((pF x i m16).length) LM) ((pF x i m16).length) ((pF x i m16).map Bv) rfl (lW Tryd.underlying33 (IE hor.tk hor.sz hor.nc) (by decide) (HM.lZ (i := 0) rfl hor.tk) (sS _)) (by unfold maxLen; omega) (by omega) ?_
     intro a w18 g18 Gi JU bT JK hsz18 Q7 hcm18 HF2; clear HF HM
     replace JK : JU.toList.take ((((nC x i).length) + ((pF x i m16).length)) * 1) = (nC x (i + 1)).map Bv := JK.trans (by rw [Jp Ol, List.map_append])
     have HM : Mm [] w0 w18 [(gr, .cells curr 5 (0, 0)), (z57, .cells #[.string (⟨m16.name.toArray⟩), bn m16.ty, bn m16.flags, aI m16.addr, bn m16.link, bn m16.info, aI m16.align, aI m16.ent, aI m16.size, .slice m16.A m16.data.length m16.c] 46 (0, 0)), (g18, .cells JU 5 (0, 0)), (gp, .cells pI 3 (0, 0)), (qg, .cells qk 3 (0, 0)), (pg, .cells pk 3 (0, 0)), (gl, .cells curl 46 (0, 0)), (gt, .cells jo 5 (0, 0)), dI z1 x] := bT
     have HF := HF2.sub ((kJ z1 pg x pc qg qc gp gJ) ++ [(135, aC gl (x.ps.length + 2) dn), (136, ay (x.ps.length + 2)), (137, ay i), (154, aC g18 (((nC x i).length) + ((pF x i m16).length)) Gi)]) (by kernel_rfl); clear bT HF2
     refine dH (HM.told [1, 3, 4, 5, 6, 7, 8] rfl) ?_
     refine bI HF (HM.told [1, 3, 4, 5, 6, 7, 8] rfl) 1 [] ((kJ z1 pg x pc qg qc gp gJ) ++ [(20, aC g18 (((nC x i).length) + ((pF x i m16).length)) Gi), (135, aC gl (x.ps.length + 2) dn), (136, ay (x.ps.length + 2)), (137, ay i)]) (by kernel_rfl) fun a HF => ?_
     refine iM ?_
     repeat first | refine aK ?_ | refine aP ?_
     refine wp_region_lit ?_
     refine wp_pure HF HM rfl 1 [] ((kJ z1 pg x pc qg qc gp gJ) ++ [(20, aC g18 (((nC x i).length) + ((pF x i m16).length)) Gi), (135, aC gl (x.ps.length + 2) dn), (136, ay (x.ps.length + 2)), (155, aF (IntKind.i64.wrap (((i : Nat) : Int) + 1)))]) (by kernel_rfl) fun a HF => ?_
     rw [show IntKind.i64.wrap (((i : Nat) : Int) + 1) = (((i + 1) : Nat) : Int) from (IntWalk.i64_in _ (by omega)).trans (by omega)] at HF
     refine wp_pure HF HM rfl 1 [] ((kJ z1 pg x pc qg qc gp gJ) ++ [(20, aC g18 (((nC x i).length) + ((pF x i m16).length)) Gi), (135, aC gl (x.ps.length + 2) dn), (136, ay (x.ps.length + 2)), (137, ay (i + 1))]) (by kernel_rfl) fun a HF => ?_
     refine wpList_nil ?_
     repeat first | refine aK ?_ | refine aP ?_
     rw [show (((nC x i).length) + ((pF x i m16).length)) = ((nC x (i + 1)).length) from by rw [Jp Ol, List.length_append]] at HF JK Q7
     exact KR _ _ (⟨g18, Gi, JU, JK, hsz18, Q7, hcm18, (HM.pick [2, 3, 4, 5, 6, 7, 8] [(g18, .cells JU 5 (0, 0)), (gp, .cells pI 3 (0, 0)), (qg, .cells qk 3 (0, 0)), (pg, .cells pk 3 (0, 0)), (gl, .cells curl 46 (0, 0)), (gt, .cells jo 5 (0, 0)), dI z1 x] rfl (by decide)), HF.sub ((kJ z1 pg x pc qg qc gp gJ) ++ [(20, aC g18 ((nC x (i + 1)).length) Gi), (135, aC gl (x.ps.length + 2) dn), (136, ay (x.ps.length + 2)), (137, ay (i + 1))]) (by kernel_rfl)⟩)
    ·intro a w KX hI
     obtain ⟨ug, uc, uk, Jb, J4, Jc, J5, HM, HF⟩ := hI
     refine aO ?_
     refine wp_pure HF HM rfl 1 [] ((kJ z1 pg x pc qg qc gp gJ) ++ [(20, aC ug ((nC x (x.ps.length + 2)).length) uc), (135, aC gl (x.ps.length + 2) dn), (136, ay (x.ps.length + 2)), (137, ay (x.ps.length + 2)), (138, .bool (decide ((((x.ps.length + 2) : Nat) : Int) < (((x.ps.length + 2) : Nat) : Int))))]) (by kernel_rfl) fun a HF => ?_
     refine aA ?_
     refine wp_seq ?_
     rw [show decide ((((x.ps.length + 2) : Nat) : Int) < (((x.ps.length + 2) : Nat) : Int)) = false from cZ (by omega)] at HF
     refine aY HF rfl ?_
     refine wp_exit ?_
     repeat (first | refine eH ?_ | refine dY rfl ?_)
     refine gZ ?_
     repeat first | refine aK ?_ | refine aP ?_
     refine aO ?_
     refine wp_pure HF HM rfl 6 [] [(2, aC ug ((nC x (x.ps.length + 2)).length) uc), (3, aC pg x.ss.length pc), (4, aC qg (x.ps.length + 2) qc)] (by kernel_rfl) fun a HF => ?_
     refine aA ?_
     refine wp_ret ?_
     repeat first | refine bJ ?_ | refine bM ?_
     rw [QH] at HF Jb Jc
     exact EH HF rfl rfl rfl rfl ⟨ug, uc, uk, pg, pc, pk, qg, qc, qk, rfl, HM.below, ⟨HM.ge (i := 0) rfl, HM.get (i := 0) rfl, Jb, J4, Jc, J5⟩, ⟨HM.ge (i := 3) rfl, HM.get (i := 3) rfl, ptk, psz, pnc, pcm⟩, ⟨HM.ge (i := 2) rfl, HM.get (i := 2) rfl, Aq, Gx, EI, Gy⟩⟩

end Go.Proofs.YtdgehpocmfjbiaaDoor
namespace Go.Proofs.YtdgehpocmfjbiaaDoor
open Go.RowKit

theorem vU (x : b_) (w0 : World) (h : x.At w0) (ok : x.Ok) : Calls Tryd.prog 25 #[x.val] w0 fun e w' => ∃ g cap cur, e = .returned (aC g x.img.file.length cap) ∧ Below w0.heap.size w0 w' ∧ Own w0.heap.size w' 5 1 g x.img.file.length cap cur (x.img.file.map Bv) := by
 obtain ⟨w, hw⟩ : ∃ w, w0 = w := ⟨_, rfl⟩
 have HM : Mm [] w0 w [] := hw ▸ Mm.start w0
 conv => arg 4; rw [hw]
 clear hw
 refine cu Tryd.func25 rfl Tryd.ntmps25 [(0, .agg #[.bool x.wide, .bool x.big, aX x.abi, aX x.aH, .int .i64 x.ty, .int .i64 x.machine, aI x.entry, .slice x.A x.ss.length x.c, .slice x.B x.ps.length x.d])] (by kernel_rfl) (Nat.le_of_ble_eq_true rfl) ?_
 intro a HF
 refine aO ?_
 obtain ⟨z1, hz1⟩ : ∃ z, w.heap.size = z := ⟨_, rfl⟩
 refine aT HF HM hz1 2 [] [(1, aB z1)] [(z1, .cells #[.bool x.wide, .bool x.big, aX x.abi, aX x.aH, .int .i64 x.ty, .int .i64 x.machine, aI x.entry, .slice x.A x.ss.length x.c, .slice x.B x.ps.length x.d] 26 (0, 0))] (by kernel_rfl) fun a w HF HM => ?_
 clear hz1
 refine dF ?_
 refine wp_pure HF HM rfl 1 [[0]] [(7, .agg #[.bool x.wide, .bool x.big, aX x.abi, aX x.aH, .int .i64 x.ty, .int .i64 x.machine, aI x.entry, .slice x.A x.ss.length x.c, .slice x.B x.ps.length x.d])] (by kernel_rfl) fun a HF => ?_
 refine bf HF (by kernel_rfl) 36 #[.agg #[.bool x.wide, .bool x.big, aX x.abi, aX x.aH, .int .i64 x.ty, .int .i64 x.machine, aI x.entry, .slice x.A x.ss.length x.c, .slice x.B x.ps.length x.d]] (by kernel_rfl) (fun w => by kernel_rfl) (Calls.mono (QG x w (h.below HM.below) ok) ?_)
 rintro _ w1 ⟨g1, cap1, vk, g2, cap2, mX, g3, cap3, vg, rfl, hb, ho1, ho2, ho3⟩
 replace HM : Mm [] w0 w1 [(g1, .cells vk 5 (0, 0)), (z1, .cells #[.bool x.wide, .bool x.big, aX x.abi, aX x.aH, .int .i64 x.ty, .int .i64 x.machine, aI x.entry, .slice x.A x.ss.length x.c, .slice x.B x.ps.length x.d] 26 (0, 0))] := HM.push hb ho1.new ho1.obj
 refine ⟨_, rfl, ?_⟩; clear HF; intro a HF
 refine wp_pure HF HM rfl 7 [] [(3, aC g1 x.img.file.length cap1)] (by kernel_rfl) fun a HF => ?_
 refine dF ?_
 refine wp_pure HF HM rfl 2 [] [(2, aC g1 x.img.file.length cap1)] (by kernel_rfl) fun a HF => ?_
 refine aA ?_
 refine wp_ret ?_
 repeat first | refine bJ ?_ | refine bM ?_
 exact bQ HF rfl rfl ⟨g1, cap1, vk, rfl, HM.below, ⟨HM.ge (i := 0) rfl, HM.get (i := 0) rfl, ho1.tk, ho1.sz, ho1.nc, ho1.cm⟩⟩

end Go.Proofs.YtdgehpocmfjbiaaDoor
namespace Go.Proofs.YtdgehpocmfjbiaaDoor
open Go.ChangeShapes Go.WideShapes Go.ChangeAt Go.RowKit Go.Deep

end Go.Proofs.YtdgehpocmfjbiaaDoor
namespace Go.Proofs.YtdgehpocmfjbiaaDoor
open Go.ChangeShapes Go.WideShapes Go.ChangeAt Go.RowKit Go.Deep

section
variable {H : Type} {enc : TypeId × Value → H} {P : Program} {w : World} {base : Nat} {spare : Nat → Bool} {held : Bool}
theorem yM {t : TypeId} {fs : Array Field} {fuel : Nat} {cs : List Value} {x : DataW H × List MemPlace} (hs : P.underlying t = some (.struct fs)) (hone : oneCellFields P fs = true) (hC : P.cellsOf t = fs.size) (h : DataW.trod enc P w base spare held fuel t cs = some x) :
  cs.length = fs.size ∧ ∃ (n : Nat), ∀ (j : Nat) (f : Field), fs[j]? = some f → ∃ (u : Value) (y : DataW H × List MemPlace), cs[j]? = some u ∧ DataW.trod enc P w base spare held n f.type [u] = some y := by
 obtain ⟨xs, n, _, hx, hl, hlen, hg⟩ := DataW.trod_struct hs h
 refine ⟨hl.trans hC, n, fun j f hj => ?_⟩
 obtain ⟨ho, hk⟩ := hone_of hone j f hj
 have h1 := hg j f hj
 rw [ho, hk] at h1
 have hj1 : j < fs.size := (Array.getElem?_eq_some_iff.1 hj).1
 have hj2 : j < xs.length := by omega
 have hj3 : j < cs.length := by omega
 have e : (cs.drop j).take 1 = [cs[j]] := by
  rw [List.drop_eq_getElem_cons hj3]
  rfl
 rw [e, List.getElem?_eq_getElem hj2] at h1
 exact ⟨cs[j], xs[j], List.getElem?_eq_getElem hj3, h1⟩
theorem Kz {α : Type} {f : α → List Value} {k : Nat} (hk : ∀ a, (f a).length = k) (b : Nat) : ∀ (l : List α) (off : Nat), (∀ i (h : i < l.length) j v, (f l[i])[j]? = some v → w.cell? ⟨b, off + i * k + j, none⟩ = some v) → Row w (some ⟨b, off, none⟩) (l.flatMap f)
 | [], off, _ => Row.nil _ _
 | a :: l, off, h => by
  have ih := Kz hk b l (off + k) fun i hi j v hv => by
   have := h (i + 1) (by simpa using hi) j v (by simpa using hv)
   rw [Nat.succ_mul] at this
   rw [show off + k + i * k + j = off + (i * k + k) + j by omega]
   exact this
  intro i v hv
  rw [List.flatMap_cons] at hv
  refine ⟨b, off, rfl, ?_⟩
  by_cases hik : i < k
  ·rw [List.getElem?_append_left (by rw [hk]; exact hik)] at hv
   have := h 0 (by simp) i v (by simpa using hv)
   simpa using this
  ·rw [List.getElem?_append_right (by rw [hk]; omega), hk] at hv
   obtain ⟨b', off', e, hc⟩ := ih _ v hv
   injection e with e
   injection e with e1 e2
   subst e1; subst e2
   rw [show off + k + (i - k) = off + i by omega] at hc
   exact hc
/-- a slice of elements of k cells -/
theorem open_row {α : Type} [Inhabited α] {t e : TypeId} {k : Nat} {f : α → List Value} {Good : α → Prop} (ht : P.underlying t = some (.slice e)) (hc : P.cellsOf e = k) (hk0 : 0 < k) (hk : ∀ a, (f a).length = k)
  (hel : ∀ (n : Nat) (cs : List Value) (x : DataW H × List MemPlace), DataW.trod enc P w base spare held n e cs = some x → ∃ m, cs = f m ∧ Good m)
  {fuel : Nat} {u : Value} {x : DataW H × List MemPlace} (h : DataW.trod enc P w base spare held fuel t [u] = some x) :
  ∃ (l : List α) (A : Option Addr) (c : Nat), u = .slice A l.length c ∧ Row w A (l.flatMap f) ∧ (∀ m ∈ l, Good m) ∧ l.length ≤ c ∧ c ≤ maxLen := by
 rcases open_slice ht h with ⟨hcs, _⟩ | ⟨a, len, cap, m, n, D, Pl, hcs, hb, hl, hm, hmm, hx, hel2⟩
 ·obtain rfl : u = .slice none 0 0 := by simpa using hcs
  exact ⟨[], none, 0, rfl, Row.nil _ _, by simp, Nat.le_refl _, Nat.zero_le _⟩
 ·obtain rfl : u = .slice (some a) len cap := by simpa using hcs
  have hlm : len ≤ m := by rw [hmm]; split <;> omega
  obtain ⟨V, hV⟩ := choose_lt (α := α) (n := len) (p := fun i v => w.cells? base (a.add (i * k)) k = some (f v) ∧ Good v) (fun i hi => by
   obtain ⟨cs', h1, h2⟩ := hel2 i (by omega)
   obtain ⟨v, rfl, hg⟩ := hel n cs' _ h2
   rw [hc] at h1
   exact ⟨v, h1, hg⟩)
  refine ⟨(List.range len).map V, some a, cap, by simp, ?_, ?_, by simpa using hl, hm⟩
  ·rcases Nat.eq_zero_or_pos len with h0 | h0
   ·subst h0
    exact Row.nil _ _
   ·obtain ⟨b, off, spot⟩ := a
    have hs0 : spot = none := by
     have h1 := (World.cells?_some (hV 0 h0).1).2.2 0 hk0
     have h2 : (f (V 0))[0]? = some ((f (V 0))[0]'(by rw [hk]; exact hk0)) := List.getElem?_eq_getElem _
     rw [h2] at h1
     simpa [Addr.add] using World.cell?_spot h1
    subst hs0
    refine Kz hk b _ _ fun i hi j v hv => ?_
    simp only [List.length_map, List.length_range] at hi
    simp only [List.getElem_map, List.getElem_range] at hv
    have hj : j < k := by have := (List.getElem?_eq_some_iff.1 hv).1; rw [hk] at this; exact this
    have h1 := (World.cells?_some (hV i hi).1).2.2 j hj
    rw [hv, addr_add, addr_add] at h1
    exact h1
  ·intro v hv
   obtain ⟨i, hi, rfl⟩ := List.mem_map.1 hv
   exact (hV i (List.mem_range.1 hi)).2
end
section
variable {H : Type} {enc : TypeId × Value → H} {w : World} {base : Nat} {spare : Nat → Bool} {held : Bool}
theorem SN {n : Int} (h : (Lit.int .u8 n).wf = true) : ∃ b : UInt8, n = (b.toNat : Int) := by
 have := bounds_u8 h
 refine ⟨UInt8.ofNat n.toNat, ?_⟩
 rw [UInt8.toNat_ofNat']
 omega
theorem Gz {fuel : Nat} {u : Value} {x : DataW H × List MemPlace} (h : DataW.trod enc Tryd.prog w base spare held fuel 33 [u] = some x) :
  ∃ (l : List UInt8) (A : Option Addr) (c : Nat), u = .slice A l.length c ∧ Row w A (l.map Bv) ∧ l.length ≤ c ∧ c ≤ maxLen := by
 obtain ⟨l, A, c, h1, h2, _, h4, h5⟩ := open_row (α := UInt8) (f := fun b => [Bv b]) (Good := fun _ => True) Tryd.underlying33 (k := 1) (by kernel_rfl) (by omega) (fun _ => rfl) (fun n cs x hx => by
  obtain ⟨m, rfl, _, hw⟩ := DataW.trod_int Tryd.underlying5 hx
  obtain ⟨b, rfl⟩ := SN hw
  exact ⟨b, rfl, trivial⟩) h
 exact ⟨l, A, c, h1, by rw [List.map_eq_flatMap]; exact h2, h4, h5⟩
theorem Qm {fuel : Nat} {u : Value} {x : DataW H × List MemPlace} (h : DataW.trod enc Tryd.prog w base spare held fuel 9 [u] = some x) : ∃ l : List UInt8, u = lq l ∧ l.length ≤ maxLen := by
 obtain ⟨s, hs, _, hl⟩ := DataW.trod_string Tryd.underlying9 h
 obtain rfl : u = .string s := by simpa using hs
 exact ⟨s.data.toList, rfl, by rw [Array.length_toList]; exact hl⟩
theorem open_strs {fuel : Nat} {u : Value} {x : DataW H × List MemPlace} (h : DataW.trod enc Tryd.prog w base spare held fuel 38 [u] = some x) :
  ∃ (l : List (List UInt8)) (A : Option Addr) (c : Nat), u = .slice A l.length c ∧ Row w A (l.map lq) ∧ (∀ s ∈ l, s.length ≤ maxLen) ∧ l.length ≤ c ∧ c ≤ maxLen := by
 obtain ⟨l, A, c, h1, h2, h3, h4, h5⟩ := open_row (α := List UInt8) (f := fun s => [lq s]) (Good := fun s => s.length ≤ maxLen) Tryd.underlying38 (k := 1) (by kernel_rfl) (by omega) (fun _ => rfl) (fun n cs x hx => by
  obtain ⟨s, rfl, _, hl⟩ := DataW.trod_string Tryd.underlying9 hx
  exact ⟨s.data.toList, rfl, by rw [Array.length_toList]; exact hl⟩) h
 exact ⟨l, A, c, h1, by rw [List.map_eq_flatMap]; exact h2, h3, h4, h5⟩
theorem list2 {α : Type} {l : List α} (h : l.length = 2) : ∃ a0 a1, l = [a0, a1] := by
 match l, h with
 | [a0, a1], _ => exact ⟨a0, a1, rfl⟩
theorem list7 {α : Type} {l : List α} (h : l.length = 7) : ∃ a0 a1 a2 a3 a4 a5 a6, l = [a0, a1, a2, a3, a4, a5, a6] := by
 match l, h with
 | [a0, a1, a2, a3, a4, a5, a6], _ => exact ⟨a0, a1, a2, a3, a4, a5, a6, rfl⟩
theorem list9 {α : Type} {l : List α} (h : l.length = 9) : ∃ a0 a1 a2 a3 a4 a5 a6 a7 a8, l = [a0, a1, a2, a3, a4, a5, a6, a7, a8] := by
 match l, h with
 | [a0, a1, a2, a3, a4, a5, a6, a7, a8], _ => exact ⟨a0, a1, a2, a3, a4, a5, a6, a7, a8, rfl⟩
theorem SQ {α : Type} {l : List α} (h : l.length = 10) : ∃ a0 a1 a2 a3 a4 a5 a6 a7 a8 a9, l = [a0, a1, a2, a3, a4, a5, a6, a7, a8, a9] := by
 match l, h with
 | [a0, a1, a2, a3, a4, a5, a6, a7, a8, a9], _ => exact ⟨a0, a1, a2, a3, a4, a5, a6, a7, a8, a9, rfl⟩
instance : Inhabited kL := ⟨⟨0, 0, 0, 0, 0, 0, [], none, 0⟩⟩
instance : Inhabited dP := ⟨JI⟩
theorem Qn {fuel : Nat} {cs : List Value} {x : DataW H × List MemPlace} (h : DataW.trod enc Tryd.prog w base spare held fuel 57 cs = some x) : ∃ m : kL, cs = m.cells ∧ kL.At w m := by
 obtain ⟨hl, n, hf⟩ := yM Tryd.underlying57 (by kernel_rfl) (by kernel_rfl) h
 obtain ⟨c0, c1, c2, c3, c4, c5, c6, rfl⟩ := list7 hl
 obtain ⟨u0, y0, e0, t0⟩ := hf 0 _ rfl
 obtain rfl : c0 = u0 := by simpa using e0
 obtain ⟨a0, x0, -, z0⟩ := DataW.trod_int Tryd.underlying36 t0
 obtain rfl : c0 = _ := by simpa using x0
 have q0 := bounds_u32 z0
 obtain ⟨m0, rfl⟩ := Int.eq_ofNat_of_zero_le q0.1
 obtain ⟨u1, y1, e1, t1⟩ := hf 1 _ rfl
 obtain rfl : c1 = u1 := by simpa using e1
 obtain ⟨a1, x1, -, z1⟩ := DataW.trod_int Tryd.underlying36 t1
 obtain rfl : c1 = _ := by simpa using x1
 have q1 := bounds_u32 z1
 obtain ⟨m1, rfl⟩ := Int.eq_ofNat_of_zero_le q1.1
 obtain ⟨u2, y2, e2, t2⟩ := hf 2 _ rfl
 obtain rfl : c2 = u2 := by simpa using e2
 obtain ⟨a2, x2, -, z2⟩ := DataW.trod_int Tryd.underlying22 t2
 obtain rfl : c2 = _ := by simpa using x2
 have q2 := bounds_u64 z2
 obtain ⟨m2, rfl⟩ := Int.eq_ofNat_of_zero_le q2.1
 obtain ⟨u3, y3, e3, t3⟩ := hf 3 _ rfl
 obtain rfl : c3 = u3 := by simpa using e3
 obtain ⟨a3, x3, -, z3⟩ := DataW.trod_int Tryd.underlying22 t3
 obtain rfl : c3 = _ := by simpa using x3
 have q3 := bounds_u64 z3
 obtain ⟨m3, rfl⟩ := Int.eq_ofNat_of_zero_le q3.1
 obtain ⟨u4, y4, e4, t4⟩ := hf 4 _ rfl
 obtain rfl : c4 = u4 := by simpa using e4
 obtain ⟨a4, x4, -, z4⟩ := DataW.trod_int Tryd.underlying22 t4
 obtain rfl : c4 = _ := by simpa using x4
 have q4 := bounds_u64 z4
 obtain ⟨m4, rfl⟩ := Int.eq_ofNat_of_zero_le q4.1
 obtain ⟨u5, y5, e5, t5⟩ := hf 5 _ rfl
 obtain rfl : c5 = u5 := by simpa using e5
 obtain ⟨a5, x5, -, z5⟩ := DataW.trod_int Tryd.underlying22 t5
 obtain rfl : c5 = _ := by simpa using x5
 have q5 := bounds_u64 z5
 obtain ⟨m5, rfl⟩ := Int.eq_ofNat_of_zero_le q5.1
 obtain ⟨u6, y6, e6, t6⟩ := hf 6 _ rfl
 obtain rfl : c6 = u6 := by simpa using e6
 obtain ⟨l6, A6, k6, rfl, r6, g6, j6⟩ := Gz t6
 exact ⟨⟨m0, m1, m2, m3, m4, m5, l6, A6, k6⟩, rfl, ⟨r6, g6, j6, by show m0 < _; omega, by show m1 < _; omega, by show m2 < _; omega, by show m3 < _; omega, by show m4 < _; omega, by show m5 < _; omega⟩⟩
theorem O_ {fuel : Nat} {cs : List Value} {x : DataW H × List MemPlace} (h : DataW.trod enc Tryd.prog w base spare held fuel 46 cs = some x) : ∃ m : dP, cs = m.cells ∧ dP.At w m := by
 obtain ⟨hl, n, hf⟩ := yM Tryd.underlying46 (by kernel_rfl) (by kernel_rfl) h
 obtain ⟨c0, c1, c2, c3, c4, c5, c6, c7, c8, c9, rfl⟩ := SQ hl
 obtain ⟨u0, y0, e0, t0⟩ := hf 0 _ rfl
 obtain rfl : c0 = u0 := by simpa using e0
 obtain ⟨m0, rfl, z0⟩ := Qm t0
 obtain ⟨u1, y1, e1, t1⟩ := hf 1 _ rfl
 obtain rfl : c1 = u1 := by simpa using e1
 obtain ⟨a1, x1, -, z1⟩ := DataW.trod_int Tryd.underlying36 t1
 obtain rfl : c1 = _ := by simpa using x1
 have q1 := bounds_u32 z1
 obtain ⟨m1, rfl⟩ := Int.eq_ofNat_of_zero_le q1.1
 obtain ⟨u2, y2, e2, t2⟩ := hf 2 _ rfl
 obtain rfl : c2 = u2 := by simpa using e2
 obtain ⟨a2, x2, -, z2⟩ := DataW.trod_int Tryd.underlying36 t2
 obtain rfl : c2 = _ := by simpa using x2
 have q2 := bounds_u32 z2
 obtain ⟨m2, rfl⟩ := Int.eq_ofNat_of_zero_le q2.1
 obtain ⟨u3, y3, e3, t3⟩ := hf 3 _ rfl
 obtain rfl : c3 = u3 := by simpa using e3
 obtain ⟨a3, x3, -, z3⟩ := DataW.trod_int Tryd.underlying22 t3
 obtain rfl : c3 = _ := by simpa using x3
 have q3 := bounds_u64 z3
 obtain ⟨m3, rfl⟩ := Int.eq_ofNat_of_zero_le q3.1
 obtain ⟨u4, y4, e4, t4⟩ := hf 4 _ rfl
 obtain rfl : c4 = u4 := by simpa using e4
 obtain ⟨a4, x4, -, z4⟩ := DataW.trod_int Tryd.underlying36 t4
 obtain rfl : c4 = _ := by simpa using x4
 have q4 := bounds_u32 z4
 obtain ⟨m4, rfl⟩ := Int.eq_ofNat_of_zero_le q4.1
 obtain ⟨u5, y5, e5, t5⟩ := hf 5 _ rfl
 obtain rfl : c5 = u5 := by simpa using e5
 obtain ⟨a5, x5, -, z5⟩ := DataW.trod_int Tryd.underlying36 t5
 obtain rfl : c5 = _ := by simpa using x5
 have q5 := bounds_u32 z5
 obtain ⟨m5, rfl⟩ := Int.eq_ofNat_of_zero_le q5.1
 obtain ⟨u6, y6, e6, t6⟩ := hf 6 _ rfl
 obtain rfl : c6 = u6 := by simpa using e6
 obtain ⟨a6, x6, -, z6⟩ := DataW.trod_int Tryd.underlying22 t6
 obtain rfl : c6 = _ := by simpa using x6
 have q6 := bounds_u64 z6
 obtain ⟨m6, rfl⟩ := Int.eq_ofNat_of_zero_le q6.1
 obtain ⟨u7, y7, e7, t7⟩ := hf 7 _ rfl
 obtain rfl : c7 = u7 := by simpa using e7
 obtain ⟨a7, x7, -, z7⟩ := DataW.trod_int Tryd.underlying22 t7
 obtain rfl : c7 = _ := by simpa using x7
 have q7 := bounds_u64 z7
 obtain ⟨m7, rfl⟩ := Int.eq_ofNat_of_zero_le q7.1
 obtain ⟨u8, y8, e8, t8⟩ := hf 8 _ rfl
 obtain rfl : c8 = u8 := by simpa using e8
 obtain ⟨a8, x8, -, z8⟩ := DataW.trod_int Tryd.underlying22 t8
 obtain rfl : c8 = _ := by simpa using x8
 have q8 := bounds_u64 z8
 obtain ⟨m8, rfl⟩ := Int.eq_ofNat_of_zero_le q8.1
 obtain ⟨u9, y9, e9, t9⟩ := hf 9 _ rfl
 obtain rfl : c9 = u9 := by simpa using e9
 obtain ⟨l9, A9, k9, rfl, r9, g9, j9⟩ := Gz t9
 exact ⟨⟨m0, m1, m2, m3, m4, m5, m6, m7, m8, l9, A9, k9⟩, rfl, ⟨r9, g9, j9, z0, by show m1 < _; omega, by show m2 < _; omega, by show m3 < _; omega, by show m4 < _; omega, by show m5 < _; omega, by show m6 < _; omega, by show m7 < _; omega, by show m8 < _; omega⟩⟩
theorem G6 {r : Reach} {b0 : Nat} {v : Value} {d : DataW H} {p : List MemPlace} (hv : Value.okWide Tryd.prog w r b0 26 v) (ht : DataW.Trod enc Tryd.prog w base spare held 26 v d p) : ∃ x : b_, v = x.val ∧ x.At w := by
 obtain ⟨cs, rfl, hsz⟩ := okWide_struct Tryd.underlying26 hv
 obtain ⟨fuel, h0⟩ := ht
 have h : DataW.trod enc Tryd.prog w base spare held fuel 26 cs.toList = some (d, p) := h0
 obtain ⟨l, rfl⟩ : ∃ l : List Value, cs = l.toArray := ⟨cs.toList, by simp⟩
 simp only [List.toList_toArray] at h
 obtain ⟨hl, n, hf⟩ := yM Tryd.underlying26 (by kernel_rfl) (by kernel_rfl) h
 obtain ⟨c0, c1, c2, c3, c4, c5, c6, c7, c8, rfl⟩ := list9 hl
 obtain ⟨u0, y0, e0, t0⟩ := hf 0 _ rfl
 obtain rfl : c0 = u0 := by simpa using e0
 obtain ⟨b0_, x0, -⟩ := DataW.trod_bool Tryd.underlying4 t0
 obtain rfl : c0 = .bool b0_ := by simpa using x0
 obtain ⟨u1, y1, e1, t1⟩ := hf 1 _ rfl
 obtain rfl : c1 = u1 := by simpa using e1
 obtain ⟨b1, x1, -⟩ := DataW.trod_bool Tryd.underlying4 t1
 obtain rfl : c1 = .bool b1 := by simpa using x1
 obtain ⟨u2, y2, e2, t2⟩ := hf 2 _ rfl
 obtain rfl : c2 = u2 := by simpa using e2
 obtain ⟨a2, x2, -, z2⟩ := DataW.trod_int Tryd.underlying5 t2
 obtain rfl : c2 = _ := by simpa using x2
 have q2 := bounds_u8 z2
 obtain ⟨m2, rfl⟩ := Int.eq_ofNat_of_zero_le q2.1
 obtain ⟨u3, y3, e3, t3⟩ := hf 3 _ rfl
 obtain rfl : c3 = u3 := by simpa using e3
 obtain ⟨a3, x3, -, z3⟩ := DataW.trod_int Tryd.underlying5 t3
 obtain rfl : c3 = _ := by simpa using x3
 have q3 := bounds_u8 z3
 obtain ⟨m3, rfl⟩ := Int.eq_ofNat_of_zero_le q3.1
 obtain ⟨u4, y4, e4, t4⟩ := hf 4 _ rfl
 obtain rfl : c4 = u4 := by simpa using e4
 obtain ⟨a4, x4, -, z4⟩ := DataW.trod_int Tryd.underlying3 t4
 obtain rfl : c4 = _ := by simpa using x4
 have q4 := bounds_i64 z4
 obtain ⟨u5, y5, e5, t5⟩ := hf 5 _ rfl
 obtain rfl : c5 = u5 := by simpa using e5
 obtain ⟨a5, x5, -, z5⟩ := DataW.trod_int Tryd.underlying3 t5
 obtain rfl : c5 = _ := by simpa using x5
 have q5 := bounds_i64 z5
 obtain ⟨u6, y6, e6, t6⟩ := hf 6 _ rfl
 obtain rfl : c6 = u6 := by simpa using e6
 obtain ⟨a6, x6, -, z6⟩ := DataW.trod_int Tryd.underlying22 t6
 obtain rfl : c6 = _ := by simpa using x6
 have q6 := bounds_u64 z6
 obtain ⟨m6, rfl⟩ := Int.eq_ofNat_of_zero_le q6.1
 obtain ⟨u7, y7, e7, t7⟩ := hf 7 _ rfl
 obtain rfl : c7 = u7 := by simpa using e7
 obtain ⟨l7, A7, k7, rfl, r7, v7, g7, j7⟩ := open_row (α := kL) Tryd.underlying23 (k := 7) (by kernel_rfl) (by omega) (fun _ => rfl) (fun n cs x hx => Qn hx) t7
 obtain ⟨u8, y8, e8, t8⟩ := hf 8 _ rfl
 obtain rfl : c8 = u8 := by simpa using e8
 obtain ⟨l8, A8, k8, rfl, r8, v8, g8, j8⟩ := open_row (α := dP) Tryd.underlying24 (k := 10) (by kernel_rfl) (by omega) (fun _ => rfl) (fun n cs x hx => O_ hx) t8
 exact ⟨⟨b0_, b1, m2, m3, a4, a5, m6, l7, A7, k7, l8, A8, k8⟩, rfl, ⟨r7, r8, v7, v8, g7, j7, g8, j8, by show m2 < _; omega, by show m3 < _; omega, by show m6 < _; omega⟩⟩
theorem En {r : Reach} {b0 : Nat} {v : Value} {d : DataW H} {p : List MemPlace} (hv : Value.okWide Tryd.prog w r b0 38 v) (ht : DataW.Trod enc Tryd.prog w base spare held 38 v d p) : ∃ (l : List (List UInt8)) (A : Option Addr) (c : Nat), v = .slice A l.length c ∧ Row w A (l.map lq) ∧ (∀ s ∈ l, s.length ≤ maxLen) ∧ l.length ≤ c ∧ c ≤ maxLen := by
 obtain ⟨a, n, c, rfl⟩ := okWide_slice Tryd.underlying38 hv
 obtain ⟨fuel, h0⟩ := ht
 exact open_strs (u := .slice a n c) h0
end
end Go.Proofs.YtdgehpocmfjbiaaDoor
