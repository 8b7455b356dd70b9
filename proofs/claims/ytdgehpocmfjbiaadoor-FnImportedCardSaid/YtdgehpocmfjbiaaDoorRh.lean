/- spec.File and laws.fileOf. · laws.fileOf. · A struct by value, opened: each field's own reading, whatever the number of one-cell fields. · Arguments,  -/
import Derived.Test.YtdgehpocmfjbiaaDoorRg
import Derived.Test.YtdgehpocmfjbiaaDoorRows
import Derived.WalkKit
import Derived.ProofKit
import Derived.OpenShut
import Derived.ShutString
import Derived.ChangeOld
import Derived.Below
import Derived.Deep.Slices
import Derived.Deep.Fields
set_option linter.unusedVariables false
set_option linter.unusedSimpArgs false
set_option maxRecDepth 100000
set_option maxHeartbeats 2000000
namespace Go.Proofs.YtdgehpocmfjbiaaDoor
open Go.RowKit

abbrev dM := fun z1 (x : bZ) => ((z1, .cells #[.bool x.wide, .bool x.big, aT x.abi, aT x.aH, .int .i64 x.ty, .int .i64 x.machine, aI x.entry, .slice x.A x.ss.length x.c, .slice x.B x.ps.length x.d] 26 (0, 0)) : Nat × Obj)
abbrev gK := fun z1 (x : bZ) gl dG => ([(1, aA z1), (5, ay (iw x.wide)), (8, aC gl (x.ps.length + 2) dG)] : Slots)
abbrev GU := fun z1 (x : bZ) gl dG bg i bc pg pc z10 => ((gK z1 x gl dG) ++ [(9, ay x.img.at0), (10, aC bg ((jU x i).length) bc), (11, aC pg i pc), (12, aC (z10 + 2) 0 0), (45, .slice x.A x.ss.length x.c), (46, ay x.ss.length), (47, ay i)] : Slots)
abbrev yR := fun z13 (m1 : kQ) => ((z13, .cells #[aX m1.ty, aX m1.flags, aI m1.bY, aI m1.b_, aI m1.dw, aI m1.align, .slice m1.A m1.data.length m1.c] 57 (0, 0)) : Nat × Obj)
abbrev CU := fun z1 (x : bZ) gl dG bg i bc z10 z13 => ((gK z1 x gl dG) ++ [(9, ay x.img.at0), (10, aC bg ((jU x i).length) bc), (12, aC (z10 + 2) 0 0), (14, aA z13), (45, .slice x.A x.ss.length x.c), (46, ay x.ss.length), (47, ay i)] : Slots)
abbrev GR := fun z1 (x : bZ) gl dG g3 i (m1 : kQ) cap3 g2 cap2 z10 => ((gK z1 x gl dG) ++ [(9, ay x.img.at0), (10, aC g3 (((jU x i).length) + m1.data.length) cap3), (11, aC g2 (i + 1) cap2), (12, aC (z10 + 2) 0 0), (45, .slice x.A x.ss.length x.c), (46, ay x.ss.length)] : Slots)
abbrev nO := fun z1 (x : bZ) gl dG bg gt cu i bc pg pc => ((gK z1 x gl dG) ++ [(9, ay x.img.at0), (10, aC bg ((iH x gt cu i).length) bc), (11, aC pg x.ss.length pc)] : Slots)
abbrev mY := fun z28 (x : bZ) gt cu i => ((z28, .cells #[ay (x.img.at0 + (iH x gt cu i).length)] 3 (0, 0)) : Nat × Obj)
abbrev uw := fun z1 (x : bZ) gl dG bg gt cu i bc pg pc g5 cap5 ng nc z26 => ((nO z1 x gl dG bg gt cu i bc pg pc) ++ [(12, aC g5 (i + 1) cap5), (15, aC ng i nc), (17, aA z26), (64, aC gl (x.ps.length + 2) dG), (65, ay (x.ps.length + 2)), (66, ay i)] : Slots)
abbrev yQ := fun z1 (x : bZ) gl dG cg gt cu i cc pg pc rg rc => ((gK z1 x gl dG) ++ [(9, ay x.img.at0), (10, aC cg ((iH x gt cu (i + 1)).length) cc), (11, aC pg x.ss.length pc), (12, aC rg (i + 1) rc)] : Slots)
abbrev xY := fun z1 (x : bZ) gl dG cg gt cu i cc pg pc rg rc g10 nD => ((yQ z1 x gl dG cg gt cu i cc pg pc rg rc) ++ [(15, aC g10 (i + 1) nD), (64, aC gl (x.ps.length + 2) dG), (65, ay (x.ps.length + 2))] : Slots)
abbrev uY := fun z1 (x : bZ) gl dG bg gt cu bc pg pc qg qc => ((gK z1 x gl dG) ++ [(9, ay x.img.at0), (10, aC bg ((iH x gt cu (x.ps.length + 2)).length) bc), (11, aC pg x.ss.length pc), (12, aC qg (x.ps.length + 2) qc)] : Slots)
abbrev kP := fun z1 gl (x : bZ) dG bg gt cu bc pg pc qg qc gp eY => ([(1, aA z1), (8, aC gl (x.ps.length + 2) dG), (10, aC bg ((iH x gt cu (x.ps.length + 2)).length) bc), (11, aC pg x.ss.length pc), (12, aC qg (x.ps.length + 2) qc), (19, aC gp x.img.names.length eY)] : Slots)
abbrev Bq := fun z1 gl (x : bZ) dG bg gt cu bc pg pc qg qc gp eY ug i uc => ((kP z1 gl x dG bg gt cu bc pg pc qg qc gp eY) ++ [(20, aC ug ((kW x i).length) uc), (115, .slice x.A x.ss.length x.c), (116, ay x.ss.length), (117, ay i)] : Slots)
abbrev xZ := fun z48 (m12 : kQ) => ((z48, .cells #[aX m12.ty, aX m12.flags, aI m12.bY, aI m12.b_, aI m12.dw, aI m12.align, .slice m12.A m12.data.length m12.c] 57 (0, 0)) : Nat × Obj)
abbrev FN := fun z1 gl (x : bZ) dG bg gt cu bc pg pc qg qc gp eY i ug uc (m12 : kQ) => ((kP z1 gl x dG bg gt cu bc pg pc qg qc gp eY) ++ [(115, .slice x.A x.ss.length x.c), (116, ay x.ss.length), (117, ay i), (122, aC ug ((kW x i).length) uc), (123, .agg #[.bool x.wide, .bool x.big, aT x.abi, aT x.aH, .int .i64 x.ty, .int .i64 x.machine, aI x.entry, .slice x.A x.ss.length x.c, .slice x.B x.ps.length x.d]), (124, .agg #[aX m12.ty, aX m12.flags, aI m12.bY, aI m12.b_, aI m12.dw, aI m12.align, .slice m12.A m12.data.length m12.c])] : Slots)
abbrev kN := fun z1 pg (x : bZ) pc qg qc gp eY => ([(1, aA z1), (11, aC pg x.ss.length pc), (12, aC qg (x.ps.length + 2) qc), (19, aC gp x.img.names.length eY)] : Slots)
abbrev Bo := fun z1 pg (x : bZ) pc qg qc gp eY ug i uc gl dG => ((kN z1 pg x pc qg qc gp eY) ++ [(20, aC ug ((ny x i).length) uc), (135, aC gl (x.ps.length + 2) dG), (136, ay (x.ps.length + 2)), (137, ay i)] : Slots)
abbrev MZ := fun z1 pg (x : bZ) pc qg qc gp eY i z57 gl dG ug uc => ((kN z1 pg x pc qg qc gp eY) ++ [(23, ay i), (24, aA z57), (135, aC gl (x.ps.length + 2) dG), (136, ay (x.ps.length + 2)), (137, ay i), (142, aC ug ((ny x i).length) uc), (143, .agg #[.bool x.wide, .bool x.big, aT x.abi, aT x.aH, .int .i64 x.ty, .int .i64 x.machine, aI x.entry, .slice x.A x.ss.length x.c, .slice x.B x.ps.length x.d])] : Slots)
abbrev FP := fun (x : bZ) => ((143, .agg #[.bool x.wide, .bool x.big, aT x.abi, aT x.aH, .int .i64 x.ty, .int .i64 x.machine, aI x.entry, .slice x.A x.ss.length x.c, .slice x.B x.ps.length x.d]) : Nat × Value)
theorem SI (x : bZ) (w0 : World) (h : x.At w0) (ok : x.Ok) :
  Calls Tryd.prog 36 #[x.val] w0 fun e w' => ∃ g cap cur g2 cap2 jY g3 cap3 oG, e = .returned (.tuple #[aC g x.img.file.length cap, aC g2 x.ss.length cap2, aC g3 (x.ps.length + 2) cap3]) ∧ Below w0.heap.size w0 w' ∧
   Own w0.heap.size w' 5 1 g x.img.file.length cap cur (x.img.file.map Bv) ∧ Own w0.heap.size w' 3 1 g2 x.ss.length cap2 jY ((List.range x.ss.length).map (fun j => r_ (x.img.kT j))) ∧ Own w0.heap.size w' 3 1 g3 (x.ps.length + 2) cap3 oG ((List.range (x.ps.length + 2)).map (fun j => r_ (x.img.jc j))) := by
 have xM := bZ.ok ok h
 have hk1 := ok.dJ; have hk2 := ok.parts; have hk3 := xM.sO; have hk4 := xM.DK; have hk5 := xM.DL; have hk6 := xM.Nq; have hk7 := xM.G8; have hk8 := xM.length_le
 have hsz : iw x.wide ≤ 64 ∧ iU x.wide ≤ 64 ∧ jk x.wide ≤ 64 := by unfold iw iU jk; cases x.wide <;> decide
 have hat0 := UM x
 have hmul : iU x.wide * x.ss.length ≤ 64 * 100 := Nat.mul_le_mul hsz.2.1 hk1
 obtain ⟨w, hw⟩ : ∃ w, w0 = w := ⟨_, rfl⟩
 have HM : Mm [] w0 w [] := hw ▸ Mm.start w0
 conv => arg 4; rw [hw]
 clear hw
 refine bI Tryd.func36 rfl Tryd.ntmps36 [(0, .agg #[.bool x.wide, .bool x.big, aT x.abi, aT x.aH, .int .i64 x.ty, .int .i64 x.machine, aI x.entry, .slice x.A x.ss.length x.c, .slice x.B x.ps.length x.d])] (by kernel_rfl) (Nat.le_of_ble_eq_true rfl) ?_
 intro a HF
 refine aN ?_
 obtain ⟨z1, hz1⟩ : ∃ z, w.heap.size = z := ⟨_, rfl⟩
 refine aP HF HM hz1 4 [] [(1, aA z1)] [dM z1 x] (by kernel_rfl) fun a w HF HM => ?_
 clear hz1
 refine bT ?_
 refine wp_pure HF HM rfl 2 [[0]] [(1, aA z1), (27, .bool x.wide)] (by kernel_rfl) fun a HF => ?_
 refine bf HF (by kernel_rfl) 64 #[.bool x.wide] (by kernel_rfl) (fun w => by kernel_rfl) (Calls.mono (JD x.wide w) ?_)
 rintro _ w1 ⟨rfl, hb⟩
 replace HM := HM.call hb
 clear hb
 refine ⟨_, rfl, ?_⟩; clear HF; intro a HF
 refine wp_pure HF HM rfl 7 [] [(1, aA z1), (5, ay (iw x.wide)), (6, ay (iU x.wide))] (by kernel_rfl) fun a HF => ?_
 refine bT ?_
 refine wp_pure HF HM rfl 1 [[0]] [(1, aA z1), (5, ay (iw x.wide)), (6, ay (iU x.wide)), (32, .agg #[.bool x.wide, .bool x.big, aT x.abi, aT x.aH, .int .i64 x.ty, .int .i64 x.machine, aI x.entry, .slice x.A x.ss.length x.c, .slice x.B x.ps.length x.d])] (by kernel_rfl) fun a HF => ?_
 refine bf HF (by kernel_rfl) 38 #[.agg #[.bool x.wide, .bool x.big, aT x.abi, aT x.aH, .int .i64 x.ty, .int .i64 x.machine, aI x.entry, .slice x.A x.ss.length x.c, .slice x.B x.ps.length x.d]] (by kernel_rfl) (fun w => by kernel_rfl) (Calls.mono (Un x w1 (h.below HM.below) (by omega) (by omega)) ?_)
 rintro _ w2 ⟨gl, dG, curl, gt, cu, iT, rfl, hb, hol, hot, hne⟩
 replace HM : Mm [] w0 w2 [(gl, .cells curl 46 (0, 0)), (gt, .cells iT 5 (0, 0)), dM z1 x] := HM.PD hb hot.new hot.obj hol.new hol.obj hne
 have hal := CV x gt cu
 refine ⟨_, rfl, ?_⟩; clear HF; intro a HF
 refine wp_pure HF HM rfl 1 [] [(1, aA z1), (5, ay (iw x.wide)), (6, ay (iU x.wide)), (8, aC gl (x.ps.length + 2) dG)] (by kernel_rfl) fun a HF => ?_
 refine bT ?_
 refine wp_pure HF HM rfl 5 [[0]] ((gK z1 x gl dG) ++ [(34, ay (iw x.wide)), (35, ay (iU x.wide)), (38, ay x.ss.length)]) (by kernel_rfl) fun a HF => ?_
 refine wp_pure HF HM rfl 1 [] ((gK z1 x gl dG) ++ [(34, ay (iw x.wide)), (39, aF (IntKind.i64.wrap ((((iU x.wide) : Nat) : Int) * ((x.ss.length : Nat) : Int))))]) (by kernel_rfl) fun a HF => ?_
 rw [show IntKind.i64.wrap ((((iU x.wide) : Nat) : Int) * ((x.ss.length : Nat) : Int)) = ((((iU x.wide * x.ss.length)) : Nat) : Int) from (IntWalk.i64_in _ (by rw [← Int.natCast_mul]; omega)).trans (Int.natCast_mul _ _).symm] at HF
 refine wp_pure HF HM rfl 1 [] ((gK z1 x gl dG) ++ [(40, aF (IntKind.i64.wrap ((((iw x.wide) : Nat) : Int) + ((((iU x.wide * x.ss.length)) : Nat) : Int))))]) (by kernel_rfl) fun a HF => ?_
 rw [show IntKind.i64.wrap ((((iw x.wide) : Nat) : Int) + ((((iU x.wide * x.ss.length)) : Nat) : Int)) = ((x.img.at0 : Nat) : Int) from (IntWalk.i64_in _ (by omega)).trans (by omega)] at HF
 refine wp_pure HF HM rfl 1 [] ((gK z1 x gl dG) ++ [(9, ay x.img.at0)]) (by kernel_rfl) fun a HF => ?_
 refine bT ?_
 obtain ⟨z10, xO⟩ : ∃ z, w2.heap.size = z := ⟨_, rfl⟩
 refine aP HF HM xO 6 [] ((gK z1 x gl dG) ++ [(9, ay x.img.at0), (10, aC z10 0 0), (11, aC (z10 + 1) 0 0), (12, aC (z10 + 2) 0 0)]) [((z10 + 2), .cells #[] 3 (0, 0)), ((z10 + 1), .cells #[] 3 (0, 0)), (z10, .cells #[] 5 (0, 0)), (gl, .cells curl 46 (0, 0)), (gt, .cells iT 5 (0, 0)), dM z1 x] (by kernel_rfl) fun a w HF HM => ?_
 clear xO
 refine aB ?_
 refine wp_seq ?_
 refine aN ?_
 refine wp_pure HF HM rfl 4 [[0]] ((gK z1 x gl dG) ++ [(9, ay x.img.at0), (10, aC z10 0 0), (11, aC (z10 + 1) 0 0), (12, aC (z10 + 2) 0 0), (45, .slice x.A x.ss.length x.c), (46, ay x.ss.length), (47, aF 0)]) (by kernel_rfl) fun a HF => ?_
 refine aB ?_
 refine wp_block ?_
 refine jX (x.ss.length) (fun i a w => (∃ bg : Nat, ∃ bc : Nat, ∃ bk : Array Value, ∃ pg : Nat, ∃ pc : Nat, ∃ pk : Array Value, (bk.toList.take (((jU x i).length) * 1) = (jU x i).map Bv) ∧ (bk.size = bc * 1) ∧ (((jU x i).length) ≤ bc) ∧ (bc ≤ maxLen) ∧ (pk.toList.take (i * 1) = (List.range i).map (fun j => r_ (x.img.kT j))) ∧ (pk.size = pc * 1) ∧ (i ≤ pc) ∧ (pc ≤ maxLen) ∧ Mm [] w0 w [(pg, .cells pk 3 (0, 0)), (bg, .cells bk 5 (0, 0)), ((z10 + 2), .cells #[] 3 (0, 0)), (gl, .cells curl 46 (0, 0)), (gt, .cells iT 5 (0, 0)), dM z1 x] ∧ Fr 159 a (GU z1 x gl dG bg i bc pg pc z10))) ?_ ?_ ?_
 ·exact ⟨z10, 0, #[], (z10 + 1), 0, #[], rfl, rfl, Nat.le_refl _, by unfold maxLen; omega, rfl, rfl, Nat.le_refl _, by unfold maxLen; omega, (HM.pick [1, 2, 0, 3, 4, 5] [((z10 + 1), .cells #[] 3 (0, 0)), (z10, .cells #[] 5 (0, 0)), ((z10 + 2), .cells #[] 3 (0, 0)), (gl, .cells curl 46 (0, 0)), (gt, .cells iT 5 (0, 0)), dM z1 x] rfl (by decide)), HF.sub ((gK z1 x gl dG) ++ [(9, ay x.img.at0), (10, aC z10 ((jU x 0).length) 0), (11, aC (z10 + 1) 0 0), (12, aC (z10 + 2) 0 0), (45, .slice x.A x.ss.length x.c), (46, ay x.ss.length), (47, aF 0)]) (by kernel_rfl)⟩
 ·intro i a w KX hi hI KR
  obtain ⟨bg, bc, bk, pg, pc, pk, Dv, JY, GX, Np, ptk, psz, pnc, pcm, HM, HF⟩ := hI
  have hpl := NT x i; have hsl := Qs x i
  refine aN ?_
  refine wp_pure HF HM rfl 1 [] ((GU z1 x gl dG bg i bc pg pc z10) ++ [(48, .bool (decide (((i : Nat) : Int) < ((x.ss.length : Nat) : Int))))]) (by kernel_rfl) fun a HF => ?_
  refine aB ?_
  refine wp_seq ?_
  rw [show decide (((i : Nat) : Int) < ((x.ss.length : Nat) : Int)) = true from dV (by omega)] at HF
  refine bC HF rfl ?_
  refine wp_skip ?_
  repeat first | refine aK ?_ | refine aS ?_
  refine wp_seq ?_
  refine wp_block ?_
  refine aN ?_
  obtain ⟨m1, hm1⟩ : ∃ m, x.ss[i]? = some m := ⟨_, List.getElem?_eq_getElem (by omega)⟩
  have UK := ok.seg m1 (List.mem_of_getElem? hm1)
  have hmd_m1 := UK.data
  have MK := h.seg m1 (List.mem_of_getElem? hm1)
  have hmt_m1 := MK.ty; have hmf_m1 := MK.flags
  refine bU HF (by kernel_rfl) (.pointer (Option.map (fun q : Addr => q.add (i * 7)) x.A)) (by kernel_rfl) (dS Tryd.underlying23 (by kernel_rfl) rfl i rfl rfl (by omega) (gQ (fH (f := kQ.cells) (k := 7) (fun _ => rfl) (HM.row h.dJ) i hm1) (Nat.zero_lt_succ _))) fun a HF => ?_
  refine bU HF (by kernel_rfl) (.agg #[aX m1.ty, aX m1.flags, aI m1.bY, aI m1.b_, aI m1.dw, aI m1.align, .slice m1.A m1.data.length m1.c]) (by kernel_rfl) (iC rfl rfl (fH (f := kQ.cells) (k := 7) (fun _ => rfl) (HM.row h.dJ) i hm1) (Nat.zero_lt_succ _) Tryd.underlying57 rfl (by kernel_rfl)) fun a HF => ?_
  obtain ⟨z13, FD⟩ : ∃ z, w.heap.size = z := ⟨_, rfl⟩
  refine aP HF HM FD 2 [[6]] ((gK z1 x gl dG) ++ [(9, ay x.img.at0), (10, aC bg ((jU x i).length) bc), (11, aC pg i pc), (12, aC (z10 + 2) 0 0), (14, aA z13), (45, .slice x.A x.ss.length x.c), (46, ay x.ss.length), (47, ay i)]) [yR z13 m1, (pg, .cells pk 3 (0, 0)), (bg, .cells bk 5 (0, 0)), ((z10 + 2), .cells #[] 3 (0, 0)), (gl, .cells curl 46 (0, 0)), (gt, .cells iT 5 (0, 0)), dM z1 x] (by kernel_rfl) fun a w HF HM => ?_
  clear FD
  refine bT ?_
  refine wp_pure HF HM rfl 5 [] ((CU z1 x gl dG bg i bc z10 z13) ++ [(51, aC pg i pc), (55, aF (IntKind.i64.wrap (((x.img.at0 : Nat) : Int) + ((((jU x i).length) : Nat) : Int))))]) (by kernel_rfl) fun a HF => ?_
  rw [show IntKind.i64.wrap (((x.img.at0 : Nat) : Int) + ((((jU x i).length) : Nat) : Int)) = (((x.img.kT i) : Nat) : Int) from (IntWalk.i64_in _ (by omega)).trans (by omega)] at HF
  obtain ⟨uH, Bd⟩ : ∃ z, w.heap.size = z := ⟨_, rfl⟩
  refine aP HF HM Bd 1 [] ((CU z1 x gl dG bg i bc z10 z13) ++ [(51, aC pg i pc), (56, aC uH 1 1)]) [(uH, .cells #[ay (x.img.kT i)] 3 (0, 0)), yR z13 m1, (pg, .cells pk 3 (0, 0)), (bg, .cells bk 5 (0, 0)), ((z10 + 2), .cells #[] 3 (0, 0)), (gl, .cells curl 46 (0, 0)), (gt, .cells iT 5 (0, 0)), dM z1 x] (by kernel_rfl) fun a w HF HM => ?_
  clear Bd
  refine fU HF HM rfl _ _ 66 66 rfl rfl 3 (z := aF 0) (size := 1) (bytes := 8) Tryd.underlying66 (by kernel_rfl) rfl (by decide) 2 pg i pc pk rfl rfl pnc pcm psz ((List.range i).map (fun j => r_ (x.img.kT j))) ptk (aC uH 1 1) 1 [ay (x.img.kT i)] rfl (lF Tryd.underlying66 rfl (by decide) (HM.rowAt (i := 0) rfl) (lM rfl)) (by unfold maxLen; omega) (by omega) ?_
  intro a w3 g2 cap2 jY bJ tY hsz2 uU hcm2 HF2; clear HF HM
  replace tY : jY.toList.take ((i + 1) * 1) = (List.range (i + 1)).map (fun j => r_ (x.img.kT j)) := tY.trans (Ik i)
  have HM : Mm [] w0 w3 [(uH, .cells #[ay (x.img.kT i)] 3 (0, 0)), yR z13 m1, (g2, .cells jY 3 (0, 0)), (bg, .cells bk 5 (0, 0)), ((z10 + 2), .cells #[] 3 (0, 0)), (gl, .cells curl 46 (0, 0)), (gt, .cells iT 5 (0, 0)), dM z1 x] := bJ
  have HF := HF2.sub ((CU z1 x gl dG bg i bc z10 z13) ++ [(57, aC g2 (i + 1) cap2)]) (by kernel_rfl); clear bJ HF2
  refine wp_pure HF HM rfl 1 [] ((gK z1 x gl dG) ++ [(9, ay x.img.at0), (10, aC bg ((jU x i).length) bc), (11, aC g2 (i + 1) cap2), (12, aC (z10 + 2) 0 0), (14, aA z13), (45, .slice x.A x.ss.length x.c), (46, ay x.ss.length), (47, ay i)]) (by kernel_rfl) fun a HF => ?_
  refine aB ?_
  refine wp_region_lit ?_
  refine wp_pure HF HM rfl 3 [[6]] ((gK z1 x gl dG) ++ [(9, ay x.img.at0), (11, aC g2 (i + 1) cap2), (12, aC (z10 + 2) 0 0), (45, .slice x.A x.ss.length x.c), (46, ay x.ss.length), (47, ay i), (58, aC bg ((jU x i).length) bc), (60, .slice m1.A m1.data.length m1.c)]) (by kernel_rfl) fun a HF => ?_
  refine fU HF HM rfl _ _ 33 33 rfl rfl 5 (z := aO 0) (size := 1) (bytes := 1) Tryd.underlying33 (by kernel_rfl) rfl (by decide) 3 bg ((jU x i).length) bc bk rfl rfl GX Np JY ((jU x i).map Bv) Dv (.slice m1.A m1.data.length m1.c) m1.data.length (m1.data.map Bv) rfl (lF Tryd.underlying33 (by simp) (by decide) (HM.row MK.row) (rM _)) (by unfold maxLen; omega) (by omega) ?_
  intro a w4 g3 cap3 oG bJ CO hsz3 Jo MN HF2; clear HF HM
  replace CO : oG.toList.take ((((jU x i).length) + m1.data.length) * 1) = (jU x (i + 1)).map Bv := CO.trans (by rw [GK hm1, List.map_append])
  have HM : Mm [] w0 w4 [(uH, .cells #[ay (x.img.kT i)] 3 (0, 0)), yR z13 m1, (g2, .cells jY 3 (0, 0)), (g3, .cells oG 5 (0, 0)), ((z10 + 2), .cells #[] 3 (0, 0)), (gl, .cells curl 46 (0, 0)), (gt, .cells iT 5 (0, 0)), dM z1 x] := bJ
  have HF := HF2.sub ((gK z1 x gl dG) ++ [(9, ay x.img.at0), (11, aC g2 (i + 1) cap2), (12, aC (z10 + 2) 0 0), (45, .slice x.A x.ss.length x.c), (46, ay x.ss.length), (47, ay i), (61, aC g3 (((jU x i).length) + m1.data.length) cap3)]) (by kernel_rfl); clear bJ HF2
  refine wp_pure HF HM rfl 1 [] ((GR z1 x gl dG g3 i m1 cap3 g2 cap2 z10) ++ [(47, ay i)]) (by kernel_rfl) fun a HF => ?_
  refine wpList_nil ?_
  repeat first | refine aK ?_ | refine aS ?_
  refine wp_region_lit ?_
  refine wp_pure HF HM rfl 1 [] ((GR z1 x gl dG g3 i m1 cap3 g2 cap2 z10) ++ [(62, aF (IntKind.i64.wrap (((i : Nat) : Int) + 1)))]) (by kernel_rfl) fun a HF => ?_
  rw [show IntKind.i64.wrap (((i : Nat) : Int) + 1) = (((i + 1) : Nat) : Int) from (IntWalk.i64_in _ (by omega)).trans (by omega)] at HF
  refine wp_pure HF HM rfl 1 [] ((gK z1 x gl dG) ++ [(9, ay x.img.at0), (10, aC g3 (((jU x i).length) + m1.data.length) cap3), (11, aC g2 (i + 1) cap2), (12, aC (z10 + 2) 0 0), (45, .slice x.A x.ss.length x.c), (46, ay x.ss.length), (47, ay (i + 1))]) (by kernel_rfl) fun a HF => ?_
  refine wpList_nil ?_
  repeat first | refine aK ?_ | refine aS ?_
  rw [show (((jU x i).length) + m1.data.length) = ((jU x (i + 1)).length) from by rw [GK hm1, List.length_append]] at HF CO Jo
  exact KR _ _ (⟨g3, cap3, oG, g2, cap2, jY, CO, hsz3, Jo, MN, tY, hsz2, uU, hcm2, (HM.pick [2, 3, 4, 5, 6, 7] [(g2, .cells jY 3 (0, 0)), (g3, .cells oG 5 (0, 0)), ((z10 + 2), .cells #[] 3 (0, 0)), (gl, .cells curl 46 (0, 0)), (gt, .cells iT 5 (0, 0)), dM z1 x] rfl (by decide)), HF.sub ((gK z1 x gl dG) ++ [(9, ay x.img.at0), (10, aC g3 ((jU x (i + 1)).length) cap3), (11, aC g2 (i + 1) cap2), (12, aC (z10 + 2) 0 0), (45, .slice x.A x.ss.length x.c), (46, ay x.ss.length), (47, ay (i + 1))]) (by kernel_rfl)⟩)
 ·intro a w KX hI
  obtain ⟨bg, bc, bk, pg, pc, pk, Dv, JY, GX, Np, ptk, psz, pnc, pcm, HM, HF⟩ := hI
  refine aN ?_
  refine wp_pure HF HM rfl 1 [] ((gK z1 x gl dG) ++ [(9, ay x.img.at0), (10, aC bg ((jU x x.ss.length).length) bc), (11, aC pg x.ss.length pc), (12, aC (z10 + 2) 0 0), (45, .slice x.A x.ss.length x.c), (46, ay x.ss.length), (47, ay x.ss.length), (48, .bool (decide (((x.ss.length : Nat) : Int) < ((x.ss.length : Nat) : Int))))]) (by kernel_rfl) fun a HF => ?_
  refine aB ?_
  refine wp_seq ?_
  rw [show decide (((x.ss.length : Nat) : Int) < ((x.ss.length : Nat) : Int)) = false from dI (by omega)] at HF
  refine aZ HF rfl ?_
  refine wp_exit ?_
  repeat (first | refine fG ?_ | refine fA rfl ?_)
  refine iD ?_
  repeat first | refine aK ?_ | refine aS ?_
  refine aN ?_
  obtain ⟨z22, hz22⟩ : ∃ z, w.heap.size = z := ⟨_, rfl⟩
  refine aP HF HM hz22 2 [] ((gK z1 x gl dG) ++ [(9, ay x.img.at0), (10, aC bg ((jU x x.ss.length).length) bc), (11, aC pg x.ss.length pc), (12, aC (z10 + 2) 0 0), (15, aC z22 0 0)]) [(z22, .cells #[] 9 (0, 0)), (pg, .cells pk 3 (0, 0)), (bg, .cells bk 5 (0, 0)), ((z10 + 2), .cells #[] 3 (0, 0)), (gl, .cells curl 46 (0, 0)), (gt, .cells iT 5 (0, 0)), dM z1 x] (by kernel_rfl) fun a w HF HM => ?_
  clear hz22
  refine aB ?_
  refine wp_seq ?_
  refine aN ?_
  refine wp_pure HF HM rfl 3 [] ((gK z1 x gl dG) ++ [(9, ay x.img.at0), (10, aC bg ((jU x x.ss.length).length) bc), (11, aC pg x.ss.length pc), (12, aC (z10 + 2) 0 0), (15, aC z22 0 0), (64, aC gl (x.ps.length + 2) dG), (65, ay (x.ps.length + 2)), (66, aF 0)]) (by kernel_rfl) fun a HF => ?_
  refine aB ?_
  refine wp_block ?_
  refine jX ((x.ps.length + 2)) (fun i a w => (∃ bg : Nat, ∃ bc : Nat, ∃ bk : Array Value, ∃ qg : Nat, ∃ qc : Nat, ∃ qk : Array Value, ∃ ng : Nat, ∃ nc : Nat, ∃ nk : Array Value, (bk.toList.take (((iH x gt cu i).length) * 1) = (iH x gt cu i).map Bv) ∧ (bk.size = bc * 1) ∧ (((iH x gt cu i).length) ≤ bc) ∧ (bc ≤ maxLen) ∧ (qk.toList.take (i * 1) = (List.range i).map (fun j => r_ (x.img.jc j))) ∧ (qk.size = qc * 1) ∧ (i ≤ qc) ∧ (qc ≤ maxLen) ∧ (nk.toList.take (i * 1) = ((allM x gt cu).take i).map (fun p => nT p.name)) ∧ (nk.size = nc * 1) ∧ (i ≤ nc) ∧ (nc ≤ maxLen) ∧ Mm [] w0 w [(ng, .cells nk 9 (0, 0)), (qg, .cells qk 3 (0, 0)), (bg, .cells bk 5 (0, 0)), (pg, .cells pk 3 (0, 0)), (gl, .cells curl 46 (0, 0)), (gt, .cells iT 5 (0, 0)), dM z1 x] ∧ Fr 159 a [(1, aA z1), (5, ay (iw x.wide)), (8, aC gl (x.ps.length + 2) dG), (9, ay x.img.at0), (10, aC bg ((iH x gt cu i).length) bc), (11, aC pg x.ss.length pc), (12, aC qg i qc), (15, aC ng i nc), (64, aC gl (x.ps.length + 2) dG), (65, ay (x.ps.length + 2)), (66, ay i)])) ?_ ?_ ?_
  rw [Px, ← Qh x gt cu] at HF Dv GX
  ·exact ⟨bg, bc, bk, (z10 + 2), 0, #[], z22, 0, #[], Dv, JY, GX, Np, rfl, rfl, Nat.le_refl _, by unfold maxLen; omega, rfl, rfl, Nat.le_refl _, by unfold maxLen; omega, (HM.pick [0, 3, 2, 1, 4, 5, 6] [(z22, .cells #[] 9 (0, 0)), ((z10 + 2), .cells #[] 3 (0, 0)), (bg, .cells bk 5 (0, 0)), (pg, .cells pk 3 (0, 0)), (gl, .cells curl 46 (0, 0)), (gt, .cells iT 5 (0, 0)), dM z1 x] rfl (by decide)), HF.sub ((gK z1 x gl dG) ++ [(9, ay x.img.at0), (10, aC bg ((iH x gt cu 0).length) bc), (11, aC pg x.ss.length pc), (12, aC (z10 + 2) 0 0), (15, aC z22 0 0), (64, aC gl (x.ps.length + 2) dG), (65, ay (x.ps.length + 2)), (66, aF 0)]) (by kernel_rfl)⟩
  ·intro i a w KX hi hI KR
   obtain ⟨bg, bc, bk, qg, qc, qk, ng, nc, nk, Dv, JY, GX, Np, Il, LY, JF, LZ, ntk, nsz, nnc, ncm, HM, HF⟩ := hI
   have hsl := HY x gt cu i xM; have hsl2 := HY x gt cu (i + 1) xM; have hat9 := xM.Nq
   refine aN ?_
   refine wp_pure HF HM rfl 1 [] ((nO z1 x gl dG bg gt cu i bc pg pc) ++ [(12, aC qg i qc), (15, aC ng i nc), (64, aC gl (x.ps.length + 2) dG), (65, ay (x.ps.length + 2)), (66, ay i), (67, .bool (decide (((i : Nat) : Int) < (((x.ps.length + 2) : Nat) : Int))))]) (by kernel_rfl) fun a HF => ?_
   refine aB ?_
   refine wp_seq ?_
   rw [show decide (((i : Nat) : Int) < (((x.ps.length + 2) : Nat) : Int)) = true from dV (by omega)] at HF
   refine bC HF rfl ?_
   refine wp_skip ?_
   repeat first | refine aK ?_ | refine aS ?_
   refine wp_seq ?_
   refine wp_block ?_
   refine aN ?_
   refine wp_pure HF HM rfl 1 [] ((nO z1 x gl dG bg gt cu i bc pg pc) ++ [(12, aC qg i qc), (15, aC ng i nc), (64, aC gl (x.ps.length + 2) dG), (65, ay (x.ps.length + 2)), (66, ay i), (68, ay i)]) (by kernel_rfl) fun a HF => ?_
   obtain ⟨m4, hm4⟩ : ∃ m, (allM x gt cu)[i]? = some m := ⟨_, List.getElem?_eq_getElem (by omega)⟩
   have Rh := List.mem_of_getElem? hm4
   have FK := Rx h ok m4 Rh
   have hmd_m4 := FK.data; have hmt_m4 := FK.ty; have hmf_m4 := FK.flags; have hml_m4 := FK.link; have hmi_m4 := FK.info
   refine bU HF (by kernel_rfl) (.pointer (Option.map (fun q : Addr => q.add (i * 10)) (some ⟨gl, 0, none⟩))) (by kernel_rfl) (dS Tryd.underlying24 (by kernel_rfl) rfl i rfl rfl (by omega) (Option.some_ne_none _)) fun a HF => ?_
   refine bU HF (by kernel_rfl) (.agg #[.string (⟨m4.name.toArray⟩), aX m4.ty, aX m4.flags, aI m4.addr, aX m4.link, aX m4.info, aI m4.align, aI m4.ent, aI m4.size, .slice m4.A m4.data.length m4.c]) (by kernel_rfl) (iC rfl rfl (fH (f := dL.cells) (k := 10) (fun _ => rfl) (HM.nH (i := 4) rfl hol.tk) i hm4) (Nat.zero_lt_succ _) Tryd.underlying46 rfl (by kernel_rfl)) fun a HF => ?_
   obtain ⟨z26, hz26⟩ : ∃ z, w.heap.size = z := ⟨_, rfl⟩
   refine aP HF HM hz26 3 [[7]] ((nO z1 x gl dG bg gt cu i bc pg pc) ++ [(12, aC qg i qc), (15, aC ng i nc), (16, ay i), (17, aA z26), (64, aC gl (x.ps.length + 2) dG), (65, ay (x.ps.length + 2)), (66, ay i)]) [(z26, .cells #[.string (⟨m4.name.toArray⟩), aX m4.ty, aX m4.flags, aI m4.addr, aX m4.link, aX m4.info, aI m4.align, aI m4.ent, aI m4.size, .slice m4.A m4.data.length m4.c] 46 (0, 0)), (ng, .cells nk 9 (0, 0)), (qg, .cells qk 3 (0, 0)), (bg, .cells bk 5 (0, 0)), (pg, .cells pk 3 (0, 0)), (gl, .cells curl 46 (0, 0)), (gt, .cells iT 5 (0, 0)), dM z1 x] (by kernel_rfl) fun a w HF HM => ?_
   clear hz26
   refine bT ?_
   refine wp_pure HF HM rfl 5 [] ((nO z1 x gl dG bg gt cu i bc pg pc) ++ [(15, aC ng i nc), (16, ay i), (17, aA z26), (64, aC gl (x.ps.length + 2) dG), (65, ay (x.ps.length + 2)), (66, ay i), (71, aC qg i qc), (75, aF (IntKind.i64.wrap (((x.img.at0 : Nat) : Int) + ((((iH x gt cu i).length) : Nat) : Int))))]) (by kernel_rfl) fun a HF => ?_
   rw [show IntKind.i64.wrap (((x.img.at0 : Nat) : Int) + ((((iH x gt cu i).length) : Nat) : Int)) = (((x.img.at0 + (iH x gt cu i).length) : Nat) : Int) from (IntWalk.i64_in _ (by omega)).trans (by omega)] at HF
   obtain ⟨z28, hz28⟩ : ∃ z, w.heap.size = z := ⟨_, rfl⟩
   refine aP HF HM hz28 1 [] ((nO z1 x gl dG bg gt cu i bc pg pc) ++ [(15, aC ng i nc), (16, ay i), (17, aA z26), (64, aC gl (x.ps.length + 2) dG), (65, ay (x.ps.length + 2)), (66, ay i), (71, aC qg i qc), (76, aC z28 1 1)]) [mY z28 x gt cu i, (z26, .cells #[.string (⟨m4.name.toArray⟩), aX m4.ty, aX m4.flags, aI m4.addr, aX m4.link, aX m4.info, aI m4.align, aI m4.ent, aI m4.size, .slice m4.A m4.data.length m4.c] 46 (0, 0)), (ng, .cells nk 9 (0, 0)), (qg, .cells qk 3 (0, 0)), (bg, .cells bk 5 (0, 0)), (pg, .cells pk 3 (0, 0)), (gl, .cells curl 46 (0, 0)), (gt, .cells iT 5 (0, 0)), dM z1 x] (by kernel_rfl) fun a w HF HM => ?_
   clear hz28
   refine fU HF HM rfl _ _ 66 66 rfl rfl 3 (z := aF 0) (size := 1) (bytes := 8) Tryd.underlying66 (by kernel_rfl) rfl (by decide) 3 qg i qc qk rfl rfl JF LZ LY ((List.range i).map (fun j => r_ (x.img.jc j))) Il (aC z28 1 1) 1 [ay (x.img.at0 + (iH x gt cu i).length)] rfl (lF Tryd.underlying66 rfl (by decide) (HM.rowAt (i := 0) rfl) (lM rfl)) (by unfold maxLen; omega) (by omega) ?_
   intro a w5 g5 cap5 nJ bJ xQ hsz5 Ey Jp HF2; clear HF HM
   have HM : Mm [] w0 w5 [mY z28 x gt cu i, (z26, .cells #[.string (⟨m4.name.toArray⟩), aX m4.ty, aX m4.flags, aI m4.addr, aX m4.link, aX m4.info, aI m4.align, aI m4.ent, aI m4.size, .slice m4.A m4.data.length m4.c] 46 (0, 0)), (ng, .cells nk 9 (0, 0)), (g5, .cells nJ 3 (0, 0)), (bg, .cells bk 5 (0, 0)), (pg, .cells pk 3 (0, 0)), (gl, .cells curl 46 (0, 0)), (gt, .cells iT 5 (0, 0)), dM z1 x] := bJ
   have HF := HF2.sub ((nO z1 x gl dG bg gt cu i bc pg pc) ++ [(15, aC ng i nc), (16, ay i), (17, aA z26), (64, aC gl (x.ps.length + 2) dG), (65, ay (x.ps.length + 2)), (66, ay i), (77, aC g5 (i + 1) cap5)]) (by kernel_rfl); clear bJ HF2
   refine wp_pure HF HM rfl 1 [] ((nO z1 x gl dG bg gt cu i bc pg pc) ++ [(12, aC g5 (i + 1) cap5), (15, aC ng i nc), (16, ay i), (17, aA z26), (64, aC gl (x.ps.length + 2) dG), (65, ay (x.ps.length + 2)), (66, ay i)]) (by kernel_rfl) fun a HF => ?_
   refine aB ?_
   refine wp_seq ?_
   refine aN ?_
   refine wp_pure HF HM rfl 2 [] ((uw z1 x gl dG bg gt cu i bc pg pc g5 cap5 ng nc z26) ++ [(79, .bool (((i : Nat) : Int) == 0))]) (by kernel_rfl) fun a HF => ?_
   refine aB ?_
   refine Dx (fun a w => (∃ rg : Nat, ∃ rc : Nat, ∃ rk : Array Value, (rk.toList.take ((i + 1) * 1) = (List.range (i + 1)).map (fun j => r_ (x.img.jc j))) ∧ (rk.size = rc * 1) ∧ ((i + 1) ≤ rc) ∧ (rc ≤ maxLen) ∧ Mm [] w0 w [(rg, .cells rk 3 (0, 0)), mY z28 x gt cu i, (z26, .cells #[.string (⟨m4.name.toArray⟩), aX m4.ty, aX m4.flags, aI m4.addr, aX m4.link, aX m4.info, aI m4.align, aI m4.ent, aI m4.size, .slice m4.A m4.data.length m4.c] 46 (0, 0)), (ng, .cells nk 9 (0, 0)), (bg, .cells bk 5 (0, 0)), (pg, .cells pk 3 (0, 0)), (gl, .cells curl 46 (0, 0)), (gt, .cells iT 5 (0, 0)), dM z1 x] ∧ Fr 159 a ((nO z1 x gl dG bg gt cu i bc pg pc) ++ [(12, aC rg (i + 1) rc), (15, aC ng i nc), (17, aA z26), (64, aC gl (x.ps.length + 2) dG), (65, ay (x.ps.length + 2)), (66, ay i)]))) ?_ ?_
   ·by_cases hc6 : ((i : Nat) : Int) = 0
    ·rw [show (((i : Nat) : Int) == 0) = true from uK (hc6)] at HF
     refine bC HF rfl ?_
     refine wp_region_lit ?_
     refine wp_pure HF HM rfl 1 [] ((uw z1 x gl dG bg gt cu i bc pg pc g5 cap5 ng nc z26) ++ [(80, aC g5 (i + 1) cap5)]) (by kernel_rfl) fun a HF => ?_
     refine bU HF (by kernel_rfl) (aA g5) (by kernel_rfl) (dS Tryd.underlying66 (k := 1) (by kernel_rfl) rfl 0 rfl rfl (by omega) (Option.some_ne_none _)) ?_
     clear HF; intro a HF; replace HF := HF.sub ((uw z1 x gl dG bg gt cu i bc pg pc g5 cap5 ng nc z26) ++ [(81, aA g5)]) (by kernel_rfl)
     have hi0 : i = 0 := by omega
     refine jv HF HM rfl 3 _ _ rfl rfl 3 g5 0 nJ 3 rfl rfl (aF 0) rfl rfl rfl (by rw [hsz5]; have hq := Ey; omega) (by kernel_rfl) ?_
     intro a w6 Jz bJ jF HF2; clear HF HM
     have Rz : Jz.toList.take ((i + 1) * 1) = (((List.range i).map (fun j => r_ (x.img.jc j)) ++ [ay (x.img.at0 + (iH x gt cu i).length)]) : List Value).set 0 (aF 0) := by rw [jF, List.take_set, xQ]
     have szs7 : Jz.size = cap5 * 1 := by rw [← Array.length_toList, jF, List.length_set, Array.length_toList, hsz5]
     have HM : Mm [] w0 w6 [mY z28 x gt cu i, (z26, .cells #[.string (⟨m4.name.toArray⟩), aX m4.ty, aX m4.flags, aI m4.addr, aX m4.link, aX m4.info, aI m4.align, aI m4.ent, aI m4.size, .slice m4.A m4.data.length m4.c] 46 (0, 0)), (ng, .cells nk 9 (0, 0)), (g5, .cells Jz 3 (0, 0)), (bg, .cells bk 5 (0, 0)), (pg, .cells pk 3 (0, 0)), (gl, .cells curl 46 (0, 0)), (gt, .cells iT 5 (0, 0)), dM z1 x] := bJ
     have HF := HF2.sub (uw z1 x gl dG bg gt cu i bc pg pc g5 cap5 ng nc z26) (by kernel_rfl); clear bJ HF2 jF
     replace Rz : Jz.toList.take ((i + 1) * 1) = (List.range (i + 1)).map (fun j => r_ (x.img.jc j)) := Rz.trans (by subst hi0; rfl)
     refine wpList_nil ?_
     repeat first | refine aK ?_ | refine aS ?_
     exact ⟨g5, cap5, Jz, Rz, szs7, Ey, Jp, (HM.pick [3, 0, 1, 2, 4, 5, 6, 7, 8] [(g5, .cells Jz 3 (0, 0)), mY z28 x gt cu i, (z26, .cells #[.string (⟨m4.name.toArray⟩), aX m4.ty, aX m4.flags, aI m4.addr, aX m4.link, aX m4.info, aI m4.align, aI m4.ent, aI m4.size, .slice m4.A m4.data.length m4.c] 46 (0, 0)), (ng, .cells nk 9 (0, 0)), (bg, .cells bk 5 (0, 0)), (pg, .cells pk 3 (0, 0)), (gl, .cells curl 46 (0, 0)), (gt, .cells iT 5 (0, 0)), dM z1 x] rfl (by decide)), HF.sub (uw z1 x gl dG bg gt cu i bc pg pc g5 cap5 ng nc z26) (by kernel_rfl)⟩
    rw [show (((i : Nat) : Int) == 0) = false from rW (hc6)] at HF
    refine aZ HF rfl ?_
    refine wp_skip ?_
    repeat first | refine aK ?_ | refine aS ?_
    replace xQ : nJ.toList.take ((i + 1) * 1) = (List.range (i + 1)).map (fun j => r_ (x.img.jc j)) := xQ.trans (by rw [← NW x gt cu i (by omega)]; exact Ik i)
    exact ⟨g5, cap5, nJ, xQ, hsz5, Ey, Jp, (HM.pick [3, 0, 1, 2, 4, 5, 6, 7, 8] [(g5, .cells nJ 3 (0, 0)), mY z28 x gt cu i, (z26, .cells #[.string (⟨m4.name.toArray⟩), aX m4.ty, aX m4.flags, aI m4.addr, aX m4.link, aX m4.info, aI m4.align, aI m4.ent, aI m4.size, .slice m4.A m4.data.length m4.c] 46 (0, 0)), (ng, .cells nk 9 (0, 0)), (bg, .cells bk 5 (0, 0)), (pg, .cells pk 3 (0, 0)), (gl, .cells curl 46 (0, 0)), (gt, .cells iT 5 (0, 0)), dM z1 x] rfl (by decide)), HF.sub (uw z1 x gl dG bg gt cu i bc pg pc g5 cap5 ng nc z26) (by kernel_rfl)⟩
   rintro a w ⟨rg, rc, rk, Oq, Ot, Ou, Ox, HM, HF⟩
   repeat first | refine aK ?_ | refine aS ?_
   refine wp_seq ?_
   refine aN ?_
   refine wp_pure HF HM rfl 3 [[6]] ((nO z1 x gl dG bg gt cu i bc pg pc) ++ [(12, aC rg (i + 1) rc), (15, aC ng i nc), (17, aA z26), (64, aC gl (x.ps.length + 2) dG), (65, ay (x.ps.length + 2)), (66, ay i), (84, .bool (((m4.ty : Nat) : Int) != 8))]) (by kernel_rfl) fun a HF => ?_
   refine aB ?_
   refine Dx (fun a w => (∃ cg : Nat, ∃ cc : Nat, ∃ ck : Array Value, (ck.toList.take (((iH x gt cu (i + 1)).length) * 1) = (iH x gt cu (i + 1)).map Bv) ∧ (ck.size = cc * 1) ∧ (((iH x gt cu (i + 1)).length) ≤ cc) ∧ (cc ≤ maxLen) ∧ Mm [] w0 w [(cg, .cells ck 5 (0, 0)), (rg, .cells rk 3 (0, 0)), mY z28 x gt cu i, (z26, .cells #[.string (⟨m4.name.toArray⟩), aX m4.ty, aX m4.flags, aI m4.addr, aX m4.link, aX m4.info, aI m4.align, aI m4.ent, aI m4.size, .slice m4.A m4.data.length m4.c] 46 (0, 0)), (ng, .cells nk 9 (0, 0)), (pg, .cells pk 3 (0, 0)), (gl, .cells curl 46 (0, 0)), (gt, .cells iT 5 (0, 0)), dM z1 x] ∧ Fr 159 a ((yQ z1 x gl dG cg gt cu i cc pg pc rg rc) ++ [(15, aC ng i nc), (17, aA z26), (64, aC gl (x.ps.length + 2) dG), (65, ay (x.ps.length + 2)), (66, ay i)]))) ?_ ?_
   ·by_cases hc8 : ((m4.ty : Nat) : Int) ≠ 8
    ·rw [show (((m4.ty : Nat) : Int) != 8) = true from TB (hc8)] at HF
     refine bC HF rfl ?_
     refine wp_region_lit ?_
     refine wp_pure HF HM rfl 3 [[6]] ((gK z1 x gl dG) ++ [(9, ay x.img.at0), (11, aC pg x.ss.length pc), (12, aC rg (i + 1) rc), (15, aC ng i nc), (17, aA z26), (64, aC gl (x.ps.length + 2) dG), (65, ay (x.ps.length + 2)), (66, ay i), (85, aC bg ((iH x gt cu i).length) bc), (87, .slice m4.A m4.data.length m4.c)]) (by kernel_rfl) fun a HF => ?_
     refine fU HF HM rfl _ _ 33 33 rfl rfl 5 (z := aO 0) (size := 1) (bytes := 1) Tryd.underlying33 (by kernel_rfl) rfl (by decide) 4 bg ((iH x gt cu i).length) bc bk rfl rfl GX Np JY ((iH x gt cu i).map Bv) Dv (.slice m4.A m4.data.length m4.c) m4.data.length (m4.data.map Bv) rfl (lF Tryd.underlying33 (by simp) (by decide) (Uo h HM (k := 7) rfl hot.tk m4 Rh) (rM _)) (by unfold maxLen; omega) (by omega) ?_
     intro a w7 g9 Qg Qd bJ PU hsz9 hnc9 hcm9 HF2; clear HF HM
     have HM : Mm [] w0 w7 [(rg, .cells rk 3 (0, 0)), mY z28 x gt cu i, (z26, .cells #[.string (⟨m4.name.toArray⟩), aX m4.ty, aX m4.flags, aI m4.addr, aX m4.link, aX m4.info, aI m4.align, aI m4.ent, aI m4.size, .slice m4.A m4.data.length m4.c] 46 (0, 0)), (ng, .cells nk 9 (0, 0)), (g9, .cells Qd 5 (0, 0)), (pg, .cells pk 3 (0, 0)), (gl, .cells curl 46 (0, 0)), (gt, .cells iT 5 (0, 0)), dM z1 x] := bJ
     have HF := HF2.sub ((gK z1 x gl dG) ++ [(9, ay x.img.at0), (11, aC pg x.ss.length pc), (12, aC rg (i + 1) rc), (15, aC ng i nc), (17, aA z26), (64, aC gl (x.ps.length + 2) dG), (65, ay (x.ps.length + 2)), (66, ay i), (88, aC g9 (((iH x gt cu i).length) + m4.data.length) Qg)]) (by kernel_rfl); clear bJ HF2
     refine wp_pure HF HM rfl 1 [] ((gK z1 x gl dG) ++ [(9, ay x.img.at0), (10, aC g9 (((iH x gt cu i).length) + m4.data.length) Qg), (11, aC pg x.ss.length pc), (12, aC rg (i + 1) rc), (15, aC ng i nc), (17, aA z26), (64, aC gl (x.ps.length + 2) dG), (65, ay (x.ps.length + 2)), (66, ay i)]) (by kernel_rfl) fun a HF => ?_
     refine wpList_nil ?_
     repeat first | refine aK ?_ | refine aS ?_
     replace PU : Qd.toList.take ((((iH x gt cu i).length) + m4.data.length) * 1) = (iH x gt cu (i + 1)).map Bv := PU.trans (by rw [Aq hm4, OZ hc8, List.map_append])
     rw [show (((iH x gt cu i).length) + m4.data.length) = ((iH x gt cu (i + 1)).length) from by rw [Aq hm4, OZ hc8, List.length_append]] at HF PU hnc9
     exact ⟨g9, Qg, Qd, PU, hsz9, hnc9, hcm9, (HM.pick [4, 0, 1, 2, 3, 5, 6, 7, 8] [(g9, .cells Qd 5 (0, 0)), (rg, .cells rk 3 (0, 0)), mY z28 x gt cu i, (z26, .cells #[.string (⟨m4.name.toArray⟩), aX m4.ty, aX m4.flags, aI m4.addr, aX m4.link, aX m4.info, aI m4.align, aI m4.ent, aI m4.size, .slice m4.A m4.data.length m4.c] 46 (0, 0)), (ng, .cells nk 9 (0, 0)), (pg, .cells pk 3 (0, 0)), (gl, .cells curl 46 (0, 0)), (gt, .cells iT 5 (0, 0)), dM z1 x] rfl (by decide)), HF.sub ((gK z1 x gl dG) ++ [(9, ay x.img.at0), (10, aC g9 ((iH x gt cu (i + 1)).length) Qg), (11, aC pg x.ss.length pc), (12, aC rg (i + 1) rc), (15, aC ng i nc), (17, aA z26), (64, aC gl (x.ps.length + 2) dG), (65, ay (x.ps.length + 2)), (66, ay i)]) (by kernel_rfl)⟩
    rw [show (((m4.ty : Nat) : Int) != 8) = false from I4 (hc8)] at HF
    refine aZ HF rfl ?_
    refine wp_skip ?_
    repeat first | refine aK ?_ | refine aS ?_
    replace Dv : bk.toList.take (((iH x gt cu i).length) * 1) = (iH x gt cu (i + 1)).map Bv := Dv.trans (by rw [Aq hm4, Ru hc8, List.append_nil])
    simp only [nO] at HF
    rw [show ((iH x gt cu i).length) = ((iH x gt cu (i + 1)).length) from by rw [Aq hm4, Ru hc8, List.append_nil]] at HF Dv GX
    exact ⟨bg, bc, bk, Dv, JY, GX, Np, (HM.pick [4, 0, 1, 2, 3, 5, 6, 7, 8] [(bg, .cells bk 5 (0, 0)), (rg, .cells rk 3 (0, 0)), mY z28 x gt cu i, (z26, .cells #[.string (⟨m4.name.toArray⟩), aX m4.ty, aX m4.flags, aI m4.addr, aX m4.link, aX m4.info, aI m4.align, aI m4.ent, aI m4.size, .slice m4.A m4.data.length m4.c] 46 (0, 0)), (ng, .cells nk 9 (0, 0)), (pg, .cells pk 3 (0, 0)), (gl, .cells curl 46 (0, 0)), (gt, .cells iT 5 (0, 0)), dM z1 x] rfl (by decide)), HF.sub ((gK z1 x gl dG) ++ [(9, ay x.img.at0), (10, aC bg ((iH x gt cu (i + 1)).length) bc), (11, aC pg x.ss.length pc), (12, aC rg (i + 1) rc), (15, aC ng i nc), (17, aA z26), (64, aC gl (x.ps.length + 2) dG), (65, ay (x.ps.length + 2)), (66, ay i)]) (by kernel_rfl)⟩
   rintro a w ⟨cg, cc, ck, ctk, csz, cnc, ccm, HM, HF⟩
   repeat first | refine aK ?_ | refine aS ?_
   refine wp_region_lit ?_
   obtain ⟨z35, hz35⟩ : ∃ z, w.heap.size = z := ⟨_, rfl⟩
   refine aP HF HM hz35 4 [[5]] ((yQ z1 x gl dG cg gt cu i cc pg pc rg rc) ++ [(64, aC gl (x.ps.length + 2) dG), (65, ay (x.ps.length + 2)), (66, ay i), (89, aC ng i nc), (92, aC z35 1 1)]) [(z35, .cells #[.string (⟨m4.name.toArray⟩)] 9 (0, 0)), (cg, .cells ck 5 (0, 0)), (rg, .cells rk 3 (0, 0)), mY z28 x gt cu i, (z26, .cells #[.string (⟨m4.name.toArray⟩), aX m4.ty, aX m4.flags, aI m4.addr, aX m4.link, aX m4.info, aI m4.align, aI m4.ent, aI m4.size, .slice m4.A m4.data.length m4.c] 46 (0, 0)), (ng, .cells nk 9 (0, 0)), (pg, .cells pk 3 (0, 0)), (gl, .cells curl 46 (0, 0)), (gt, .cells iT 5 (0, 0)), dM z1 x] (by kernel_rfl) fun a w HF HM => ?_
   clear hz35
   refine fU HF HM rfl _ _ 38 38 rfl rfl 9 (z := .string (⟨#[]⟩ : ByteArray)) (size := 1) (bytes := 16) Tryd.underlying38 (by kernel_rfl) rfl (by decide) 5 ng i nc nk rfl rfl nnc ncm nsz (((allM x gt cu).take i).map (fun p => nT p.name)) ntk (aC z35 1 1) 1 [.string (⟨m4.name.toArray⟩)] rfl (lF Tryd.underlying38 rfl (by decide) (HM.rowAt (i := 0) rfl) (lM rfl)) (by unfold maxLen; omega) (by omega) ?_
   intro a w8 g10 nD EF bJ IJ KL Gn PZ HF2; clear HF HM
   replace IJ : EF.toList.take ((i + 1) * 1) = ((allM x gt cu).take (i + 1)).map (fun p => nT p.name) := IJ.trans (by rw [oW hm4, List.map_append]; rfl)
   have HM : Mm [] w0 w8 [(z35, .cells #[.string (⟨m4.name.toArray⟩)] 9 (0, 0)), (cg, .cells ck 5 (0, 0)), (rg, .cells rk 3 (0, 0)), mY z28 x gt cu i, (z26, .cells #[.string (⟨m4.name.toArray⟩), aX m4.ty, aX m4.flags, aI m4.addr, aX m4.link, aX m4.info, aI m4.align, aI m4.ent, aI m4.size, .slice m4.A m4.data.length m4.c] 46 (0, 0)), (g10, .cells EF 9 (0, 0)), (pg, .cells pk 3 (0, 0)), (gl, .cells curl 46 (0, 0)), (gt, .cells iT 5 (0, 0)), dM z1 x] := bJ
   have HF := HF2.sub ((yQ z1 x gl dG cg gt cu i cc pg pc rg rc) ++ [(64, aC gl (x.ps.length + 2) dG), (65, ay (x.ps.length + 2)), (66, ay i), (93, aC g10 (i + 1) nD)]) (by kernel_rfl); clear bJ HF2
   refine wp_pure HF HM rfl 1 [] ((xY z1 x gl dG cg gt cu i cc pg pc rg rc g10 nD) ++ [(66, ay i)]) (by kernel_rfl) fun a HF => ?_
   refine wpList_nil ?_
   repeat first | refine aK ?_ | refine aS ?_
   refine wp_region_lit ?_
   refine wp_pure HF HM rfl 1 [] ((xY z1 x gl dG cg gt cu i cc pg pc rg rc g10 nD) ++ [(94, aF (IntKind.i64.wrap (((i : Nat) : Int) + 1)))]) (by kernel_rfl) fun a HF => ?_
   rw [show IntKind.i64.wrap (((i : Nat) : Int) + 1) = (((i + 1) : Nat) : Int) from (IntWalk.i64_in _ (by omega)).trans (by omega)] at HF
   refine wp_pure HF HM rfl 1 [] ((xY z1 x gl dG cg gt cu i cc pg pc rg rc g10 nD) ++ [(66, ay (i + 1))]) (by kernel_rfl) fun a HF => ?_
   refine wpList_nil ?_
   repeat first | refine aK ?_ | refine aS ?_
   exact KR _ _ (⟨cg, cc, ck, rg, rc, rk, g10, nD, EF, ctk, csz, cnc, ccm, Oq, Ot, Ou, Ox, IJ, KL, Gn, PZ, (HM.pick [5, 2, 1, 6, 7, 8, 9] [(g10, .cells EF 9 (0, 0)), (rg, .cells rk 3 (0, 0)), (cg, .cells ck 5 (0, 0)), (pg, .cells pk 3 (0, 0)), (gl, .cells curl 46 (0, 0)), (gt, .cells iT 5 (0, 0)), dM z1 x] rfl (by decide)), HF.sub ((xY z1 x gl dG cg gt cu i cc pg pc rg rc g10 nD) ++ [(66, ay (i + 1))]) (by kernel_rfl)⟩)
  ·intro a w KX hI
   obtain ⟨bg, bc, bk, qg, qc, qk, ng, nc, nk, Dv, JY, GX, Np, Il, LY, JF, LZ, ntk, nsz, nnc, ncm, HM, HF⟩ := hI
   refine aN ?_
   refine wp_pure HF HM rfl 1 [] ((uY z1 x gl dG bg gt cu bc pg pc qg qc) ++ [(15, aC ng (x.ps.length + 2) nc), (64, aC gl (x.ps.length + 2) dG), (65, ay (x.ps.length + 2)), (66, ay (x.ps.length + 2)), (67, .bool (decide ((((x.ps.length + 2) : Nat) : Int) < (((x.ps.length + 2) : Nat) : Int))))]) (by kernel_rfl) fun a HF => ?_
   refine aB ?_
   refine wp_seq ?_
   rw [show decide ((((x.ps.length + 2) : Nat) : Int) < (((x.ps.length + 2) : Nat) : Int)) = false from dI (by omega)] at HF
   refine aZ HF rfl ?_
   refine wp_exit ?_
   repeat (first | refine fG ?_ | refine fA rfl ?_)
   refine iD ?_
   repeat first | refine aK ?_ | refine aS ?_
   refine aN ?_
   refine wp_pure HF HM rfl 1 [] ((uY z1 x gl dG bg gt cu bc pg pc qg qc) ++ [(96, aC ng (x.ps.length + 2) nc)]) (by kernel_rfl) fun a HF => ?_
   refine bf HF (by kernel_rfl) 65 #[aC ng (x.ps.length + 2) nc] (by kernel_rfl) (fun w => by kernel_rfl) (Calls.mono (Fz x.img.names _ _ _ (by rw [Fq]) w (HM.nH (i := 0) rfl (ntk.trans (N9 x gt cu))) (by omega) (by omega)) ?_)
   rintro _ w9 ⟨gu, lq, uZ, gp, eY, uF, rfl, hb, hou, hop, hnu⟩
   replace HM : Mm [] w0 w9 [(gp, .cells uF 3 (0, 0)), (ng, .cells nk 9 (0, 0)), (qg, .cells qk 3 (0, 0)), (bg, .cells bk 5 (0, 0)), (pg, .cells pk 3 (0, 0)), (gl, .cells curl 46 (0, 0)), (gt, .cells iT 5 (0, 0)), dM z1 x] := HM.push hb hop.new hop.obj
   have hnl := Fq x; have hso := RH x gt cu; have hbl := HY x gt cu (x.ps.length + 2) xM; have hou9 := Ho x x.ss.length xM
   refine ⟨_, rfl, ?_⟩; clear HF; intro a HF
   refine wp_pure HF HM rfl 5 [] ((uY z1 x gl dG bg gt cu bc pg pc qg qc) ++ [(19, aC gp x.img.names.length eY)]) (by kernel_rfl) fun a HF => ?_
   refine bT ?_
   refine wp_pure HF HM rfl 1 [] ((uY z1 x gl dG bg gt cu bc pg pc qg qc) ++ [(19, aC gp x.img.names.length eY), (100, aC gp x.img.names.length eY)]) (by kernel_rfl) fun a HF => ?_
   refine bU HF (by kernel_rfl) (aA gp) (by kernel_rfl) (dS Tryd.underlying66 (k := 1) (by kernel_rfl) rfl 0 rfl rfl (by omega) (Option.some_ne_none _)) fun a HF => ?_
   refine jv HF HM rfl 3 _ _ rfl rfl 0 gp 0 uF 3 rfl rfl (aF 0) rfl rfl rfl (by rw [hop.sz]; have hq := hop.nc; omega) (by kernel_rfl) ?_
   intro a w10 nK bJ jF HF2; clear HF HM
   have Dz : nK.toList.take (x.img.names.length * 1) = ((List.range x.img.names.length).map (fun j => r_ (nameAt x.img.names j)) : List Value).set 0 (aF 0) := by rw [jF, List.take_set, hop.tk]
   have O_ : nK.size = eY * 1 := by rw [← Array.length_toList, jF, List.length_set, Array.length_toList, hop.sz]
   have HM : Mm [] w0 w10 [(gp, .cells nK 3 (0, 0)), (ng, .cells nk 9 (0, 0)), (qg, .cells qk 3 (0, 0)), (bg, .cells bk 5 (0, 0)), (pg, .cells pk 3 (0, 0)), (gl, .cells curl 46 (0, 0)), (gt, .cells iT 5 (0, 0)), dM z1 x] := bJ
   have HF := HF2.sub ((uY z1 x gl dG bg gt cu bc pg pc qg qc) ++ [(19, aC gp x.img.names.length eY)]) (by kernel_rfl); clear bJ HF2 jF
   replace Dz : nK.toList.take (x.img.names.length * 1) = (List.range x.img.names.length).map (fun j => r_ (x.img.lD j)) := Dz.trans (PE x)
   refine bT ?_
   refine wp_pure HF HM rfl 11 [[0], [0]] ((kP z1 gl x dG bg gt cu bc pg pc qg qc gp eY) ++ [(102, .agg #[.bool x.wide, .bool x.big, aT x.abi, aT x.aH, .int .i64 x.ty, .int .i64 x.machine, aI x.entry, .slice x.A x.ss.length x.c, .slice x.B x.ps.length x.d]), (105, ay x.ss.length), (106, ay (iw x.wide)), (108, ay (x.ps.length + 2)), (112, aF (IntKind.i64.wrap (((x.img.at0 : Nat) : Int) + ((((iH x gt cu (x.ps.length + 2)).length) : Nat) : Int))))]) (by kernel_rfl) fun a HF => ?_
   rw [show IntKind.i64.wrap (((x.img.at0 : Nat) : Int) + ((((iH x gt cu (x.ps.length + 2)).length) : Nat) : Int)) = ((x.img.mZ : Nat) : Int) from (IntWalk.i64_in _ (by omega)).trans (by omega)] at HF
   refine bf HF (by kernel_rfl) 66 #[.agg #[.bool x.wide, .bool x.big, aT x.abi, aT x.aH, .int .i64 x.ty, .int .i64 x.machine, aI x.entry, .slice x.A x.ss.length x.c, .slice x.B x.ps.length x.d], ay x.ss.length, ay (iw x.wide), ay (x.ps.length + 2), ay x.img.mZ] (by kernel_rfl) (fun w => by kernel_rfl) (Calls.mono (Kv x x.ss.length (iw x.wide) (x.ps.length + 2) x.img.mZ (by omega) (by omega) (by omega) (by omega) (by omega) ok.K_ ok.H_ ok.mc0 ok.mc1 w10 (h.below HM.below)) ?_)
   rintro _ wQ ⟨go, Qe, SX, rfl, hb, MI⟩
   rw [head_eq, ← JI] at MI
   replace HM : Mm [] w0 wQ [(go, .cells SX 5 (0, 0)), (gp, .cells nK 3 (0, 0)), (ng, .cells nk 9 (0, 0)), (qg, .cells qk 3 (0, 0)), (bg, .cells bk 5 (0, 0)), (pg, .cells pk 3 (0, 0)), (gl, .cells curl 46 (0, 0)), (gt, .cells iT 5 (0, 0)), dM z1 x] := HM.push hb MI.new MI.obj
   rw [head_eq, ← JI]
   refine ⟨_, rfl, ?_⟩; clear HF; intro a HF
   refine wp_pure HF HM rfl 1 [] ((kP z1 gl x dG bg gt cu bc pg pc qg qc gp eY) ++ [(20, aC go ((kW x 0).length) Qe)]) (by kernel_rfl) fun a HF => ?_
   refine aB ?_
   refine wp_seq ?_
   refine aN ?_
   refine wp_pure HF HM rfl 4 [[0]] ((kP z1 gl x dG bg gt cu bc pg pc qg qc gp eY) ++ [(20, aC go ((kW x 0).length) Qe), (115, .slice x.A x.ss.length x.c), (116, ay x.ss.length), (117, aF 0)]) (by kernel_rfl) fun a HF => ?_
   refine aB ?_
   refine wp_block ?_
   replace HM := HM.pick [0, 1, 3, 4, 5, 6, 7, 8] [(go, .cells SX 5 (0, 0)), (gp, .cells nK 3 (0, 0)), (qg, .cells qk 3 (0, 0)), (bg, .cells bk 5 (0, 0)), (pg, .cells pk 3 (0, 0)), (gl, .cells curl 46 (0, 0)), (gt, .cells iT 5 (0, 0)), dM z1 x] rfl (by decide)
   refine jX (x.ss.length) (fun i a w => (∃ ug : Nat, ∃ uc : Nat, ∃ uk : Array Value, (uk.toList.take (((kW x i).length) * 1) = (kW x i).map Bv) ∧ (uk.size = uc * 1) ∧ (((kW x i).length) ≤ uc) ∧ (uc ≤ maxLen) ∧ Mm [] w0 w [(ug, .cells uk 5 (0, 0)), (gp, .cells nK 3 (0, 0)), (qg, .cells qk 3 (0, 0)), (bg, .cells bk 5 (0, 0)), (pg, .cells pk 3 (0, 0)), (gl, .cells curl 46 (0, 0)), (gt, .cells iT 5 (0, 0)), dM z1 x] ∧ Fr 159 a (Bq z1 gl x dG bg gt cu bc pg pc qg qc gp eY ug i uc))) ?_ ?_ ?_
   ·exact ⟨go, Qe, SX, MI.tk, MI.sz, MI.nc, MI.cm, HM, HF.sub ((kP z1 gl x dG bg gt cu bc pg pc qg qc gp eY) ++ [(20, aC go ((kW x 0).length) Qe), (115, .slice x.A x.ss.length x.c), (116, ay x.ss.length), (117, aF 0)]) (by kernel_rfl)⟩
   ·intro i a w KX hi hI KR
    obtain ⟨ug, uc, uk, JB, KY, JC, KZ, HM, HF⟩ := hI
    have hoz := Ho x i xM; have hoz2 := Ho x (i + 1) xM; have hpl := x.img.CG i
    refine aN ?_
    refine wp_pure HF HM rfl 1 [] ((Bq z1 gl x dG bg gt cu bc pg pc qg qc gp eY ug i uc) ++ [(118, .bool (decide (((i : Nat) : Int) < ((x.ss.length : Nat) : Int))))]) (by kernel_rfl) fun a HF => ?_
    refine aB ?_
    refine wp_seq ?_
    rw [show decide (((i : Nat) : Int) < ((x.ss.length : Nat) : Int)) = true from dV (by omega)] at HF
    refine bC HF rfl ?_
    refine wp_skip ?_
    repeat first | refine aK ?_ | refine aS ?_
    refine wp_seq ?_
    refine wp_block ?_
    refine aN ?_
    refine wp_pure HF HM rfl 1 [] ((Bq z1 gl x dG bg gt cu bc pg pc qg qc gp eY ug i uc) ++ [(119, ay i)]) (by kernel_rfl) fun a HF => ?_
    obtain ⟨m12, zx⟩ : ∃ m, x.ss[i]? = some m := ⟨_, List.getElem?_eq_getElem (by omega)⟩
    have Uh := ok.seg m12 (List.mem_of_getElem? zx)
    have hmd_m12 := Uh.data
    have OW := h.seg m12 (List.mem_of_getElem? zx)
    have hmt_m12 := OW.ty; have hmf_m12 := OW.flags
    refine bU HF (by kernel_rfl) (.pointer (Option.map (fun q : Addr => q.add (i * 7)) x.A)) (by kernel_rfl) (dS Tryd.underlying23 (by kernel_rfl) rfl i rfl rfl (by omega) (gQ (fH (f := kQ.cells) (k := 7) (fun _ => rfl) (HM.row h.dJ) i zx) (Nat.zero_lt_succ _))) fun a HF => ?_
    refine bU HF (by kernel_rfl) (.agg #[aX m12.ty, aX m12.flags, aI m12.bY, aI m12.b_, aI m12.dw, aI m12.align, .slice m12.A m12.data.length m12.c]) (by kernel_rfl) (iC rfl rfl (fH (f := kQ.cells) (k := 7) (fun _ => rfl) (HM.row h.dJ) i zx) (Nat.zero_lt_succ _) Tryd.underlying57 rfl (by kernel_rfl)) fun a HF => ?_
    obtain ⟨z48, hz48⟩ : ∃ z, w.heap.size = z := ⟨_, rfl⟩
    refine aP HF HM hz48 3 [[8]] ((kP z1 gl x dG bg gt cu bc pg pc qg qc gp eY) ++ [(20, aC ug ((kW x i).length) uc), (21, ay i), (22, aA z48), (115, .slice x.A x.ss.length x.c), (116, ay x.ss.length), (117, ay i)]) [xZ z48 m12, (ug, .cells uk 5 (0, 0)), (gp, .cells nK 3 (0, 0)), (qg, .cells qk 3 (0, 0)), (bg, .cells bk 5 (0, 0)), (pg, .cells pk 3 (0, 0)), (gl, .cells curl 46 (0, 0)), (gt, .cells iT 5 (0, 0)), dM z1 x] (by kernel_rfl) fun a w HF HM => ?_
    clear hz48
    refine aB ?_
    refine wI HM (by kernel_rfl) [xZ z48 m12, (gp, .cells nK 3 (0, 0)), (qg, .cells qk 3 (0, 0)), (bg, .cells bk 5 (0, 0)), (pg, .cells pk 3 (0, 0)), (gl, .cells curl 46 (0, 0)), (gt, .cells iT 5 (0, 0)), dM z1 x] [(0, false), (1, false), (2, false), (3, false), (4, false), (5, false), (6, false), (7, true), (8, true), (9, false)] (by kernel_rfl) fun w12 HM => ?_
    refine bK HF (HM.told [0, 2, 3, 4, 5, 6, 7, 8] rfl) 5 [[0], [7]] ((FN z1 gl x dG bg gt cu bc pg pc qg qc gp eY i ug uc m12) ++ [(125, aC pg x.ss.length pc), (126, ay i)]) (by kernel_rfl) fun a HF => ?_
    refine eu rfl HF (HM.told [0, 2, 3, 4, 5, 6, 7, 8] rfl) rfl (.pointer (Option.map (fun q : Addr => q.add (i * 1)) (some ⟨pg, 0, none⟩))) (by kernel_rfl) (fun w hw => dS Tryd.underlying66 (by kernel_rfl) rfl i rfl rfl (by omega) (Option.some_ne_none _)) fun a HF => ?_
    refine eu rfl HF (HM.told [0, 2, 3, 4, 5, 6, 7, 8] rfl) rfl (ay (x.img.kT i)) (by kernel_rfl) (fun w hw => mX rfl rfl (qB (Told.nH hw (i := 4) rfl ptk) i (List.getElem?_range (by omega))) (by kernel_rfl)) ?_
    clear HF; intro a HF; replace HF := HF.sub ((FN z1 gl x dG bg gt cu bc pg pc qg qc gp eY i ug uc m12) ++ [(128, ay (x.img.kT i))]) (by kernel_rfl)
    refine bQ rfl ?_
    refine bf HF (by kernel_rfl) 67 #[.agg #[.bool x.wide, .bool x.big, aT x.abi, aT x.aH, .int .i64 x.ty, .int .i64 x.machine, aI x.entry, .slice x.A x.ss.length x.c, .slice x.B x.ps.length x.d], .agg #[aX m12.ty, aX m12.flags, aI m12.bY, aI m12.b_, aI m12.dw, aI m12.align, .slice m12.A m12.data.length m12.c], ay (x.img.kT i)] (by kernel_rfl) (fun w => by kernel_rfl) (Calls.mono (NS x.wide x.big _ _ _ _ _ _ _ m12.ty m12.flags m12.bY m12.b_ m12.dw m12.align m12.data.length m12.c (x.img.kT i) m12.A (by omega) (by omega) (by omega) (by omega) w12) ?_)
    rintro _ CW ⟨gr, zy, curr, rfl, hb, hor⟩
    replace HM : Mm [] w0 CW [(gr, .cells curr 5 (0, 0)), xZ z48 m12, (ug, .cells uk 5 (0, 0)), (gp, .cells nK 3 (0, 0)), (qg, .cells qk 3 (0, 0)), (bg, .cells bk 5 (0, 0)), (pg, .cells pk 3 (0, 0)), (gl, .cells curl 46 (0, 0)), (gt, .cells iT 5 (0, 0)), dM z1 x] := HM.push hb hor.new hor.obj
    have hrl : (pO x i m12).length ≤ 64 := by rw [show (pO x i m12).length = iU x.wide from um ..]; omega
    refine ⟨_, rfl, ?_⟩; clear HF; intro a HF
    replace HF := HF.sub ((kP z1 gl x dG bg gt cu bc pg pc qg qc gp eY) ++ [(115, .slice x.A x.ss.length x.c), (116, ay x.ss.length), (117, ay i), (122, aC ug ((kW x i).length) uc), (129, aC gr ((pO x i m12).length) zy)]) (by kernel_rfl)
    refine dD (HM.told [1, 3, 4, 5, 6, 7, 8, 9] rfl) ?_
    refine bQ rfl ?_
    refine fU HF HM rfl _ _ 33 33 rfl rfl 5 (z := aO 0) (size := 1) (bytes := 1) Tryd.underlying33 (by kernel_rfl) rfl (by decide) 2 ug ((kW x i).length) uc uk rfl rfl JC KZ KY ((kW x i).map Bv) JB (aC gr ((pO x i m12).length) zy) ((pO x i m12).length) ((pO x i m12).map Bv) rfl (lF Tryd.underlying33 (Dh hor.tk hor.sz hor.nc) (by decide) (HM.nH (i := 0) rfl hor.tk) (rM _)) (by unfold maxLen; omega) (by omega) ?_
    intro a EN g14 Gs KT bJ KI hsz14 Tv hcm14 HF2; clear HF HM
    replace KI : KT.toList.take ((((kW x i).length) + ((pO x i m12).length)) * 1) = (kW x (i + 1)).map Bv := KI.trans (by rw [JJ zx, List.map_append])
    have HM : Mm [] w0 EN [(gr, .cells curr 5 (0, 0)), xZ z48 m12, (g14, .cells KT 5 (0, 0)), (gp, .cells nK 3 (0, 0)), (qg, .cells qk 3 (0, 0)), (bg, .cells bk 5 (0, 0)), (pg, .cells pk 3 (0, 0)), (gl, .cells curl 46 (0, 0)), (gt, .cells iT 5 (0, 0)), dM z1 x] := bJ
    have HF := HF2.sub ((kP z1 gl x dG bg gt cu bc pg pc qg qc gp eY) ++ [(115, .slice x.A x.ss.length x.c), (116, ay x.ss.length), (117, ay i), (130, aC g14 (((kW x i).length) + ((pO x i m12).length)) Gs)]) (by kernel_rfl); clear bJ HF2
    refine dD (HM.told [1, 3, 4, 5, 6, 7, 8, 9] rfl) ?_
    refine bK HF (HM.told [1, 3, 4, 5, 6, 7, 8, 9] rfl) 1 [] ((kP z1 gl x dG bg gt cu bc pg pc qg qc gp eY) ++ [(20, aC g14 (((kW x i).length) + ((pO x i m12).length)) Gs), (115, .slice x.A x.ss.length x.c), (116, ay x.ss.length), (117, ay i)]) (by kernel_rfl) fun a HF => ?_
    refine jR ?_
    repeat first | refine aK ?_ | refine aS ?_
    refine wp_region_lit ?_
    refine wp_pure HF HM rfl 1 [] ((kP z1 gl x dG bg gt cu bc pg pc qg qc gp eY) ++ [(20, aC g14 (((kW x i).length) + ((pO x i m12).length)) Gs), (115, .slice x.A x.ss.length x.c), (116, ay x.ss.length), (131, aF (IntKind.i64.wrap (((i : Nat) : Int) + 1)))]) (by kernel_rfl) fun a HF => ?_
    rw [show IntKind.i64.wrap (((i : Nat) : Int) + 1) = (((i + 1) : Nat) : Int) from (IntWalk.i64_in _ (by omega)).trans (by omega)] at HF
    refine wp_pure HF HM rfl 1 [] ((kP z1 gl x dG bg gt cu bc pg pc qg qc gp eY) ++ [(20, aC g14 (((kW x i).length) + ((pO x i m12).length)) Gs), (115, .slice x.A x.ss.length x.c), (116, ay x.ss.length), (117, ay (i + 1))]) (by kernel_rfl) fun a HF => ?_
    refine wpList_nil ?_
    repeat first | refine aK ?_ | refine aS ?_
    rw [show (((kW x i).length) + ((pO x i m12).length)) = ((kW x (i + 1)).length) from by rw [JJ zx, List.length_append]] at HF KI Tv
    exact KR _ _ (⟨g14, Gs, KT, KI, hsz14, Tv, hcm14, (HM.pick [2, 3, 4, 5, 6, 7, 8, 9] [(g14, .cells KT 5 (0, 0)), (gp, .cells nK 3 (0, 0)), (qg, .cells qk 3 (0, 0)), (bg, .cells bk 5 (0, 0)), (pg, .cells pk 3 (0, 0)), (gl, .cells curl 46 (0, 0)), (gt, .cells iT 5 (0, 0)), dM z1 x] rfl (by decide)), HF.sub ((kP z1 gl x dG bg gt cu bc pg pc qg qc gp eY) ++ [(20, aC g14 ((kW x (i + 1)).length) Gs), (115, .slice x.A x.ss.length x.c), (116, ay x.ss.length), (117, ay (i + 1))]) (by kernel_rfl)⟩)
   ·intro a w KX hI
    obtain ⟨ug, uc, uk, JB, KY, JC, KZ, HM, HF⟩ := hI
    refine aN ?_
    refine wp_pure HF HM rfl 1 [] ((kP z1 gl x dG bg gt cu bc pg pc qg qc gp eY) ++ [(20, aC ug ((kW x x.ss.length).length) uc), (115, .slice x.A x.ss.length x.c), (116, ay x.ss.length), (117, ay x.ss.length), (118, .bool (decide (((x.ss.length : Nat) : Int) < ((x.ss.length : Nat) : Int))))]) (by kernel_rfl) fun a HF => ?_
    refine aB ?_
    refine wp_seq ?_
    rw [show decide (((x.ss.length : Nat) : Int) < ((x.ss.length : Nat) : Int)) = false from dI (by omega)] at HF
    refine aZ HF rfl ?_
    refine wp_exit ?_
    repeat (first | refine fG ?_ | refine fA rfl ?_)
    refine iD ?_
    repeat first | refine aK ?_ | refine aS ?_
    refine aN ?_
    refine wp_pure HF HM rfl 2 [] [(1, aA z1), (8, aC gl (x.ps.length + 2) dG), (11, aC pg x.ss.length pc), (12, aC qg (x.ps.length + 2) qc), (19, aC gp x.img.names.length eY), (132, aC ug ((kW x x.ss.length).length) uc), (133, aC bg ((iH x gt cu (x.ps.length + 2)).length) bc)] (by kernel_rfl) fun a HF => ?_
    refine fU HF HM rfl _ _ 33 33 rfl rfl 5 (z := aO 0) (size := 1) (bytes := 1) Tryd.underlying33 (by kernel_rfl) rfl (by decide) 0 ug ((kW x x.ss.length).length) uc uk rfl rfl JC KZ KY ((kW x x.ss.length).map Bv) JB (aC bg ((iH x gt cu (x.ps.length + 2)).length) bc) ((iH x gt cu (x.ps.length + 2)).length) ((iH x gt cu (x.ps.length + 2)).map Bv) rfl (lF Tryd.underlying33 (Dh Dv JY GX) (by decide) (HM.nH (i := 3) rfl Dv) (rM _)) (by unfold maxLen; omega) (by omega) ?_
    intro a EH g15 IY KQ bJ KG hsz15 Tt hcm15 HF2; clear HF HM
    replace KG : KQ.toList.take ((((kW x x.ss.length).length) + ((iH x gt cu (x.ps.length + 2)).length)) * 1) = (ny x 0).map Bv := KG.trans (by rw [JV, FV, List.map_append (l₁ := kW x x.ss.length)])
    have HM : Mm [] w0 EH [(g15, .cells KQ 5 (0, 0)), (gp, .cells nK 3 (0, 0)), (qg, .cells qk 3 (0, 0)), (bg, .cells bk 5 (0, 0)), (pg, .cells pk 3 (0, 0)), (gl, .cells curl 46 (0, 0)), (gt, .cells iT 5 (0, 0)), dM z1 x] := bJ
    have HF := HF2.sub [(1, aA z1), (8, aC gl (x.ps.length + 2) dG), (11, aC pg x.ss.length pc), (12, aC qg (x.ps.length + 2) qc), (19, aC gp x.img.names.length eY), (134, aC g15 (((kW x x.ss.length).length) + ((iH x gt cu (x.ps.length + 2)).length)) IY)] (by kernel_rfl); clear bJ HF2
    refine wp_pure HF HM rfl 1 [] [(1, aA z1), (8, aC gl (x.ps.length + 2) dG), (11, aC pg x.ss.length pc), (12, aC qg (x.ps.length + 2) qc), (19, aC gp x.img.names.length eY), (20, aC g15 (((kW x x.ss.length).length) + ((iH x gt cu (x.ps.length + 2)).length)) IY)] (by kernel_rfl) fun a HF => ?_
    refine aB ?_
    refine wp_seq ?_
    refine aN ?_
    refine wp_pure HF HM rfl 3 [] ((kN z1 pg x pc qg qc gp eY) ++ [(20, aC g15 (((kW x x.ss.length).length) + ((iH x gt cu (x.ps.length + 2)).length)) IY), (135, aC gl (x.ps.length + 2) dG), (136, ay (x.ps.length + 2)), (137, aF 0)]) (by kernel_rfl) fun a HF => ?_
    refine aB ?_
    refine wp_block ?_
    replace HM := HM.pick [0, 1, 2, 4, 5, 6, 7] [(g15, .cells KQ 5 (0, 0)), (gp, .cells nK 3 (0, 0)), (qg, .cells qk 3 (0, 0)), (pg, .cells pk 3 (0, 0)), (gl, .cells curl 46 (0, 0)), (gt, .cells iT 5 (0, 0)), dM z1 x] rfl (by decide)
    refine jX ((x.ps.length + 2)) (fun i a w => (∃ ug : Nat, ∃ uc : Nat, ∃ uk : Array Value, (uk.toList.take (((ny x i).length) * 1) = (ny x i).map Bv) ∧ (uk.size = uc * 1) ∧ (((ny x i).length) ≤ uc) ∧ (uc ≤ maxLen) ∧ Mm [] w0 w [(ug, .cells uk 5 (0, 0)), (gp, .cells nK 3 (0, 0)), (qg, .cells qk 3 (0, 0)), (pg, .cells pk 3 (0, 0)), (gl, .cells curl 46 (0, 0)), (gt, .cells iT 5 (0, 0)), dM z1 x] ∧ Fr 159 a (Bo z1 pg x pc qg qc gp eY ug i uc gl dG))) ?_ ?_ ?_
    rw [show (((kW x x.ss.length).length) + ((iH x gt cu (x.ps.length + 2)).length)) = ((ny x 0).length) from by rw [JV, FV]; exact (List.length_append ..).symm] at HF KG Tt
    ·exact ⟨g15, IY, KQ, KG, hsz15, Tt, hcm15, HM, HF.sub ((kN z1 pg x pc qg qc gp eY) ++ [(20, aC g15 ((ny x 0).length) IY), (135, aC gl (x.ps.length + 2) dG), (136, ay (x.ps.length + 2)), (137, aF 0)]) (by kernel_rfl)⟩
    ·intro i a w KX hi hI KR
     obtain ⟨ug, uc, uk, JB, KY, JC, KZ, HM, HF⟩ := hI
     have hoz := Na x i xM; have hoz2 := Na x (i + 1) xM; have hpl := x.img.vO i; have hnp := xM.AX i (by rw [oI]; omega)
     refine aN ?_
     refine wp_pure HF HM rfl 1 [] ((Bo z1 pg x pc qg qc gp eY ug i uc gl dG) ++ [(138, .bool (decide (((i : Nat) : Int) < (((x.ps.length + 2) : Nat) : Int))))]) (by kernel_rfl) fun a HF => ?_
     refine aB ?_
     refine wp_seq ?_
     rw [show decide (((i : Nat) : Int) < (((x.ps.length + 2) : Nat) : Int)) = true from dV (by omega)] at HF
     refine bC HF rfl ?_
     refine wp_skip ?_
     repeat first | refine aK ?_ | refine aS ?_
     refine wp_seq ?_
     refine wp_block ?_
     refine aN ?_
     refine wp_pure HF HM rfl 1 [] ((Bo z1 pg x pc qg qc gp eY ug i uc gl dG) ++ [(139, ay i)]) (by kernel_rfl) fun a HF => ?_
     obtain ⟨m16, PY⟩ : ∃ m, (allM x gt cu)[i]? = some m := ⟨_, List.getElem?_eq_getElem (by omega)⟩
     have Ug := List.mem_of_getElem? PY
     have Dl := Rx h ok m16 Ug
     have hmd_m16 := Dl.data; have hmt_m16 := Dl.ty; have hmf_m16 := Dl.flags; have hml_m16 := Dl.link; have hmi_m16 := Dl.info
     refine bU HF (by kernel_rfl) (.pointer (Option.map (fun q : Addr => q.add (i * 10)) (some ⟨gl, 0, none⟩))) (by kernel_rfl) (dS Tryd.underlying24 (by kernel_rfl) rfl i rfl rfl (by omega) (Option.some_ne_none _)) fun a HF => ?_
     refine bU HF (by kernel_rfl) (.agg #[.string (⟨m16.name.toArray⟩), aX m16.ty, aX m16.flags, aI m16.addr, aX m16.link, aX m16.info, aI m16.align, aI m16.ent, aI m16.size, .slice m16.A m16.data.length m16.c]) (by kernel_rfl) (iC rfl rfl (fH (f := dL.cells) (k := 10) (fun _ => rfl) (HM.nH (i := 4) rfl hol.tk) i PY) (Nat.zero_lt_succ _) Tryd.underlying46 rfl (by kernel_rfl)) fun a HF => ?_
     obtain ⟨z57, hz57⟩ : ∃ z, w.heap.size = z := ⟨_, rfl⟩
     refine aP HF HM hz57 3 [[7]] ((kN z1 pg x pc qg qc gp eY) ++ [(20, aC ug ((ny x i).length) uc), (23, ay i), (24, aA z57), (135, aC gl (x.ps.length + 2) dG), (136, ay (x.ps.length + 2)), (137, ay i)]) [(z57, .cells #[.string (⟨m16.name.toArray⟩), aX m16.ty, aX m16.flags, aI m16.addr, aX m16.link, aX m16.info, aI m16.align, aI m16.ent, aI m16.size, .slice m16.A m16.data.length m16.c] 46 (0, 0)), (ug, .cells uk 5 (0, 0)), (gp, .cells nK 3 (0, 0)), (qg, .cells qk 3 (0, 0)), (pg, .cells pk 3 (0, 0)), (gl, .cells curl 46 (0, 0)), (gt, .cells iT 5 (0, 0)), dM z1 x] (by kernel_rfl) fun a w HF HM => ?_
     clear hz57
     refine aB ?_
     refine wI HM (by kernel_rfl) [(z57, .cells #[.string (⟨m16.name.toArray⟩), aX m16.ty, aX m16.flags, aI m16.addr, aX m16.link, aX m16.info, aI m16.align, aI m16.ent, aI m16.size, .slice m16.A m16.data.length m16.c] 46 (0, 0)), (gp, .cells nK 3 (0, 0)), (qg, .cells qk 3 (0, 0)), (pg, .cells pk 3 (0, 0)), (gl, .cells curl 46 (0, 0)), (gt, .cells iT 5 (0, 0)), dM z1 x] [(0, false), (1, false), (2, false), (3, false), (4, false), (5, false), (6, false), (7, false), (8, false), (9, false), (10, false), (11, true), (12, true), (13, false)] (by kernel_rfl) fun w16 HM => ?_
     refine bK HF (HM.told [0, 2, 3, 4, 5, 6, 7] rfl) 4 [[0]] ((MZ z1 pg x pc qg qc gp eY i z57 gl dG ug uc) ++ [(144, aC gp x.img.names.length eY), (145, ay i)]) (by kernel_rfl) fun a HF => ?_
     refine eu rfl HF (HM.told [0, 2, 3, 4, 5, 6, 7] rfl) rfl (.pointer (Option.map (fun q : Addr => q.add (i * 1)) (some ⟨gp, 0, none⟩))) (by kernel_rfl) (fun w hw => dS Tryd.underlying66 (by kernel_rfl) rfl i rfl rfl (by omega) (Option.some_ne_none _)) fun a HF => ?_
     refine eu rfl HF (HM.told [0, 2, 3, 4, 5, 6, 7] rfl) rfl (ay (x.img.lD i)) (by kernel_rfl) (fun w hw => mX rfl rfl (qB (Told.nH hw (i := 1) rfl Dz) i (List.getElem?_range (by omega))) (by kernel_rfl)) fun a HF => ?_
     refine bK HF (HM.told [0, 2, 3, 4, 5, 6, 7] rfl) 3 [[6]] ((kN z1 pg x pc qg qc gp eY) ++ [(135, aC gl (x.ps.length + 2) dG), (136, ay (x.ps.length + 2)), (137, ay i), (142, aC ug ((ny x i).length) uc), FP x, (147, ay (x.img.lD i)), (148, .agg #[.string (⟨m16.name.toArray⟩), aX m16.ty, aX m16.flags, aI m16.addr, aX m16.link, aX m16.info, aI m16.align, aI m16.ent, aI m16.size, .slice m16.A m16.data.length m16.c]), (149, aC qg (x.ps.length + 2) qc), (150, ay i)]) (by kernel_rfl) fun a HF => ?_
     refine eu rfl HF (HM.told [0, 2, 3, 4, 5, 6, 7] rfl) rfl (.pointer (Option.map (fun q : Addr => q.add (i * 1)) (some ⟨qg, 0, none⟩))) (by kernel_rfl) (fun w hw => dS Tryd.underlying66 (by kernel_rfl) rfl i rfl rfl (by omega) (Option.some_ne_none _)) fun a HF => ?_
     refine eu rfl HF (HM.told [0, 2, 3, 4, 5, 6, 7] rfl) rfl (ay (x.img.jc i)) (by kernel_rfl) (fun w hw => mX rfl rfl (qB (Told.nH hw (i := 2) rfl Il) i (List.getElem?_range (by omega))) (by kernel_rfl)) ?_
     clear HF; intro a HF; replace HF := HF.sub ((kN z1 pg x pc qg qc gp eY) ++ [(135, aC gl (x.ps.length + 2) dG), (136, ay (x.ps.length + 2)), (137, ay i), (142, aC ug ((ny x i).length) uc), FP x, (147, ay (x.img.lD i)), (148, .agg #[.string (⟨m16.name.toArray⟩), aX m16.ty, aX m16.flags, aI m16.addr, aX m16.link, aX m16.info, aI m16.align, aI m16.ent, aI m16.size, .slice m16.A m16.data.length m16.c]), (152, ay (x.img.jc i))]) (by kernel_rfl)
     refine bQ rfl ?_
     refine bf HF (by kernel_rfl) 68 #[.agg #[.bool x.wide, .bool x.big, aT x.abi, aT x.aH, .int .i64 x.ty, .int .i64 x.machine, aI x.entry, .slice x.A x.ss.length x.c, .slice x.B x.ps.length x.d], ay (x.img.lD i), .agg #[.string (⟨m16.name.toArray⟩), aX m16.ty, aX m16.flags, aI m16.addr, aX m16.link, aX m16.info, aI m16.align, aI m16.ent, aI m16.size, .slice m16.A m16.data.length m16.c], ay (x.img.jc i)] (by kernel_rfl) (fun w => by kernel_rfl) (Calls.mono (NV x.wide x.big _ _ _ _ _ _ _ (x.img.lD i) ⟨m16.name.toArray⟩ m16.ty m16.flags m16.addr m16.link m16.info m16.align m16.ent m16.size m16.data.length m16.c (x.img.jc i) m16.A (by omega) (by omega) (by omega) (by omega) (by omega) (by omega) (by omega) w16) ?_)
     rintro _ w17 ⟨gr, zy, curr, rfl, hb, hor⟩
     replace HM : Mm [] w0 w17 [(gr, .cells curr 5 (0, 0)), (z57, .cells #[.string (⟨m16.name.toArray⟩), aX m16.ty, aX m16.flags, aI m16.addr, aX m16.link, aX m16.info, aI m16.align, aI m16.ent, aI m16.size, .slice m16.A m16.data.length m16.c] 46 (0, 0)), (ug, .cells uk 5 (0, 0)), (gp, .cells nK 3 (0, 0)), (qg, .cells qk 3 (0, 0)), (pg, .cells pk 3 (0, 0)), (gl, .cells curl 46 (0, 0)), (gt, .cells iT 5 (0, 0)), dM z1 x] := HM.push hb hor.new hor.obj
     have hrl : (pR x i m16).length ≤ 64 := by rw [show (pR x i m16).length = jk x.wide from uo ..]; omega
     refine ⟨_, rfl, ?_⟩; clear HF; intro a HF
     replace HF := HF.sub ((kN z1 pg x pc qg qc gp eY) ++ [(135, aC gl (x.ps.length + 2) dG), (136, ay (x.ps.length + 2)), (137, ay i), (142, aC ug ((ny x i).length) uc), (153, aC gr ((pR x i m16).length) zy)]) (by kernel_rfl)
     refine dD (HM.told [1, 3, 4, 5, 6, 7, 8] rfl) ?_
     refine bQ rfl ?_
     refine fU HF HM rfl _ _ 33 33 rfl rfl 5 (z := aO 0) (size := 1) (bytes := 1) Tryd.underlying33 (by kernel_rfl) rfl (by decide) 2 ug ((ny x i).length) uc uk rfl rfl JC KZ KY ((ny x i).map Bv) JB (aC gr ((pR x i m16).length) zy) ((pR x i m16).length) ((pR x i m16).map Bv) rfl (lF Tryd.underlying33 (Dh hor.tk hor.sz hor.nc) (by decide) (HM.nH (i := 0) rfl hor.tk) (rM _)) (by unfold maxLen; omega) (by omega) ?_
     intro a w18 g18 Gq KP bJ KF hsz18 Tq hcm18 HF2; clear HF HM
     replace KF : KP.toList.take ((((ny x i).length) + ((pR x i m16).length)) * 1) = (ny x (i + 1)).map Bv := KF.trans (by rw [JW PY, List.map_append])
     have HM : Mm [] w0 w18 [(gr, .cells curr 5 (0, 0)), (z57, .cells #[.string (⟨m16.name.toArray⟩), aX m16.ty, aX m16.flags, aI m16.addr, aX m16.link, aX m16.info, aI m16.align, aI m16.ent, aI m16.size, .slice m16.A m16.data.length m16.c] 46 (0, 0)), (g18, .cells KP 5 (0, 0)), (gp, .cells nK 3 (0, 0)), (qg, .cells qk 3 (0, 0)), (pg, .cells pk 3 (0, 0)), (gl, .cells curl 46 (0, 0)), (gt, .cells iT 5 (0, 0)), dM z1 x] := bJ
     have HF := HF2.sub ((kN z1 pg x pc qg qc gp eY) ++ [(135, aC gl (x.ps.length + 2) dG), (136, ay (x.ps.length + 2)), (137, ay i), (154, aC g18 (((ny x i).length) + ((pR x i m16).length)) Gq)]) (by kernel_rfl); clear bJ HF2
     refine dD (HM.told [1, 3, 4, 5, 6, 7, 8] rfl) ?_
     refine bK HF (HM.told [1, 3, 4, 5, 6, 7, 8] rfl) 1 [] ((kN z1 pg x pc qg qc gp eY) ++ [(20, aC g18 (((ny x i).length) + ((pR x i m16).length)) Gq), (135, aC gl (x.ps.length + 2) dG), (136, ay (x.ps.length + 2)), (137, ay i)]) (by kernel_rfl) fun a HF => ?_
     refine jR ?_
     repeat first | refine aK ?_ | refine aS ?_
     refine wp_region_lit ?_
     refine wp_pure HF HM rfl 1 [] ((kN z1 pg x pc qg qc gp eY) ++ [(20, aC g18 (((ny x i).length) + ((pR x i m16).length)) Gq), (135, aC gl (x.ps.length + 2) dG), (136, ay (x.ps.length + 2)), (155, aF (IntKind.i64.wrap (((i : Nat) : Int) + 1)))]) (by kernel_rfl) fun a HF => ?_
     rw [show IntKind.i64.wrap (((i : Nat) : Int) + 1) = (((i + 1) : Nat) : Int) from (IntWalk.i64_in _ (by omega)).trans (by omega)] at HF
     refine wp_pure HF HM rfl 1 [] ((kN z1 pg x pc qg qc gp eY) ++ [(20, aC g18 (((ny x i).length) + ((pR x i m16).length)) Gq), (135, aC gl (x.ps.length + 2) dG), (136, ay (x.ps.length + 2)), (137, ay (i + 1))]) (by kernel_rfl) fun a HF => ?_
     refine wpList_nil ?_
     repeat first | refine aK ?_ | refine aS ?_
     rw [show (((ny x i).length) + ((pR x i m16).length)) = ((ny x (i + 1)).length) from by rw [JW PY, List.length_append]] at HF KF Tq
     exact KR _ _ (⟨g18, Gq, KP, KF, hsz18, Tq, hcm18, (HM.pick [2, 3, 4, 5, 6, 7, 8] [(g18, .cells KP 5 (0, 0)), (gp, .cells nK 3 (0, 0)), (qg, .cells qk 3 (0, 0)), (pg, .cells pk 3 (0, 0)), (gl, .cells curl 46 (0, 0)), (gt, .cells iT 5 (0, 0)), dM z1 x] rfl (by decide)), HF.sub ((kN z1 pg x pc qg qc gp eY) ++ [(20, aC g18 ((ny x (i + 1)).length) Gq), (135, aC gl (x.ps.length + 2) dG), (136, ay (x.ps.length + 2)), (137, ay (i + 1))]) (by kernel_rfl)⟩)
    ·intro a w KX hI
     obtain ⟨ug, uc, uk, JB, KY, JC, KZ, HM, HF⟩ := hI
     refine aN ?_
     refine wp_pure HF HM rfl 1 [] ((kN z1 pg x pc qg qc gp eY) ++ [(20, aC ug ((ny x (x.ps.length + 2)).length) uc), (135, aC gl (x.ps.length + 2) dG), (136, ay (x.ps.length + 2)), (137, ay (x.ps.length + 2)), (138, .bool (decide ((((x.ps.length + 2) : Nat) : Int) < (((x.ps.length + 2) : Nat) : Int))))]) (by kernel_rfl) fun a HF => ?_
     refine aB ?_
     refine wp_seq ?_
     rw [show decide ((((x.ps.length + 2) : Nat) : Int) < (((x.ps.length + 2) : Nat) : Int)) = false from dI (by omega)] at HF
     refine aZ HF rfl ?_
     refine wp_exit ?_
     repeat (first | refine fG ?_ | refine fA rfl ?_)
     refine iD ?_
     repeat first | refine aK ?_ | refine aS ?_
     refine aN ?_
     refine wp_pure HF HM rfl 6 [] [(2, aC ug ((ny x (x.ps.length + 2)).length) uc), (3, aC pg x.ss.length pc), (4, aC qg (x.ps.length + 2) qc)] (by kernel_rfl) fun a HF => ?_
     refine aB ?_
     refine wp_ret ?_
     repeat first | refine bH ?_ | refine bM ?_
     rw [SK] at HF JB JC
     exact pz HF rfl rfl rfl rfl ⟨ug, uc, uk, pg, pc, pk, qg, qc, qk, rfl, HM.below, ⟨HM.ge (i := 0) rfl, HM.get (i := 0) rfl, JB, KY, JC, KZ⟩, ⟨HM.ge (i := 3) rfl, HM.get (i := 3) rfl, ptk, psz, pnc, pcm⟩, ⟨HM.ge (i := 2) rfl, HM.get (i := 2) rfl, Il, LY, JF, LZ⟩⟩

end Go.Proofs.YtdgehpocmfjbiaaDoor
namespace Go.Proofs.YtdgehpocmfjbiaaDoor
open Go.RowKit

theorem x9 (x : bZ) (w0 : World) (h : x.At w0) (ok : x.Ok) : Calls Tryd.prog 25 #[x.val] w0 fun e w' => ∃ g cap cur, e = .returned (aC g x.img.file.length cap) ∧ Below w0.heap.size w0 w' ∧ Own w0.heap.size w' 5 1 g x.img.file.length cap cur (x.img.file.map Bv) := by
 obtain ⟨w, hw⟩ : ∃ w, w0 = w := ⟨_, rfl⟩
 have HM : Mm [] w0 w [] := hw ▸ Mm.start w0
 conv => arg 4; rw [hw]
 clear hw
 refine bI Tryd.func25 rfl Tryd.ntmps25 [(0, .agg #[.bool x.wide, .bool x.big, aT x.abi, aT x.aH, .int .i64 x.ty, .int .i64 x.machine, aI x.entry, .slice x.A x.ss.length x.c, .slice x.B x.ps.length x.d])] (by kernel_rfl) (Nat.le_of_ble_eq_true rfl) ?_
 intro a HF
 refine aN ?_
 obtain ⟨z1, hz1⟩ : ∃ z, w.heap.size = z := ⟨_, rfl⟩
 refine aP HF HM hz1 2 [] [(1, aA z1)] [(z1, .cells #[.bool x.wide, .bool x.big, aT x.abi, aT x.aH, .int .i64 x.ty, .int .i64 x.machine, aI x.entry, .slice x.A x.ss.length x.c, .slice x.B x.ps.length x.d] 26 (0, 0))] (by kernel_rfl) fun a w HF HM => ?_
 clear hz1
 refine bT ?_
 refine wp_pure HF HM rfl 1 [[0]] [(7, .agg #[.bool x.wide, .bool x.big, aT x.abi, aT x.aH, .int .i64 x.ty, .int .i64 x.machine, aI x.entry, .slice x.A x.ss.length x.c, .slice x.B x.ps.length x.d])] (by kernel_rfl) fun a HF => ?_
 refine bf HF (by kernel_rfl) 36 #[.agg #[.bool x.wide, .bool x.big, aT x.abi, aT x.aH, .int .i64 x.ty, .int .i64 x.machine, aI x.entry, .slice x.A x.ss.length x.c, .slice x.B x.ps.length x.d]] (by kernel_rfl) (fun w => by kernel_rfl) (Calls.mono (SI x w (h.below HM.below) ok) ?_)
 rintro _ w1 ⟨g1, cap1, nC, g2, cap2, jY, g3, cap3, oG, rfl, hb, ho1, ho2, ho3⟩
 replace HM : Mm [] w0 w1 [(g1, .cells nC 5 (0, 0)), (z1, .cells #[.bool x.wide, .bool x.big, aT x.abi, aT x.aH, .int .i64 x.ty, .int .i64 x.machine, aI x.entry, .slice x.A x.ss.length x.c, .slice x.B x.ps.length x.d] 26 (0, 0))] := HM.push hb ho1.new ho1.obj
 refine ⟨_, rfl, ?_⟩; clear HF; intro a HF
 refine wp_pure HF HM rfl 7 [] [(3, aC g1 x.img.file.length cap1)] (by kernel_rfl) fun a HF => ?_
 refine bT ?_
 refine wp_pure HF HM rfl 2 [] [(2, aC g1 x.img.file.length cap1)] (by kernel_rfl) fun a HF => ?_
 refine aB ?_
 refine wp_ret ?_
 repeat first | refine bH ?_ | refine bM ?_
 exact dn HF rfl rfl ⟨g1, cap1, nC, rfl, HM.below, ⟨HM.ge (i := 0) rfl, HM.get (i := 0) rfl, ho1.tk, ho1.sz, ho1.nc, ho1.cm⟩⟩

end Go.Proofs.YtdgehpocmfjbiaaDoor
namespace Go.Proofs.YtdgehpocmfjbiaaDoor
open Go.ChangeShapes Go.WideShapes Go.ChangeAt Go.RowKit Go.Deep

end Go.Proofs.YtdgehpocmfjbiaaDoor
namespace Go.Proofs.YtdgehpocmfjbiaaDoor
open Go.ChangeShapes Go.WideShapes Go.ChangeAt Go.RowKit Go.Deep

section
variable {H : Type} {enc : TypeId × Value → H} {P : Program} {w : World} {base : Nat} {spare : Nat → Bool} {held : Bool}
theorem yN {t : TypeId} {fs : Array Field} {fuel : Nat} {cs : List Value} {x : DataW H × List MemPlace} (hs : P.underlying t = some (.struct fs)) (hone : oneCellFields P fs = true) (hC : P.cellsOf t = fs.size) (h : DataW.trod enc P w base spare held fuel t cs = some x) :
  cs.length = fs.size ∧ ∃ (n : Nat), ∀ (j : Nat) (f : Field), fs[j]? = some f → ∃ (u : Value) (y : DataW H × List MemPlace), cs[j]? = some u ∧ DataW.trod enc P w base spare held n f.type [u] = some y := by
 obtain ⟨xs, n, _, hx, hl, hlen, hg⟩ := DataW.trod_struct hs h
 refine ⟨hl.trans hC, n, fun j f hj => ?_⟩
 obtain ⟨ho, hk⟩ := hone_of hone j f hj
 have h1 := hg j f hj
 rw [ho, hk] at h1
 have hj1 : j < fs.size := (Array.getElem?_eq_some_iff.1 hj).1
 have hj2 : j < xs.length := by omega
 have hj3 : j < cs.length := by omega
 have e : (cs.drop j).take 1 = [cs[j]] := by
  rw [List.drop_eq_getElem_cons hj3]
  rfl
 rw [e, List.getElem?_eq_getElem hj2] at h1
 exact ⟨cs[j], xs[j], List.getElem?_eq_getElem hj3, h1⟩
theorem LX {α : Type} {f : α → List Value} {k : Nat} (hk : ∀ a, (f a).length = k) (b : Nat) : ∀ (l : List α) (off : Nat), (∀ i (h : i < l.length) j v, (f l[i])[j]? = some v → w.cell? ⟨b, off + i * k + j, none⟩ = some v) → Row w (some ⟨b, off, none⟩) (l.flatMap f)
 | [], off, _ => Row.nil _ _
 | a :: l, off, h => by
  have ih := LX hk b l (off + k) fun i hi j v hv => by
   have := h (i + 1) (by simpa using hi) j v (by simpa using hv)
   rw [Nat.succ_mul] at this
   rw [show off + k + i * k + j = off + (i * k + k) + j by omega]
   exact this
  intro i v hv
  rw [List.flatMap_cons] at hv
  refine ⟨b, off, rfl, ?_⟩
  by_cases hik : i < k
  ·rw [List.getElem?_append_left (by rw [hk]; exact hik)] at hv
   have := h 0 (by simp) i v (by simpa using hv)
   simpa using this
  ·rw [List.getElem?_append_right (by rw [hk]; omega), hk] at hv
   obtain ⟨b', off', e, hc⟩ := ih _ v hv
   injection e with e
   injection e with e1 e2
   subst e1; subst e2
   rw [show off + k + (i - k) = off + i by omega] at hc
   exact hc
/-- a slice of elements of k cells -/
theorem open_row {α : Type} [Inhabited α] {t e : TypeId} {k : Nat} {f : α → List Value} {Good : α → Prop} (ht : P.underlying t = some (.slice e)) (hc : P.cellsOf e = k) (hk0 : 0 < k) (hk : ∀ a, (f a).length = k)
  (hel : ∀ (n : Nat) (cs : List Value) (x : DataW H × List MemPlace), DataW.trod enc P w base spare held n e cs = some x → ∃ m, cs = f m ∧ Good m)
  {fuel : Nat} {u : Value} {x : DataW H × List MemPlace} (h : DataW.trod enc P w base spare held fuel t [u] = some x) :
  ∃ (l : List α) (A : Option Addr) (c : Nat), u = .slice A l.length c ∧ Row w A (l.flatMap f) ∧ (∀ m ∈ l, Good m) ∧ l.length ≤ c ∧ c ≤ maxLen := by
 rcases open_slice ht h with ⟨hcs, _⟩ | ⟨a, len, cap, m, n, D, Pl, hcs, hb, hl, hm, hmm, hx, hel2⟩
 ·obtain rfl : u = .slice none 0 0 := by simpa using hcs
  exact ⟨[], none, 0, rfl, Row.nil _ _, by simp, Nat.le_refl _, Nat.zero_le _⟩
 ·obtain rfl : u = .slice (some a) len cap := by simpa using hcs
  have hlm : len ≤ m := by rw [hmm]; split <;> omega
  obtain ⟨V, hV⟩ := choose_lt (α := α) (n := len) (p := fun i v => w.cells? base (a.add (i * k)) k = some (f v) ∧ Good v) (fun i hi => by
   obtain ⟨cs', h1, h2⟩ := hel2 i (by omega)
   obtain ⟨v, rfl, hg⟩ := hel n cs' _ h2
   rw [hc] at h1
   exact ⟨v, h1, hg⟩)
  refine ⟨(List.range len).map V, some a, cap, by simp, ?_, ?_, by simpa using hl, hm⟩
  ·rcases Nat.eq_zero_or_pos len with h0 | h0
   ·subst h0
    exact Row.nil _ _
   ·obtain ⟨b, off, spot⟩ := a
    have hs0 : spot = none := by
     have h1 := (World.cells?_some (hV 0 h0).1).2.2 0 hk0
     have h2 : (f (V 0))[0]? = some ((f (V 0))[0]'(by rw [hk]; exact hk0)) := List.getElem?_eq_getElem _
     rw [h2] at h1
     simpa [Addr.add] using World.cell?_spot h1
    subst hs0
    refine LX hk b _ _ fun i hi j v hv => ?_
    simp only [List.length_map, List.length_range] at hi
    simp only [List.getElem_map, List.getElem_range] at hv
    have hj : j < k := by have := (List.getElem?_eq_some_iff.1 hv).1; rw [hk] at this; exact this
    have h1 := (World.cells?_some (hV i hi).1).2.2 j hj
    rw [hv, addr_add, addr_add] at h1
    exact h1
  ·intro v hv
   obtain ⟨i, hi, rfl⟩ := List.mem_map.1 hv
   exact (hV i (List.mem_range.1 hi)).2
end
section
variable {H : Type} {enc : TypeId × Value → H} {w : World} {base : Nat} {spare : Nat → Bool} {held : Bool}
theorem UH {n : Int} (h : (Lit.int .u8 n).wf = true) : ∃ b : UInt8, n = (b.toNat : Int) := by
 have := bounds_u8 h
 refine ⟨UInt8.ofNat n.toNat, ?_⟩
 rw [UInt8.toNat_ofNat']
 omega
theorem GL {fuel : Nat} {u : Value} {x : DataW H × List MemPlace} (h : DataW.trod enc Tryd.prog w base spare held fuel 33 [u] = some x) :
  ∃ (l : List UInt8) (A : Option Addr) (c : Nat), u = .slice A l.length c ∧ Row w A (l.map Bv) ∧ l.length ≤ c ∧ c ≤ maxLen := by
 obtain ⟨l, A, c, h1, h2, _, h4, h5⟩ := open_row (α := UInt8) (f := fun b => [Bv b]) (Good := fun _ => True) Tryd.underlying33 (k := 1) (by kernel_rfl) (by omega) (fun _ => rfl) (fun n cs x hx => by
  obtain ⟨m, rfl, _, hw⟩ := DataW.trod_int Tryd.underlying5 hx
  obtain ⟨b, rfl⟩ := UH hw
  exact ⟨b, rfl, trivial⟩) h
 exact ⟨l, A, c, h1, by rw [List.map_eq_flatMap]; exact h2, h4, h5⟩
theorem L9 {fuel : Nat} {u : Value} {x : DataW H × List MemPlace} (h : DataW.trod enc Tryd.prog w base spare held fuel 9 [u] = some x) : ∃ l : List UInt8, u = nT l ∧ l.length ≤ maxLen := by
 obtain ⟨s, hs, _, hl⟩ := DataW.trod_string Tryd.underlying9 h
 obtain rfl : u = .string s := by simpa using hs
 exact ⟨s.data.toList, rfl, by rw [Array.length_toList]; exact hl⟩
theorem list6 {α : Type} {l : List α} (h : l.length = 6) : ∃ a0 a1 a2 a3 a4 a5, l = [a0, a1, a2, a3, a4, a5] := by
 match l, h with
 | [a0, a1, a2, a3, a4, a5], _ => exact ⟨a0, a1, a2, a3, a4, a5, rfl⟩
theorem list7 {α : Type} {l : List α} (h : l.length = 7) : ∃ a0 a1 a2 a3 a4 a5 a6, l = [a0, a1, a2, a3, a4, a5, a6] := by
 match l, h with
 | [a0, a1, a2, a3, a4, a5, a6], _ => exact ⟨a0, a1, a2, a3, a4, a5, a6, rfl⟩
theorem list9 {α : Type} {l : List α} (h : l.length = 9) : ∃ a0 a1 a2 a3 a4 a5 a6 a7 a8, l = [a0, a1, a2, a3, a4, a5, a6, a7, a8] := by
 match l, h with
 | [a0, a1, a2, a3, a4, a5, a6, a7, a8], _ => exact ⟨a0, a1, a2, a3, a4, a5, a6, a7, a8, rfl⟩
theorem UJ {α : Type} {l : List α} (h : l.length = 10) : ∃ a0 a1 a2 a3 a4 a5 a6 a7 a8 a9, l = [a0, a1, a2, a3, a4, a5, a6, a7, a8, a9] := by
 match l, h with
 | [a0, a1, a2, a3, a4, a5, a6, a7, a8, a9], _ => exact ⟨a0, a1, a2, a3, a4, a5, a6, a7, a8, a9, rfl⟩
instance : Inhabited kQ := ⟨⟨0, 0, 0, 0, 0, 0, [], none, 0⟩⟩
instance : Inhabited dL := ⟨KD⟩
theorem RY {fuel : Nat} {cs : List Value} {x : DataW H × List MemPlace} (h : DataW.trod enc Tryd.prog w base spare held fuel 57 cs = some x) : ∃ m : kQ, cs = m.cells ∧ kQ.At w m := by
 obtain ⟨hl, n, hf⟩ := yN Tryd.underlying57 (by kernel_rfl) (by kernel_rfl) h
 obtain ⟨c0, c1, c2, c3, c4, c5, c6, rfl⟩ := list7 hl
 obtain ⟨u0, y0, e0, t0⟩ := hf 0 _ rfl
 obtain rfl : c0 = u0 := by simpa using e0
 obtain ⟨a0, x0, -, z0⟩ := DataW.trod_int Tryd.underlying36 t0
 obtain rfl : c0 = _ := by simpa using x0
 have q0 := bounds_u32 z0
 obtain ⟨m0, rfl⟩ := Int.eq_ofNat_of_zero_le q0.1
 obtain ⟨u1, y1, e1, t1⟩ := hf 1 _ rfl
 obtain rfl : c1 = u1 := by simpa using e1
 obtain ⟨a1, x1, -, z1⟩ := DataW.trod_int Tryd.underlying36 t1
 obtain rfl : c1 = _ := by simpa using x1
 have q1 := bounds_u32 z1
 obtain ⟨m1, rfl⟩ := Int.eq_ofNat_of_zero_le q1.1
 obtain ⟨u2, y2, e2, t2⟩ := hf 2 _ rfl
 obtain rfl : c2 = u2 := by simpa using e2
 obtain ⟨a2, x2, -, z2⟩ := DataW.trod_int Tryd.underlying22 t2
 obtain rfl : c2 = _ := by simpa using x2
 have q2 := bounds_u64 z2
 obtain ⟨m2, rfl⟩ := Int.eq_ofNat_of_zero_le q2.1
 obtain ⟨u3, y3, e3, t3⟩ := hf 3 _ rfl
 obtain rfl : c3 = u3 := by simpa using e3
 obtain ⟨a3, x3, -, z3⟩ := DataW.trod_int Tryd.underlying22 t3
 obtain rfl : c3 = _ := by simpa using x3
 have q3 := bounds_u64 z3
 obtain ⟨m3, rfl⟩ := Int.eq_ofNat_of_zero_le q3.1
 obtain ⟨u4, y4, e4, t4⟩ := hf 4 _ rfl
 obtain rfl : c4 = u4 := by simpa using e4
 obtain ⟨a4, x4, -, z4⟩ := DataW.trod_int Tryd.underlying22 t4
 obtain rfl : c4 = _ := by simpa using x4
 have q4 := bounds_u64 z4
 obtain ⟨m4, rfl⟩ := Int.eq_ofNat_of_zero_le q4.1
 obtain ⟨u5, y5, e5, t5⟩ := hf 5 _ rfl
 obtain rfl : c5 = u5 := by simpa using e5
 obtain ⟨a5, x5, -, z5⟩ := DataW.trod_int Tryd.underlying22 t5
 obtain rfl : c5 = _ := by simpa using x5
 have q5 := bounds_u64 z5
 obtain ⟨m5, rfl⟩ := Int.eq_ofNat_of_zero_le q5.1
 obtain ⟨u6, y6, e6, t6⟩ := hf 6 _ rfl
 obtain rfl : c6 = u6 := by simpa using e6
 obtain ⟨l6, A6, k6, rfl, r6, g6, j6⟩ := GL t6
 exact ⟨⟨m0, m1, m2, m3, m4, m5, l6, A6, k6⟩, rfl, ⟨r6, g6, j6, by show m0 < _; omega, by show m1 < _; omega, by show m2 < _; omega, by show m3 < _; omega, by show m4 < _; omega, by show m5 < _; omega⟩⟩
theorem QF {fuel : Nat} {cs : List Value} {x : DataW H × List MemPlace} (h : DataW.trod enc Tryd.prog w base spare held fuel 46 cs = some x) : ∃ m : dL, cs = m.cells ∧ dL.At w m := by
 obtain ⟨hl, n, hf⟩ := yN Tryd.underlying46 (by kernel_rfl) (by kernel_rfl) h
 obtain ⟨c0, c1, c2, c3, c4, c5, c6, c7, c8, c9, rfl⟩ := UJ hl
 obtain ⟨u0, y0, e0, t0⟩ := hf 0 _ rfl
 obtain rfl : c0 = u0 := by simpa using e0
 obtain ⟨m0, rfl, z0⟩ := L9 t0
 obtain ⟨u1, y1, e1, t1⟩ := hf 1 _ rfl
 obtain rfl : c1 = u1 := by simpa using e1
 obtain ⟨a1, x1, -, z1⟩ := DataW.trod_int Tryd.underlying36 t1
 obtain rfl : c1 = _ := by simpa using x1
 have q1 := bounds_u32 z1
 obtain ⟨m1, rfl⟩ := Int.eq_ofNat_of_zero_le q1.1
 obtain ⟨u2, y2, e2, t2⟩ := hf 2 _ rfl
 obtain rfl : c2 = u2 := by simpa using e2
 obtain ⟨a2, x2, -, z2⟩ := DataW.trod_int Tryd.underlying36 t2
 obtain rfl : c2 = _ := by simpa using x2
 have q2 := bounds_u32 z2
 obtain ⟨m2, rfl⟩ := Int.eq_ofNat_of_zero_le q2.1
 obtain ⟨u3, y3, e3, t3⟩ := hf 3 _ rfl
 obtain rfl : c3 = u3 := by simpa using e3
 obtain ⟨a3, x3, -, z3⟩ := DataW.trod_int Tryd.underlying22 t3
 obtain rfl : c3 = _ := by simpa using x3
 have q3 := bounds_u64 z3
 obtain ⟨m3, rfl⟩ := Int.eq_ofNat_of_zero_le q3.1
 obtain ⟨u4, y4, e4, t4⟩ := hf 4 _ rfl
 obtain rfl : c4 = u4 := by simpa using e4
 obtain ⟨a4, x4, -, z4⟩ := DataW.trod_int Tryd.underlying36 t4
 obtain rfl : c4 = _ := by simpa using x4
 have q4 := bounds_u32 z4
 obtain ⟨m4, rfl⟩ := Int.eq_ofNat_of_zero_le q4.1
 obtain ⟨u5, y5, e5, t5⟩ := hf 5 _ rfl
 obtain rfl : c5 = u5 := by simpa using e5
 obtain ⟨a5, x5, -, z5⟩ := DataW.trod_int Tryd.underlying36 t5
 obtain rfl : c5 = _ := by simpa using x5
 have q5 := bounds_u32 z5
 obtain ⟨m5, rfl⟩ := Int.eq_ofNat_of_zero_le q5.1
 obtain ⟨u6, y6, e6, t6⟩ := hf 6 _ rfl
 obtain rfl : c6 = u6 := by simpa using e6
 obtain ⟨a6, x6, -, z6⟩ := DataW.trod_int Tryd.underlying22 t6
 obtain rfl : c6 = _ := by simpa using x6
 have q6 := bounds_u64 z6
 obtain ⟨m6, rfl⟩ := Int.eq_ofNat_of_zero_le q6.1
 obtain ⟨u7, y7, e7, t7⟩ := hf 7 _ rfl
 obtain rfl : c7 = u7 := by simpa using e7
 obtain ⟨a7, x7, -, z7⟩ := DataW.trod_int Tryd.underlying22 t7
 obtain rfl : c7 = _ := by simpa using x7
 have q7 := bounds_u64 z7
 obtain ⟨m7, rfl⟩ := Int.eq_ofNat_of_zero_le q7.1
 obtain ⟨u8, y8, e8, t8⟩ := hf 8 _ rfl
 obtain rfl : c8 = u8 := by simpa using e8
 obtain ⟨a8, x8, -, z8⟩ := DataW.trod_int Tryd.underlying22 t8
 obtain rfl : c8 = _ := by simpa using x8
 have q8 := bounds_u64 z8
 obtain ⟨m8, rfl⟩ := Int.eq_ofNat_of_zero_le q8.1
 obtain ⟨u9, y9, e9, t9⟩ := hf 9 _ rfl
 obtain rfl : c9 = u9 := by simpa using e9
 obtain ⟨l9, A9, k9, rfl, r9, g9, j9⟩ := GL t9
 exact ⟨⟨m0, m1, m2, m3, m4, m5, m6, m7, m8, l9, A9, k9⟩, rfl, ⟨r9, g9, j9, z0, by show m1 < _; omega, by show m2 < _; omega, by show m3 < _; omega, by show m4 < _; omega, by show m5 < _; omega, by show m6 < _; omega, by show m7 < _; omega, by show m8 < _; omega⟩⟩
theorem DV {r : Reach} {b0 : Nat} {v : Value} {d : DataW H} {p : List MemPlace} (hv : Value.okWide Tryd.prog w r b0 26 v) (ht : DataW.Trod enc Tryd.prog w base spare held 26 v d p) : ∃ x : bZ, v = x.val ∧ x.At w := by
 obtain ⟨cs, rfl, hsz⟩ := okWide_struct Tryd.underlying26 hv
 obtain ⟨fuel, h0⟩ := ht
 have h : DataW.trod enc Tryd.prog w base spare held fuel 26 cs.toList = some (d, p) := h0
 obtain ⟨l, rfl⟩ : ∃ l : List Value, cs = l.toArray := ⟨cs.toList, by simp⟩
 simp only [List.toList_toArray] at h
 obtain ⟨hl, n, hf⟩ := yN Tryd.underlying26 (by kernel_rfl) (by kernel_rfl) h
 obtain ⟨c0, c1, c2, c3, c4, c5, c6, c7, c8, rfl⟩ := list9 hl
 obtain ⟨u0, y0, e0, t0⟩ := hf 0 _ rfl
 obtain rfl : c0 = u0 := by simpa using e0
 obtain ⟨b0_, x0, -⟩ := DataW.trod_bool Tryd.underlying4 t0
 obtain rfl : c0 = .bool b0_ := by simpa using x0
 obtain ⟨u1, y1, e1, t1⟩ := hf 1 _ rfl
 obtain rfl : c1 = u1 := by simpa using e1
 obtain ⟨b1, x1, -⟩ := DataW.trod_bool Tryd.underlying4 t1
 obtain rfl : c1 = .bool b1 := by simpa using x1
 obtain ⟨u2, y2, e2, t2⟩ := hf 2 _ rfl
 obtain rfl : c2 = u2 := by simpa using e2
 obtain ⟨a2, x2, -, z2⟩ := DataW.trod_int Tryd.underlying5 t2
 obtain rfl : c2 = _ := by simpa using x2
 have q2 := bounds_u8 z2
 obtain ⟨m2, rfl⟩ := Int.eq_ofNat_of_zero_le q2.1
 obtain ⟨u3, y3, e3, t3⟩ := hf 3 _ rfl
 obtain rfl : c3 = u3 := by simpa using e3
 obtain ⟨a3, x3, -, z3⟩ := DataW.trod_int Tryd.underlying5 t3
 obtain rfl : c3 = _ := by simpa using x3
 have q3 := bounds_u8 z3
 obtain ⟨m3, rfl⟩ := Int.eq_ofNat_of_zero_le q3.1
 obtain ⟨u4, y4, e4, t4⟩ := hf 4 _ rfl
 obtain rfl : c4 = u4 := by simpa using e4
 obtain ⟨a4, x4, -, z4⟩ := DataW.trod_int Tryd.underlying3 t4
 obtain rfl : c4 = _ := by simpa using x4
 have q4 := bounds_i64 z4
 obtain ⟨u5, y5, e5, t5⟩ := hf 5 _ rfl
 obtain rfl : c5 = u5 := by simpa using e5
 obtain ⟨a5, x5, -, z5⟩ := DataW.trod_int Tryd.underlying3 t5
 obtain rfl : c5 = _ := by simpa using x5
 have q5 := bounds_i64 z5
 obtain ⟨u6, y6, e6, t6⟩ := hf 6 _ rfl
 obtain rfl : c6 = u6 := by simpa using e6
 obtain ⟨a6, x6, -, z6⟩ := DataW.trod_int Tryd.underlying22 t6
 obtain rfl : c6 = _ := by simpa using x6
 have q6 := bounds_u64 z6
 obtain ⟨m6, rfl⟩ := Int.eq_ofNat_of_zero_le q6.1
 obtain ⟨u7, y7, e7, t7⟩ := hf 7 _ rfl
 obtain rfl : c7 = u7 := by simpa using e7
 obtain ⟨l7, A7, k7, rfl, r7, v7, g7, j7⟩ := open_row (α := kQ) Tryd.underlying23 (k := 7) (by kernel_rfl) (by omega) (fun _ => rfl) (fun n cs x hx => RY hx) t7
 obtain ⟨u8, y8, e8, t8⟩ := hf 8 _ rfl
 obtain rfl : c8 = u8 := by simpa using e8
 obtain ⟨l8, A8, k8, rfl, r8, v8, g8, j8⟩ := open_row (α := dL) Tryd.underlying24 (k := 10) (by kernel_rfl) (by omega) (fun _ => rfl) (fun n cs x hx => QF hx) t8
 exact ⟨⟨b0_, b1, m2, m3, a4, a5, m6, l7, A7, k7, l8, A8, k8⟩, rfl, ⟨r7, r8, v7, v8, g7, j7, g8, j8, by show m2 < _; omega, by show m3 < _; omega, by show m6 < _; omega⟩⟩
end
end Go.Proofs.YtdgehpocmfjbiaaDoor
