/- spec.File and laws.fileOf. · laws.fileOf. · A struct by value, opened: each field's own reading, whatever the number of one-cell fields. · Arguments,  -/
import Derived.Test.YtdgehpocmfjbiaaDoorTg
import Derived.Test.YtdgehpocmfjbiaaDoorRows
import Derived.WalkKit
import Derived.ProofKit
import Derived.OpenShut
import Derived.ShutString
import Derived.ChangeOld
import Derived.Below
import Derived.Deep.Slices
import Derived.Deep.Fields
set_option linter.unusedVariables false
set_option linter.unusedSimpArgs false
set_option maxRecDepth 100000
set_option maxHeartbeats 2000000
namespace Go.Proofs.YtdgehpocmfjbiaaDoor
open Go.RowKit

abbrev dn := fun z1 (x : dN) => ((z1, .cells #[.bool x.wide, .bool x.big, aV x.abi, aV x.aF, .int .i64 x.ty, .int .i64 x.machine, aJ x.entry, .slice x.A x.ss.length x.c, .slice x.B x.ps.length x.d] 26 (0, 0)) : Nat × Obj)
abbrev fD := fun z1 (x : dN) gl bW => ([(1, aC z1), (5, aA (fF x.wide)), (8, aH gl (x.ps.length + 2) bW)] : Slots)
abbrev CS := fun z1 (x : dN) gl bW bg i bc pg pc z10 => ((fD z1 x gl bW) ++ [(9, aA x.img.at0), (10, aH bg ((jc x i).length) bc), (11, aH pg i pc), (12, aH (z10 + 2) 0 0), (45, .slice x.A x.ss.length x.c), (46, aA x.ss.length), (47, aA i)] : Slots)
abbrev uH := fun z13 (m1 : jE) => ((z13, .cells #[aX m1.ty, aX m1.flags, aJ m1.bI, aJ m1.bJ, aJ m1.bM, aJ m1.align, .slice m1.A m1.data.length m1.c] 57 (0, 0)) : Nat × Obj)
abbrev yg := fun z1 (x : dN) gl bW bg i bc z10 z13 => ((fD z1 x gl bW) ++ [(9, aA x.img.at0), (10, aH bg ((jc x i).length) bc), (12, aH (z10 + 2) 0 0), (14, aC z13), (45, .slice x.A x.ss.length x.c), (46, aA x.ss.length), (47, aA i)] : Slots)
abbrev CQ := fun z1 (x : dN) gl bW g3 i (m1 : jE) cap3 g2 cap2 z10 => ((fD z1 x gl bW) ++ [(9, aA x.img.at0), (10, aH g3 (((jc x i).length) + m1.data.length) cap3), (11, aH g2 (i + 1) cap2), (12, aH (z10 + 2) 0 0), (45, .slice x.A x.ss.length x.c), (46, aA x.ss.length)] : Slots)
abbrev lK := fun z1 (x : dN) gl bW bg gt bY i bc pg pc => ((fD z1 x gl bW) ++ [(9, aA x.img.at0), (10, aH bg ((fZ x gt bY i).length) bc), (11, aH pg x.ss.length pc)] : Slots)
abbrev kX := fun z28 (x : dN) gt bY i => ((z28, .cells #[aA (x.img.at0 + (fZ x gt bY i).length)] 3 (0, 0)) : Nat × Obj)
abbrev ql := fun z1 (x : dN) gl bW bg gt bY i bc pg pc g5 cap5 ng nc z26 => ((lK z1 x gl bW bg gt bY i bc pg pc) ++ [(12, aH g5 (i + 1) cap5), (15, aH ng i nc), (17, aC z26), (64, aH gl (x.ps.length + 2) bW), (65, aA (x.ps.length + 2)), (66, aA i)] : Slots)
abbrev uG := fun z1 (x : dN) gl bW cg gt bY i cc pg pc rg rc => ((fD z1 x gl bW) ++ [(9, aA x.img.at0), (10, aH cg ((fZ x gt bY (i + 1)).length) cc), (11, aH pg x.ss.length pc), (12, aH rg (i + 1) rc)] : Slots)
abbrev tZ := fun z1 (x : dN) gl bW cg gt bY i cc pg pc rg rc g10 xQ => ((uG z1 x gl bW cg gt bY i cc pg pc rg rc) ++ [(15, aH g10 (i + 1) xQ), (64, aH gl (x.ps.length + 2) bW), (65, aA (x.ps.length + 2))] : Slots)
abbrev qH := fun z1 (x : dN) gl bW bg gt bY bc pg pc qg qc => ((fD z1 x gl bW) ++ [(9, aA x.img.at0), (10, aH bg ((fZ x gt bY (x.ps.length + 2)).length) bc), (11, aH pg x.ss.length pc), (12, aH qg (x.ps.length + 2) qc)] : Slots)
abbrev jD := fun z1 gl (x : dN) bW bg gt bY bc pg pc qg qc gp iL => ([(1, aC z1), (8, aH gl (x.ps.length + 2) bW), (10, aH bg ((fZ x gt bY (x.ps.length + 2)).length) bc), (11, aH pg x.ss.length pc), (12, aH qg (x.ps.length + 2) qc), (19, aH gp x.img.names.length iL)] : Slots)
abbrev wU := fun z1 gl (x : dN) bW bg gt bY bc pg pc qg qc gp iL ug i uc => ((jD z1 gl x bW bg gt bY bc pg pc qg qc gp iL) ++ [(20, aH ug ((jJ x i).length) uc), (115, .slice x.A x.ss.length x.c), (116, aA x.ss.length), (117, aA i)] : Slots)
abbrev t_ := fun z48 (m12 : jE) => ((z48, .cells #[aX m12.ty, aX m12.flags, aJ m12.bI, aJ m12.bJ, aJ m12.bM, aJ m12.align, .slice m12.A m12.data.length m12.c] 57 (0, 0)) : Nat × Obj)
abbrev A_ := fun z1 gl (x : dN) bW bg gt bY bc pg pc qg qc gp iL i ug uc (m12 : jE) => ((jD z1 gl x bW bg gt bY bc pg pc qg qc gp iL) ++ [(115, .slice x.A x.ss.length x.c), (116, aA x.ss.length), (117, aA i), (122, aH ug ((jJ x i).length) uc), (123, .agg #[.bool x.wide, .bool x.big, aV x.abi, aV x.aF, .int .i64 x.ty, .int .i64 x.machine, aJ x.entry, .slice x.A x.ss.length x.c, .slice x.B x.ps.length x.d]), (124, .agg #[aX m12.ty, aX m12.flags, aJ m12.bI, aJ m12.bJ, aJ m12.bM, aJ m12.align, .slice m12.A m12.data.length m12.c])] : Slots)
abbrev jC := fun z1 pg (x : dN) pc qg qc gp iL => ([(1, aC z1), (11, aH pg x.ss.length pc), (12, aH qg (x.ps.length + 2) qc), (19, aH gp x.img.names.length iL)] : Slots)
abbrev wS := fun z1 pg (x : dN) pc qg qc gp iL ug i uc gl bW => ((jC z1 pg x pc qg qc gp iL) ++ [(20, aH ug ((lq x i).length) uc), (135, aH gl (x.ps.length + 2) bW), (136, aA (x.ps.length + 2)), (137, aA i)] : Slots)
abbrev GN := fun z1 pg (x : dN) pc qg qc gp iL i z57 gl bW ug uc => ((jC z1 pg x pc qg qc gp iL) ++ [(23, aA i), (24, aC z57), (135, aH gl (x.ps.length + 2) bW), (136, aA (x.ps.length + 2)), (137, aA i), (142, aH ug ((lq x i).length) uc), (143, .agg #[.bool x.wide, .bool x.big, aV x.abi, aV x.aF, .int .i64 x.ty, .int .i64 x.machine, aJ x.entry, .slice x.A x.ss.length x.c, .slice x.B x.ps.length x.d])] : Slots)
abbrev Ba := fun (x : dN) => ((143, .agg #[.bool x.wide, .bool x.big, aV x.abi, aV x.aF, .int .i64 x.ty, .int .i64 x.machine, aJ x.entry, .slice x.A x.ss.length x.c, .slice x.B x.ps.length x.d]) : Nat × Value)
theorem LV (x : dN) (w0 : World) (h : x.At w0) (ok : x.Ok) :
  Calls Tryd.prog 36 #[x.val] w0 fun e w' => ∃ g cap cur g2 cap2 qo g3 cap3 qI, e = .returned (.tuple #[aH g x.img.file.length cap, aH g2 x.ss.length cap2, aH g3 (x.ps.length + 2) cap3]) ∧ Below w0.heap.size w0 w' ∧
   Own w0.heap.size w' 5 1 g x.img.file.length cap cur (x.img.file.map Bv) ∧ Own w0.heap.size w' 3 1 g2 x.ss.length cap2 qo ((List.range x.ss.length).map (fun j => oU (x.img.jG j))) ∧ Own w0.heap.size w' 3 1 g3 (x.ps.length + 2) cap3 qI ((List.range (x.ps.length + 2)).map (fun j => oU (x.img.iO j))) := by
 have oD := dN.ok ok h
 have hk1 := ok.cO; have hk2 := ok.parts; have hk3 := oD.o_; have hk4 := oD.yN; have hk5 := oD.yO; have hk6 := oD.G7; have hk7 := oD.CV; have hk8 := oD.length_le
 have hsz : fF x.wide ≤ 64 ∧ gQ x.wide ≤ 64 ∧ h_ x.wide ≤ 64 := by unfold fF gQ h_; cases x.wide <;> decide
 have hat0 := NY x
 have hmul : gQ x.wide * x.ss.length ≤ 64 * 100 := Nat.mul_le_mul hsz.2.1 hk1
 obtain ⟨w, hw⟩ : ∃ w, w0 = w := ⟨_, rfl⟩
 have HM : Mm [] w0 w [] := hw ▸ Mm.start w0
 conv => arg 4; rw [hw]
 clear hw
 refine dD Tryd.func36 rfl Tryd.ntmps36 [(0, .agg #[.bool x.wide, .bool x.big, aV x.abi, aV x.aF, .int .i64 x.ty, .int .i64 x.machine, aJ x.entry, .slice x.A x.ss.length x.c, .slice x.B x.ps.length x.d])] (by kernel_rfl) (Nat.le_of_ble_eq_true rfl) ?_
 intro a HF
 refine aY ?_
 obtain ⟨z1, hz1⟩ : ∃ z, w.heap.size = z := ⟨_, rfl⟩
 refine aO HF HM hz1 4 [] [(1, aC z1)] [dn z1 x] (by kernel_rfl) fun a w HF HM => ?_
 clear hz1
 refine dM ?_
 refine wp_pure HF HM rfl 2 [[0]] [(1, aC z1), (27, .bool x.wide)] (by kernel_rfl) fun a HF => ?_
 refine bn HF (by kernel_rfl) 64 #[.bool x.wide] (by kernel_rfl) (fun w => by kernel_rfl) (Calls.mono (Ep x.wide w) ?_)
 rintro _ w1 ⟨rfl, hb⟩
 replace HM := HM.call hb
 clear hb
 refine ⟨_, rfl, ?_⟩; clear HF; intro a HF
 refine wp_pure HF HM rfl 7 [] [(1, aC z1), (5, aA (fF x.wide)), (6, aA (gQ x.wide))] (by kernel_rfl) fun a HF => ?_
 refine dM ?_
 refine wp_pure HF HM rfl 1 [[0]] [(1, aC z1), (5, aA (fF x.wide)), (6, aA (gQ x.wide)), (32, .agg #[.bool x.wide, .bool x.big, aV x.abi, aV x.aF, .int .i64 x.ty, .int .i64 x.machine, aJ x.entry, .slice x.A x.ss.length x.c, .slice x.B x.ps.length x.d])] (by kernel_rfl) fun a HF => ?_
 refine bn HF (by kernel_rfl) 38 #[.agg #[.bool x.wide, .bool x.big, aV x.abi, aV x.aF, .int .i64 x.ty, .int .i64 x.machine, aJ x.entry, .slice x.A x.ss.length x.c, .slice x.B x.ps.length x.d]] (by kernel_rfl) (fun w => by kernel_rfl) (Calls.mono (Nr x w1 (h.below HM.below) (by omega) (by omega)) ?_)
 rintro _ w2 ⟨gl, bW, curl, gt, bY, iK, rfl, hb, hol, hot, hne⟩
 replace HM : Mm [] w0 w2 [(gl, .cells curl 46 (0, 0)), (gt, .cells iK 5 (0, 0)), dn z1 x] := HM.push2 hb hot.new hot.obj hol.new hol.obj hne
 have hal := yj x gt bY
 refine ⟨_, rfl, ?_⟩; clear HF; intro a HF
 refine wp_pure HF HM rfl 1 [] [(1, aC z1), (5, aA (fF x.wide)), (6, aA (gQ x.wide)), (8, aH gl (x.ps.length + 2) bW)] (by kernel_rfl) fun a HF => ?_
 refine dM ?_
 refine wp_pure HF HM rfl 5 [[0]] ((fD z1 x gl bW) ++ [(34, aA (fF x.wide)), (35, aA (gQ x.wide)), (38, aA x.ss.length)]) (by kernel_rfl) fun a HF => ?_
 refine wp_pure HF HM rfl 1 [] ((fD z1 x gl bW) ++ [(34, aA (fF x.wide)), (39, ay (IntKind.i64.wrap ((((gQ x.wide) : Nat) : Int) * ((x.ss.length : Nat) : Int))))]) (by kernel_rfl) fun a HF => ?_
 rw [show IntKind.i64.wrap ((((gQ x.wide) : Nat) : Int) * ((x.ss.length : Nat) : Int)) = ((((gQ x.wide * x.ss.length)) : Nat) : Int) from (IntWalk.i64_in _ (by rw [← Int.natCast_mul]; omega)).trans (Int.natCast_mul _ _).symm] at HF
 refine wp_pure HF HM rfl 1 [] ((fD z1 x gl bW) ++ [(40, ay (IntKind.i64.wrap ((((fF x.wide) : Nat) : Int) + ((((gQ x.wide * x.ss.length)) : Nat) : Int))))]) (by kernel_rfl) fun a HF => ?_
 rw [show IntKind.i64.wrap ((((fF x.wide) : Nat) : Int) + ((((gQ x.wide * x.ss.length)) : Nat) : Int)) = ((x.img.at0 : Nat) : Int) from (IntWalk.i64_in _ (by omega)).trans (by omega)] at HF
 refine wp_pure HF HM rfl 1 [] ((fD z1 x gl bW) ++ [(9, aA x.img.at0)]) (by kernel_rfl) fun a HF => ?_
 refine dM ?_
 obtain ⟨z10, AU⟩ : ∃ z, w2.heap.size = z := ⟨_, rfl⟩
 refine aO HF HM AU 6 [] ((fD z1 x gl bW) ++ [(9, aA x.img.at0), (10, aH z10 0 0), (11, aH (z10 + 1) 0 0), (12, aH (z10 + 2) 0 0)]) [((z10 + 2), .cells #[] 3 (0, 0)), ((z10 + 1), .cells #[] 3 (0, 0)), (z10, .cells #[] 5 (0, 0)), (gl, .cells curl 46 (0, 0)), (gt, .cells iK 5 (0, 0)), dn z1 x] (by kernel_rfl) fun a w HF HM => ?_
 clear AU
 refine aI ?_
 refine wp_seq ?_
 refine aY ?_
 refine wp_pure HF HM rfl 4 [[0]] ((fD z1 x gl bW) ++ [(9, aA x.img.at0), (10, aH z10 0 0), (11, aH (z10 + 1) 0 0), (12, aH (z10 + 2) 0 0), (45, .slice x.A x.ss.length x.c), (46, aA x.ss.length), (47, ay 0)]) (by kernel_rfl) fun a HF => ?_
 refine aI ?_
 refine wp_block ?_
 refine oM (x.ss.length) (fun i a w => (∃ bg : Nat, ∃ bc : Nat, ∃ bk : Array Value, ∃ pg : Nat, ∃ pc : Nat, ∃ pk : Array Value, (bk.toList.take (((jc x i).length) * 1) = (jc x i).map Bv) ∧ (bk.size = bc * 1) ∧ (((jc x i).length) ≤ bc) ∧ (bc ≤ maxLen) ∧ (pk.toList.take (i * 1) = (List.range i).map (fun j => oU (x.img.jG j))) ∧ (pk.size = pc * 1) ∧ (i ≤ pc) ∧ (pc ≤ maxLen) ∧ Mm [] w0 w [(pg, .cells pk 3 (0, 0)), (bg, .cells bk 5 (0, 0)), ((z10 + 2), .cells #[] 3 (0, 0)), (gl, .cells curl 46 (0, 0)), (gt, .cells iK 5 (0, 0)), dn z1 x] ∧ Fr 159 a (CS z1 x gl bW bg i bc pg pc z10))) ?_ ?_ ?_
 ·exact ⟨z10, 0, #[], (z10 + 1), 0, #[], rfl, rfl, Nat.le_refl _, by unfold maxLen; omega, rfl, rfl, Nat.le_refl _, by unfold maxLen; omega, (HM.pick [1, 2, 0, 3, 4, 5] [((z10 + 1), .cells #[] 3 (0, 0)), (z10, .cells #[] 5 (0, 0)), ((z10 + 2), .cells #[] 3 (0, 0)), (gl, .cells curl 46 (0, 0)), (gt, .cells iK 5 (0, 0)), dn z1 x] rfl (by decide)), HF.sub ((fD z1 x gl bW) ++ [(9, aA x.img.at0), (10, aH z10 ((jc x 0).length) 0), (11, aH (z10 + 1) 0 0), (12, aH (z10 + 2) 0 0), (45, .slice x.A x.ss.length x.c), (46, aA x.ss.length), (47, ay 0)]) (by kernel_rfl)⟩
 ·intro i a w KX hi hI KR
  obtain ⟨bg, bc, bk, pg, pc, pk, yH, EN, CU, G6, ptk, psz, pnc, pcm, HM, HF⟩ := hI
  have hpl := Hw x i; have hsl := JM x i
  refine aY ?_
  refine wp_pure HF HM rfl 1 [] ((CS z1 x gl bW bg i bc pg pc z10) ++ [(48, .bool (decide (((i : Nat) : Int) < ((x.ss.length : Nat) : Int))))]) (by kernel_rfl) fun a HF => ?_
  refine aI ?_
  refine wp_seq ?_
  rw [show decide (((i : Nat) : Int) < ((x.ss.length : Nat) : Int)) = true from fC (by omega)] at HF
  refine bF HF rfl ?_
  refine wp_skip ?_
  repeat first | refine aQ ?_ | refine aU ?_
  refine wp_seq ?_
  refine wp_block ?_
  refine aY ?_
  obtain ⟨m1, hm1⟩ : ∃ m, x.ss[i]? = some m := ⟨_, List.getElem?_eq_getElem (by omega)⟩
  have NT := ok.seg m1 (List.mem_of_getElem? hm1)
  have hmd_m1 := NT.data
  have Gv := h.seg m1 (List.mem_of_getElem? hm1)
  have hmt_m1 := Gv.ty; have hmf_m1 := Gv.flags
  refine eY HF (by kernel_rfl) (.pointer (Option.map (fun q : Addr => q.add (i * 7)) x.A)) (by kernel_rfl) (ig Tryd.underlying23 (by kernel_rfl) rfl i rfl rfl (by omega) (nC (lC (f := jE.cells) (k := 7) (fun _ => rfl) (HM.row h.cO) i hm1) (Nat.zero_lt_succ _))) fun a HF => ?_
  refine eY HF (by kernel_rfl) (.agg #[aX m1.ty, aX m1.flags, aJ m1.bI, aJ m1.bJ, aJ m1.bM, aJ m1.align, .slice m1.A m1.data.length m1.c]) (by kernel_rfl) (lT rfl rfl (lC (f := jE.cells) (k := 7) (fun _ => rfl) (HM.row h.cO) i hm1) (Nat.zero_lt_succ _) Tryd.underlying57 rfl (by kernel_rfl)) fun a HF => ?_
  obtain ⟨z13, Gm⟩ : ∃ z, w.heap.size = z := ⟨_, rfl⟩
  refine aO HF HM Gm 2 [[6]] ((fD z1 x gl bW) ++ [(9, aA x.img.at0), (10, aH bg ((jc x i).length) bc), (11, aH pg i pc), (12, aH (z10 + 2) 0 0), (14, aC z13), (45, .slice x.A x.ss.length x.c), (46, aA x.ss.length), (47, aA i)]) [uH z13 m1, (pg, .cells pk 3 (0, 0)), (bg, .cells bk 5 (0, 0)), ((z10 + 2), .cells #[] 3 (0, 0)), (gl, .cells curl 46 (0, 0)), (gt, .cells iK 5 (0, 0)), dn z1 x] (by kernel_rfl) fun a w HF HM => ?_
  clear Gm
  refine dM ?_
  refine wp_pure HF HM rfl 5 [] ((yg z1 x gl bW bg i bc z10 z13) ++ [(51, aH pg i pc), (55, ay (IntKind.i64.wrap (((x.img.at0 : Nat) : Int) + ((((jc x i).length) : Nat) : Int))))]) (by kernel_rfl) fun a HF => ?_
  rw [show IntKind.i64.wrap (((x.img.at0 : Nat) : Int) + ((((jc x i).length) : Nat) : Int)) = (((x.img.jG i) : Nat) : Int) from (IntWalk.i64_in _ (by omega)).trans (by omega)] at HF
  obtain ⟨rY, AQ⟩ : ∃ z, w.heap.size = z := ⟨_, rfl⟩
  refine aO HF HM AQ 1 [] ((yg z1 x gl bW bg i bc z10 z13) ++ [(51, aH pg i pc), (56, aH rY 1 1)]) [(rY, .cells #[aA (x.img.jG i)] 3 (0, 0)), uH z13 m1, (pg, .cells pk 3 (0, 0)), (bg, .cells bk 5 (0, 0)), ((z10 + 2), .cells #[] 3 (0, 0)), (gl, .cells curl 46 (0, 0)), (gt, .cells iK 5 (0, 0)), dn z1 x] (by kernel_rfl) fun a w HF HM => ?_
  clear AQ
  refine iG HF HM rfl _ _ 66 66 rfl rfl 3 (z := ay 0) (size := 1) (bytes := 8) Tryd.underlying66 (by kernel_rfl) rfl (by decide) 2 pg i pc pk rfl rfl pnc pcm psz ((List.range i).map (fun j => oU (x.img.jG j))) ptk (aH rY 1 1) 1 [aA (x.img.jG i)] rfl (mY Tryd.underlying66 rfl (by decide) (HM.rowAt (i := 0) rfl) (o9 rfl)) (by unfold maxLen; omega) (by omega) ?_
  intro a w3 g2 cap2 qo bU Dc hsz2 uP hcm2 HF2; clear HF HM
  replace Dc : qo.toList.take ((i + 1) * 1) = (List.range (i + 1)).map (fun j => oU (x.img.jG j)) := Dc.trans (Dx i)
  have HM : Mm [] w0 w3 [(rY, .cells #[aA (x.img.jG i)] 3 (0, 0)), uH z13 m1, (g2, .cells qo 3 (0, 0)), (bg, .cells bk 5 (0, 0)), ((z10 + 2), .cells #[] 3 (0, 0)), (gl, .cells curl 46 (0, 0)), (gt, .cells iK 5 (0, 0)), dn z1 x] := bU
  have HF := HF2.sub ((yg z1 x gl bW bg i bc z10 z13) ++ [(57, aH g2 (i + 1) cap2)]) (by kernel_rfl); clear bU HF2
  refine wp_pure HF HM rfl 1 [] ((fD z1 x gl bW) ++ [(9, aA x.img.at0), (10, aH bg ((jc x i).length) bc), (11, aH g2 (i + 1) cap2), (12, aH (z10 + 2) 0 0), (14, aC z13), (45, .slice x.A x.ss.length x.c), (46, aA x.ss.length), (47, aA i)]) (by kernel_rfl) fun a HF => ?_
  refine aI ?_
  refine wp_region_lit ?_
  refine wp_pure HF HM rfl 3 [[6]] ((fD z1 x gl bW) ++ [(9, aA x.img.at0), (11, aH g2 (i + 1) cap2), (12, aH (z10 + 2) 0 0), (45, .slice x.A x.ss.length x.c), (46, aA x.ss.length), (47, aA i), (58, aH bg ((jc x i).length) bc), (60, .slice m1.A m1.data.length m1.c)]) (by kernel_rfl) fun a HF => ?_
  refine iG HF HM rfl _ _ 33 33 rfl rfl 5 (z := aK 0) (size := 1) (bytes := 1) Tryd.underlying33 (by kernel_rfl) rfl (by decide) 3 bg ((jc x i).length) bc bk rfl rfl CU G6 EN ((jc x i).map Bv) yH (.slice m1.A m1.data.length m1.c) m1.data.length (m1.data.map Bv) rfl (mY Tryd.underlying33 (by simp) (by decide) (HM.row Gv.row) (qL _)) (by unfold maxLen; omega) (by omega) ?_
  intro a w4 g3 cap3 qI bU x9 hsz3 Ed Gx HF2; clear HF HM
  replace x9 : qI.toList.take ((((jc x i).length) + m1.data.length) * 1) = (jc x (i + 1)).map Bv := x9.trans (by rw [CG hm1, List.map_append])
  have HM : Mm [] w0 w4 [(rY, .cells #[aA (x.img.jG i)] 3 (0, 0)), uH z13 m1, (g2, .cells qo 3 (0, 0)), (g3, .cells qI 5 (0, 0)), ((z10 + 2), .cells #[] 3 (0, 0)), (gl, .cells curl 46 (0, 0)), (gt, .cells iK 5 (0, 0)), dn z1 x] := bU
  have HF := HF2.sub ((fD z1 x gl bW) ++ [(9, aA x.img.at0), (11, aH g2 (i + 1) cap2), (12, aH (z10 + 2) 0 0), (45, .slice x.A x.ss.length x.c), (46, aA x.ss.length), (47, aA i), (61, aH g3 (((jc x i).length) + m1.data.length) cap3)]) (by kernel_rfl); clear bU HF2
  refine wp_pure HF HM rfl 1 [] ((CQ z1 x gl bW g3 i m1 cap3 g2 cap2 z10) ++ [(47, aA i)]) (by kernel_rfl) fun a HF => ?_
  refine wpList_nil ?_
  repeat first | refine aQ ?_ | refine aU ?_
  refine wp_region_lit ?_
  refine wp_pure HF HM rfl 1 [] ((CQ z1 x gl bW g3 i m1 cap3 g2 cap2 z10) ++ [(62, ay (IntKind.i64.wrap (((i : Nat) : Int) + 1)))]) (by kernel_rfl) fun a HF => ?_
  rw [show IntKind.i64.wrap (((i : Nat) : Int) + 1) = (((i + 1) : Nat) : Int) from (IntWalk.i64_in _ (by omega)).trans (by omega)] at HF
  refine wp_pure HF HM rfl 1 [] ((fD z1 x gl bW) ++ [(9, aA x.img.at0), (10, aH g3 (((jc x i).length) + m1.data.length) cap3), (11, aH g2 (i + 1) cap2), (12, aH (z10 + 2) 0 0), (45, .slice x.A x.ss.length x.c), (46, aA x.ss.length), (47, aA (i + 1))]) (by kernel_rfl) fun a HF => ?_
  refine wpList_nil ?_
  repeat first | refine aQ ?_ | refine aU ?_
  rw [show (((jc x i).length) + m1.data.length) = ((jc x (i + 1)).length) from by rw [CG hm1, List.length_append]] at HF x9 Ed
  exact KR _ _ (⟨g3, cap3, qI, g2, cap2, qo, x9, hsz3, Ed, Gx, Dc, hsz2, uP, hcm2, (HM.pick [2, 3, 4, 5, 6, 7] [(g2, .cells qo 3 (0, 0)), (g3, .cells qI 5 (0, 0)), ((z10 + 2), .cells #[] 3 (0, 0)), (gl, .cells curl 46 (0, 0)), (gt, .cells iK 5 (0, 0)), dn z1 x] rfl (by decide)), HF.sub ((fD z1 x gl bW) ++ [(9, aA x.img.at0), (10, aH g3 ((jc x (i + 1)).length) cap3), (11, aH g2 (i + 1) cap2), (12, aH (z10 + 2) 0 0), (45, .slice x.A x.ss.length x.c), (46, aA x.ss.length), (47, aA (i + 1))]) (by kernel_rfl)⟩)
 ·intro a w KX hI
  obtain ⟨bg, bc, bk, pg, pc, pk, yH, EN, CU, G6, ptk, psz, pnc, pcm, HM, HF⟩ := hI
  refine aY ?_
  refine wp_pure HF HM rfl 1 [] ((fD z1 x gl bW) ++ [(9, aA x.img.at0), (10, aH bg ((jc x x.ss.length).length) bc), (11, aH pg x.ss.length pc), (12, aH (z10 + 2) 0 0), (45, .slice x.A x.ss.length x.c), (46, aA x.ss.length), (47, aA x.ss.length), (48, .bool (decide (((x.ss.length : Nat) : Int) < ((x.ss.length : Nat) : Int))))]) (by kernel_rfl) fun a HF => ?_
  refine aI ?_
  refine wp_seq ?_
  rw [show decide (((x.ss.length : Nat) : Int) < ((x.ss.length : Nat) : Int)) = false from dI (by omega)] at HF
  refine aZ HF rfl ?_
  refine wp_exit ?_
  repeat (first | refine iW ?_ | refine kE rfl ?_)
  refine kL ?_
  repeat first | refine aQ ?_ | refine aU ?_
  refine aY ?_
  obtain ⟨z22, hz22⟩ : ∃ z, w.heap.size = z := ⟨_, rfl⟩
  refine aO HF HM hz22 2 [] ((fD z1 x gl bW) ++ [(9, aA x.img.at0), (10, aH bg ((jc x x.ss.length).length) bc), (11, aH pg x.ss.length pc), (12, aH (z10 + 2) 0 0), (15, aH z22 0 0)]) [(z22, .cells #[] 9 (0, 0)), (pg, .cells pk 3 (0, 0)), (bg, .cells bk 5 (0, 0)), ((z10 + 2), .cells #[] 3 (0, 0)), (gl, .cells curl 46 (0, 0)), (gt, .cells iK 5 (0, 0)), dn z1 x] (by kernel_rfl) fun a w HF HM => ?_
  clear hz22
  refine aI ?_
  refine wp_seq ?_
  refine aY ?_
  refine wp_pure HF HM rfl 3 [] ((fD z1 x gl bW) ++ [(9, aA x.img.at0), (10, aH bg ((jc x x.ss.length).length) bc), (11, aH pg x.ss.length pc), (12, aH (z10 + 2) 0 0), (15, aH z22 0 0), (64, aH gl (x.ps.length + 2) bW), (65, aA (x.ps.length + 2)), (66, ay 0)]) (by kernel_rfl) fun a HF => ?_
  refine aI ?_
  refine wp_block ?_
  refine oM ((x.ps.length + 2)) (fun i a w => (∃ bg : Nat, ∃ bc : Nat, ∃ bk : Array Value, ∃ qg : Nat, ∃ qc : Nat, ∃ qk : Array Value, ∃ ng : Nat, ∃ nc : Nat, ∃ nk : Array Value, (bk.toList.take (((fZ x gt bY i).length) * 1) = (fZ x gt bY i).map Bv) ∧ (bk.size = bc * 1) ∧ (((fZ x gt bY i).length) ≤ bc) ∧ (bc ≤ maxLen) ∧ (qk.toList.take (i * 1) = (List.range i).map (fun j => oU (x.img.iO j))) ∧ (qk.size = qc * 1) ∧ (i ≤ qc) ∧ (qc ≤ maxLen) ∧ (nk.toList.take (i * 1) = ((allM x gt bY).take i).map (fun p => uO p.name)) ∧ (nk.size = nc * 1) ∧ (i ≤ nc) ∧ (nc ≤ maxLen) ∧ Mm [] w0 w [(ng, .cells nk 9 (0, 0)), (qg, .cells qk 3 (0, 0)), (bg, .cells bk 5 (0, 0)), (pg, .cells pk 3 (0, 0)), (gl, .cells curl 46 (0, 0)), (gt, .cells iK 5 (0, 0)), dn z1 x] ∧ Fr 159 a [(1, aC z1), (5, aA (fF x.wide)), (8, aH gl (x.ps.length + 2) bW), (9, aA x.img.at0), (10, aH bg ((fZ x gt bY i).length) bc), (11, aH pg x.ss.length pc), (12, aH qg i qc), (15, aH ng i nc), (64, aH gl (x.ps.length + 2) bW), (65, aA (x.ps.length + 2)), (66, aA i)])) ?_ ?_ ?_
  rw [Jc, ← JF x gt bY] at HF yH CU
  ·exact ⟨bg, bc, bk, (z10 + 2), 0, #[], z22, 0, #[], yH, EN, CU, G6, rfl, rfl, Nat.le_refl _, by unfold maxLen; omega, rfl, rfl, Nat.le_refl _, by unfold maxLen; omega, (HM.pick [0, 3, 2, 1, 4, 5, 6] [(z22, .cells #[] 9 (0, 0)), ((z10 + 2), .cells #[] 3 (0, 0)), (bg, .cells bk 5 (0, 0)), (pg, .cells pk 3 (0, 0)), (gl, .cells curl 46 (0, 0)), (gt, .cells iK 5 (0, 0)), dn z1 x] rfl (by decide)), HF.sub ((fD z1 x gl bW) ++ [(9, aA x.img.at0), (10, aH bg ((fZ x gt bY 0).length) bc), (11, aH pg x.ss.length pc), (12, aH (z10 + 2) 0 0), (15, aH z22 0 0), (64, aH gl (x.ps.length + 2) bW), (65, aA (x.ps.length + 2)), (66, ay 0)]) (by kernel_rfl)⟩
  ·intro i a w KX hi hI KR
   obtain ⟨bg, bc, bk, qg, qc, qk, ng, nc, nk, yH, EN, CU, G6, Dy, FY, Et, FZ, ntk, nsz, nnc, ncm, HM, HF⟩ := hI
   have hsl := Dl x gt bY i oD; have hsl2 := Dl x gt bY (i + 1) oD; have hat9 := oD.G7
   refine aY ?_
   refine wp_pure HF HM rfl 1 [] ((lK z1 x gl bW bg gt bY i bc pg pc) ++ [(12, aH qg i qc), (15, aH ng i nc), (64, aH gl (x.ps.length + 2) bW), (65, aA (x.ps.length + 2)), (66, aA i), (67, .bool (decide (((i : Nat) : Int) < (((x.ps.length + 2) : Nat) : Int))))]) (by kernel_rfl) fun a HF => ?_
   refine aI ?_
   refine wp_seq ?_
   rw [show decide (((i : Nat) : Int) < (((x.ps.length + 2) : Nat) : Int)) = true from fC (by omega)] at HF
   refine bF HF rfl ?_
   refine wp_skip ?_
   repeat first | refine aQ ?_ | refine aU ?_
   refine wp_seq ?_
   refine wp_block ?_
   refine aY ?_
   refine wp_pure HF HM rfl 1 [] ((lK z1 x gl bW bg gt bY i bc pg pc) ++ [(12, aH qg i qc), (15, aH ng i nc), (64, aH gl (x.ps.length + 2) bW), (65, aA (x.ps.length + 2)), (66, aA i), (68, aA i)]) (by kernel_rfl) fun a HF => ?_
   obtain ⟨m4, hm4⟩ : ∃ m, (allM x gt bY)[i]? = some m := ⟨_, List.getElem?_eq_getElem (by omega)⟩
   have KF := List.mem_of_getElem? hm4
   have AX := KQ h ok m4 KF
   have hmd_m4 := AX.data; have hmt_m4 := AX.ty; have hmf_m4 := AX.flags; have hml_m4 := AX.link; have hmi_m4 := AX.info
   refine eY HF (by kernel_rfl) (.pointer (Option.map (fun q : Addr => q.add (i * 10)) (some ⟨gl, 0, none⟩))) (by kernel_rfl) (ig Tryd.underlying24 (by kernel_rfl) rfl i rfl rfl (by omega) (Option.some_ne_none _)) fun a HF => ?_
   refine eY HF (by kernel_rfl) (.agg #[.string (⟨m4.name.toArray⟩), aX m4.ty, aX m4.flags, aJ m4.addr, aX m4.link, aX m4.info, aJ m4.align, aJ m4.ent, aJ m4.size, .slice m4.A m4.data.length m4.c]) (by kernel_rfl) (lT rfl rfl (lC (f := fP.cells) (k := 10) (fun _ => rfl) (HM.lI (i := 4) rfl hol.tk) i hm4) (Nat.zero_lt_succ _) Tryd.underlying46 rfl (by kernel_rfl)) fun a HF => ?_
   obtain ⟨z26, hz26⟩ : ∃ z, w.heap.size = z := ⟨_, rfl⟩
   refine aO HF HM hz26 3 [[7]] ((lK z1 x gl bW bg gt bY i bc pg pc) ++ [(12, aH qg i qc), (15, aH ng i nc), (16, aA i), (17, aC z26), (64, aH gl (x.ps.length + 2) bW), (65, aA (x.ps.length + 2)), (66, aA i)]) [(z26, .cells #[.string (⟨m4.name.toArray⟩), aX m4.ty, aX m4.flags, aJ m4.addr, aX m4.link, aX m4.info, aJ m4.align, aJ m4.ent, aJ m4.size, .slice m4.A m4.data.length m4.c] 46 (0, 0)), (ng, .cells nk 9 (0, 0)), (qg, .cells qk 3 (0, 0)), (bg, .cells bk 5 (0, 0)), (pg, .cells pk 3 (0, 0)), (gl, .cells curl 46 (0, 0)), (gt, .cells iK 5 (0, 0)), dn z1 x] (by kernel_rfl) fun a w HF HM => ?_
   clear hz26
   refine dM ?_
   refine wp_pure HF HM rfl 5 [] ((lK z1 x gl bW bg gt bY i bc pg pc) ++ [(15, aH ng i nc), (16, aA i), (17, aC z26), (64, aH gl (x.ps.length + 2) bW), (65, aA (x.ps.length + 2)), (66, aA i), (71, aH qg i qc), (75, ay (IntKind.i64.wrap (((x.img.at0 : Nat) : Int) + ((((fZ x gt bY i).length) : Nat) : Int))))]) (by kernel_rfl) fun a HF => ?_
   rw [show IntKind.i64.wrap (((x.img.at0 : Nat) : Int) + ((((fZ x gt bY i).length) : Nat) : Int)) = (((x.img.at0 + (fZ x gt bY i).length) : Nat) : Int) from (IntWalk.i64_in _ (by omega)).trans (by omega)] at HF
   obtain ⟨z28, Gi⟩ : ∃ z, w.heap.size = z := ⟨_, rfl⟩
   refine aO HF HM Gi 1 [] ((lK z1 x gl bW bg gt bY i bc pg pc) ++ [(15, aH ng i nc), (16, aA i), (17, aC z26), (64, aH gl (x.ps.length + 2) bW), (65, aA (x.ps.length + 2)), (66, aA i), (71, aH qg i qc), (76, aH z28 1 1)]) [kX z28 x gt bY i, (z26, .cells #[.string (⟨m4.name.toArray⟩), aX m4.ty, aX m4.flags, aJ m4.addr, aX m4.link, aX m4.info, aJ m4.align, aJ m4.ent, aJ m4.size, .slice m4.A m4.data.length m4.c] 46 (0, 0)), (ng, .cells nk 9 (0, 0)), (qg, .cells qk 3 (0, 0)), (bg, .cells bk 5 (0, 0)), (pg, .cells pk 3 (0, 0)), (gl, .cells curl 46 (0, 0)), (gt, .cells iK 5 (0, 0)), dn z1 x] (by kernel_rfl) fun a w HF HM => ?_
   clear Gi
   refine iG HF HM rfl _ _ 66 66 rfl rfl 3 (z := ay 0) (size := 1) (bytes := 8) Tryd.underlying66 (by kernel_rfl) rfl (by decide) 3 qg i qc qk rfl rfl Et FZ FY ((List.range i).map (fun j => oU (x.img.iO j))) Dy (aH z28 1 1) 1 [aA (x.img.at0 + (fZ x gt bY i).length)] rfl (mY Tryd.underlying66 rfl (by decide) (HM.rowAt (i := 0) rfl) (o9 rfl)) (by unfold maxLen; omega) (by omega) ?_
   intro a w5 g5 cap5 zO bU zN hsz5 Ec Ju HF2; clear HF HM
   have HM : Mm [] w0 w5 [kX z28 x gt bY i, (z26, .cells #[.string (⟨m4.name.toArray⟩), aX m4.ty, aX m4.flags, aJ m4.addr, aX m4.link, aX m4.info, aJ m4.align, aJ m4.ent, aJ m4.size, .slice m4.A m4.data.length m4.c] 46 (0, 0)), (ng, .cells nk 9 (0, 0)), (g5, .cells zO 3 (0, 0)), (bg, .cells bk 5 (0, 0)), (pg, .cells pk 3 (0, 0)), (gl, .cells curl 46 (0, 0)), (gt, .cells iK 5 (0, 0)), dn z1 x] := bU
   have HF := HF2.sub ((lK z1 x gl bW bg gt bY i bc pg pc) ++ [(15, aH ng i nc), (16, aA i), (17, aC z26), (64, aH gl (x.ps.length + 2) bW), (65, aA (x.ps.length + 2)), (66, aA i), (77, aH g5 (i + 1) cap5)]) (by kernel_rfl); clear bU HF2
   refine wp_pure HF HM rfl 1 [] ((lK z1 x gl bW bg gt bY i bc pg pc) ++ [(12, aH g5 (i + 1) cap5), (15, aH ng i nc), (16, aA i), (17, aC z26), (64, aH gl (x.ps.length + 2) bW), (65, aA (x.ps.length + 2)), (66, aA i)]) (by kernel_rfl) fun a HF => ?_
   refine aI ?_
   refine wp_seq ?_
   refine aY ?_
   refine wp_pure HF HM rfl 2 [] ((ql z1 x gl bW bg gt bY i bc pg pc g5 cap5 ng nc z26) ++ [(79, .bool (((i : Nat) : Int) == 0))]) (by kernel_rfl) fun a HF => ?_
   refine aI ?_
   refine yI (fun a w => (∃ rg : Nat, ∃ rc : Nat, ∃ rk : Array Value, (rk.toList.take ((i + 1) * 1) = (List.range (i + 1)).map (fun j => oU (x.img.iO j))) ∧ (rk.size = rc * 1) ∧ ((i + 1) ≤ rc) ∧ (rc ≤ maxLen) ∧ Mm [] w0 w [(rg, .cells rk 3 (0, 0)), kX z28 x gt bY i, (z26, .cells #[.string (⟨m4.name.toArray⟩), aX m4.ty, aX m4.flags, aJ m4.addr, aX m4.link, aX m4.info, aJ m4.align, aJ m4.ent, aJ m4.size, .slice m4.A m4.data.length m4.c] 46 (0, 0)), (ng, .cells nk 9 (0, 0)), (bg, .cells bk 5 (0, 0)), (pg, .cells pk 3 (0, 0)), (gl, .cells curl 46 (0, 0)), (gt, .cells iK 5 (0, 0)), dn z1 x] ∧ Fr 159 a ((lK z1 x gl bW bg gt bY i bc pg pc) ++ [(12, aH rg (i + 1) rc), (15, aH ng i nc), (17, aC z26), (64, aH gl (x.ps.length + 2) bW), (65, aA (x.ps.length + 2)), (66, aA i)]))) ?_ ?_
   ·by_cases hc6 : ((i : Nat) : Int) = 0
    ·rw [show (((i : Nat) : Int) == 0) = true from oz (hc6)] at HF
     refine bF HF rfl ?_
     refine wp_region_lit ?_
     refine wp_pure HF HM rfl 1 [] ((ql z1 x gl bW bg gt bY i bc pg pc g5 cap5 ng nc z26) ++ [(80, aH g5 (i + 1) cap5)]) (by kernel_rfl) fun a HF => ?_
     refine eY HF (by kernel_rfl) (aC g5) (by kernel_rfl) (ig Tryd.underlying66 (k := 1) (by kernel_rfl) rfl 0 rfl rfl (by omega) (Option.some_ne_none _)) ?_
     clear HF; intro a HF; replace HF := HF.sub ((ql z1 x gl bW bg gt bY i bc pg pc g5 cap5 ng nc z26) ++ [(81, aC g5)]) (by kernel_rfl)
     have hi0 : i = 0 := by omega
     refine qy HF HM rfl 3 _ _ rfl rfl 3 g5 0 zO 3 rfl rfl (ay 0) rfl rfl rfl (by rw [hsz5]; have hq := Ec; omega) (by kernel_rfl) ?_
     intro a w6 Ei bU tX HF2; clear HF HM
     have KU : Ei.toList.take ((i + 1) * 1) = (((List.range i).map (fun j => oU (x.img.iO j)) ++ [aA (x.img.at0 + (fZ x gt bY i).length)]) : List Value).set 0 (ay 0) := by rw [tX, List.take_set, zN]
     have szs7 : Ei.size = cap5 * 1 := by rw [← Array.length_toList, tX, List.length_set, Array.length_toList, hsz5]
     have HM : Mm [] w0 w6 [kX z28 x gt bY i, (z26, .cells #[.string (⟨m4.name.toArray⟩), aX m4.ty, aX m4.flags, aJ m4.addr, aX m4.link, aX m4.info, aJ m4.align, aJ m4.ent, aJ m4.size, .slice m4.A m4.data.length m4.c] 46 (0, 0)), (ng, .cells nk 9 (0, 0)), (g5, .cells Ei 3 (0, 0)), (bg, .cells bk 5 (0, 0)), (pg, .cells pk 3 (0, 0)), (gl, .cells curl 46 (0, 0)), (gt, .cells iK 5 (0, 0)), dn z1 x] := bU
     have HF := HF2.sub (ql z1 x gl bW bg gt bY i bc pg pc g5 cap5 ng nc z26) (by kernel_rfl); clear bU HF2 tX
     replace KU : Ei.toList.take ((i + 1) * 1) = (List.range (i + 1)).map (fun j => oU (x.img.iO j)) := KU.trans (by subst hi0; rfl)
     refine wpList_nil ?_
     repeat first | refine aQ ?_ | refine aU ?_
     exact ⟨g5, cap5, Ei, KU, szs7, Ec, Ju, (HM.pick [3, 0, 1, 2, 4, 5, 6, 7, 8] [(g5, .cells Ei 3 (0, 0)), kX z28 x gt bY i, (z26, .cells #[.string (⟨m4.name.toArray⟩), aX m4.ty, aX m4.flags, aJ m4.addr, aX m4.link, aX m4.info, aJ m4.align, aJ m4.ent, aJ m4.size, .slice m4.A m4.data.length m4.c] 46 (0, 0)), (ng, .cells nk 9 (0, 0)), (bg, .cells bk 5 (0, 0)), (pg, .cells pk 3 (0, 0)), (gl, .cells curl 46 (0, 0)), (gt, .cells iK 5 (0, 0)), dn z1 x] rfl (by decide)), HF.sub (ql z1 x gl bW bg gt bY i bc pg pc g5 cap5 ng nc z26) (by kernel_rfl)⟩
    rw [show (((i : Nat) : Int) == 0) = false from oO (hc6)] at HF
    refine aZ HF rfl ?_
    refine wp_skip ?_
    repeat first | refine aQ ?_ | refine aU ?_
    replace zN : zO.toList.take ((i + 1) * 1) = (List.range (i + 1)).map (fun j => oU (x.img.iO j)) := zN.trans (by rw [← HY x gt bY i (by omega)]; exact Dx i)
    exact ⟨g5, cap5, zO, zN, hsz5, Ec, Ju, (HM.pick [3, 0, 1, 2, 4, 5, 6, 7, 8] [(g5, .cells zO 3 (0, 0)), kX z28 x gt bY i, (z26, .cells #[.string (⟨m4.name.toArray⟩), aX m4.ty, aX m4.flags, aJ m4.addr, aX m4.link, aX m4.info, aJ m4.align, aJ m4.ent, aJ m4.size, .slice m4.A m4.data.length m4.c] 46 (0, 0)), (ng, .cells nk 9 (0, 0)), (bg, .cells bk 5 (0, 0)), (pg, .cells pk 3 (0, 0)), (gl, .cells curl 46 (0, 0)), (gt, .cells iK 5 (0, 0)), dn z1 x] rfl (by decide)), HF.sub (ql z1 x gl bW bg gt bY i bc pg pc g5 cap5 ng nc z26) (by kernel_rfl)⟩
   rintro a w ⟨rg, rc, rk, rtk, rsz, rnc, rcm, HM, HF⟩
   repeat first | refine aQ ?_ | refine aU ?_
   refine wp_seq ?_
   refine aY ?_
   refine wp_pure HF HM rfl 3 [[6]] ((lK z1 x gl bW bg gt bY i bc pg pc) ++ [(12, aH rg (i + 1) rc), (15, aH ng i nc), (17, aC z26), (64, aH gl (x.ps.length + 2) bW), (65, aA (x.ps.length + 2)), (66, aA i), (84, .bool (((m4.ty : Nat) : Int) != 8))]) (by kernel_rfl) fun a HF => ?_
   refine aI ?_
   refine yI (fun a w => (∃ cg : Nat, ∃ cc : Nat, ∃ ck : Array Value, (ck.toList.take (((fZ x gt bY (i + 1)).length) * 1) = (fZ x gt bY (i + 1)).map Bv) ∧ (ck.size = cc * 1) ∧ (((fZ x gt bY (i + 1)).length) ≤ cc) ∧ (cc ≤ maxLen) ∧ Mm [] w0 w [(cg, .cells ck 5 (0, 0)), (rg, .cells rk 3 (0, 0)), kX z28 x gt bY i, (z26, .cells #[.string (⟨m4.name.toArray⟩), aX m4.ty, aX m4.flags, aJ m4.addr, aX m4.link, aX m4.info, aJ m4.align, aJ m4.ent, aJ m4.size, .slice m4.A m4.data.length m4.c] 46 (0, 0)), (ng, .cells nk 9 (0, 0)), (pg, .cells pk 3 (0, 0)), (gl, .cells curl 46 (0, 0)), (gt, .cells iK 5 (0, 0)), dn z1 x] ∧ Fr 159 a ((uG z1 x gl bW cg gt bY i cc pg pc rg rc) ++ [(15, aH ng i nc), (17, aC z26), (64, aH gl (x.ps.length + 2) bW), (65, aA (x.ps.length + 2)), (66, aA i)]))) ?_ ?_
   ·by_cases hc8 : ((m4.ty : Nat) : Int) ≠ 8
    ·rw [show (((m4.ty : Nat) : Int) != 8) = true from uI (hc8)] at HF
     refine bF HF rfl ?_
     refine wp_region_lit ?_
     refine wp_pure HF HM rfl 3 [[6]] ((fD z1 x gl bW) ++ [(9, aA x.img.at0), (11, aH pg x.ss.length pc), (12, aH rg (i + 1) rc), (15, aH ng i nc), (17, aC z26), (64, aH gl (x.ps.length + 2) bW), (65, aA (x.ps.length + 2)), (66, aA i), (85, aH bg ((fZ x gt bY i).length) bc), (87, .slice m4.A m4.data.length m4.c)]) (by kernel_rfl) fun a HF => ?_
     refine iG HF HM rfl _ _ 33 33 rfl rfl 5 (z := aK 0) (size := 1) (bytes := 1) Tryd.underlying33 (by kernel_rfl) rfl (by decide) 4 bg ((fZ x gt bY i).length) bc bk rfl rfl CU G6 EN ((fZ x gt bY i).map Bv) yH (.slice m4.A m4.data.length m4.c) m4.data.length (m4.data.map Bv) rfl (mY Tryd.underlying33 (by simp) (by decide) (Ns h HM (k := 7) rfl hot.tk m4 KF) (qL _)) (by unfold maxLen; omega) (by omega) ?_
     intro a w7 g9 JE JC bU Jq hsz9 hnc9 hcm9 HF2; clear HF HM
     have HM : Mm [] w0 w7 [(rg, .cells rk 3 (0, 0)), kX z28 x gt bY i, (z26, .cells #[.string (⟨m4.name.toArray⟩), aX m4.ty, aX m4.flags, aJ m4.addr, aX m4.link, aX m4.info, aJ m4.align, aJ m4.ent, aJ m4.size, .slice m4.A m4.data.length m4.c] 46 (0, 0)), (ng, .cells nk 9 (0, 0)), (g9, .cells JC 5 (0, 0)), (pg, .cells pk 3 (0, 0)), (gl, .cells curl 46 (0, 0)), (gt, .cells iK 5 (0, 0)), dn z1 x] := bU
     have HF := HF2.sub ((fD z1 x gl bW) ++ [(9, aA x.img.at0), (11, aH pg x.ss.length pc), (12, aH rg (i + 1) rc), (15, aH ng i nc), (17, aC z26), (64, aH gl (x.ps.length + 2) bW), (65, aA (x.ps.length + 2)), (66, aA i), (88, aH g9 (((fZ x gt bY i).length) + m4.data.length) JE)]) (by kernel_rfl); clear bU HF2
     refine wp_pure HF HM rfl 1 [] ((fD z1 x gl bW) ++ [(9, aA x.img.at0), (10, aH g9 (((fZ x gt bY i).length) + m4.data.length) JE), (11, aH pg x.ss.length pc), (12, aH rg (i + 1) rc), (15, aH ng i nc), (17, aC z26), (64, aH gl (x.ps.length + 2) bW), (65, aA (x.ps.length + 2)), (66, aA i)]) (by kernel_rfl) fun a HF => ?_
     refine wpList_nil ?_
     repeat first | refine aQ ?_ | refine aU ?_
     replace Jq : JC.toList.take ((((fZ x gt bY i).length) + m4.data.length) * 1) = (fZ x gt bY (i + 1)).map Bv := Jq.trans (by rw [wo hm4, IU hc8, List.map_append])
     rw [show (((fZ x gt bY i).length) + m4.data.length) = ((fZ x gt bY (i + 1)).length) from by rw [wo hm4, IU hc8, List.length_append]] at HF Jq hnc9
     exact ⟨g9, JE, JC, Jq, hsz9, hnc9, hcm9, (HM.pick [4, 0, 1, 2, 3, 5, 6, 7, 8] [(g9, .cells JC 5 (0, 0)), (rg, .cells rk 3 (0, 0)), kX z28 x gt bY i, (z26, .cells #[.string (⟨m4.name.toArray⟩), aX m4.ty, aX m4.flags, aJ m4.addr, aX m4.link, aX m4.info, aJ m4.align, aJ m4.ent, aJ m4.size, .slice m4.A m4.data.length m4.c] 46 (0, 0)), (ng, .cells nk 9 (0, 0)), (pg, .cells pk 3 (0, 0)), (gl, .cells curl 46 (0, 0)), (gt, .cells iK 5 (0, 0)), dn z1 x] rfl (by decide)), HF.sub ((fD z1 x gl bW) ++ [(9, aA x.img.at0), (10, aH g9 ((fZ x gt bY (i + 1)).length) JE), (11, aH pg x.ss.length pc), (12, aH rg (i + 1) rc), (15, aH ng i nc), (17, aC z26), (64, aH gl (x.ps.length + 2) bW), (65, aA (x.ps.length + 2)), (66, aA i)]) (by kernel_rfl)⟩
    rw [show (((m4.ty : Nat) : Int) != 8) = false from B_ (hc8)] at HF
    refine aZ HF rfl ?_
    refine wp_skip ?_
    repeat first | refine aQ ?_ | refine aU ?_
    replace yH : bk.toList.take (((fZ x gt bY i).length) * 1) = (fZ x gt bY (i + 1)).map Bv := yH.trans (by rw [wo hm4, KJ hc8, List.append_nil])
    simp only [lK] at HF
    rw [show ((fZ x gt bY i).length) = ((fZ x gt bY (i + 1)).length) from by rw [wo hm4, KJ hc8, List.append_nil]] at HF yH CU
    exact ⟨bg, bc, bk, yH, EN, CU, G6, (HM.pick [4, 0, 1, 2, 3, 5, 6, 7, 8] [(bg, .cells bk 5 (0, 0)), (rg, .cells rk 3 (0, 0)), kX z28 x gt bY i, (z26, .cells #[.string (⟨m4.name.toArray⟩), aX m4.ty, aX m4.flags, aJ m4.addr, aX m4.link, aX m4.info, aJ m4.align, aJ m4.ent, aJ m4.size, .slice m4.A m4.data.length m4.c] 46 (0, 0)), (ng, .cells nk 9 (0, 0)), (pg, .cells pk 3 (0, 0)), (gl, .cells curl 46 (0, 0)), (gt, .cells iK 5 (0, 0)), dn z1 x] rfl (by decide)), HF.sub ((fD z1 x gl bW) ++ [(9, aA x.img.at0), (10, aH bg ((fZ x gt bY (i + 1)).length) bc), (11, aH pg x.ss.length pc), (12, aH rg (i + 1) rc), (15, aH ng i nc), (17, aC z26), (64, aH gl (x.ps.length + 2) bW), (65, aA (x.ps.length + 2)), (66, aA i)]) (by kernel_rfl)⟩
   rintro a w ⟨cg, cc, ck, ctk, csz, cnc, ccm, HM, HF⟩
   repeat first | refine aQ ?_ | refine aU ?_
   refine wp_region_lit ?_
   obtain ⟨z35, Gh⟩ : ∃ z, w.heap.size = z := ⟨_, rfl⟩
   refine aO HF HM Gh 4 [[5]] ((uG z1 x gl bW cg gt bY i cc pg pc rg rc) ++ [(64, aH gl (x.ps.length + 2) bW), (65, aA (x.ps.length + 2)), (66, aA i), (89, aH ng i nc), (92, aH z35 1 1)]) [(z35, .cells #[.string (⟨m4.name.toArray⟩)] 9 (0, 0)), (cg, .cells ck 5 (0, 0)), (rg, .cells rk 3 (0, 0)), kX z28 x gt bY i, (z26, .cells #[.string (⟨m4.name.toArray⟩), aX m4.ty, aX m4.flags, aJ m4.addr, aX m4.link, aX m4.info, aJ m4.align, aJ m4.ent, aJ m4.size, .slice m4.A m4.data.length m4.c] 46 (0, 0)), (ng, .cells nk 9 (0, 0)), (pg, .cells pk 3 (0, 0)), (gl, .cells curl 46 (0, 0)), (gt, .cells iK 5 (0, 0)), dn z1 x] (by kernel_rfl) fun a w HF HM => ?_
   clear Gh
   refine iG HF HM rfl _ _ 38 38 rfl rfl 9 (z := .string (⟨#[]⟩ : ByteArray)) (size := 1) (bytes := 16) Tryd.underlying38 (by kernel_rfl) rfl (by decide) 5 ng i nc nk rfl rfl nnc ncm nsz (((allM x gt bY).take i).map (fun p => uO p.name)) ntk (aH z35 1 1) 1 [.string (⟨m4.name.toArray⟩)] rfl (mY Tryd.underlying38 rfl (by decide) (HM.rowAt (i := 0) rfl) (o9 rfl)) (by unfold maxLen; omega) (by omega) ?_
   intro a w8 g10 xQ FC bU Jr hsz10 hnc10 hcm10 HF2; clear HF HM
   replace Jr : FC.toList.take ((i + 1) * 1) = ((allM x gt bY).take (i + 1)).map (fun p => uO p.name) := Jr.trans (by rw [wX hm4, List.map_append]; rfl)
   have HM : Mm [] w0 w8 [(z35, .cells #[.string (⟨m4.name.toArray⟩)] 9 (0, 0)), (cg, .cells ck 5 (0, 0)), (rg, .cells rk 3 (0, 0)), kX z28 x gt bY i, (z26, .cells #[.string (⟨m4.name.toArray⟩), aX m4.ty, aX m4.flags, aJ m4.addr, aX m4.link, aX m4.info, aJ m4.align, aJ m4.ent, aJ m4.size, .slice m4.A m4.data.length m4.c] 46 (0, 0)), (g10, .cells FC 9 (0, 0)), (pg, .cells pk 3 (0, 0)), (gl, .cells curl 46 (0, 0)), (gt, .cells iK 5 (0, 0)), dn z1 x] := bU
   have HF := HF2.sub ((uG z1 x gl bW cg gt bY i cc pg pc rg rc) ++ [(64, aH gl (x.ps.length + 2) bW), (65, aA (x.ps.length + 2)), (66, aA i), (93, aH g10 (i + 1) xQ)]) (by kernel_rfl); clear bU HF2
   refine wp_pure HF HM rfl 1 [] ((tZ z1 x gl bW cg gt bY i cc pg pc rg rc g10 xQ) ++ [(66, aA i)]) (by kernel_rfl) fun a HF => ?_
   refine wpList_nil ?_
   repeat first | refine aQ ?_ | refine aU ?_
   refine wp_region_lit ?_
   refine wp_pure HF HM rfl 1 [] ((tZ z1 x gl bW cg gt bY i cc pg pc rg rc g10 xQ) ++ [(94, ay (IntKind.i64.wrap (((i : Nat) : Int) + 1)))]) (by kernel_rfl) fun a HF => ?_
   rw [show IntKind.i64.wrap (((i : Nat) : Int) + 1) = (((i + 1) : Nat) : Int) from (IntWalk.i64_in _ (by omega)).trans (by omega)] at HF
   refine wp_pure HF HM rfl 1 [] ((tZ z1 x gl bW cg gt bY i cc pg pc rg rc g10 xQ) ++ [(66, aA (i + 1))]) (by kernel_rfl) fun a HF => ?_
   refine wpList_nil ?_
   repeat first | refine aQ ?_ | refine aU ?_
   exact KR _ _ (⟨cg, cc, ck, rg, rc, rk, g10, xQ, FC, ctk, csz, cnc, ccm, rtk, rsz, rnc, rcm, Jr, hsz10, hnc10, hcm10, (HM.pick [5, 2, 1, 6, 7, 8, 9] [(g10, .cells FC 9 (0, 0)), (rg, .cells rk 3 (0, 0)), (cg, .cells ck 5 (0, 0)), (pg, .cells pk 3 (0, 0)), (gl, .cells curl 46 (0, 0)), (gt, .cells iK 5 (0, 0)), dn z1 x] rfl (by decide)), HF.sub ((tZ z1 x gl bW cg gt bY i cc pg pc rg rc g10 xQ) ++ [(66, aA (i + 1))]) (by kernel_rfl)⟩)
  ·intro a w KX hI
   obtain ⟨bg, bc, bk, qg, qc, qk, ng, nc, nk, yH, EN, CU, G6, Dy, FY, Et, FZ, ntk, nsz, nnc, ncm, HM, HF⟩ := hI
   refine aY ?_
   refine wp_pure HF HM rfl 1 [] ((qH z1 x gl bW bg gt bY bc pg pc qg qc) ++ [(15, aH ng (x.ps.length + 2) nc), (64, aH gl (x.ps.length + 2) bW), (65, aA (x.ps.length + 2)), (66, aA (x.ps.length + 2)), (67, .bool (decide ((((x.ps.length + 2) : Nat) : Int) < (((x.ps.length + 2) : Nat) : Int))))]) (by kernel_rfl) fun a HF => ?_
   refine aI ?_
   refine wp_seq ?_
   rw [show decide ((((x.ps.length + 2) : Nat) : Int) < (((x.ps.length + 2) : Nat) : Int)) = false from dI (by omega)] at HF
   refine aZ HF rfl ?_
   refine wp_exit ?_
   repeat (first | refine iW ?_ | refine kE rfl ?_)
   refine kL ?_
   repeat first | refine aQ ?_ | refine aU ?_
   refine aY ?_
   refine wp_pure HF HM rfl 1 [] ((qH z1 x gl bW bg gt bY bc pg pc qg qc) ++ [(96, aH ng (x.ps.length + 2) nc)]) (by kernel_rfl) fun a HF => ?_
   refine bn HF (by kernel_rfl) 65 #[aH ng (x.ps.length + 2) nc] (by kernel_rfl) (fun w => by kernel_rfl) (Calls.mono (EC x.img.names _ _ _ (by rw [AO]) w (HM.lI (i := 0) rfl (ntk.trans (Ia x gt bY))) (by omega) (by omega)) ?_)
   rintro _ w9 ⟨gu, capu, curu, gp, iL, curp, rfl, hb, hou, hop, hnu⟩
   replace HM : Mm [] w0 w9 [(gp, .cells curp 3 (0, 0)), (ng, .cells nk 9 (0, 0)), (qg, .cells qk 3 (0, 0)), (bg, .cells bk 5 (0, 0)), (pg, .cells pk 3 (0, 0)), (gl, .cells curl 46 (0, 0)), (gt, .cells iK 5 (0, 0)), dn z1 x] := HM.push hb hop.new hop.obj
   have hnl := AO x; have hso := KZ x gt bY; have hbl := Dl x gt bY (x.ps.length + 2) oD; have hou9 := C9 x x.ss.length oD
   refine ⟨_, rfl, ?_⟩; clear HF; intro a HF
   refine wp_pure HF HM rfl 5 [] ((qH z1 x gl bW bg gt bY bc pg pc qg qc) ++ [(19, aH gp x.img.names.length iL)]) (by kernel_rfl) fun a HF => ?_
   refine dM ?_
   refine wp_pure HF HM rfl 1 [] ((qH z1 x gl bW bg gt bY bc pg pc qg qc) ++ [(19, aH gp x.img.names.length iL), (100, aH gp x.img.names.length iL)]) (by kernel_rfl) fun a HF => ?_
   refine eY HF (by kernel_rfl) (aC gp) (by kernel_rfl) (ig Tryd.underlying66 (k := 1) (by kernel_rfl) rfl 0 rfl rfl (by omega) (Option.some_ne_none _)) fun a HF => ?_
   refine qy HF HM rfl 3 _ _ rfl rfl 0 gp 0 curp 3 rfl rfl (ay 0) rfl rfl rfl (by rw [hop.sz]; have hq := hop.nc; omega) (by kernel_rfl) ?_
   intro a w10 ny bU tX HF2; clear HF HM
   have I7 : ny.toList.take (x.img.names.length * 1) = ((List.range x.img.names.length).map (fun j => oU (nameAt x.img.names j)) : List Value).set 0 (ay 0) := by rw [tX, List.take_set, hop.tk]
   have szs11 : ny.size = iL * 1 := by rw [← Array.length_toList, tX, List.length_set, Array.length_toList, hop.sz]
   have HM : Mm [] w0 w10 [(gp, .cells ny 3 (0, 0)), (ng, .cells nk 9 (0, 0)), (qg, .cells qk 3 (0, 0)), (bg, .cells bk 5 (0, 0)), (pg, .cells pk 3 (0, 0)), (gl, .cells curl 46 (0, 0)), (gt, .cells iK 5 (0, 0)), dn z1 x] := bU
   have HF := HF2.sub ((qH z1 x gl bW bg gt bY bc pg pc qg qc) ++ [(19, aH gp x.img.names.length iL)]) (by kernel_rfl); clear bU HF2 tX
   replace I7 : ny.toList.take (x.img.names.length * 1) = (List.range x.img.names.length).map (fun j => oU (x.img.jX j)) := I7.trans (Jf x)
   refine dM ?_
   refine wp_pure HF HM rfl 11 [[0], [0]] ((jD z1 gl x bW bg gt bY bc pg pc qg qc gp iL) ++ [(102, .agg #[.bool x.wide, .bool x.big, aV x.abi, aV x.aF, .int .i64 x.ty, .int .i64 x.machine, aJ x.entry, .slice x.A x.ss.length x.c, .slice x.B x.ps.length x.d]), (105, aA x.ss.length), (106, aA (fF x.wide)), (108, aA (x.ps.length + 2)), (112, ay (IntKind.i64.wrap (((x.img.at0 : Nat) : Int) + ((((fZ x gt bY (x.ps.length + 2)).length) : Nat) : Int))))]) (by kernel_rfl) fun a HF => ?_
   rw [show IntKind.i64.wrap (((x.img.at0 : Nat) : Int) + ((((fZ x gt bY (x.ps.length + 2)).length) : Nat) : Int)) = ((x.img.kM : Nat) : Int) from (IntWalk.i64_in _ (by omega)).trans (by omega)] at HF
   refine bn HF (by kernel_rfl) 66 #[.agg #[.bool x.wide, .bool x.big, aV x.abi, aV x.aF, .int .i64 x.ty, .int .i64 x.machine, aJ x.entry, .slice x.A x.ss.length x.c, .slice x.B x.ps.length x.d], aA x.ss.length, aA (fF x.wide), aA (x.ps.length + 2), aA x.img.kM] (by kernel_rfl) (fun w => by kernel_rfl) (Calls.mono (EY x x.ss.length (fF x.wide) (x.ps.length + 2) x.img.kM (by omega) (by omega) (by omega) (by omega) (by omega) ok.Ik ok.ty1 ok.mc0 ok.mc1 w10 (h.below HM.below)) ?_)
   rintro _ rZ ⟨go, JD, L6, rfl, hb, Gq⟩
   rw [head_eq, ← Eu] at Gq
   replace HM : Mm [] w0 rZ [(go, .cells L6 5 (0, 0)), (gp, .cells ny 3 (0, 0)), (ng, .cells nk 9 (0, 0)), (qg, .cells qk 3 (0, 0)), (bg, .cells bk 5 (0, 0)), (pg, .cells pk 3 (0, 0)), (gl, .cells curl 46 (0, 0)), (gt, .cells iK 5 (0, 0)), dn z1 x] := HM.push hb Gq.new Gq.obj
   rw [head_eq, ← Eu]
   refine ⟨_, rfl, ?_⟩; clear HF; intro a HF
   refine wp_pure HF HM rfl 1 [] ((jD z1 gl x bW bg gt bY bc pg pc qg qc gp iL) ++ [(20, aH go ((jJ x 0).length) JD)]) (by kernel_rfl) fun a HF => ?_
   refine aI ?_
   refine wp_seq ?_
   refine aY ?_
   refine wp_pure HF HM rfl 4 [[0]] ((jD z1 gl x bW bg gt bY bc pg pc qg qc gp iL) ++ [(20, aH go ((jJ x 0).length) JD), (115, .slice x.A x.ss.length x.c), (116, aA x.ss.length), (117, ay 0)]) (by kernel_rfl) fun a HF => ?_
   refine aI ?_
   refine wp_block ?_
   replace HM := HM.pick [0, 1, 3, 4, 5, 6, 7, 8] [(go, .cells L6 5 (0, 0)), (gp, .cells ny 3 (0, 0)), (qg, .cells qk 3 (0, 0)), (bg, .cells bk 5 (0, 0)), (pg, .cells pk 3 (0, 0)), (gl, .cells curl 46 (0, 0)), (gt, .cells iK 5 (0, 0)), dn z1 x] rfl (by decide)
   refine oM (x.ss.length) (fun i a w => (∃ ug : Nat, ∃ uc : Nat, ∃ uk : Array Value, (uk.toList.take (((jJ x i).length) * 1) = (jJ x i).map Bv) ∧ (uk.size = uc * 1) ∧ (((jJ x i).length) ≤ uc) ∧ (uc ≤ maxLen) ∧ Mm [] w0 w [(ug, .cells uk 5 (0, 0)), (gp, .cells ny 3 (0, 0)), (qg, .cells qk 3 (0, 0)), (bg, .cells bk 5 (0, 0)), (pg, .cells pk 3 (0, 0)), (gl, .cells curl 46 (0, 0)), (gt, .cells iK 5 (0, 0)), dn z1 x] ∧ Fr 159 a (wU z1 gl x bW bg gt bY bc pg pc qg qc gp iL ug i uc))) ?_ ?_ ?_
   ·exact ⟨go, JD, L6, Gq.tk, Gq.sz, Gq.nc, Gq.cm, HM, HF.sub ((jD z1 gl x bW bg gt bY bc pg pc qg qc gp iL) ++ [(20, aH go ((jJ x 0).length) JD), (115, .slice x.A x.ss.length x.c), (116, aA x.ss.length), (117, ay 0)]) (by kernel_rfl)⟩
   ·intro i a w KX hi hI KR
    obtain ⟨ug, uc, uk, En, FI, Eo, FK, HM, HF⟩ := hI
    have hoz := C9 x i oD; have hoz2 := C9 x (i + 1) oD; have hpl := x.img.xY i
    refine aY ?_
    refine wp_pure HF HM rfl 1 [] ((wU z1 gl x bW bg gt bY bc pg pc qg qc gp iL ug i uc) ++ [(118, .bool (decide (((i : Nat) : Int) < ((x.ss.length : Nat) : Int))))]) (by kernel_rfl) fun a HF => ?_
    refine aI ?_
    refine wp_seq ?_
    rw [show decide (((i : Nat) : Int) < ((x.ss.length : Nat) : Int)) = true from fC (by omega)] at HF
    refine bF HF rfl ?_
    refine wp_skip ?_
    repeat first | refine aQ ?_ | refine aU ?_
    refine wp_seq ?_
    refine wp_block ?_
    refine aY ?_
    refine wp_pure HF HM rfl 1 [] ((wU z1 gl x bW bg gt bY bc pg pc qg qc gp iL ug i uc) ++ [(119, aA i)]) (by kernel_rfl) fun a HF => ?_
    obtain ⟨m12, uQ⟩ : ∃ m, x.ss[i]? = some m := ⟨_, List.getElem?_eq_getElem (by omega)⟩
    have Nl := ok.seg m12 (List.mem_of_getElem? uQ)
    have hmd_m12 := Nl.data
    have IL := h.seg m12 (List.mem_of_getElem? uQ)
    have hmt_m12 := IL.ty; have hmf_m12 := IL.flags
    refine eY HF (by kernel_rfl) (.pointer (Option.map (fun q : Addr => q.add (i * 7)) x.A)) (by kernel_rfl) (ig Tryd.underlying23 (by kernel_rfl) rfl i rfl rfl (by omega) (nC (lC (f := jE.cells) (k := 7) (fun _ => rfl) (HM.row h.cO) i uQ) (Nat.zero_lt_succ _))) fun a HF => ?_
    refine eY HF (by kernel_rfl) (.agg #[aX m12.ty, aX m12.flags, aJ m12.bI, aJ m12.bJ, aJ m12.bM, aJ m12.align, .slice m12.A m12.data.length m12.c]) (by kernel_rfl) (lT rfl rfl (lC (f := jE.cells) (k := 7) (fun _ => rfl) (HM.row h.cO) i uQ) (Nat.zero_lt_succ _) Tryd.underlying57 rfl (by kernel_rfl)) fun a HF => ?_
    obtain ⟨z48, hz48⟩ : ∃ z, w.heap.size = z := ⟨_, rfl⟩
    refine aO HF HM hz48 3 [[8]] ((jD z1 gl x bW bg gt bY bc pg pc qg qc gp iL) ++ [(20, aH ug ((jJ x i).length) uc), (21, aA i), (22, aC z48), (115, .slice x.A x.ss.length x.c), (116, aA x.ss.length), (117, aA i)]) [t_ z48 m12, (ug, .cells uk 5 (0, 0)), (gp, .cells ny 3 (0, 0)), (qg, .cells qk 3 (0, 0)), (bg, .cells bk 5 (0, 0)), (pg, .cells pk 3 (0, 0)), (gl, .cells curl 46 (0, 0)), (gt, .cells iK 5 (0, 0)), dn z1 x] (by kernel_rfl) fun a w HF HM => ?_
    clear hz48
    refine aI ?_
    refine rQ HM (by kernel_rfl) [t_ z48 m12, (gp, .cells ny 3 (0, 0)), (qg, .cells qk 3 (0, 0)), (bg, .cells bk 5 (0, 0)), (pg, .cells pk 3 (0, 0)), (gl, .cells curl 46 (0, 0)), (gt, .cells iK 5 (0, 0)), dn z1 x] [(0, false), (1, false), (2, false), (3, false), (4, false), (5, false), (6, false), (7, true), (8, true), (9, false)] (by kernel_rfl) fun w12 HM => ?_
    refine bD HF (HM.told [0, 2, 3, 4, 5, 6, 7, 8] rfl) 5 [[0], [7]] ((A_ z1 gl x bW bg gt bY bc pg pc qg qc gp iL i ug uc m12) ++ [(125, aH pg x.ss.length pc), (126, aA i)]) (by kernel_rfl) fun a HF => ?_
    refine eu rfl HF (HM.told [0, 2, 3, 4, 5, 6, 7, 8] rfl) rfl (.pointer (Option.map (fun q : Addr => q.add (i * 1)) (some ⟨pg, 0, none⟩))) (by kernel_rfl) (fun w hw => ig Tryd.underlying66 (by kernel_rfl) rfl i rfl rfl (by omega) (Option.some_ne_none _)) fun a HF => ?_
    refine eu rfl HF (HM.told [0, 2, 3, 4, 5, 6, 7, 8] rfl) rfl (aA (x.img.jG i)) (by kernel_rfl) (fun w hw => pW rfl rfl (rP (Told.lI hw (i := 4) rfl ptk) i (List.getElem?_range (by omega))) (by kernel_rfl)) ?_
    clear HF; intro a HF; replace HF := HF.sub ((A_ z1 gl x bW bg gt bY bc pg pc qg qc gp iL i ug uc m12) ++ [(128, aA (x.img.jG i))]) (by kernel_rfl)
    refine bQ rfl ?_
    refine bn HF (by kernel_rfl) 67 #[.agg #[.bool x.wide, .bool x.big, aV x.abi, aV x.aF, .int .i64 x.ty, .int .i64 x.machine, aJ x.entry, .slice x.A x.ss.length x.c, .slice x.B x.ps.length x.d], .agg #[aX m12.ty, aX m12.flags, aJ m12.bI, aJ m12.bJ, aJ m12.bM, aJ m12.align, .slice m12.A m12.data.length m12.c], aA (x.img.jG i)] (by kernel_rfl) (fun w => by kernel_rfl) (Calls.mono (Hu x.wide x.big _ _ _ _ _ _ _ m12.ty m12.flags m12.bI m12.bJ m12.bM m12.align m12.data.length m12.c (x.img.jG i) m12.A (by omega) (by omega) (by omega) (by omega) w12) ?_)
    rintro _ wE ⟨gr, G5, curr, rfl, hb, hor⟩
    replace HM : Mm [] w0 wE [(gr, .cells curr 5 (0, 0)), t_ z48 m12, (ug, .cells uk 5 (0, 0)), (gp, .cells ny 3 (0, 0)), (qg, .cells qk 3 (0, 0)), (bg, .cells bk 5 (0, 0)), (pg, .cells pk 3 (0, 0)), (gl, .cells curl 46 (0, 0)), (gt, .cells iK 5 (0, 0)), dn z1 x] := HM.push hb hor.new hor.obj
    have hrl : (mZ x i m12).length ≤ 64 := by rw [show (mZ x i m12).length = gQ x.wide from pX ..]; omega
    refine ⟨_, rfl, ?_⟩; clear HF; intro a HF
    replace HF := HF.sub ((jD z1 gl x bW bg gt bY bc pg pc qg qc gp iL) ++ [(115, .slice x.A x.ss.length x.c), (116, aA x.ss.length), (117, aA i), (122, aH ug ((jJ x i).length) uc), (129, aH gr ((mZ x i m12).length) G5)]) (by kernel_rfl)
    refine cZ (HM.told [1, 3, 4, 5, 6, 7, 8, 9] rfl) ?_
    refine bQ rfl ?_
    refine iG HF HM rfl _ _ 33 33 rfl rfl 5 (z := aK 0) (size := 1) (bytes := 1) Tryd.underlying33 (by kernel_rfl) rfl (by decide) 2 ug ((jJ x i).length) uc uk rfl rfl Eo FK FI ((jJ x i).map Bv) En (aH gr ((mZ x i m12).length) G5) ((mZ x i m12).length) ((mZ x i m12).map Bv) rfl (mY Tryd.underlying33 (D9 hor.tk hor.sz hor.nc) (by decide) (HM.lI (i := 0) rfl hor.tk) (qL _)) (by unfold maxLen; omega) (by omega) ?_
    intro a zU g14 BZ uf bU Fe hsz14 MH hcm14 HF2; clear HF HM
    replace Fe : uf.toList.take ((((jJ x i).length) + ((mZ x i m12).length)) * 1) = (jJ x (i + 1)).map Bv := Fe.trans (by rw [Ew uQ, List.map_append])
    have HM : Mm [] w0 zU [(gr, .cells curr 5 (0, 0)), t_ z48 m12, (g14, .cells uf 5 (0, 0)), (gp, .cells ny 3 (0, 0)), (qg, .cells qk 3 (0, 0)), (bg, .cells bk 5 (0, 0)), (pg, .cells pk 3 (0, 0)), (gl, .cells curl 46 (0, 0)), (gt, .cells iK 5 (0, 0)), dn z1 x] := bU
    have HF := HF2.sub ((jD z1 gl x bW bg gt bY bc pg pc qg qc gp iL) ++ [(115, .slice x.A x.ss.length x.c), (116, aA x.ss.length), (117, aA i), (130, aH g14 (((jJ x i).length) + ((mZ x i m12).length)) BZ)]) (by kernel_rfl); clear bU HF2
    refine cZ (HM.told [1, 3, 4, 5, 6, 7, 8, 9] rfl) ?_
    refine bD HF (HM.told [1, 3, 4, 5, 6, 7, 8, 9] rfl) 1 [] ((jD z1 gl x bW bg gt bY bc pg pc qg qc gp iL) ++ [(20, aH g14 (((jJ x i).length) + ((mZ x i m12).length)) BZ), (115, .slice x.A x.ss.length x.c), (116, aA x.ss.length), (117, aA i)]) (by kernel_rfl) fun a HF => ?_
    refine iP ?_
    repeat first | refine aQ ?_ | refine aU ?_
    refine wp_region_lit ?_
    refine wp_pure HF HM rfl 1 [] ((jD z1 gl x bW bg gt bY bc pg pc qg qc gp iL) ++ [(20, aH g14 (((jJ x i).length) + ((mZ x i m12).length)) BZ), (115, .slice x.A x.ss.length x.c), (116, aA x.ss.length), (131, ay (IntKind.i64.wrap (((i : Nat) : Int) + 1)))]) (by kernel_rfl) fun a HF => ?_
    rw [show IntKind.i64.wrap (((i : Nat) : Int) + 1) = (((i + 1) : Nat) : Int) from (IntWalk.i64_in _ (by omega)).trans (by omega)] at HF
    refine wp_pure HF HM rfl 1 [] ((jD z1 gl x bW bg gt bY bc pg pc qg qc gp iL) ++ [(20, aH g14 (((jJ x i).length) + ((mZ x i m12).length)) BZ), (115, .slice x.A x.ss.length x.c), (116, aA x.ss.length), (117, aA (i + 1))]) (by kernel_rfl) fun a HF => ?_
    refine wpList_nil ?_
    repeat first | refine aQ ?_ | refine aU ?_
    rw [show (((jJ x i).length) + ((mZ x i m12).length)) = ((jJ x (i + 1)).length) from by rw [Ew uQ, List.length_append]] at HF Fe MH
    exact KR _ _ (⟨g14, BZ, uf, Fe, hsz14, MH, hcm14, (HM.pick [2, 3, 4, 5, 6, 7, 8, 9] [(g14, .cells uf 5 (0, 0)), (gp, .cells ny 3 (0, 0)), (qg, .cells qk 3 (0, 0)), (bg, .cells bk 5 (0, 0)), (pg, .cells pk 3 (0, 0)), (gl, .cells curl 46 (0, 0)), (gt, .cells iK 5 (0, 0)), dn z1 x] rfl (by decide)), HF.sub ((jD z1 gl x bW bg gt bY bc pg pc qg qc gp iL) ++ [(20, aH g14 ((jJ x (i + 1)).length) BZ), (115, .slice x.A x.ss.length x.c), (116, aA x.ss.length), (117, aA (i + 1))]) (by kernel_rfl)⟩)
   ·intro a w KX hI
    obtain ⟨ug, uc, uk, En, FI, Eo, FK, HM, HF⟩ := hI
    refine aY ?_
    refine wp_pure HF HM rfl 1 [] ((jD z1 gl x bW bg gt bY bc pg pc qg qc gp iL) ++ [(20, aH ug ((jJ x x.ss.length).length) uc), (115, .slice x.A x.ss.length x.c), (116, aA x.ss.length), (117, aA x.ss.length), (118, .bool (decide (((x.ss.length : Nat) : Int) < ((x.ss.length : Nat) : Int))))]) (by kernel_rfl) fun a HF => ?_
    refine aI ?_
    refine wp_seq ?_
    rw [show decide (((x.ss.length : Nat) : Int) < ((x.ss.length : Nat) : Int)) = false from dI (by omega)] at HF
    refine aZ HF rfl ?_
    refine wp_exit ?_
    repeat (first | refine iW ?_ | refine kE rfl ?_)
    refine kL ?_
    repeat first | refine aQ ?_ | refine aU ?_
    refine aY ?_
    refine wp_pure HF HM rfl 2 [] [(1, aC z1), (8, aH gl (x.ps.length + 2) bW), (11, aH pg x.ss.length pc), (12, aH qg (x.ps.length + 2) qc), (19, aH gp x.img.names.length iL), (132, aH ug ((jJ x x.ss.length).length) uc), (133, aH bg ((fZ x gt bY (x.ps.length + 2)).length) bc)] (by kernel_rfl) fun a HF => ?_
    refine iG HF HM rfl _ _ 33 33 rfl rfl 5 (z := aK 0) (size := 1) (bytes := 1) Tryd.underlying33 (by kernel_rfl) rfl (by decide) 0 ug ((jJ x x.ss.length).length) uc uk rfl rfl Eo FK FI ((jJ x x.ss.length).map Bv) En (aH bg ((fZ x gt bY (x.ps.length + 2)).length) bc) ((fZ x gt bY (x.ps.length + 2)).length) ((fZ x gt bY (x.ps.length + 2)).map Bv) rfl (mY Tryd.underlying33 (D9 yH EN CU) (by decide) (HM.lI (i := 3) rfl yH) (qL _)) (by unfold maxLen; omega) (by omega) ?_
    intro a Cm g15 DN FB bU Fb hsz15 MG hcm15 HF2; clear HF HM
    replace Fb : FB.toList.take ((((jJ x x.ss.length).length) + ((fZ x gt bY (x.ps.length + 2)).length)) * 1) = (lq x 0).map Bv := Fb.trans (by rw [EL, Bd, List.map_append (l₁ := jJ x x.ss.length)])
    have HM : Mm [] w0 Cm [(g15, .cells FB 5 (0, 0)), (gp, .cells ny 3 (0, 0)), (qg, .cells qk 3 (0, 0)), (bg, .cells bk 5 (0, 0)), (pg, .cells pk 3 (0, 0)), (gl, .cells curl 46 (0, 0)), (gt, .cells iK 5 (0, 0)), dn z1 x] := bU
    have HF := HF2.sub [(1, aC z1), (8, aH gl (x.ps.length + 2) bW), (11, aH pg x.ss.length pc), (12, aH qg (x.ps.length + 2) qc), (19, aH gp x.img.names.length iL), (134, aH g15 (((jJ x x.ss.length).length) + ((fZ x gt bY (x.ps.length + 2)).length)) DN)] (by kernel_rfl); clear bU HF2
    refine wp_pure HF HM rfl 1 [] [(1, aC z1), (8, aH gl (x.ps.length + 2) bW), (11, aH pg x.ss.length pc), (12, aH qg (x.ps.length + 2) qc), (19, aH gp x.img.names.length iL), (20, aH g15 (((jJ x x.ss.length).length) + ((fZ x gt bY (x.ps.length + 2)).length)) DN)] (by kernel_rfl) fun a HF => ?_
    refine aI ?_
    refine wp_seq ?_
    refine aY ?_
    refine wp_pure HF HM rfl 3 [] ((jC z1 pg x pc qg qc gp iL) ++ [(20, aH g15 (((jJ x x.ss.length).length) + ((fZ x gt bY (x.ps.length + 2)).length)) DN), (135, aH gl (x.ps.length + 2) bW), (136, aA (x.ps.length + 2)), (137, ay 0)]) (by kernel_rfl) fun a HF => ?_
    refine aI ?_
    refine wp_block ?_
    replace HM := HM.pick [0, 1, 2, 4, 5, 6, 7] [(g15, .cells FB 5 (0, 0)), (gp, .cells ny 3 (0, 0)), (qg, .cells qk 3 (0, 0)), (pg, .cells pk 3 (0, 0)), (gl, .cells curl 46 (0, 0)), (gt, .cells iK 5 (0, 0)), dn z1 x] rfl (by decide)
    refine oM ((x.ps.length + 2)) (fun i a w => (∃ ug : Nat, ∃ uc : Nat, ∃ uk : Array Value, (uk.toList.take (((lq x i).length) * 1) = (lq x i).map Bv) ∧ (uk.size = uc * 1) ∧ (((lq x i).length) ≤ uc) ∧ (uc ≤ maxLen) ∧ Mm [] w0 w [(ug, .cells uk 5 (0, 0)), (gp, .cells ny 3 (0, 0)), (qg, .cells qk 3 (0, 0)), (pg, .cells pk 3 (0, 0)), (gl, .cells curl 46 (0, 0)), (gt, .cells iK 5 (0, 0)), dn z1 x] ∧ Fr 159 a (wS z1 pg x pc qg qc gp iL ug i uc gl bW))) ?_ ?_ ?_
    rw [show (((jJ x x.ss.length).length) + ((fZ x gt bY (x.ps.length + 2)).length)) = ((lq x 0).length) from by rw [EL, Bd]; exact (List.length_append ..).symm] at HF Fb MG
    ·exact ⟨g15, DN, FB, Fb, hsz15, MG, hcm15, HM, HF.sub ((jC z1 pg x pc qg qc gp iL) ++ [(20, aH g15 ((lq x 0).length) DN), (135, aH gl (x.ps.length + 2) bW), (136, aA (x.ps.length + 2)), (137, ay 0)]) (by kernel_rfl)⟩
    ·intro i a w KX hi hI KR
     obtain ⟨ug, uc, uk, En, FI, Eo, FK, HM, HF⟩ := hI
     have hoz := GU x i oD; have hoz2 := GU x (i + 1) oD; have hpl := x.img.uD i; have hnp := oD.wK i (by rw [Cc]; omega)
     refine aY ?_
     refine wp_pure HF HM rfl 1 [] ((wS z1 pg x pc qg qc gp iL ug i uc gl bW) ++ [(138, .bool (decide (((i : Nat) : Int) < (((x.ps.length + 2) : Nat) : Int))))]) (by kernel_rfl) fun a HF => ?_
     refine aI ?_
     refine wp_seq ?_
     rw [show decide (((i : Nat) : Int) < (((x.ps.length + 2) : Nat) : Int)) = true from fC (by omega)] at HF
     refine bF HF rfl ?_
     refine wp_skip ?_
     repeat first | refine aQ ?_ | refine aU ?_
     refine wp_seq ?_
     refine wp_block ?_
     refine aY ?_
     refine wp_pure HF HM rfl 1 [] ((wS z1 pg x pc qg qc gp iL ug i uc gl bW) ++ [(139, aA i)]) (by kernel_rfl) fun a HF => ?_
     obtain ⟨m16, Jt⟩ : ∃ m, (allM x gt bY)[i]? = some m := ⟨_, List.getElem?_eq_getElem (by omega)⟩
     have Nk := List.mem_of_getElem? Jt
     have yE := KQ h ok m16 Nk
     have hmd_m16 := yE.data; have hmt_m16 := yE.ty; have hmf_m16 := yE.flags; have hml_m16 := yE.link; have hmi_m16 := yE.info
     refine eY HF (by kernel_rfl) (.pointer (Option.map (fun q : Addr => q.add (i * 10)) (some ⟨gl, 0, none⟩))) (by kernel_rfl) (ig Tryd.underlying24 (by kernel_rfl) rfl i rfl rfl (by omega) (Option.some_ne_none _)) fun a HF => ?_
     refine eY HF (by kernel_rfl) (.agg #[.string (⟨m16.name.toArray⟩), aX m16.ty, aX m16.flags, aJ m16.addr, aX m16.link, aX m16.info, aJ m16.align, aJ m16.ent, aJ m16.size, .slice m16.A m16.data.length m16.c]) (by kernel_rfl) (lT rfl rfl (lC (f := fP.cells) (k := 10) (fun _ => rfl) (HM.lI (i := 4) rfl hol.tk) i Jt) (Nat.zero_lt_succ _) Tryd.underlying46 rfl (by kernel_rfl)) fun a HF => ?_
     obtain ⟨z57, hz57⟩ : ∃ z, w.heap.size = z := ⟨_, rfl⟩
     refine aO HF HM hz57 3 [[7]] ((jC z1 pg x pc qg qc gp iL) ++ [(20, aH ug ((lq x i).length) uc), (23, aA i), (24, aC z57), (135, aH gl (x.ps.length + 2) bW), (136, aA (x.ps.length + 2)), (137, aA i)]) [(z57, .cells #[.string (⟨m16.name.toArray⟩), aX m16.ty, aX m16.flags, aJ m16.addr, aX m16.link, aX m16.info, aJ m16.align, aJ m16.ent, aJ m16.size, .slice m16.A m16.data.length m16.c] 46 (0, 0)), (ug, .cells uk 5 (0, 0)), (gp, .cells ny 3 (0, 0)), (qg, .cells qk 3 (0, 0)), (pg, .cells pk 3 (0, 0)), (gl, .cells curl 46 (0, 0)), (gt, .cells iK 5 (0, 0)), dn z1 x] (by kernel_rfl) fun a w HF HM => ?_
     clear hz57
     refine aI ?_
     refine rQ HM (by kernel_rfl) [(z57, .cells #[.string (⟨m16.name.toArray⟩), aX m16.ty, aX m16.flags, aJ m16.addr, aX m16.link, aX m16.info, aJ m16.align, aJ m16.ent, aJ m16.size, .slice m16.A m16.data.length m16.c] 46 (0, 0)), (gp, .cells ny 3 (0, 0)), (qg, .cells qk 3 (0, 0)), (pg, .cells pk 3 (0, 0)), (gl, .cells curl 46 (0, 0)), (gt, .cells iK 5 (0, 0)), dn z1 x] [(0, false), (1, false), (2, false), (3, false), (4, false), (5, false), (6, false), (7, false), (8, false), (9, false), (10, false), (11, true), (12, true), (13, false)] (by kernel_rfl) fun w16 HM => ?_
     refine bD HF (HM.told [0, 2, 3, 4, 5, 6, 7] rfl) 4 [[0]] ((GN z1 pg x pc qg qc gp iL i z57 gl bW ug uc) ++ [(144, aH gp x.img.names.length iL), (145, aA i)]) (by kernel_rfl) fun a HF => ?_
     refine eu rfl HF (HM.told [0, 2, 3, 4, 5, 6, 7] rfl) rfl (.pointer (Option.map (fun q : Addr => q.add (i * 1)) (some ⟨gp, 0, none⟩))) (by kernel_rfl) (fun w hw => ig Tryd.underlying66 (by kernel_rfl) rfl i rfl rfl (by omega) (Option.some_ne_none _)) fun a HF => ?_
     refine eu rfl HF (HM.told [0, 2, 3, 4, 5, 6, 7] rfl) rfl (aA (x.img.jX i)) (by kernel_rfl) (fun w hw => pW rfl rfl (rP (Told.lI hw (i := 1) rfl I7) i (List.getElem?_range (by omega))) (by kernel_rfl)) fun a HF => ?_
     refine bD HF (HM.told [0, 2, 3, 4, 5, 6, 7] rfl) 3 [[6]] ((jC z1 pg x pc qg qc gp iL) ++ [(135, aH gl (x.ps.length + 2) bW), (136, aA (x.ps.length + 2)), (137, aA i), (142, aH ug ((lq x i).length) uc), Ba x, (147, aA (x.img.jX i)), (148, .agg #[.string (⟨m16.name.toArray⟩), aX m16.ty, aX m16.flags, aJ m16.addr, aX m16.link, aX m16.info, aJ m16.align, aJ m16.ent, aJ m16.size, .slice m16.A m16.data.length m16.c]), (149, aH qg (x.ps.length + 2) qc), (150, aA i)]) (by kernel_rfl) fun a HF => ?_
     refine eu rfl HF (HM.told [0, 2, 3, 4, 5, 6, 7] rfl) rfl (.pointer (Option.map (fun q : Addr => q.add (i * 1)) (some ⟨qg, 0, none⟩))) (by kernel_rfl) (fun w hw => ig Tryd.underlying66 (by kernel_rfl) rfl i rfl rfl (by omega) (Option.some_ne_none _)) fun a HF => ?_
     refine eu rfl HF (HM.told [0, 2, 3, 4, 5, 6, 7] rfl) rfl (aA (x.img.iO i)) (by kernel_rfl) (fun w hw => pW rfl rfl (rP (Told.lI hw (i := 2) rfl Dy) i (List.getElem?_range (by omega))) (by kernel_rfl)) ?_
     clear HF; intro a HF; replace HF := HF.sub ((jC z1 pg x pc qg qc gp iL) ++ [(135, aH gl (x.ps.length + 2) bW), (136, aA (x.ps.length + 2)), (137, aA i), (142, aH ug ((lq x i).length) uc), Ba x, (147, aA (x.img.jX i)), (148, .agg #[.string (⟨m16.name.toArray⟩), aX m16.ty, aX m16.flags, aJ m16.addr, aX m16.link, aX m16.info, aJ m16.align, aJ m16.ent, aJ m16.size, .slice m16.A m16.data.length m16.c]), (152, aA (x.img.iO i))]) (by kernel_rfl)
     refine bQ rfl ?_
     refine bn HF (by kernel_rfl) 68 #[.agg #[.bool x.wide, .bool x.big, aV x.abi, aV x.aF, .int .i64 x.ty, .int .i64 x.machine, aJ x.entry, .slice x.A x.ss.length x.c, .slice x.B x.ps.length x.d], aA (x.img.jX i), .agg #[.string (⟨m16.name.toArray⟩), aX m16.ty, aX m16.flags, aJ m16.addr, aX m16.link, aX m16.info, aJ m16.align, aJ m16.ent, aJ m16.size, .slice m16.A m16.data.length m16.c], aA (x.img.iO i)] (by kernel_rfl) (fun w => by kernel_rfl) (Calls.mono (Hz x.wide x.big _ _ _ _ _ _ _ (x.img.jX i) ⟨m16.name.toArray⟩ m16.ty m16.flags m16.addr m16.link m16.info m16.align m16.ent m16.size m16.data.length m16.c (x.img.iO i) m16.A (by omega) (by omega) (by omega) (by omega) (by omega) (by omega) (by omega) w16) ?_)
     rintro _ w17 ⟨gr, G5, curr, rfl, hb, hor⟩
     replace HM : Mm [] w0 w17 [(gr, .cells curr 5 (0, 0)), (z57, .cells #[.string (⟨m16.name.toArray⟩), aX m16.ty, aX m16.flags, aJ m16.addr, aX m16.link, aX m16.info, aJ m16.align, aJ m16.ent, aJ m16.size, .slice m16.A m16.data.length m16.c] 46 (0, 0)), (ug, .cells uk 5 (0, 0)), (gp, .cells ny 3 (0, 0)), (qg, .cells qk 3 (0, 0)), (pg, .cells pk 3 (0, 0)), (gl, .cells curl 46 (0, 0)), (gt, .cells iK 5 (0, 0)), dn z1 x] := HM.push hb hor.new hor.obj
     have hrl : (m_ x i m16).length ≤ 64 := by rw [show (m_ x i m16).length = h_ x.wide from pY ..]; omega
     refine ⟨_, rfl, ?_⟩; clear HF; intro a HF
     replace HF := HF.sub ((jC z1 pg x pc qg qc gp iL) ++ [(135, aH gl (x.ps.length + 2) bW), (136, aA (x.ps.length + 2)), (137, aA i), (142, aH ug ((lq x i).length) uc), (153, aH gr ((m_ x i m16).length) G5)]) (by kernel_rfl)
     refine cZ (HM.told [1, 3, 4, 5, 6, 7, 8] rfl) ?_
     refine bQ rfl ?_
     refine iG HF HM rfl _ _ 33 33 rfl rfl 5 (z := aK 0) (size := 1) (bytes := 1) Tryd.underlying33 (by kernel_rfl) rfl (by decide) 2 ug ((lq x i).length) uc uk rfl rfl Eo FK FI ((lq x i).map Bv) En (aH gr ((m_ x i m16).length) G5) ((m_ x i m16).length) ((m_ x i m16).map Bv) rfl (mY Tryd.underlying33 (D9 hor.tk hor.sz hor.nc) (by decide) (HM.lI (i := 0) rfl hor.tk) (qL _)) (by unfold maxLen; omega) (by omega) ?_
     intro a w18 g18 BX Fz bU Fa hsz18 MF hcm18 HF2; clear HF HM
     replace Fa : Fz.toList.take ((((lq x i).length) + ((m_ x i m16).length)) * 1) = (lq x (i + 1)).map Bv := Fa.trans (by rw [EM Jt, List.map_append])
     have HM : Mm [] w0 w18 [(gr, .cells curr 5 (0, 0)), (z57, .cells #[.string (⟨m16.name.toArray⟩), aX m16.ty, aX m16.flags, aJ m16.addr, aX m16.link, aX m16.info, aJ m16.align, aJ m16.ent, aJ m16.size, .slice m16.A m16.data.length m16.c] 46 (0, 0)), (g18, .cells Fz 5 (0, 0)), (gp, .cells ny 3 (0, 0)), (qg, .cells qk 3 (0, 0)), (pg, .cells pk 3 (0, 0)), (gl, .cells curl 46 (0, 0)), (gt, .cells iK 5 (0, 0)), dn z1 x] := bU
     have HF := HF2.sub ((jC z1 pg x pc qg qc gp iL) ++ [(135, aH gl (x.ps.length + 2) bW), (136, aA (x.ps.length + 2)), (137, aA i), (154, aH g18 (((lq x i).length) + ((m_ x i m16).length)) BX)]) (by kernel_rfl); clear bU HF2
     refine cZ (HM.told [1, 3, 4, 5, 6, 7, 8] rfl) ?_
     refine bD HF (HM.told [1, 3, 4, 5, 6, 7, 8] rfl) 1 [] ((jC z1 pg x pc qg qc gp iL) ++ [(20, aH g18 (((lq x i).length) + ((m_ x i m16).length)) BX), (135, aH gl (x.ps.length + 2) bW), (136, aA (x.ps.length + 2)), (137, aA i)]) (by kernel_rfl) fun a HF => ?_
     refine iP ?_
     repeat first | refine aQ ?_ | refine aU ?_
     refine wp_region_lit ?_
     refine wp_pure HF HM rfl 1 [] ((jC z1 pg x pc qg qc gp iL) ++ [(20, aH g18 (((lq x i).length) + ((m_ x i m16).length)) BX), (135, aH gl (x.ps.length + 2) bW), (136, aA (x.ps.length + 2)), (155, ay (IntKind.i64.wrap (((i : Nat) : Int) + 1)))]) (by kernel_rfl) fun a HF => ?_
     rw [show IntKind.i64.wrap (((i : Nat) : Int) + 1) = (((i + 1) : Nat) : Int) from (IntWalk.i64_in _ (by omega)).trans (by omega)] at HF
     refine wp_pure HF HM rfl 1 [] ((jC z1 pg x pc qg qc gp iL) ++ [(20, aH g18 (((lq x i).length) + ((m_ x i m16).length)) BX), (135, aH gl (x.ps.length + 2) bW), (136, aA (x.ps.length + 2)), (137, aA (i + 1))]) (by kernel_rfl) fun a HF => ?_
     refine wpList_nil ?_
     repeat first | refine aQ ?_ | refine aU ?_
     rw [show (((lq x i).length) + ((m_ x i m16).length)) = ((lq x (i + 1)).length) from by rw [EM Jt, List.length_append]] at HF Fa MF
     exact KR _ _ (⟨g18, BX, Fz, Fa, hsz18, MF, hcm18, (HM.pick [2, 3, 4, 5, 6, 7, 8] [(g18, .cells Fz 5 (0, 0)), (gp, .cells ny 3 (0, 0)), (qg, .cells qk 3 (0, 0)), (pg, .cells pk 3 (0, 0)), (gl, .cells curl 46 (0, 0)), (gt, .cells iK 5 (0, 0)), dn z1 x] rfl (by decide)), HF.sub ((jC z1 pg x pc qg qc gp iL) ++ [(20, aH g18 ((lq x (i + 1)).length) BX), (135, aH gl (x.ps.length + 2) bW), (136, aA (x.ps.length + 2)), (137, aA (i + 1))]) (by kernel_rfl)⟩)
    ·intro a w KX hI
     obtain ⟨ug, uc, uk, En, FI, Eo, FK, HM, HF⟩ := hI
     refine aY ?_
     refine wp_pure HF HM rfl 1 [] ((jC z1 pg x pc qg qc gp iL) ++ [(20, aH ug ((lq x (x.ps.length + 2)).length) uc), (135, aH gl (x.ps.length + 2) bW), (136, aA (x.ps.length + 2)), (137, aA (x.ps.length + 2)), (138, .bool (decide ((((x.ps.length + 2) : Nat) : Int) < (((x.ps.length + 2) : Nat) : Int))))]) (by kernel_rfl) fun a HF => ?_
     refine aI ?_
     refine wp_seq ?_
     rw [show decide ((((x.ps.length + 2) : Nat) : Int) < (((x.ps.length + 2) : Nat) : Int)) = false from dI (by omega)] at HF
     refine aZ HF rfl ?_
     refine wp_exit ?_
     repeat (first | refine iW ?_ | refine kE rfl ?_)
     refine kL ?_
     repeat first | refine aQ ?_ | refine aU ?_
     refine aY ?_
     refine wp_pure HF HM rfl 6 [] [(2, aH ug ((lq x (x.ps.length + 2)).length) uc), (3, aH pg x.ss.length pc), (4, aH qg (x.ps.length + 2) qc)] (by kernel_rfl) fun a HF => ?_
     refine aI ?_
     refine wp_ret ?_
     repeat first | refine bV ?_ | refine dh ?_
     rw [LW] at HF En Eo
     exact Ak HF rfl rfl rfl rfl ⟨ug, uc, uk, pg, pc, pk, qg, qc, qk, rfl, HM.below, ⟨HM.ge (i := 0) rfl, HM.get (i := 0) rfl, En, FI, Eo, FK⟩, ⟨HM.ge (i := 3) rfl, HM.get (i := 3) rfl, ptk, psz, pnc, pcm⟩, ⟨HM.ge (i := 2) rfl, HM.get (i := 2) rfl, Dy, FY, Et, FZ⟩⟩

end Go.Proofs.YtdgehpocmfjbiaaDoor
namespace Go.Proofs.YtdgehpocmfjbiaaDoor
open Go.RowKit

theorem vZ (x : dN) (w0 : World) (h : x.At w0) (ok : x.Ok) : Calls Tryd.prog 25 #[x.val] w0 fun e w' => ∃ g cap cur, e = .returned (aH g x.img.file.length cap) ∧ Below w0.heap.size w0 w' ∧ Own w0.heap.size w' 5 1 g x.img.file.length cap cur (x.img.file.map Bv) := by
 obtain ⟨w, hw⟩ : ∃ w, w0 = w := ⟨_, rfl⟩
 have HM : Mm [] w0 w [] := hw ▸ Mm.start w0
 conv => arg 4; rw [hw]
 clear hw
 refine dD Tryd.func25 rfl Tryd.ntmps25 [(0, .agg #[.bool x.wide, .bool x.big, aV x.abi, aV x.aF, .int .i64 x.ty, .int .i64 x.machine, aJ x.entry, .slice x.A x.ss.length x.c, .slice x.B x.ps.length x.d])] (by kernel_rfl) (Nat.le_of_ble_eq_true rfl) ?_
 intro a HF
 refine aY ?_
 obtain ⟨z1, hz1⟩ : ∃ z, w.heap.size = z := ⟨_, rfl⟩
 refine aO HF HM hz1 2 [] [(1, aC z1)] [(z1, .cells #[.bool x.wide, .bool x.big, aV x.abi, aV x.aF, .int .i64 x.ty, .int .i64 x.machine, aJ x.entry, .slice x.A x.ss.length x.c, .slice x.B x.ps.length x.d] 26 (0, 0))] (by kernel_rfl) fun a w HF HM => ?_
 clear hz1
 refine dM ?_
 refine wp_pure HF HM rfl 1 [[0]] [(7, .agg #[.bool x.wide, .bool x.big, aV x.abi, aV x.aF, .int .i64 x.ty, .int .i64 x.machine, aJ x.entry, .slice x.A x.ss.length x.c, .slice x.B x.ps.length x.d])] (by kernel_rfl) fun a HF => ?_
 refine bn HF (by kernel_rfl) 36 #[.agg #[.bool x.wide, .bool x.big, aV x.abi, aV x.aF, .int .i64 x.ty, .int .i64 x.machine, aJ x.entry, .slice x.A x.ss.length x.c, .slice x.B x.ps.length x.d]] (by kernel_rfl) (fun w => by kernel_rfl) (Calls.mono (LV x w (h.below HM.below) ok) ?_)
 rintro _ w1 ⟨g1, cap1, qJ, g2, cap2, qo, g3, cap3, qI, rfl, hb, ho1, ho2, ho3⟩
 replace HM : Mm [] w0 w1 [(g1, .cells qJ 5 (0, 0)), (z1, .cells #[.bool x.wide, .bool x.big, aV x.abi, aV x.aF, .int .i64 x.ty, .int .i64 x.machine, aJ x.entry, .slice x.A x.ss.length x.c, .slice x.B x.ps.length x.d] 26 (0, 0))] := HM.push hb ho1.new ho1.obj
 refine ⟨_, rfl, ?_⟩; clear HF; intro a HF
 refine wp_pure HF HM rfl 7 [] [(3, aH g1 x.img.file.length cap1)] (by kernel_rfl) fun a HF => ?_
 refine dM ?_
 refine wp_pure HF HM rfl 2 [] [(2, aH g1 x.img.file.length cap1)] (by kernel_rfl) fun a HF => ?_
 refine aI ?_
 refine wp_ret ?_
 repeat first | refine bV ?_ | refine dh ?_
 exact dH HF rfl rfl ⟨g1, cap1, qJ, rfl, HM.below, ⟨HM.ge (i := 0) rfl, HM.get (i := 0) rfl, ho1.tk, ho1.sz, ho1.nc, ho1.cm⟩⟩

end Go.Proofs.YtdgehpocmfjbiaaDoor
namespace Go.Proofs.YtdgehpocmfjbiaaDoor
open Go.ChangeShapes Go.WideShapes Go.ChangeAt Go.RowKit Go.Deep

end Go.Proofs.YtdgehpocmfjbiaaDoor
namespace Go.Proofs.YtdgehpocmfjbiaaDoor
open Go.ChangeShapes Go.WideShapes Go.ChangeAt Go.RowKit Go.Deep

section
variable {H : Type} {enc : TypeId × Value → H} {P : Program} {w : World} {base : Nat} {spare : Nat → Bool} {held : Bool}
theorem xU {t : TypeId} {fs : Array Field} {fuel : Nat} {cs : List Value} {x : DataW H × List MemPlace} (hs : P.underlying t = some (.struct fs)) (hone : oneCellFields P fs = true) (hC : P.cellsOf t = fs.size) (h : DataW.trod enc P w base spare held fuel t cs = some x) :
  cs.length = fs.size ∧ ∃ (n : Nat), ∀ (j : Nat) (f : Field), fs[j]? = some f → ∃ (u : Value) (y : DataW H × List MemPlace), cs[j]? = some u ∧ DataW.trod enc P w base spare held n f.type [u] = some y := by
 obtain ⟨xs, n, _, hx, hl, hlen, hg⟩ := DataW.trod_struct hs h
 refine ⟨hl.trans hC, n, fun j f hj => ?_⟩
 obtain ⟨ho, hk⟩ := hone_of hone j f hj
 have h1 := hg j f hj
 rw [ho, hk] at h1
 have hj1 : j < fs.size := (Array.getElem?_eq_some_iff.1 hj).1
 have hj2 : j < xs.length := by omega
 have hj3 : j < cs.length := by omega
 have e : (cs.drop j).take 1 = [cs[j]] := by
  rw [List.drop_eq_getElem_cons hj3]
  rfl
 rw [e, List.getElem?_eq_getElem hj2] at h1
 exact ⟨cs[j], xs[j], List.getElem?_eq_getElem hj3, h1⟩
theorem FX {α : Type} {f : α → List Value} {k : Nat} (hk : ∀ a, (f a).length = k) (b : Nat) : ∀ (l : List α) (off : Nat), (∀ i (h : i < l.length) j v, (f l[i])[j]? = some v → w.cell? ⟨b, off + i * k + j, none⟩ = some v) → Row w (some ⟨b, off, none⟩) (l.flatMap f)
 | [], off, _ => Row.nil _ _
 | a :: l, off, h => by
  have ih := FX hk b l (off + k) fun i hi j v hv => by
   have := h (i + 1) (by simpa using hi) j v (by simpa using hv)
   rw [Nat.succ_mul] at this
   rw [show off + k + i * k + j = off + (i * k + k) + j by omega]
   exact this
  intro i v hv
  rw [List.flatMap_cons] at hv
  refine ⟨b, off, rfl, ?_⟩
  by_cases hik : i < k
  ·rw [List.getElem?_append_left (by rw [hk]; exact hik)] at hv
   have := h 0 (by simp) i v (by simpa using hv)
   simpa using this
  ·rw [List.getElem?_append_right (by rw [hk]; omega), hk] at hv
   obtain ⟨b', off', e, hc⟩ := ih _ v hv
   injection e with e
   injection e with e1 e2
   subst e1; subst e2
   rw [show off + k + (i - k) = off + i by omega] at hc
   exact hc
/-- a slice of elements of k cells -/
theorem open_row {α : Type} [Inhabited α] {t e : TypeId} {k : Nat} {f : α → List Value} {Good : α → Prop} (ht : P.underlying t = some (.slice e)) (hc : P.cellsOf e = k) (hk0 : 0 < k) (hk : ∀ a, (f a).length = k)
  (hel : ∀ (n : Nat) (cs : List Value) (x : DataW H × List MemPlace), DataW.trod enc P w base spare held n e cs = some x → ∃ m, cs = f m ∧ Good m)
  {fuel : Nat} {u : Value} {x : DataW H × List MemPlace} (h : DataW.trod enc P w base spare held fuel t [u] = some x) :
  ∃ (l : List α) (A : Option Addr) (c : Nat), u = .slice A l.length c ∧ Row w A (l.flatMap f) ∧ (∀ m ∈ l, Good m) ∧ l.length ≤ c ∧ c ≤ maxLen := by
 rcases open_slice ht h with ⟨hcs, _⟩ | ⟨a, len, cap, m, n, D, Pl, hcs, hb, hl, hm, hmm, hx, hel2⟩
 ·obtain rfl : u = .slice none 0 0 := by simpa using hcs
  exact ⟨[], none, 0, rfl, Row.nil _ _, by simp, Nat.le_refl _, Nat.zero_le _⟩
 ·obtain rfl : u = .slice (some a) len cap := by simpa using hcs
  have hlm : len ≤ m := by rw [hmm]; split <;> omega
  obtain ⟨V, hV⟩ := choose_lt (α := α) (n := len) (p := fun i v => w.cells? base (a.add (i * k)) k = some (f v) ∧ Good v) (fun i hi => by
   obtain ⟨cs', h1, h2⟩ := hel2 i (by omega)
   obtain ⟨v, rfl, hg⟩ := hel n cs' _ h2
   rw [hc] at h1
   exact ⟨v, h1, hg⟩)
  refine ⟨(List.range len).map V, some a, cap, by simp, ?_, ?_, by simpa using hl, hm⟩
  ·rcases Nat.eq_zero_or_pos len with h0 | h0
   ·subst h0
    exact Row.nil _ _
   ·obtain ⟨b, off, spot⟩ := a
    have hs0 : spot = none := by
     have h1 := (World.cells?_some (hV 0 h0).1).2.2 0 hk0
     have h2 : (f (V 0))[0]? = some ((f (V 0))[0]'(by rw [hk]; exact hk0)) := List.getElem?_eq_getElem _
     rw [h2] at h1
     simpa [Addr.add] using World.cell?_spot h1
    subst hs0
    refine FX hk b _ _ fun i hi j v hv => ?_
    simp only [List.length_map, List.length_range] at hi
    simp only [List.getElem_map, List.getElem_range] at hv
    have hj : j < k := by have := (List.getElem?_eq_some_iff.1 hv).1; rw [hk] at this; exact this
    have h1 := (World.cells?_some (hV i hi).1).2.2 j hj
    rw [hv, addr_add, addr_add] at h1
    exact h1
  ·intro v hv
   obtain ⟨i, hi, rfl⟩ := List.mem_map.1 hv
   exact (hV i (List.mem_range.1 hi)).2
end
section
variable {H : Type} {enc : TypeId × Value → H} {w : World} {base : Nat} {spare : Nat → Bool} {held : Bool}
theorem NQ {n : Int} (h : (Lit.int .u8 n).wf = true) : ∃ b : UInt8, n = (b.toNat : Int) := by
 have := bounds_u8 h
 refine ⟨UInt8.ofNat n.toNat, ?_⟩
 rw [UInt8.toNat_ofNat']
 omega
theorem CJ {fuel : Nat} {u : Value} {x : DataW H × List MemPlace} (h : DataW.trod enc Tryd.prog w base spare held fuel 33 [u] = some x) :
  ∃ (l : List UInt8) (A : Option Addr) (c : Nat), u = .slice A l.length c ∧ Row w A (l.map Bv) ∧ l.length ≤ c ∧ c ≤ maxLen := by
 obtain ⟨l, A, c, h1, h2, _, h4, h5⟩ := open_row (α := UInt8) (f := fun b => [Bv b]) (Good := fun _ => True) Tryd.underlying33 (k := 1) (by kernel_rfl) (by omega) (fun _ => rfl) (fun n cs x hx => by
  obtain ⟨m, rfl, _, hw⟩ := DataW.trod_int Tryd.underlying5 hx
  obtain ⟨b, rfl⟩ := NQ hw
  exact ⟨b, rfl, trivial⟩) h
 exact ⟨l, A, c, h1, by rw [List.map_eq_flatMap]; exact h2, h4, h5⟩
theorem Lh {fuel : Nat} {u : Value} {x : DataW H × List MemPlace} (h : DataW.trod enc Tryd.prog w base spare held fuel 9 [u] = some x) : ∃ l : List UInt8, u = uO l ∧ l.length ≤ maxLen := by
 obtain ⟨s, hs, _, hl⟩ := DataW.trod_string Tryd.underlying9 h
 obtain rfl : u = .string s := by simpa using hs
 exact ⟨s.data.toList, rfl, by rw [Array.length_toList]; exact hl⟩
theorem list7 {α : Type} {l : List α} (h : l.length = 7) : ∃ a0 a1 a2 a3 a4 a5 a6, l = [a0, a1, a2, a3, a4, a5, a6] := by
 match l, h with
 | [a0, a1, a2, a3, a4, a5, a6], _ => exact ⟨a0, a1, a2, a3, a4, a5, a6, rfl⟩
theorem list9 {α : Type} {l : List α} (h : l.length = 9) : ∃ a0 a1 a2 a3 a4 a5 a6 a7 a8, l = [a0, a1, a2, a3, a4, a5, a6, a7, a8] := by
 match l, h with
 | [a0, a1, a2, a3, a4, a5, a6, a7, a8], _ => exact ⟨a0, a1, a2, a3, a4, a5, a6, a7, a8, rfl⟩
theorem NR {α : Type} {l : List α} (h : l.length = 10) : ∃ a0 a1 a2 a3 a4 a5 a6 a7 a8 a9, l = [a0, a1, a2, a3, a4, a5, a6, a7, a8, a9] := by
 match l, h with
 | [a0, a1, a2, a3, a4, a5, a6, a7, a8, a9], _ => exact ⟨a0, a1, a2, a3, a4, a5, a6, a7, a8, a9, rfl⟩
instance : Inhabited jE := ⟨⟨0, 0, 0, 0, 0, 0, [], none, 0⟩⟩
instance : Inhabited fP := ⟨E_⟩
theorem Lj {fuel : Nat} {cs : List Value} {x : DataW H × List MemPlace} (h : DataW.trod enc Tryd.prog w base spare held fuel 57 cs = some x) : ∃ m : jE, cs = m.cells ∧ jE.At w m := by
 obtain ⟨hl, n, hf⟩ := xU Tryd.underlying57 (by kernel_rfl) (by kernel_rfl) h
 obtain ⟨c0, c1, c2, c3, c4, c5, c6, rfl⟩ := list7 hl
 obtain ⟨u0, y0, e0, t0⟩ := hf 0 _ rfl
 obtain rfl : c0 = u0 := by simpa using e0
 obtain ⟨a0, x0, -, z0⟩ := DataW.trod_int Tryd.underlying36 t0
 obtain rfl : c0 = _ := by simpa using x0
 have q0 := bounds_u32 z0
 obtain ⟨m0, rfl⟩ := Int.eq_ofNat_of_zero_le q0.1
 obtain ⟨u1, y1, e1, t1⟩ := hf 1 _ rfl
 obtain rfl : c1 = u1 := by simpa using e1
 obtain ⟨a1, x1, -, z1⟩ := DataW.trod_int Tryd.underlying36 t1
 obtain rfl : c1 = _ := by simpa using x1
 have q1 := bounds_u32 z1
 obtain ⟨m1, rfl⟩ := Int.eq_ofNat_of_zero_le q1.1
 obtain ⟨u2, y2, e2, t2⟩ := hf 2 _ rfl
 obtain rfl : c2 = u2 := by simpa using e2
 obtain ⟨a2, x2, -, z2⟩ := DataW.trod_int Tryd.underlying22 t2
 obtain rfl : c2 = _ := by simpa using x2
 have q2 := bounds_u64 z2
 obtain ⟨m2, rfl⟩ := Int.eq_ofNat_of_zero_le q2.1
 obtain ⟨u3, y3, e3, t3⟩ := hf 3 _ rfl
 obtain rfl : c3 = u3 := by simpa using e3
 obtain ⟨a3, x3, -, z3⟩ := DataW.trod_int Tryd.underlying22 t3
 obtain rfl : c3 = _ := by simpa using x3
 have q3 := bounds_u64 z3
 obtain ⟨m3, rfl⟩ := Int.eq_ofNat_of_zero_le q3.1
 obtain ⟨u4, y4, e4, t4⟩ := hf 4 _ rfl
 obtain rfl : c4 = u4 := by simpa using e4
 obtain ⟨a4, x4, -, z4⟩ := DataW.trod_int Tryd.underlying22 t4
 obtain rfl : c4 = _ := by simpa using x4
 have q4 := bounds_u64 z4
 obtain ⟨m4, rfl⟩ := Int.eq_ofNat_of_zero_le q4.1
 obtain ⟨u5, y5, e5, t5⟩ := hf 5 _ rfl
 obtain rfl : c5 = u5 := by simpa using e5
 obtain ⟨a5, x5, -, z5⟩ := DataW.trod_int Tryd.underlying22 t5
 obtain rfl : c5 = _ := by simpa using x5
 have q5 := bounds_u64 z5
 obtain ⟨m5, rfl⟩ := Int.eq_ofNat_of_zero_le q5.1
 obtain ⟨u6, y6, e6, t6⟩ := hf 6 _ rfl
 obtain rfl : c6 = u6 := by simpa using e6
 obtain ⟨l6, A6, k6, rfl, r6, g6, j6⟩ := CJ t6
 exact ⟨⟨m0, m1, m2, m3, m4, m5, l6, A6, k6⟩, rfl, ⟨r6, g6, j6, by show m0 < _; omega, by show m1 < _; omega, by show m2 < _; omega, by show m3 < _; omega, by show m4 < _; omega, by show m5 < _; omega⟩⟩
theorem JX {fuel : Nat} {cs : List Value} {x : DataW H × List MemPlace} (h : DataW.trod enc Tryd.prog w base spare held fuel 46 cs = some x) : ∃ m : fP, cs = m.cells ∧ fP.At w m := by
 obtain ⟨hl, n, hf⟩ := xU Tryd.underlying46 (by kernel_rfl) (by kernel_rfl) h
 obtain ⟨c0, c1, c2, c3, c4, c5, c6, c7, c8, c9, rfl⟩ := NR hl
 obtain ⟨u0, y0, e0, t0⟩ := hf 0 _ rfl
 obtain rfl : c0 = u0 := by simpa using e0
 obtain ⟨m0, rfl, z0⟩ := Lh t0
 obtain ⟨u1, y1, e1, t1⟩ := hf 1 _ rfl
 obtain rfl : c1 = u1 := by simpa using e1
 obtain ⟨a1, x1, -, z1⟩ := DataW.trod_int Tryd.underlying36 t1
 obtain rfl : c1 = _ := by simpa using x1
 have q1 := bounds_u32 z1
 obtain ⟨m1, rfl⟩ := Int.eq_ofNat_of_zero_le q1.1
 obtain ⟨u2, y2, e2, t2⟩ := hf 2 _ rfl
 obtain rfl : c2 = u2 := by simpa using e2
 obtain ⟨a2, x2, -, z2⟩ := DataW.trod_int Tryd.underlying36 t2
 obtain rfl : c2 = _ := by simpa using x2
 have q2 := bounds_u32 z2
 obtain ⟨m2, rfl⟩ := Int.eq_ofNat_of_zero_le q2.1
 obtain ⟨u3, y3, e3, t3⟩ := hf 3 _ rfl
 obtain rfl : c3 = u3 := by simpa using e3
 obtain ⟨a3, x3, -, z3⟩ := DataW.trod_int Tryd.underlying22 t3
 obtain rfl : c3 = _ := by simpa using x3
 have q3 := bounds_u64 z3
 obtain ⟨m3, rfl⟩ := Int.eq_ofNat_of_zero_le q3.1
 obtain ⟨u4, y4, e4, t4⟩ := hf 4 _ rfl
 obtain rfl : c4 = u4 := by simpa using e4
 obtain ⟨a4, x4, -, z4⟩ := DataW.trod_int Tryd.underlying36 t4
 obtain rfl : c4 = _ := by simpa using x4
 have q4 := bounds_u32 z4
 obtain ⟨m4, rfl⟩ := Int.eq_ofNat_of_zero_le q4.1
 obtain ⟨u5, y5, e5, t5⟩ := hf 5 _ rfl
 obtain rfl : c5 = u5 := by simpa using e5
 obtain ⟨a5, x5, -, z5⟩ := DataW.trod_int Tryd.underlying36 t5
 obtain rfl : c5 = _ := by simpa using x5
 have q5 := bounds_u32 z5
 obtain ⟨m5, rfl⟩ := Int.eq_ofNat_of_zero_le q5.1
 obtain ⟨u6, y6, e6, t6⟩ := hf 6 _ rfl
 obtain rfl : c6 = u6 := by simpa using e6
 obtain ⟨a6, x6, -, z6⟩ := DataW.trod_int Tryd.underlying22 t6
 obtain rfl : c6 = _ := by simpa using x6
 have q6 := bounds_u64 z6
 obtain ⟨m6, rfl⟩ := Int.eq_ofNat_of_zero_le q6.1
 obtain ⟨u7, y7, e7, t7⟩ := hf 7 _ rfl
 obtain rfl : c7 = u7 := by simpa using e7
 obtain ⟨a7, x7, -, z7⟩ := DataW.trod_int Tryd.underlying22 t7
 obtain rfl : c7 = _ := by simpa using x7
 have q7 := bounds_u64 z7
 obtain ⟨m7, rfl⟩ := Int.eq_ofNat_of_zero_le q7.1
 obtain ⟨u8, y8, e8, t8⟩ := hf 8 _ rfl
 obtain rfl : c8 = u8 := by simpa using e8
 obtain ⟨a8, x8, -, z8⟩ := DataW.trod_int Tryd.underlying22 t8
 obtain rfl : c8 = _ := by simpa using x8
 have q8 := bounds_u64 z8
 obtain ⟨m8, rfl⟩ := Int.eq_ofNat_of_zero_le q8.1
 obtain ⟨u9, y9, e9, t9⟩ := hf 9 _ rfl
 obtain rfl : c9 = u9 := by simpa using e9
 obtain ⟨l9, A9, k9, rfl, r9, g9, j9⟩ := CJ t9
 exact ⟨⟨m0, m1, m2, m3, m4, m5, m6, m7, m8, l9, A9, k9⟩, rfl, ⟨r9, g9, j9, z0, by show m1 < _; omega, by show m2 < _; omega, by show m3 < _; omega, by show m4 < _; omega, by show m5 < _; omega, by show m6 < _; omega, by show m7 < _; omega, by show m8 < _; omega⟩⟩
theorem Ll {r : Reach} {b0 : Nat} {v : Value} {d : DataW H} {p : List MemPlace} (hv : Value.okWide Tryd.prog w r b0 26 v) (ht : DataW.Trod enc Tryd.prog w base spare held 26 v d p) : ∃ x : dN, v = x.val ∧ x.At w := by
 obtain ⟨cs, rfl, hsz⟩ := okWide_struct Tryd.underlying26 hv
 obtain ⟨fuel, h0⟩ := ht
 have h : DataW.trod enc Tryd.prog w base spare held fuel 26 cs.toList = some (d, p) := h0
 obtain ⟨l, rfl⟩ : ∃ l : List Value, cs = l.toArray := ⟨cs.toList, by simp⟩
 simp only [List.toList_toArray] at h
 obtain ⟨hl, n, hf⟩ := xU Tryd.underlying26 (by kernel_rfl) (by kernel_rfl) h
 obtain ⟨c0, c1, c2, c3, c4, c5, c6, c7, c8, rfl⟩ := list9 hl
 obtain ⟨u0, y0, e0, t0⟩ := hf 0 _ rfl
 obtain rfl : c0 = u0 := by simpa using e0
 obtain ⟨b0_, x0, -⟩ := DataW.trod_bool Tryd.underlying4 t0
 obtain rfl : c0 = .bool b0_ := by simpa using x0
 obtain ⟨u1, y1, e1, t1⟩ := hf 1 _ rfl
 obtain rfl : c1 = u1 := by simpa using e1
 obtain ⟨b1, x1, -⟩ := DataW.trod_bool Tryd.underlying4 t1
 obtain rfl : c1 = .bool b1 := by simpa using x1
 obtain ⟨u2, y2, e2, t2⟩ := hf 2 _ rfl
 obtain rfl : c2 = u2 := by simpa using e2
 obtain ⟨a2, x2, -, z2⟩ := DataW.trod_int Tryd.underlying5 t2
 obtain rfl : c2 = _ := by simpa using x2
 have q2 := bounds_u8 z2
 obtain ⟨m2, rfl⟩ := Int.eq_ofNat_of_zero_le q2.1
 obtain ⟨u3, y3, e3, t3⟩ := hf 3 _ rfl
 obtain rfl : c3 = u3 := by simpa using e3
 obtain ⟨a3, x3, -, z3⟩ := DataW.trod_int Tryd.underlying5 t3
 obtain rfl : c3 = _ := by simpa using x3
 have q3 := bounds_u8 z3
 obtain ⟨m3, rfl⟩ := Int.eq_ofNat_of_zero_le q3.1
 obtain ⟨u4, y4, e4, t4⟩ := hf 4 _ rfl
 obtain rfl : c4 = u4 := by simpa using e4
 obtain ⟨a4, x4, -, z4⟩ := DataW.trod_int Tryd.underlying3 t4
 obtain rfl : c4 = _ := by simpa using x4
 have q4 := bounds_i64 z4
 obtain ⟨u5, y5, e5, t5⟩ := hf 5 _ rfl
 obtain rfl : c5 = u5 := by simpa using e5
 obtain ⟨a5, x5, -, z5⟩ := DataW.trod_int Tryd.underlying3 t5
 obtain rfl : c5 = _ := by simpa using x5
 have q5 := bounds_i64 z5
 obtain ⟨u6, y6, e6, t6⟩ := hf 6 _ rfl
 obtain rfl : c6 = u6 := by simpa using e6
 obtain ⟨a6, x6, -, z6⟩ := DataW.trod_int Tryd.underlying22 t6
 obtain rfl : c6 = _ := by simpa using x6
 have q6 := bounds_u64 z6
 obtain ⟨m6, rfl⟩ := Int.eq_ofNat_of_zero_le q6.1
 obtain ⟨u7, y7, e7, t7⟩ := hf 7 _ rfl
 obtain rfl : c7 = u7 := by simpa using e7
 obtain ⟨l7, A7, k7, rfl, r7, v7, g7, j7⟩ := open_row (α := jE) Tryd.underlying23 (k := 7) (by kernel_rfl) (by omega) (fun _ => rfl) (fun n cs x hx => Lj hx) t7
 obtain ⟨u8, y8, e8, t8⟩ := hf 8 _ rfl
 obtain rfl : c8 = u8 := by simpa using e8
 obtain ⟨l8, A8, k8, rfl, r8, v8, g8, j8⟩ := open_row (α := fP) Tryd.underlying24 (k := 10) (by kernel_rfl) (by omega) (fun _ => rfl) (fun n cs x hx => JX hx) t8
 exact ⟨⟨b0_, b1, m2, m3, a4, a5, m6, l7, A7, k7, l8, A8, k8⟩, rfl, ⟨r7, r8, v7, v8, g7, j7, g8, j8, by show m2 < _; omega, by show m3 < _; omega, by show m6 < _; omega⟩⟩
end
end Go.Proofs.YtdgehpocmfjbiaaDoor
