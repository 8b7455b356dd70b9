/- spec.File and laws.fileOf. · laws.fileOf. · A struct by value, opened: each field's own reading, whatever the number of one-cell fields. · Arguments,  -/
import Derived.Test.YtdgehpocmfjbiaaDoorUg
import Derived.Test.YtdgehpocmfjbiaaDoorRows
import Derived.WalkKit
import Derived.ProofKit
import Derived.OpenShut
import Derived.ShutString
import Derived.ChangeOld
import Derived.Below
import Derived.Deep.Slices
import Derived.Deep.Fields
set_option linter.unusedVariables false
set_option linter.unusedSimpArgs false
set_option maxRecDepth 100000
set_option maxHeartbeats 2000000
namespace Go.Proofs.YtdgehpocmfjbiaaDoor
open Go.RowKit

abbrev dh := fun z1 (x : dJ) => ((z1, .cells #[.bool x.wide, .bool x.big, aV x.abi, aV x.aC, .int .i64 x.ty, .int .i64 x.machine, aJ x.entry, .slice x.A x.ss.length x.c, .slice x.B x.ps.length x.d] 26 (0, 0)) : Nat × Obj)
abbrev fA := fun z1 (x : dJ) gl bU => ([(1, aG z1), (5, aB (fB x.wide)), (8, aH gl (x.ps.length + 2) bU)] : Slots)
abbrev Dn := fun z1 (x : dJ) gl bU bg i bc pg pc z10 => ((fA z1 x gl bU) ++ [(9, aB x.img.at0), (10, aH bg ((jc x i).length) bc), (11, aH pg i pc), (12, aH (z10 + 2) 0 0), (45, .slice x.A x.ss.length x.c), (46, aB x.ss.length), (47, aB i)] : Slots)
abbrev uT := fun z13 (m1 : jH) => ((z13, .cells #[aY m1.ty, aY m1.flags, aJ m1.bJ, aJ m1.bK, aJ m1.bP, aJ m1.align, .slice m1.A m1.data.length m1.c] 57 (0, 0)) : Nat × Obj)
abbrev yG := fun z1 (x : dJ) gl bU bg i bc z10 z13 => ((fA z1 x gl bU) ++ [(9, aB x.img.at0), (10, aH bg ((jc x i).length) bc), (12, aH (z10 + 2) 0 0), (14, aG z13), (45, .slice x.A x.ss.length x.c), (46, aB x.ss.length), (47, aB i)] : Slots)
abbrev Dl := fun z1 (x : dJ) gl bU g3 i (m1 : jH) cap3 g2 cap2 z10 => ((fA z1 x gl bU) ++ [(9, aB x.img.at0), (10, aH g3 (((jc x i).length) + m1.data.length) cap3), (11, aH g2 (i + 1) cap2), (12, aH (z10 + 2) 0 0), (45, .slice x.A x.ss.length x.c), (46, aB x.ss.length)] : Slots)
abbrev lH := fun z1 (x : dJ) gl bU bg gt bW i bc pg pc => ((fA z1 x gl bU) ++ [(9, aB x.img.at0), (10, aH bg ((fQ x gt bW i).length) bc), (11, aH pg x.ss.length pc)] : Slots)
abbrev kW := fun z28 (x : dJ) gt bW i => ((z28, .cells #[aB (x.img.at0 + (fQ x gt bW i).length)] 3 (0, 0)) : Nat × Obj)
abbrev qA := fun z1 (x : dJ) gl bU bg gt bW i bc pg pc g5 cap5 ng nc z26 => ((lH z1 x gl bU bg gt bW i bc pg pc) ++ [(12, aH g5 (i + 1) cap5), (15, aH ng i nc), (17, aG z26), (64, aH gl (x.ps.length + 2) bU), (65, aB (x.ps.length + 2)), (66, aB i)] : Slots)
abbrev uS := fun z1 (x : dJ) gl bU cg gt bW i cc pg pc rg rc => ((fA z1 x gl bU) ++ [(9, aB x.img.at0), (10, aH cg ((fQ x gt bW (i + 1)).length) cc), (11, aH pg x.ss.length pc), (12, aH rg (i + 1) rc)] : Slots)
abbrev uy := fun z1 (x : dJ) gl bU cg gt bW i cc pg pc rg rc g10 yj => ((uS z1 x gl bU cg gt bW i cc pg pc rg rc) ++ [(15, aH g10 (i + 1) yj), (64, aH gl (x.ps.length + 2) bU), (65, aB (x.ps.length + 2))] : Slots)
abbrev qQ := fun z1 (x : dJ) gl bU bg gt bW bc pg pc qg qc => ((fA z1 x gl bU) ++ [(9, aB x.img.at0), (10, aH bg ((fQ x gt bW (x.ps.length + 2)).length) bc), (11, aH pg x.ss.length pc), (12, aH qg (x.ps.length + 2) qc)] : Slots)
abbrev jF := fun z1 gl (x : dJ) bU bg gt bW bc pg pc qg qc gp iK => ([(1, aG z1), (8, aH gl (x.ps.length + 2) bU), (10, aH bg ((fQ x gt bW (x.ps.length + 2)).length) bc), (11, aH pg x.ss.length pc), (12, aH qg (x.ps.length + 2) qc), (19, aH gp x.img.names.length iK)] : Slots)
abbrev xw := fun z1 gl (x : dJ) bU bg gt bW bc pg pc qg qc gp iK ug i uc => ((jF z1 gl x bU bg gt bW bc pg pc qg qc gp iK) ++ [(20, aH ug ((jK x i).length) uc), (115, .slice x.A x.ss.length x.c), (116, aB x.ss.length), (117, aB i)] : Slots)
abbrev uz := fun z48 (m12 : jH) => ((z48, .cells #[aY m12.ty, aY m12.flags, aJ m12.bJ, aJ m12.bK, aJ m12.bP, aJ m12.align, .slice m12.A m12.data.length m12.c] 57 (0, 0)) : Nat × Obj)
abbrev BL := fun z1 gl (x : dJ) bU bg gt bW bc pg pc qg qc gp iK i ug uc (m12 : jH) => ((jF z1 gl x bU bg gt bW bc pg pc qg qc gp iK) ++ [(115, .slice x.A x.ss.length x.c), (116, aB x.ss.length), (117, aB i), (122, aH ug ((jK x i).length) uc), (123, .agg #[.bool x.wide, .bool x.big, aV x.abi, aV x.aC, .int .i64 x.ty, .int .i64 x.machine, aJ x.entry, .slice x.A x.ss.length x.c, .slice x.B x.ps.length x.d]), (124, .agg #[aY m12.ty, aY m12.flags, aJ m12.bJ, aJ m12.bK, aJ m12.bP, aJ m12.align, .slice m12.A m12.data.length m12.c])] : Slots)
abbrev jE := fun z1 pg (x : dJ) pc qg qc gp iK => ([(1, aG z1), (11, aH pg x.ss.length pc), (12, aH qg (x.ps.length + 2) qc), (19, aH gp x.img.names.length iK)] : Slots)
abbrev xu := fun z1 pg (x : dJ) pc qg qc gp iK ug i uc gl bU => ((jE z1 pg x pc qg qc gp iK) ++ [(20, aH ug ((lg x i).length) uc), (135, aH gl (x.ps.length + 2) bU), (136, aB (x.ps.length + 2)), (137, aB i)] : Slots)
abbrev Ih := fun z1 pg (x : dJ) pc qg qc gp iK i z57 gl bU ug uc => ((jE z1 pg x pc qg qc gp iK) ++ [(23, aB i), (24, aG z57), (135, aH gl (x.ps.length + 2) bU), (136, aB (x.ps.length + 2)), (137, aB i), (142, aH ug ((lg x i).length) uc), (143, .agg #[.bool x.wide, .bool x.big, aV x.abi, aV x.aC, .int .i64 x.ty, .int .i64 x.machine, aJ x.entry, .slice x.A x.ss.length x.c, .slice x.B x.ps.length x.d])] : Slots)
abbrev BM := fun (x : dJ) => ((143, .agg #[.bool x.wide, .bool x.big, aV x.abi, aV x.aC, .int .i64 x.ty, .int .i64 x.machine, aJ x.entry, .slice x.A x.ss.length x.c, .slice x.B x.ps.length x.d]) : Nat × Value)
theorem Np (x : dJ) (w0 : World) (h : x.At w0) (ok : x.Ok) :
  Calls Tryd.prog 36 #[x.val] w0 fun e w' => ∃ g cap cur g2 cap2 qE g3 cap3 qR, e = .returned (.tuple #[aH g x.img.file.length cap, aH g2 x.ss.length cap2, aH g3 (x.ps.length + 2) cap3]) ∧ Below w0.heap.size w0 w' ∧
   Own w0.heap.size w' 5 1 g x.img.file.length cap cur (x.img.file.map Bv) ∧ Own w0.heap.size w' 3 1 g2 x.ss.length cap2 qE ((List.range x.ss.length).map (fun j => o7 (x.img.jI j))) ∧ Own w0.heap.size w' 3 1 g3 (x.ps.length + 2) cap3 qR ((List.range (x.ps.length + 2)).map (fun j => o7 (x.img.iL j))) := by
 have rP := dJ.ok ok h
 have hk1 := ok.cZ; have hk2 := ok.parts; have hk3 := rP.pI; have hk4 := rP.zk; have hk5 := rP.zl; have hk6 := rP.Iu; have hk7 := rP.Dq; have hk8 := rP.length_le
 have hsz : fB x.wide ≤ 64 ∧ gI x.wide ≤ 64 ∧ gQ x.wide ≤ 64 := by unfold fB gI gQ; cases x.wide <;> decide
 have hat0 := OH x
 have hmul : gI x.wide * x.ss.length ≤ 64 * 100 := Nat.mul_le_mul hsz.2.1 hk1
 obtain ⟨w, hw⟩ : ∃ w, w0 = w := ⟨_, rfl⟩
 have HM : Mm [] w0 w [] := hw ▸ Mm.start w0
 conv => arg 4; rw [hw]
 clear hw
 refine bV Tryd.func36 rfl Tryd.ntmps36 [(0, .agg #[.bool x.wide, .bool x.big, aV x.abi, aV x.aC, .int .i64 x.ty, .int .i64 x.machine, aJ x.entry, .slice x.A x.ss.length x.c, .slice x.B x.ps.length x.d])] (by kernel_rfl) (Nat.le_of_ble_eq_true rfl) ?_
 intro a HF
 refine aW ?_
 obtain ⟨z1, hz1⟩ : ∃ z, w.heap.size = z := ⟨_, rfl⟩
 refine aO HF HM hz1 4 [] [(1, aG z1)] [dh z1 x] (by kernel_rfl) fun a w HF HM => ?_
 clear hz1
 refine dK ?_
 refine wp_pure HF HM rfl 2 [[0]] [(1, aG z1), (27, .bool x.wide)] (by kernel_rfl) fun a HF => ?_
 refine bn HF (by kernel_rfl) 64 #[.bool x.wide] (by kernel_rfl) (fun w => by kernel_rfl) (Calls.mono (Fg x.wide w) ?_)
 rintro _ w1 ⟨rfl, hb⟩
 replace HM := HM.call hb
 clear hb
 refine ⟨_, rfl, ?_⟩; clear HF; intro a HF
 refine wp_pure HF HM rfl 7 [] [(1, aG z1), (5, aB (fB x.wide)), (6, aB (gI x.wide))] (by kernel_rfl) fun a HF => ?_
 refine dK ?_
 refine wp_pure HF HM rfl 1 [[0]] [(1, aG z1), (5, aB (fB x.wide)), (6, aB (gI x.wide)), (32, .agg #[.bool x.wide, .bool x.big, aV x.abi, aV x.aC, .int .i64 x.ty, .int .i64 x.machine, aJ x.entry, .slice x.A x.ss.length x.c, .slice x.B x.ps.length x.d])] (by kernel_rfl) fun a HF => ?_
 refine bn HF (by kernel_rfl) 38 #[.agg #[.bool x.wide, .bool x.big, aV x.abi, aV x.aC, .int .i64 x.ty, .int .i64 x.machine, aJ x.entry, .slice x.A x.ss.length x.c, .slice x.B x.ps.length x.d]] (by kernel_rfl) (fun w => by kernel_rfl) (Calls.mono (Oh x w1 (h.below HM.below) (by omega) (by omega)) ?_)
 rintro _ w2 ⟨gl, bU, curl, gt, bW, iJ, rfl, hb, hol, hot, hne⟩
 replace HM : Mm [] w0 w2 [(gl, .cells curl 46 (0, 0)), (gt, .cells iJ 5 (0, 0)), dh z1 x] := HM.push2 hb hot.new hot.obj hol.new hol.obj hne
 have hal := yI x gt bW
 refine ⟨_, rfl, ?_⟩; clear HF; intro a HF
 refine wp_pure HF HM rfl 1 [] [(1, aG z1), (5, aB (fB x.wide)), (6, aB (gI x.wide)), (8, aH gl (x.ps.length + 2) bU)] (by kernel_rfl) fun a HF => ?_
 refine dK ?_
 refine wp_pure HF HM rfl 5 [[0]] ((fA z1 x gl bU) ++ [(34, aB (fB x.wide)), (35, aB (gI x.wide)), (38, aB x.ss.length)]) (by kernel_rfl) fun a HF => ?_
 refine wp_pure HF HM rfl 1 [] ((fA z1 x gl bU) ++ [(34, aB (fB x.wide)), (39, aA (IntKind.i64.wrap ((((gI x.wide) : Nat) : Int) * ((x.ss.length : Nat) : Int))))]) (by kernel_rfl) fun a HF => ?_
 rw [show IntKind.i64.wrap ((((gI x.wide) : Nat) : Int) * ((x.ss.length : Nat) : Int)) = ((((gI x.wide * x.ss.length)) : Nat) : Int) from (IntWalk.i64_in _ (by rw [← Int.natCast_mul]; omega)).trans (Int.natCast_mul _ _).symm] at HF
 refine wp_pure HF HM rfl 1 [] ((fA z1 x gl bU) ++ [(40, aA (IntKind.i64.wrap ((((fB x.wide) : Nat) : Int) + ((((gI x.wide * x.ss.length)) : Nat) : Int))))]) (by kernel_rfl) fun a HF => ?_
 rw [show IntKind.i64.wrap ((((fB x.wide) : Nat) : Int) + ((((gI x.wide * x.ss.length)) : Nat) : Int)) = ((x.img.at0 : Nat) : Int) from (IntWalk.i64_in _ (by omega)).trans (by omega)] at HF
 refine wp_pure HF HM rfl 1 [] ((fA z1 x gl bU) ++ [(9, aB x.img.at0)]) (by kernel_rfl) fun a HF => ?_
 refine dK ?_
 obtain ⟨z10, BG⟩ : ∃ z, w2.heap.size = z := ⟨_, rfl⟩
 refine aO HF HM BG 6 [] ((fA z1 x gl bU) ++ [(9, aB x.img.at0), (10, aH z10 0 0), (11, aH (z10 + 1) 0 0), (12, aH (z10 + 2) 0 0)]) [((z10 + 2), .cells #[] 3 (0, 0)), ((z10 + 1), .cells #[] 3 (0, 0)), (z10, .cells #[] 5 (0, 0)), (gl, .cells curl 46 (0, 0)), (gt, .cells iJ 5 (0, 0)), dh z1 x] (by kernel_rfl) fun a w HF HM => ?_
 clear BG
 refine aI ?_
 refine wp_seq ?_
 refine aW ?_
 refine wp_pure HF HM rfl 4 [[0]] ((fA z1 x gl bU) ++ [(9, aB x.img.at0), (10, aH z10 0 0), (11, aH (z10 + 1) 0 0), (12, aH (z10 + 2) 0 0), (45, .slice x.A x.ss.length x.c), (46, aB x.ss.length), (47, aA 0)]) (by kernel_rfl) fun a HF => ?_
 refine aI ?_
 refine wp_block ?_
 refine oU (x.ss.length) (fun i a w => (∃ bg : Nat, ∃ bc : Nat, ∃ bk : Array Value, ∃ pg : Nat, ∃ pc : Nat, ∃ pk : Array Value, (bk.toList.take (((jc x i).length) * 1) = (jc x i).map Bv) ∧ (bk.size = bc * 1) ∧ (((jc x i).length) ≤ bc) ∧ (bc ≤ maxLen) ∧ (pk.toList.take (i * 1) = (List.range i).map (fun j => o7 (x.img.jI j))) ∧ (pk.size = pc * 1) ∧ (i ≤ pc) ∧ (pc ≤ maxLen) ∧ Mm [] w0 w [(pg, .cells pk 3 (0, 0)), (bg, .cells bk 5 (0, 0)), ((z10 + 2), .cells #[] 3 (0, 0)), (gl, .cells curl 46 (0, 0)), (gt, .cells iJ 5 (0, 0)), dh z1 x] ∧ Fr 159 a (Dn z1 x gl bU bg i bc pg pc z10))) ?_ ?_ ?_
 ·exact ⟨z10, 0, #[], (z10 + 1), 0, #[], rfl, rfl, Nat.le_refl _, by unfold maxLen; omega, rfl, rfl, Nat.le_refl _, by unfold maxLen; omega, (HM.pick [1, 2, 0, 3, 4, 5] [((z10 + 1), .cells #[] 3 (0, 0)), (z10, .cells #[] 5 (0, 0)), ((z10 + 2), .cells #[] 3 (0, 0)), (gl, .cells curl 46 (0, 0)), (gt, .cells iJ 5 (0, 0)), dh z1 x] rfl (by decide)), HF.sub ((fA z1 x gl bU) ++ [(9, aB x.img.at0), (10, aH z10 ((jc x 0).length) 0), (11, aH (z10 + 1) 0 0), (12, aH (z10 + 2) 0 0), (45, .slice x.A x.ss.length x.c), (46, aB x.ss.length), (47, aA 0)]) (by kernel_rfl)⟩
 ·intro i a w KX hi hI KR
  obtain ⟨bg, bc, bk, pg, pc, pk, yT, FU, Dp, Ir, ptk, psz, pnc, pcm, HM, HF⟩ := hI
  have hpl := IU x i; have hsl := Ld x i
  refine aW ?_
  refine wp_pure HF HM rfl 1 [] ((Dn z1 x gl bU bg i bc pg pc z10) ++ [(48, .bool (decide (((i : Nat) : Int) < ((x.ss.length : Nat) : Int))))]) (by kernel_rfl) fun a HF => ?_
  refine aI ?_
  refine wp_seq ?_
  rw [show decide (((i : Nat) : Int) < ((x.ss.length : Nat) : Int)) = true from dM (by omega)] at HF
  refine bF HF rfl ?_
  refine wp_skip ?_
  repeat first | refine aS ?_ | refine aU ?_
  refine wp_seq ?_
  refine wp_block ?_
  refine aW ?_
  obtain ⟨m1, hm1⟩ : ∃ m, x.ss[i]? = some m := ⟨_, List.getElem?_eq_getElem (by omega)⟩
  have OG := ok.seg m1 (List.mem_of_getElem? hm1)
  have hmd_m1 := OG.data
  have H7 := h.seg m1 (List.mem_of_getElem? hm1)
  have hmt_m1 := H7.ty; have hmf_m1 := H7.flags
  refine dP HF (by kernel_rfl) (.pointer (Option.map (fun q : Addr => q.add (i * 7)) x.A)) (by kernel_rfl) (iU Tryd.underlying23 (by kernel_rfl) rfl i rfl rfl (by omega) (ny (lC (f := jH.cells) (k := 7) (fun _ => rfl) (HM.row h.cZ) i hm1) (Nat.zero_lt_succ _))) fun a HF => ?_
  refine dP HF (by kernel_rfl) (.agg #[aY m1.ty, aY m1.flags, aJ m1.bJ, aJ m1.bK, aJ m1.bP, aJ m1.align, .slice m1.A m1.data.length m1.c]) (by kernel_rfl) (lQ rfl rfl (lC (f := jH.cells) (k := 7) (fun _ => rfl) (HM.row h.cZ) i hm1) (Nat.zero_lt_succ _) Tryd.underlying57 rfl (by kernel_rfl)) fun a HF => ?_
  obtain ⟨z13, Ht⟩ : ∃ z, w.heap.size = z := ⟨_, rfl⟩
  refine aO HF HM Ht 2 [[6]] ((fA z1 x gl bU) ++ [(9, aB x.img.at0), (10, aH bg ((jc x i).length) bc), (11, aH pg i pc), (12, aH (z10 + 2) 0 0), (14, aG z13), (45, .slice x.A x.ss.length x.c), (46, aB x.ss.length), (47, aB i)]) [uT z13 m1, (pg, .cells pk 3 (0, 0)), (bg, .cells bk 5 (0, 0)), ((z10 + 2), .cells #[] 3 (0, 0)), (gl, .cells curl 46 (0, 0)), (gt, .cells iJ 5 (0, 0)), dh z1 x] (by kernel_rfl) fun a w HF HM => ?_
  clear Ht
  refine dK ?_
  refine wp_pure HF HM rfl 5 [] ((yG z1 x gl bU bg i bc z10 z13) ++ [(51, aH pg i pc), (55, aA (IntKind.i64.wrap (((x.img.at0 : Nat) : Int) + ((((jc x i).length) : Nat) : Int))))]) (by kernel_rfl) fun a HF => ?_
  rw [show IntKind.i64.wrap (((x.img.at0 : Nat) : Int) + ((((jc x i).length) : Nat) : Int)) = (((x.img.jI i) : Nat) : Int) from (IntWalk.i64_in _ (by omega)).trans (by omega)] at HF
  obtain ⟨sO, BF⟩ : ∃ z, w.heap.size = z := ⟨_, rfl⟩
  refine aO HF HM BF 1 [] ((yG z1 x gl bU bg i bc z10 z13) ++ [(51, aH pg i pc), (56, aH sO 1 1)]) [(sO, .cells #[aB (x.img.jI i)] 3 (0, 0)), uT z13 m1, (pg, .cells pk 3 (0, 0)), (bg, .cells bk 5 (0, 0)), ((z10 + 2), .cells #[] 3 (0, 0)), (gl, .cells curl 46 (0, 0)), (gt, .cells iJ 5 (0, 0)), dh z1 x] (by kernel_rfl) fun a w HF HM => ?_
  clear BF
  refine iF HF HM rfl _ _ 66 66 rfl rfl 3 (z := aA 0) (size := 1) (bytes := 8) Tryd.underlying66 (by kernel_rfl) rfl (by decide) 2 pg i pc pk rfl rfl pnc pcm psz ((List.range i).map (fun j => o7 (x.img.jI j))) ptk (aH sO 1 1) 1 [aB (x.img.jI i)] rfl (mX Tryd.underlying66 rfl (by decide) (HM.rowAt (i := 0) rfl) (pG rfl)) (by unfold maxLen; omega) (by omega) ?_
  intro a w3 g2 cap2 qE bI DC hsz2 yD hcm2 HF2; clear HF HM
  replace DC : qE.toList.take ((i + 1) * 1) = (List.range (i + 1)).map (fun j => o7 (x.img.jI j)) := DC.trans (D7 i)
  have HM : Mm [] w0 w3 [(sO, .cells #[aB (x.img.jI i)] 3 (0, 0)), uT z13 m1, (g2, .cells qE 3 (0, 0)), (bg, .cells bk 5 (0, 0)), ((z10 + 2), .cells #[] 3 (0, 0)), (gl, .cells curl 46 (0, 0)), (gt, .cells iJ 5 (0, 0)), dh z1 x] := bI
  have HF := HF2.sub ((yG z1 x gl bU bg i bc z10 z13) ++ [(57, aH g2 (i + 1) cap2)]) (by kernel_rfl); clear bI HF2
  refine wp_pure HF HM rfl 1 [] ((fA z1 x gl bU) ++ [(9, aB x.img.at0), (10, aH bg ((jc x i).length) bc), (11, aH g2 (i + 1) cap2), (12, aH (z10 + 2) 0 0), (14, aG z13), (45, .slice x.A x.ss.length x.c), (46, aB x.ss.length), (47, aB i)]) (by kernel_rfl) fun a HF => ?_
  refine aI ?_
  refine wp_region_lit ?_
  refine wp_pure HF HM rfl 3 [[6]] ((fA z1 x gl bU) ++ [(9, aB x.img.at0), (11, aH g2 (i + 1) cap2), (12, aH (z10 + 2) 0 0), (45, .slice x.A x.ss.length x.c), (46, aB x.ss.length), (47, aB i), (58, aH bg ((jc x i).length) bc), (60, .slice m1.A m1.data.length m1.c)]) (by kernel_rfl) fun a HF => ?_
  refine iF HF HM rfl _ _ 33 33 rfl rfl 5 (z := aN 0) (size := 1) (bytes := 1) Tryd.underlying33 (by kernel_rfl) rfl (by decide) 3 bg ((jc x i).length) bc bk rfl rfl Dp Ir FU ((jc x i).map Bv) yT (.slice m1.A m1.data.length m1.c) m1.data.length (m1.data.map Bv) rfl (mX Tryd.underlying33 (by simp) (by decide) (HM.row H7.row) (qp _)) (by unfold maxLen; omega) (by omega) ?_
  intro a w4 g3 cap3 qR bI yC hsz3 EX H_ HF2; clear HF HM
  replace yC : qR.toList.take ((((jc x i).length) + m1.data.length) * 1) = (jc x (i + 1)).map Bv := yC.trans (by rw [Di hm1, List.map_append])
  have HM : Mm [] w0 w4 [(sO, .cells #[aB (x.img.jI i)] 3 (0, 0)), uT z13 m1, (g2, .cells qE 3 (0, 0)), (g3, .cells qR 5 (0, 0)), ((z10 + 2), .cells #[] 3 (0, 0)), (gl, .cells curl 46 (0, 0)), (gt, .cells iJ 5 (0, 0)), dh z1 x] := bI
  have HF := HF2.sub ((fA z1 x gl bU) ++ [(9, aB x.img.at0), (11, aH g2 (i + 1) cap2), (12, aH (z10 + 2) 0 0), (45, .slice x.A x.ss.length x.c), (46, aB x.ss.length), (47, aB i), (61, aH g3 (((jc x i).length) + m1.data.length) cap3)]) (by kernel_rfl); clear bI HF2
  refine wp_pure HF HM rfl 1 [] ((Dl z1 x gl bU g3 i m1 cap3 g2 cap2 z10) ++ [(47, aB i)]) (by kernel_rfl) fun a HF => ?_
  refine wpList_nil ?_
  repeat first | refine aS ?_ | refine aU ?_
  refine wp_region_lit ?_
  refine wp_pure HF HM rfl 1 [] ((Dl z1 x gl bU g3 i m1 cap3 g2 cap2 z10) ++ [(62, aA (IntKind.i64.wrap (((i : Nat) : Int) + 1)))]) (by kernel_rfl) fun a HF => ?_
  rw [show IntKind.i64.wrap (((i : Nat) : Int) + 1) = (((i + 1) : Nat) : Int) from (IntWalk.i64_in _ (by omega)).trans (by omega)] at HF
  refine wp_pure HF HM rfl 1 [] ((fA z1 x gl bU) ++ [(9, aB x.img.at0), (10, aH g3 (((jc x i).length) + m1.data.length) cap3), (11, aH g2 (i + 1) cap2), (12, aH (z10 + 2) 0 0), (45, .slice x.A x.ss.length x.c), (46, aB x.ss.length), (47, aB (i + 1))]) (by kernel_rfl) fun a HF => ?_
  refine wpList_nil ?_
  repeat first | refine aS ?_ | refine aU ?_
  rw [show (((jc x i).length) + m1.data.length) = ((jc x (i + 1)).length) from by rw [Di hm1, List.length_append]] at HF yC EX
  exact KR _ _ (⟨g3, cap3, qR, g2, cap2, qE, yC, hsz3, EX, H_, DC, hsz2, yD, hcm2, (HM.pick [2, 3, 4, 5, 6, 7] [(g2, .cells qE 3 (0, 0)), (g3, .cells qR 5 (0, 0)), ((z10 + 2), .cells #[] 3 (0, 0)), (gl, .cells curl 46 (0, 0)), (gt, .cells iJ 5 (0, 0)), dh z1 x] rfl (by decide)), HF.sub ((fA z1 x gl bU) ++ [(9, aB x.img.at0), (10, aH g3 ((jc x (i + 1)).length) cap3), (11, aH g2 (i + 1) cap2), (12, aH (z10 + 2) 0 0), (45, .slice x.A x.ss.length x.c), (46, aB x.ss.length), (47, aB (i + 1))]) (by kernel_rfl)⟩)
 ·intro a w KX hI
  obtain ⟨bg, bc, bk, pg, pc, pk, yT, FU, Dp, Ir, ptk, psz, pnc, pcm, HM, HF⟩ := hI
  refine aW ?_
  refine wp_pure HF HM rfl 1 [] ((fA z1 x gl bU) ++ [(9, aB x.img.at0), (10, aH bg ((jc x x.ss.length).length) bc), (11, aH pg x.ss.length pc), (12, aH (z10 + 2) 0 0), (45, .slice x.A x.ss.length x.c), (46, aB x.ss.length), (47, aB x.ss.length), (48, .bool (decide (((x.ss.length : Nat) : Int) < ((x.ss.length : Nat) : Int))))]) (by kernel_rfl) fun a HF => ?_
  refine aI ?_
  refine wp_seq ?_
  rw [show decide (((x.ss.length : Nat) : Int) < ((x.ss.length : Nat) : Int)) = false from bZ (by omega)] at HF
  refine bf HF rfl ?_
  refine wp_exit ?_
  repeat (first | refine iW ?_ | refine ku rfl ?_)
  refine kH ?_
  repeat first | refine aS ?_ | refine aU ?_
  refine aW ?_
  obtain ⟨z22, hz22⟩ : ∃ z, w.heap.size = z := ⟨_, rfl⟩
  refine aO HF HM hz22 2 [] ((fA z1 x gl bU) ++ [(9, aB x.img.at0), (10, aH bg ((jc x x.ss.length).length) bc), (11, aH pg x.ss.length pc), (12, aH (z10 + 2) 0 0), (15, aH z22 0 0)]) [(z22, .cells #[] 9 (0, 0)), (pg, .cells pk 3 (0, 0)), (bg, .cells bk 5 (0, 0)), ((z10 + 2), .cells #[] 3 (0, 0)), (gl, .cells curl 46 (0, 0)), (gt, .cells iJ 5 (0, 0)), dh z1 x] (by kernel_rfl) fun a w HF HM => ?_
  clear hz22
  refine aI ?_
  refine wp_seq ?_
  refine aW ?_
  refine wp_pure HF HM rfl 3 [] ((fA z1 x gl bU) ++ [(9, aB x.img.at0), (10, aH bg ((jc x x.ss.length).length) bc), (11, aH pg x.ss.length pc), (12, aH (z10 + 2) 0 0), (15, aH z22 0 0), (64, aH gl (x.ps.length + 2) bU), (65, aB (x.ps.length + 2)), (66, aA 0)]) (by kernel_rfl) fun a HF => ?_
  refine aI ?_
  refine wp_block ?_
  refine oU ((x.ps.length + 2)) (fun i a w => (∃ bg : Nat, ∃ bc : Nat, ∃ bk : Array Value, ∃ qg : Nat, ∃ qc : Nat, ∃ qk : Array Value, ∃ ng : Nat, ∃ nc : Nat, ∃ nk : Array Value, (bk.toList.take (((fQ x gt bW i).length) * 1) = (fQ x gt bW i).map Bv) ∧ (bk.size = bc * 1) ∧ (((fQ x gt bW i).length) ≤ bc) ∧ (bc ≤ maxLen) ∧ (qk.toList.take (i * 1) = (List.range i).map (fun j => o7 (x.img.iL j))) ∧ (qk.size = qc * 1) ∧ (i ≤ qc) ∧ (qc ≤ maxLen) ∧ (nk.toList.take (i * 1) = ((allM x gt bW).take i).map (fun p => vg p.name)) ∧ (nk.size = nc * 1) ∧ (i ≤ nc) ∧ (nc ≤ maxLen) ∧ Mm [] w0 w [(ng, .cells nk 9 (0, 0)), (qg, .cells qk 3 (0, 0)), (bg, .cells bk 5 (0, 0)), (pg, .cells pk 3 (0, 0)), (gl, .cells curl 46 (0, 0)), (gt, .cells iJ 5 (0, 0)), dh z1 x] ∧ Fr 159 a [(1, aG z1), (5, aB (fB x.wide)), (8, aH gl (x.ps.length + 2) bU), (9, aB x.img.at0), (10, aH bg ((fQ x gt bW i).length) bc), (11, aH pg x.ss.length pc), (12, aH qg i qc), (15, aH ng i nc), (64, aH gl (x.ps.length + 2) bU), (65, aB (x.ps.length + 2)), (66, aB i)])) ?_ ?_ ?_
  rw [JZ, ← KT x gt bW] at HF yT Dp
  ·exact ⟨bg, bc, bk, (z10 + 2), 0, #[], z22, 0, #[], yT, FU, Dp, Ir, rfl, rfl, Nat.le_refl _, by unfold maxLen; omega, rfl, rfl, Nat.le_refl _, by unfold maxLen; omega, (HM.pick [0, 3, 2, 1, 4, 5, 6] [(z22, .cells #[] 9 (0, 0)), ((z10 + 2), .cells #[] 3 (0, 0)), (bg, .cells bk 5 (0, 0)), (pg, .cells pk 3 (0, 0)), (gl, .cells curl 46 (0, 0)), (gt, .cells iJ 5 (0, 0)), dh z1 x] rfl (by decide)), HF.sub ((fA z1 x gl bU) ++ [(9, aB x.img.at0), (10, aH bg ((fQ x gt bW 0).length) bc), (11, aH pg x.ss.length pc), (12, aH (z10 + 2) 0 0), (15, aH z22 0 0), (64, aH gl (x.ps.length + 2) bU), (65, aB (x.ps.length + 2)), (66, aA 0)]) (by kernel_rfl)⟩
  ·intro i a w KX hi hI KR
   obtain ⟨bg, bc, bk, qg, qc, qk, ng, nc, nk, yT, FU, Dp, Ir, D8, G7, Fp, G8, ntk, nsz, nnc, ncm, HM, HF⟩ := hI
   have hsl := DL x gt bW i rP; have hsl2 := DL x gt bW (i + 1) rP; have hat9 := rP.Iu
   refine aW ?_
   refine wp_pure HF HM rfl 1 [] ((lH z1 x gl bU bg gt bW i bc pg pc) ++ [(12, aH qg i qc), (15, aH ng i nc), (64, aH gl (x.ps.length + 2) bU), (65, aB (x.ps.length + 2)), (66, aB i), (67, .bool (decide (((i : Nat) : Int) < (((x.ps.length + 2) : Nat) : Int))))]) (by kernel_rfl) fun a HF => ?_
   refine aI ?_
   refine wp_seq ?_
   rw [show decide (((i : Nat) : Int) < (((x.ps.length + 2) : Nat) : Int)) = true from dM (by omega)] at HF
   refine bF HF rfl ?_
   refine wp_skip ?_
   repeat first | refine aS ?_ | refine aU ?_
   refine wp_seq ?_
   refine wp_block ?_
   refine aW ?_
   refine wp_pure HF HM rfl 1 [] ((lH z1 x gl bU bg gt bW i bc pg pc) ++ [(12, aH qg i qc), (15, aH ng i nc), (64, aH gl (x.ps.length + 2) bU), (65, aB (x.ps.length + 2)), (66, aB i), (68, aB i)]) (by kernel_rfl) fun a HF => ?_
   obtain ⟨m4, hm4⟩ : ∃ m, (allM x gt bW)[i]? = some m := ⟨_, List.getElem?_eq_getElem (by omega)⟩
   have L9 := List.mem_of_getElem? hm4
   have BI := MC h ok m4 L9
   have hmd_m4 := BI.data; have hmt_m4 := BI.ty; have hmf_m4 := BI.flags; have hml_m4 := BI.link; have hmi_m4 := BI.info
   refine dP HF (by kernel_rfl) (.pointer (Option.map (fun q : Addr => q.add (i * 10)) (some ⟨gl, 0, none⟩))) (by kernel_rfl) (iU Tryd.underlying24 (by kernel_rfl) rfl i rfl rfl (by omega) (Option.some_ne_none _)) fun a HF => ?_
   refine dP HF (by kernel_rfl) (.agg #[.string (⟨m4.name.toArray⟩), aY m4.ty, aY m4.flags, aJ m4.addr, aY m4.link, aY m4.info, aJ m4.align, aJ m4.ent, aJ m4.size, .slice m4.A m4.data.length m4.c]) (by kernel_rfl) (lQ rfl rfl (lC (f := fK.cells) (k := 10) (fun _ => rfl) (HM.nG (i := 4) rfl hol.tk) i hm4) (Nat.zero_lt_succ _) Tryd.underlying46 rfl (by kernel_rfl)) fun a HF => ?_
   obtain ⟨z26, hz26⟩ : ∃ z, w.heap.size = z := ⟨_, rfl⟩
   refine aO HF HM hz26 3 [[7]] ((lH z1 x gl bU bg gt bW i bc pg pc) ++ [(12, aH qg i qc), (15, aH ng i nc), (16, aB i), (17, aG z26), (64, aH gl (x.ps.length + 2) bU), (65, aB (x.ps.length + 2)), (66, aB i)]) [(z26, .cells #[.string (⟨m4.name.toArray⟩), aY m4.ty, aY m4.flags, aJ m4.addr, aY m4.link, aY m4.info, aJ m4.align, aJ m4.ent, aJ m4.size, .slice m4.A m4.data.length m4.c] 46 (0, 0)), (ng, .cells nk 9 (0, 0)), (qg, .cells qk 3 (0, 0)), (bg, .cells bk 5 (0, 0)), (pg, .cells pk 3 (0, 0)), (gl, .cells curl 46 (0, 0)), (gt, .cells iJ 5 (0, 0)), dh z1 x] (by kernel_rfl) fun a w HF HM => ?_
   clear hz26
   refine dK ?_
   refine wp_pure HF HM rfl 5 [] ((lH z1 x gl bU bg gt bW i bc pg pc) ++ [(15, aH ng i nc), (16, aB i), (17, aG z26), (64, aH gl (x.ps.length + 2) bU), (65, aB (x.ps.length + 2)), (66, aB i), (71, aH qg i qc), (75, aA (IntKind.i64.wrap (((x.img.at0 : Nat) : Int) + ((((fQ x gt bW i).length) : Nat) : Int))))]) (by kernel_rfl) fun a HF => ?_
   rw [show IntKind.i64.wrap (((x.img.at0 : Nat) : Int) + ((((fQ x gt bW i).length) : Nat) : Int)) = (((x.img.at0 + (fQ x gt bW i).length) : Nat) : Int) from (IntWalk.i64_in _ (by omega)).trans (by omega)] at HF
   obtain ⟨z28, hz28⟩ : ∃ z, w.heap.size = z := ⟨_, rfl⟩
   refine aO HF HM hz28 1 [] ((lH z1 x gl bU bg gt bW i bc pg pc) ++ [(15, aH ng i nc), (16, aB i), (17, aG z26), (64, aH gl (x.ps.length + 2) bU), (65, aB (x.ps.length + 2)), (66, aB i), (71, aH qg i qc), (76, aH z28 1 1)]) [kW z28 x gt bW i, (z26, .cells #[.string (⟨m4.name.toArray⟩), aY m4.ty, aY m4.flags, aJ m4.addr, aY m4.link, aY m4.info, aJ m4.align, aJ m4.ent, aJ m4.size, .slice m4.A m4.data.length m4.c] 46 (0, 0)), (ng, .cells nk 9 (0, 0)), (qg, .cells qk 3 (0, 0)), (bg, .cells bk 5 (0, 0)), (pg, .cells pk 3 (0, 0)), (gl, .cells curl 46 (0, 0)), (gt, .cells iJ 5 (0, 0)), dh z1 x] (by kernel_rfl) fun a w HF HM => ?_
   clear hz28
   refine iF HF HM rfl _ _ 66 66 rfl rfl 3 (z := aA 0) (size := 1) (bytes := 8) Tryd.underlying66 (by kernel_rfl) rfl (by decide) 3 qg i qc qk rfl rfl Fp G8 G7 ((List.range i).map (fun j => o7 (x.img.iL j))) D8 (aH z28 1 1) 1 [aB (x.img.at0 + (fQ x gt bW i).length)] rfl (mX Tryd.underlying66 rfl (by decide) (HM.rowAt (i := 0) rfl) (pG rfl)) (by unfold maxLen; omega) (by omega) ?_
   intro a w5 g5 cap5 Aj bI Ai hsz5 EW KD HF2; clear HF HM
   have HM : Mm [] w0 w5 [kW z28 x gt bW i, (z26, .cells #[.string (⟨m4.name.toArray⟩), aY m4.ty, aY m4.flags, aJ m4.addr, aY m4.link, aY m4.info, aJ m4.align, aJ m4.ent, aJ m4.size, .slice m4.A m4.data.length m4.c] 46 (0, 0)), (ng, .cells nk 9 (0, 0)), (g5, .cells Aj 3 (0, 0)), (bg, .cells bk 5 (0, 0)), (pg, .cells pk 3 (0, 0)), (gl, .cells curl 46 (0, 0)), (gt, .cells iJ 5 (0, 0)), dh z1 x] := bI
   have HF := HF2.sub ((lH z1 x gl bU bg gt bW i bc pg pc) ++ [(15, aH ng i nc), (16, aB i), (17, aG z26), (64, aH gl (x.ps.length + 2) bU), (65, aB (x.ps.length + 2)), (66, aB i), (77, aH g5 (i + 1) cap5)]) (by kernel_rfl); clear bI HF2
   refine wp_pure HF HM rfl 1 [] ((lH z1 x gl bU bg gt bW i bc pg pc) ++ [(12, aH g5 (i + 1) cap5), (15, aH ng i nc), (16, aB i), (17, aG z26), (64, aH gl (x.ps.length + 2) bU), (65, aB (x.ps.length + 2)), (66, aB i)]) (by kernel_rfl) fun a HF => ?_
   refine aI ?_
   refine wp_seq ?_
   refine aW ?_
   refine wp_pure HF HM rfl 2 [] ((qA z1 x gl bU bg gt bW i bc pg pc g5 cap5 ng nc z26) ++ [(79, .bool (((i : Nat) : Int) == 0))]) (by kernel_rfl) fun a HF => ?_
   refine aI ?_
   refine yV (fun a w => (∃ rg : Nat, ∃ rc : Nat, ∃ rk : Array Value, (rk.toList.take ((i + 1) * 1) = (List.range (i + 1)).map (fun j => o7 (x.img.iL j))) ∧ (rk.size = rc * 1) ∧ ((i + 1) ≤ rc) ∧ (rc ≤ maxLen) ∧ Mm [] w0 w [(rg, .cells rk 3 (0, 0)), kW z28 x gt bW i, (z26, .cells #[.string (⟨m4.name.toArray⟩), aY m4.ty, aY m4.flags, aJ m4.addr, aY m4.link, aY m4.info, aJ m4.align, aJ m4.ent, aJ m4.size, .slice m4.A m4.data.length m4.c] 46 (0, 0)), (ng, .cells nk 9 (0, 0)), (bg, .cells bk 5 (0, 0)), (pg, .cells pk 3 (0, 0)), (gl, .cells curl 46 (0, 0)), (gt, .cells iJ 5 (0, 0)), dh z1 x] ∧ Fr 159 a ((lH z1 x gl bU bg gt bW i bc pg pc) ++ [(12, aH rg (i + 1) rc), (15, aH ng i nc), (17, aG z26), (64, aH gl (x.ps.length + 2) bU), (65, aB (x.ps.length + 2)), (66, aB i)]))) ?_ ?_
   ·by_cases hc6 : ((i : Nat) : Int) = 0
    ·rw [show (((i : Nat) : Int) == 0) = true from Ez (hc6)] at HF
     refine bF HF rfl ?_
     refine wp_region_lit ?_
     refine wp_pure HF HM rfl 1 [] ((qA z1 x gl bU bg gt bW i bc pg pc g5 cap5 ng nc z26) ++ [(80, aH g5 (i + 1) cap5)]) (by kernel_rfl) fun a HF => ?_
     refine dP HF (by kernel_rfl) (aG g5) (by kernel_rfl) (iU Tryd.underlying66 (k := 1) (by kernel_rfl) rfl 0 rfl rfl (by omega) (Option.some_ne_none _)) ?_
     clear HF; intro a HF; replace HF := HF.sub ((qA z1 x gl bU bg gt bW i bc pg pc g5 cap5 ng nc z26) ++ [(81, aG g5)]) (by kernel_rfl)
     have hi0 : i = 0 := by omega
     refine AO HF HM rfl 3 _ _ rfl rfl 3 g5 0 Aj 3 rfl rfl (aA 0) rfl rfl rfl (by rw [hsz5]; have hq := EW; omega) (by kernel_rfl) ?_
     intro a w6 E8 bI H9 HF2; clear HF HM
     have MG : E8.toList.take ((i + 1) * 1) = (((List.range i).map (fun j => o7 (x.img.iL j)) ++ [aB (x.img.at0 + (fQ x gt bW i).length)]) : List Value).set 0 (aA 0) := by rw [H9, List.take_set, Ai]
     have szs7 : E8.size = cap5 * 1 := by rw [← Array.length_toList, H9, List.length_set, Array.length_toList, hsz5]
     have HM : Mm [] w0 w6 [kW z28 x gt bW i, (z26, .cells #[.string (⟨m4.name.toArray⟩), aY m4.ty, aY m4.flags, aJ m4.addr, aY m4.link, aY m4.info, aJ m4.align, aJ m4.ent, aJ m4.size, .slice m4.A m4.data.length m4.c] 46 (0, 0)), (ng, .cells nk 9 (0, 0)), (g5, .cells E8 3 (0, 0)), (bg, .cells bk 5 (0, 0)), (pg, .cells pk 3 (0, 0)), (gl, .cells curl 46 (0, 0)), (gt, .cells iJ 5 (0, 0)), dh z1 x] := bI
     have HF := HF2.sub (qA z1 x gl bU bg gt bW i bc pg pc g5 cap5 ng nc z26) (by kernel_rfl); clear bI HF2 H9
     replace MG : E8.toList.take ((i + 1) * 1) = (List.range (i + 1)).map (fun j => o7 (x.img.iL j)) := MG.trans (by subst hi0; rfl)
     refine wpList_nil ?_
     repeat first | refine aS ?_ | refine aU ?_
     exact ⟨g5, cap5, E8, MG, szs7, EW, KD, (HM.pick [3, 0, 1, 2, 4, 5, 6, 7, 8] [(g5, .cells E8 3 (0, 0)), kW z28 x gt bW i, (z26, .cells #[.string (⟨m4.name.toArray⟩), aY m4.ty, aY m4.flags, aJ m4.addr, aY m4.link, aY m4.info, aJ m4.align, aJ m4.ent, aJ m4.size, .slice m4.A m4.data.length m4.c] 46 (0, 0)), (ng, .cells nk 9 (0, 0)), (bg, .cells bk 5 (0, 0)), (pg, .cells pk 3 (0, 0)), (gl, .cells curl 46 (0, 0)), (gt, .cells iJ 5 (0, 0)), dh z1 x] rfl (by decide)), HF.sub (qA z1 x gl bU bg gt bW i bc pg pc g5 cap5 ng nc z26) (by kernel_rfl)⟩
    rw [show (((i : Nat) : Int) == 0) = false from KU (hc6)] at HF
    refine bf HF rfl ?_
    refine wp_skip ?_
    repeat first | refine aS ?_ | refine aU ?_
    replace Ai : Aj.toList.take ((i + 1) * 1) = (List.range (i + 1)).map (fun j => o7 (x.img.iL j)) := Ai.trans (by rw [← IX x gt bW i (by omega)]; exact D7 i)
    exact ⟨g5, cap5, Aj, Ai, hsz5, EW, KD, (HM.pick [3, 0, 1, 2, 4, 5, 6, 7, 8] [(g5, .cells Aj 3 (0, 0)), kW z28 x gt bW i, (z26, .cells #[.string (⟨m4.name.toArray⟩), aY m4.ty, aY m4.flags, aJ m4.addr, aY m4.link, aY m4.info, aJ m4.align, aJ m4.ent, aJ m4.size, .slice m4.A m4.data.length m4.c] 46 (0, 0)), (ng, .cells nk 9 (0, 0)), (bg, .cells bk 5 (0, 0)), (pg, .cells pk 3 (0, 0)), (gl, .cells curl 46 (0, 0)), (gt, .cells iJ 5 (0, 0)), dh z1 x] rfl (by decide)), HF.sub (qA z1 x gl bU bg gt bW i bc pg pc g5 cap5 ng nc z26) (by kernel_rfl)⟩
   rintro a w ⟨rg, rc, rk, rtk, rsz, rnc, rcm, HM, HF⟩
   repeat first | refine aS ?_ | refine aU ?_
   refine wp_seq ?_
   refine aW ?_
   refine wp_pure HF HM rfl 3 [[6]] ((lH z1 x gl bU bg gt bW i bc pg pc) ++ [(12, aH rg (i + 1) rc), (15, aH ng i nc), (17, aG z26), (64, aH gl (x.ps.length + 2) bU), (65, aB (x.ps.length + 2)), (66, aB i), (84, .bool (((m4.ty : Nat) : Int) != 8))]) (by kernel_rfl) fun a HF => ?_
   refine aI ?_
   refine yV (fun a w => (∃ cg : Nat, ∃ cc : Nat, ∃ ck : Array Value, (ck.toList.take (((fQ x gt bW (i + 1)).length) * 1) = (fQ x gt bW (i + 1)).map Bv) ∧ (ck.size = cc * 1) ∧ (((fQ x gt bW (i + 1)).length) ≤ cc) ∧ (cc ≤ maxLen) ∧ Mm [] w0 w [(cg, .cells ck 5 (0, 0)), (rg, .cells rk 3 (0, 0)), kW z28 x gt bW i, (z26, .cells #[.string (⟨m4.name.toArray⟩), aY m4.ty, aY m4.flags, aJ m4.addr, aY m4.link, aY m4.info, aJ m4.align, aJ m4.ent, aJ m4.size, .slice m4.A m4.data.length m4.c] 46 (0, 0)), (ng, .cells nk 9 (0, 0)), (pg, .cells pk 3 (0, 0)), (gl, .cells curl 46 (0, 0)), (gt, .cells iJ 5 (0, 0)), dh z1 x] ∧ Fr 159 a ((uS z1 x gl bU cg gt bW i cc pg pc rg rc) ++ [(15, aH ng i nc), (17, aG z26), (64, aH gl (x.ps.length + 2) bU), (65, aB (x.ps.length + 2)), (66, aB i)]))) ?_ ?_
   ·by_cases hc8 : ((m4.ty : Nat) : Int) ≠ 8
    ·rw [show (((m4.ty : Nat) : Int) != 8) = true from NM (hc8)] at HF
     refine bF HF rfl ?_
     refine wp_region_lit ?_
     refine wp_pure HF HM rfl 3 [[6]] ((fA z1 x gl bU) ++ [(9, aB x.img.at0), (11, aH pg x.ss.length pc), (12, aH rg (i + 1) rc), (15, aH ng i nc), (17, aG z26), (64, aH gl (x.ps.length + 2) bU), (65, aB (x.ps.length + 2)), (66, aB i), (85, aH bg ((fQ x gt bW i).length) bc), (87, .slice m4.A m4.data.length m4.c)]) (by kernel_rfl) fun a HF => ?_
     refine iF HF HM rfl _ _ 33 33 rfl rfl 5 (z := aN 0) (size := 1) (bytes := 1) Tryd.underlying33 (by kernel_rfl) rfl (by decide) 4 bg ((fQ x gt bW i).length) bc bk rfl rfl Dp Ir FU ((fQ x gt bW i).map Bv) yT (.slice m4.A m4.data.length m4.c) m4.data.length (m4.data.map Bv) rfl (mX Tryd.underlying33 (by simp) (by decide) (Oi h HM (k := 7) rfl hot.tk m4 L9) (qp _)) (by unfold maxLen; omega) (by omega) ?_
     intro a w7 g9 KQ KO bI Ky hsz9 hnc9 hcm9 HF2; clear HF HM
     have HM : Mm [] w0 w7 [(rg, .cells rk 3 (0, 0)), kW z28 x gt bW i, (z26, .cells #[.string (⟨m4.name.toArray⟩), aY m4.ty, aY m4.flags, aJ m4.addr, aY m4.link, aY m4.info, aJ m4.align, aJ m4.ent, aJ m4.size, .slice m4.A m4.data.length m4.c] 46 (0, 0)), (ng, .cells nk 9 (0, 0)), (g9, .cells KO 5 (0, 0)), (pg, .cells pk 3 (0, 0)), (gl, .cells curl 46 (0, 0)), (gt, .cells iJ 5 (0, 0)), dh z1 x] := bI
     have HF := HF2.sub ((fA z1 x gl bU) ++ [(9, aB x.img.at0), (11, aH pg x.ss.length pc), (12, aH rg (i + 1) rc), (15, aH ng i nc), (17, aG z26), (64, aH gl (x.ps.length + 2) bU), (65, aB (x.ps.length + 2)), (66, aB i), (88, aH g9 (((fQ x gt bW i).length) + m4.data.length) KQ)]) (by kernel_rfl); clear bI HF2
     refine wp_pure HF HM rfl 1 [] ((fA z1 x gl bU) ++ [(9, aB x.img.at0), (10, aH g9 (((fQ x gt bW i).length) + m4.data.length) KQ), (11, aH pg x.ss.length pc), (12, aH rg (i + 1) rc), (15, aH ng i nc), (17, aG z26), (64, aH gl (x.ps.length + 2) bU), (65, aB (x.ps.length + 2)), (66, aB i)]) (by kernel_rfl) fun a HF => ?_
     refine wpList_nil ?_
     repeat first | refine aS ?_ | refine aU ?_
     replace Ky : KO.toList.take ((((fQ x gt bW i).length) + m4.data.length) * 1) = (fQ x gt bW (i + 1)).map Bv := Ky.trans (by rw [wP hm4, JG hc8, List.map_append])
     rw [show (((fQ x gt bW i).length) + m4.data.length) = ((fQ x gt bW (i + 1)).length) from by rw [wP hm4, JG hc8, List.length_append]] at HF Ky hnc9
     exact ⟨g9, KQ, KO, Ky, hsz9, hnc9, hcm9, (HM.pick [4, 0, 1, 2, 3, 5, 6, 7, 8] [(g9, .cells KO 5 (0, 0)), (rg, .cells rk 3 (0, 0)), kW z28 x gt bW i, (z26, .cells #[.string (⟨m4.name.toArray⟩), aY m4.ty, aY m4.flags, aJ m4.addr, aY m4.link, aY m4.info, aJ m4.align, aJ m4.ent, aJ m4.size, .slice m4.A m4.data.length m4.c] 46 (0, 0)), (ng, .cells nk 9 (0, 0)), (pg, .cells pk 3 (0, 0)), (gl, .cells curl 46 (0, 0)), (gt, .cells iJ 5 (0, 0)), dh z1 x] rfl (by decide)), HF.sub ((fA z1 x gl bU) ++ [(9, aB x.img.at0), (10, aH g9 ((fQ x gt bW (i + 1)).length) KQ), (11, aH pg x.ss.length pc), (12, aH rg (i + 1) rc), (15, aH ng i nc), (17, aG z26), (64, aH gl (x.ps.length + 2) bU), (65, aB (x.ps.length + 2)), (66, aB i)]) (by kernel_rfl)⟩
    rw [show (((m4.ty : Nat) : Int) != 8) = false from Gy (hc8)] at HF
    refine bf HF rfl ?_
    refine wp_skip ?_
    repeat first | refine aS ?_ | refine aU ?_
    replace yT : bk.toList.take (((fQ x gt bW i).length) * 1) = (fQ x gt bW (i + 1)).map Bv := yT.trans (by rw [wP hm4, Me hc8, List.append_nil])
    simp only [lH] at HF
    rw [show ((fQ x gt bW i).length) = ((fQ x gt bW (i + 1)).length) from by rw [wP hm4, Me hc8, List.append_nil]] at HF yT Dp
    exact ⟨bg, bc, bk, yT, FU, Dp, Ir, (HM.pick [4, 0, 1, 2, 3, 5, 6, 7, 8] [(bg, .cells bk 5 (0, 0)), (rg, .cells rk 3 (0, 0)), kW z28 x gt bW i, (z26, .cells #[.string (⟨m4.name.toArray⟩), aY m4.ty, aY m4.flags, aJ m4.addr, aY m4.link, aY m4.info, aJ m4.align, aJ m4.ent, aJ m4.size, .slice m4.A m4.data.length m4.c] 46 (0, 0)), (ng, .cells nk 9 (0, 0)), (pg, .cells pk 3 (0, 0)), (gl, .cells curl 46 (0, 0)), (gt, .cells iJ 5 (0, 0)), dh z1 x] rfl (by decide)), HF.sub ((fA z1 x gl bU) ++ [(9, aB x.img.at0), (10, aH bg ((fQ x gt bW (i + 1)).length) bc), (11, aH pg x.ss.length pc), (12, aH rg (i + 1) rc), (15, aH ng i nc), (17, aG z26), (64, aH gl (x.ps.length + 2) bU), (65, aB (x.ps.length + 2)), (66, aB i)]) (by kernel_rfl)⟩
   rintro a w ⟨cg, cc, ck, ctk, csz, cnc, ccm, HM, HF⟩
   repeat first | refine aS ?_ | refine aU ?_
   refine wp_region_lit ?_
   obtain ⟨z35, hz35⟩ : ∃ z, w.heap.size = z := ⟨_, rfl⟩
   refine aO HF HM hz35 4 [[5]] ((uS z1 x gl bU cg gt bW i cc pg pc rg rc) ++ [(64, aH gl (x.ps.length + 2) bU), (65, aB (x.ps.length + 2)), (66, aB i), (89, aH ng i nc), (92, aH z35 1 1)]) [(z35, .cells #[.string (⟨m4.name.toArray⟩)] 9 (0, 0)), (cg, .cells ck 5 (0, 0)), (rg, .cells rk 3 (0, 0)), kW z28 x gt bW i, (z26, .cells #[.string (⟨m4.name.toArray⟩), aY m4.ty, aY m4.flags, aJ m4.addr, aY m4.link, aY m4.info, aJ m4.align, aJ m4.ent, aJ m4.size, .slice m4.A m4.data.length m4.c] 46 (0, 0)), (ng, .cells nk 9 (0, 0)), (pg, .cells pk 3 (0, 0)), (gl, .cells curl 46 (0, 0)), (gt, .cells iJ 5 (0, 0)), dh z1 x] (by kernel_rfl) fun a w HF HM => ?_
   clear hz35
   refine iF HF HM rfl _ _ 38 38 rfl rfl 9 (z := .string (⟨#[]⟩ : ByteArray)) (size := 1) (bytes := 16) Tryd.underlying38 (by kernel_rfl) rfl (by decide) 5 ng i nc nk rfl rfl nnc ncm nsz (((allM x gt bW).take i).map (fun p => vg p.name)) ntk (aH z35 1 1) 1 [.string (⟨m4.name.toArray⟩)] rfl (mX Tryd.underlying38 rfl (by decide) (HM.rowAt (i := 0) rfl) (pG rfl)) (by unfold maxLen; omega) (by omega) ?_
   intro a w8 g10 yj Gx bI Kz hsz10 hnc10 hcm10 HF2; clear HF HM
   replace Kz : Gx.toList.take ((i + 1) * 1) = ((allM x gt bW).take (i + 1)).map (fun p => vg p.name) := Kz.trans (by rw [xB hm4, List.map_append]; rfl)
   have HM : Mm [] w0 w8 [(z35, .cells #[.string (⟨m4.name.toArray⟩)] 9 (0, 0)), (cg, .cells ck 5 (0, 0)), (rg, .cells rk 3 (0, 0)), kW z28 x gt bW i, (z26, .cells #[.string (⟨m4.name.toArray⟩), aY m4.ty, aY m4.flags, aJ m4.addr, aY m4.link, aY m4.info, aJ m4.align, aJ m4.ent, aJ m4.size, .slice m4.A m4.data.length m4.c] 46 (0, 0)), (g10, .cells Gx 9 (0, 0)), (pg, .cells pk 3 (0, 0)), (gl, .cells curl 46 (0, 0)), (gt, .cells iJ 5 (0, 0)), dh z1 x] := bI
   have HF := HF2.sub ((uS z1 x gl bU cg gt bW i cc pg pc rg rc) ++ [(64, aH gl (x.ps.length + 2) bU), (65, aB (x.ps.length + 2)), (66, aB i), (93, aH g10 (i + 1) yj)]) (by kernel_rfl); clear bI HF2
   refine wp_pure HF HM rfl 1 [] ((uy z1 x gl bU cg gt bW i cc pg pc rg rc g10 yj) ++ [(66, aB i)]) (by kernel_rfl) fun a HF => ?_
   refine wpList_nil ?_
   repeat first | refine aS ?_ | refine aU ?_
   refine wp_region_lit ?_
   refine wp_pure HF HM rfl 1 [] ((uy z1 x gl bU cg gt bW i cc pg pc rg rc g10 yj) ++ [(94, aA (IntKind.i64.wrap (((i : Nat) : Int) + 1)))]) (by kernel_rfl) fun a HF => ?_
   rw [show IntKind.i64.wrap (((i : Nat) : Int) + 1) = (((i + 1) : Nat) : Int) from (IntWalk.i64_in _ (by omega)).trans (by omega)] at HF
   refine wp_pure HF HM rfl 1 [] ((uy z1 x gl bU cg gt bW i cc pg pc rg rc g10 yj) ++ [(66, aB (i + 1))]) (by kernel_rfl) fun a HF => ?_
   refine wpList_nil ?_
   repeat first | refine aS ?_ | refine aU ?_
   exact KR _ _ (⟨cg, cc, ck, rg, rc, rk, g10, yj, Gx, ctk, csz, cnc, ccm, rtk, rsz, rnc, rcm, Kz, hsz10, hnc10, hcm10, (HM.pick [5, 2, 1, 6, 7, 8, 9] [(g10, .cells Gx 9 (0, 0)), (rg, .cells rk 3 (0, 0)), (cg, .cells ck 5 (0, 0)), (pg, .cells pk 3 (0, 0)), (gl, .cells curl 46 (0, 0)), (gt, .cells iJ 5 (0, 0)), dh z1 x] rfl (by decide)), HF.sub ((uy z1 x gl bU cg gt bW i cc pg pc rg rc g10 yj) ++ [(66, aB (i + 1))]) (by kernel_rfl)⟩)
  ·intro a w KX hI
   obtain ⟨bg, bc, bk, qg, qc, qk, ng, nc, nk, yT, FU, Dp, Ir, D8, G7, Fp, G8, ntk, nsz, nnc, ncm, HM, HF⟩ := hI
   refine aW ?_
   refine wp_pure HF HM rfl 1 [] ((qQ z1 x gl bU bg gt bW bc pg pc qg qc) ++ [(15, aH ng (x.ps.length + 2) nc), (64, aH gl (x.ps.length + 2) bU), (65, aB (x.ps.length + 2)), (66, aB (x.ps.length + 2)), (67, .bool (decide ((((x.ps.length + 2) : Nat) : Int) < (((x.ps.length + 2) : Nat) : Int))))]) (by kernel_rfl) fun a HF => ?_
   refine aI ?_
   refine wp_seq ?_
   rw [show decide ((((x.ps.length + 2) : Nat) : Int) < (((x.ps.length + 2) : Nat) : Int)) = false from bZ (by omega)] at HF
   refine bf HF rfl ?_
   refine wp_exit ?_
   repeat (first | refine iW ?_ | refine ku rfl ?_)
   refine kH ?_
   repeat first | refine aS ?_ | refine aU ?_
   refine aW ?_
   refine wp_pure HF HM rfl 1 [] ((qQ z1 x gl bU bg gt bW bc pg pc qg qc) ++ [(96, aH ng (x.ps.length + 2) nc)]) (by kernel_rfl) fun a HF => ?_
   refine bn HF (by kernel_rfl) 65 #[aH ng (x.ps.length + 2) nc] (by kernel_rfl) (fun w => by kernel_rfl) (Calls.mono (FC x.img.names _ _ _ (by rw [Bz]) w (HM.nG (i := 0) rfl (ntk.trans (I9 x gt bW))) (by omega) (by omega)) ?_)
   rintro _ w9 ⟨gu, capu, curu, gp, iK, curp, rfl, hb, hou, hop, hnu⟩
   replace HM : Mm [] w0 w9 [(gp, .cells curp 3 (0, 0)), (ng, .cells nk 9 (0, 0)), (qg, .cells qk 3 (0, 0)), (bg, .cells bk 5 (0, 0)), (pg, .cells pk 3 (0, 0)), (gl, .cells curl 46 (0, 0)), (gt, .cells iJ 5 (0, 0)), dh z1 x] := HM.push hb hop.new hop.obj
   have hnl := Bz x; have hso := MJ x gt bW; have hbl := DL x gt bW (x.ps.length + 2) rP; have hou9 := Dx x x.ss.length rP
   refine ⟨_, rfl, ?_⟩; clear HF; intro a HF
   refine wp_pure HF HM rfl 5 [] ((qQ z1 x gl bU bg gt bW bc pg pc qg qc) ++ [(19, aH gp x.img.names.length iK)]) (by kernel_rfl) fun a HF => ?_
   refine dK ?_
   refine wp_pure HF HM rfl 1 [] ((qQ z1 x gl bU bg gt bW bc pg pc qg qc) ++ [(19, aH gp x.img.names.length iK), (100, aH gp x.img.names.length iK)]) (by kernel_rfl) fun a HF => ?_
   refine dP HF (by kernel_rfl) (aG gp) (by kernel_rfl) (iU Tryd.underlying66 (k := 1) (by kernel_rfl) rfl 0 rfl rfl (by omega) (Option.some_ne_none _)) fun a HF => ?_
   refine AO HF HM rfl 3 _ _ rfl rfl 0 gp 0 curp 3 rfl rfl (aA 0) rfl rfl rfl (by rw [hop.sz]; have hq := hop.nc; omega) (by kernel_rfl) ?_
   intro a w10 ni bI H9 HF2; clear HF HM
   have JQ : ni.toList.take (x.img.names.length * 1) = ((List.range x.img.names.length).map (fun j => o7 (nameAt x.img.names j)) : List Value).set 0 (aA 0) := by rw [H9, List.take_set, hop.tk]
   have szs11 : ni.size = iK * 1 := by rw [← Array.length_toList, H9, List.length_set, Array.length_toList, hop.sz]
   have HM : Mm [] w0 w10 [(gp, .cells ni 3 (0, 0)), (ng, .cells nk 9 (0, 0)), (qg, .cells qk 3 (0, 0)), (bg, .cells bk 5 (0, 0)), (pg, .cells pk 3 (0, 0)), (gl, .cells curl 46 (0, 0)), (gt, .cells iJ 5 (0, 0)), dh z1 x] := bI
   have HF := HF2.sub ((qQ z1 x gl bU bg gt bW bc pg pc qg qc) ++ [(19, aH gp x.img.names.length iK)]) (by kernel_rfl); clear bI HF2 H9
   replace JQ : ni.toList.take (x.img.names.length * 1) = (List.range x.img.names.length).map (fun j => o7 (x.img.jS j)) := JQ.trans (J4 x)
   refine dK ?_
   refine wp_pure HF HM rfl 11 [[0], [0]] ((jF z1 gl x bU bg gt bW bc pg pc qg qc gp iK) ++ [(102, .agg #[.bool x.wide, .bool x.big, aV x.abi, aV x.aC, .int .i64 x.ty, .int .i64 x.machine, aJ x.entry, .slice x.A x.ss.length x.c, .slice x.B x.ps.length x.d]), (105, aB x.ss.length), (106, aB (fB x.wide)), (108, aB (x.ps.length + 2)), (112, aA (IntKind.i64.wrap (((x.img.at0 : Nat) : Int) + ((((fQ x gt bW (x.ps.length + 2)).length) : Nat) : Int))))]) (by kernel_rfl) fun a HF => ?_
   rw [show IntKind.i64.wrap (((x.img.at0 : Nat) : Int) + ((((fQ x gt bW (x.ps.length + 2)).length) : Nat) : Int)) = ((x.img.kJ : Nat) : Int) from (IntWalk.i64_in _ (by omega)).trans (by omega)] at HF
   refine bn HF (by kernel_rfl) 66 #[.agg #[.bool x.wide, .bool x.big, aV x.abi, aV x.aC, .int .i64 x.ty, .int .i64 x.machine, aJ x.entry, .slice x.A x.ss.length x.c, .slice x.B x.ps.length x.d], aB x.ss.length, aB (fB x.wide), aB (x.ps.length + 2), aB x.img.kJ] (by kernel_rfl) (fun w => by kernel_rfl) (Calls.mono (Gh x x.ss.length (fB x.wide) (x.ps.length + 2) x.img.kJ (by omega) (by omega) (by omega) (by omega) (by omega) ok.ty0 ok.ty1 ok.mc0 ok.mc1 w10 (h.below HM.below)) ?_)
   rintro _ wS ⟨go, KP, Ny, rfl, hb, Hy⟩
   rw [head_eq, ← Fq] at Hy
   replace HM : Mm [] w0 wS [(go, .cells Ny 5 (0, 0)), (gp, .cells ni 3 (0, 0)), (ng, .cells nk 9 (0, 0)), (qg, .cells qk 3 (0, 0)), (bg, .cells bk 5 (0, 0)), (pg, .cells pk 3 (0, 0)), (gl, .cells curl 46 (0, 0)), (gt, .cells iJ 5 (0, 0)), dh z1 x] := HM.push hb Hy.new Hy.obj
   rw [head_eq, ← Fq]
   refine ⟨_, rfl, ?_⟩; clear HF; intro a HF
   refine wp_pure HF HM rfl 1 [] ((jF z1 gl x bU bg gt bW bc pg pc qg qc gp iK) ++ [(20, aH go ((jK x 0).length) KP)]) (by kernel_rfl) fun a HF => ?_
   refine aI ?_
   refine wp_seq ?_
   refine aW ?_
   refine wp_pure HF HM rfl 4 [[0]] ((jF z1 gl x bU bg gt bW bc pg pc qg qc gp iK) ++ [(20, aH go ((jK x 0).length) KP), (115, .slice x.A x.ss.length x.c), (116, aB x.ss.length), (117, aA 0)]) (by kernel_rfl) fun a HF => ?_
   refine aI ?_
   refine wp_block ?_
   replace HM := HM.pick [0, 1, 3, 4, 5, 6, 7, 8] [(go, .cells Ny 5 (0, 0)), (gp, .cells ni 3 (0, 0)), (qg, .cells qk 3 (0, 0)), (bg, .cells bk 5 (0, 0)), (pg, .cells pk 3 (0, 0)), (gl, .cells curl 46 (0, 0)), (gt, .cells iJ 5 (0, 0)), dh z1 x] rfl (by decide)
   refine oU (x.ss.length) (fun i a w => (∃ ug : Nat, ∃ uc : Nat, ∃ uk : Array Value, (uk.toList.take (((jK x i).length) * 1) = (jK x i).map Bv) ∧ (uk.size = uc * 1) ∧ (((jK x i).length) ≤ uc) ∧ (uc ≤ maxLen) ∧ Mm [] w0 w [(ug, .cells uk 5 (0, 0)), (gp, .cells ni 3 (0, 0)), (qg, .cells qk 3 (0, 0)), (bg, .cells bk 5 (0, 0)), (pg, .cells pk 3 (0, 0)), (gl, .cells curl 46 (0, 0)), (gt, .cells iJ 5 (0, 0)), dh z1 x] ∧ Fr 159 a (xw z1 gl x bU bg gt bW bc pg pc qg qc gp iK ug i uc))) ?_ ?_ ?_
   ·exact ⟨go, KP, Ny, Hy.tk, Hy.sz, Hy.nc, Hy.cm, HM, HF.sub ((jF z1 gl x bU bg gt bW bc pg pc qg qc gp iK) ++ [(20, aH go ((jK x 0).length) KP), (115, .slice x.A x.ss.length x.c), (116, aB x.ss.length), (117, aA 0)]) (by kernel_rfl)⟩
   ·intro i a w KX hi hI KR
    obtain ⟨ug, uc, uk, Fb, GI, Fe, GK, HM, HF⟩ := hI
    have hoz := Dx x i rP; have hoz2 := Dx x (i + 1) rP; have hpl := x.img.yA i
    refine aW ?_
    refine wp_pure HF HM rfl 1 [] ((xw z1 gl x bU bg gt bW bc pg pc qg qc gp iK ug i uc) ++ [(118, .bool (decide (((i : Nat) : Int) < ((x.ss.length : Nat) : Int))))]) (by kernel_rfl) fun a HF => ?_
    refine aI ?_
    refine wp_seq ?_
    rw [show decide (((i : Nat) : Int) < ((x.ss.length : Nat) : Int)) = true from dM (by omega)] at HF
    refine bF HF rfl ?_
    refine wp_skip ?_
    repeat first | refine aS ?_ | refine aU ?_
    refine wp_seq ?_
    refine wp_block ?_
    refine aW ?_
    refine wp_pure HF HM rfl 1 [] ((xw z1 gl x bU bg gt bW bc pg pc qg qc gp iK ug i uc) ++ [(119, aB i)]) (by kernel_rfl) fun a HF => ?_
    obtain ⟨m12, vk⟩ : ∃ m, x.ss[i]? = some m := ⟨_, List.getElem?_eq_getElem (by omega)⟩
    have Oc := ok.seg m12 (List.mem_of_getElem? vk)
    have hmd_m12 := Oc.data
    have JF := h.seg m12 (List.mem_of_getElem? vk)
    have hmt_m12 := JF.ty; have hmf_m12 := JF.flags
    refine dP HF (by kernel_rfl) (.pointer (Option.map (fun q : Addr => q.add (i * 7)) x.A)) (by kernel_rfl) (iU Tryd.underlying23 (by kernel_rfl) rfl i rfl rfl (by omega) (ny (lC (f := jH.cells) (k := 7) (fun _ => rfl) (HM.row h.cZ) i vk) (Nat.zero_lt_succ _))) fun a HF => ?_
    refine dP HF (by kernel_rfl) (.agg #[aY m12.ty, aY m12.flags, aJ m12.bJ, aJ m12.bK, aJ m12.bP, aJ m12.align, .slice m12.A m12.data.length m12.c]) (by kernel_rfl) (lQ rfl rfl (lC (f := jH.cells) (k := 7) (fun _ => rfl) (HM.row h.cZ) i vk) (Nat.zero_lt_succ _) Tryd.underlying57 rfl (by kernel_rfl)) fun a HF => ?_
    obtain ⟨z48, hz48⟩ : ∃ z, w.heap.size = z := ⟨_, rfl⟩
    refine aO HF HM hz48 3 [[8]] ((jF z1 gl x bU bg gt bW bc pg pc qg qc gp iK) ++ [(20, aH ug ((jK x i).length) uc), (21, aB i), (22, aG z48), (115, .slice x.A x.ss.length x.c), (116, aB x.ss.length), (117, aB i)]) [uz z48 m12, (ug, .cells uk 5 (0, 0)), (gp, .cells ni 3 (0, 0)), (qg, .cells qk 3 (0, 0)), (bg, .cells bk 5 (0, 0)), (pg, .cells pk 3 (0, 0)), (gl, .cells curl 46 (0, 0)), (gt, .cells iJ 5 (0, 0)), dh z1 x] (by kernel_rfl) fun a w HF HM => ?_
    clear hz48
    refine aI ?_
    refine sG HM (by kernel_rfl) [uz z48 m12, (gp, .cells ni 3 (0, 0)), (qg, .cells qk 3 (0, 0)), (bg, .cells bk 5 (0, 0)), (pg, .cells pk 3 (0, 0)), (gl, .cells curl 46 (0, 0)), (gt, .cells iJ 5 (0, 0)), dh z1 x] [(0, false), (1, false), (2, false), (3, false), (4, false), (5, false), (6, false), (7, true), (8, true), (9, false)] (by kernel_rfl) fun w12 HM => ?_
    refine bH HF (HM.told [0, 2, 3, 4, 5, 6, 7, 8] rfl) 5 [[0], [7]] ((BL z1 gl x bU bg gt bW bc pg pc qg qc gp iK i ug uc m12) ++ [(125, aH pg x.ss.length pc), (126, aB i)]) (by kernel_rfl) fun a HF => ?_
    refine dZ rfl HF (HM.told [0, 2, 3, 4, 5, 6, 7, 8] rfl) rfl (.pointer (Option.map (fun q : Addr => q.add (i * 1)) (some ⟨pg, 0, none⟩))) (by kernel_rfl) (fun w hw => iU Tryd.underlying66 (by kernel_rfl) rfl i rfl rfl (by omega) (Option.some_ne_none _)) fun a HF => ?_
    refine dZ rfl HF (HM.told [0, 2, 3, 4, 5, 6, 7, 8] rfl) rfl (aB (x.img.jI i)) (by kernel_rfl) (fun w hw => oH rfl rfl (uV (Told.nG hw (i := 4) rfl ptk) i (List.getElem?_range (by omega))) (by kernel_rfl)) ?_
    clear HF; intro a HF; replace HF := HF.sub ((BL z1 gl x bU bg gt bW bc pg pc qg qc gp iK i ug uc m12) ++ [(128, aB (x.img.jI i))]) (by kernel_rfl)
    refine b_ rfl ?_
    refine bn HF (by kernel_rfl) 67 #[.agg #[.bool x.wide, .bool x.big, aV x.abi, aV x.aC, .int .i64 x.ty, .int .i64 x.machine, aJ x.entry, .slice x.A x.ss.length x.c, .slice x.B x.ps.length x.d], .agg #[aY m12.ty, aY m12.flags, aJ m12.bJ, aJ m12.bK, aJ m12.bP, aJ m12.align, .slice m12.A m12.data.length m12.c], aB (x.img.jI i)] (by kernel_rfl) (fun w => by kernel_rfl) (Calls.mono (IQ x.wide x.big _ _ _ _ _ _ _ m12.ty m12.flags m12.bJ m12.bK m12.bP m12.align m12.data.length m12.c (x.img.jI i) m12.A (by omega) (by omega) (by omega) (by omega) w12) ?_)
    rintro _ AP ⟨gr, Iq, curr, rfl, hb, hor⟩
    replace HM : Mm [] w0 AP [(gr, .cells curr 5 (0, 0)), uz z48 m12, (ug, .cells uk 5 (0, 0)), (gp, .cells ni 3 (0, 0)), (qg, .cells qk 3 (0, 0)), (bg, .cells bk 5 (0, 0)), (pg, .cells pk 3 (0, 0)), (gl, .cells curl 46 (0, 0)), (gt, .cells iJ 5 (0, 0)), dh z1 x] := HM.push hb hor.new hor.obj
    have hrl : (mY x i m12).length ≤ 64 := by rw [show (mY x i m12).length = gI x.wide from qw ..]; omega
    refine ⟨_, rfl, ?_⟩; clear HF; intro a HF
    replace HF := HF.sub ((jF z1 gl x bU bg gt bW bc pg pc qg qc gp iK) ++ [(115, .slice x.A x.ss.length x.c), (116, aB x.ss.length), (117, aB i), (122, aH ug ((jK x i).length) uc), (129, aH gr ((mY x i m12).length) Iq)]) (by kernel_rfl)
    refine dF (HM.told [1, 3, 4, 5, 6, 7, 8, 9] rfl) ?_
    refine b_ rfl ?_
    refine iF HF HM rfl _ _ 33 33 rfl rfl 5 (z := aN 0) (size := 1) (bytes := 1) Tryd.underlying33 (by kernel_rfl) rfl (by decide) 2 ug ((jK x i).length) uc uk rfl rfl Fe GK GI ((jK x i).map Bv) Fb (aH gr ((mY x i m12).length) Iq) ((mY x i m12).length) ((mY x i m12).map Bv) rfl (mX Tryd.underlying33 (EN hor.tk hor.sz hor.nc) (by decide) (HM.nG (i := 0) rfl hor.tk) (qp _)) (by unfold maxLen; omega) (by omega) ?_
    intro a GH g14 C_ Gw bI Gq hsz14 NI hcm14 HF2; clear HF HM
    replace Gq : Gw.toList.take ((((jK x i).length) + ((mY x i m12).length)) * 1) = (jK x (i + 1)).map Bv := Gq.trans (by rw [Fv vk, List.map_append])
    have HM : Mm [] w0 GH [(gr, .cells curr 5 (0, 0)), uz z48 m12, (g14, .cells Gw 5 (0, 0)), (gp, .cells ni 3 (0, 0)), (qg, .cells qk 3 (0, 0)), (bg, .cells bk 5 (0, 0)), (pg, .cells pk 3 (0, 0)), (gl, .cells curl 46 (0, 0)), (gt, .cells iJ 5 (0, 0)), dh z1 x] := bI
    have HF := HF2.sub ((jF z1 gl x bU bg gt bW bc pg pc qg qc gp iK) ++ [(115, .slice x.A x.ss.length x.c), (116, aB x.ss.length), (117, aB i), (130, aH g14 (((jK x i).length) + ((mY x i m12).length)) C_)]) (by kernel_rfl); clear bI HF2
    refine dF (HM.told [1, 3, 4, 5, 6, 7, 8, 9] rfl) ?_
    refine bH HF (HM.told [1, 3, 4, 5, 6, 7, 8, 9] rfl) 1 [] ((jF z1 gl x bU bg gt bW bc pg pc qg qc gp iK) ++ [(20, aH g14 (((jK x i).length) + ((mY x i m12).length)) C_), (115, .slice x.A x.ss.length x.c), (116, aB x.ss.length), (117, aB i)]) (by kernel_rfl) fun a HF => ?_
    refine lI ?_
    repeat first | refine aS ?_ | refine aU ?_
    refine wp_region_lit ?_
    refine wp_pure HF HM rfl 1 [] ((jF z1 gl x bU bg gt bW bc pg pc qg qc gp iK) ++ [(20, aH g14 (((jK x i).length) + ((mY x i m12).length)) C_), (115, .slice x.A x.ss.length x.c), (116, aB x.ss.length), (131, aA (IntKind.i64.wrap (((i : Nat) : Int) + 1)))]) (by kernel_rfl) fun a HF => ?_
    rw [show IntKind.i64.wrap (((i : Nat) : Int) + 1) = (((i + 1) : Nat) : Int) from (IntWalk.i64_in _ (by omega)).trans (by omega)] at HF
    refine wp_pure HF HM rfl 1 [] ((jF z1 gl x bU bg gt bW bc pg pc qg qc gp iK) ++ [(20, aH g14 (((jK x i).length) + ((mY x i m12).length)) C_), (115, .slice x.A x.ss.length x.c), (116, aB x.ss.length), (117, aB (i + 1))]) (by kernel_rfl) fun a HF => ?_
    refine wpList_nil ?_
    repeat first | refine aS ?_ | refine aU ?_
    rw [show (((jK x i).length) + ((mY x i m12).length)) = ((jK x (i + 1)).length) from by rw [Fv vk, List.length_append]] at HF Gq NI
    exact KR _ _ (⟨g14, C_, Gw, Gq, hsz14, NI, hcm14, (HM.pick [2, 3, 4, 5, 6, 7, 8, 9] [(g14, .cells Gw 5 (0, 0)), (gp, .cells ni 3 (0, 0)), (qg, .cells qk 3 (0, 0)), (bg, .cells bk 5 (0, 0)), (pg, .cells pk 3 (0, 0)), (gl, .cells curl 46 (0, 0)), (gt, .cells iJ 5 (0, 0)), dh z1 x] rfl (by decide)), HF.sub ((jF z1 gl x bU bg gt bW bc pg pc qg qc gp iK) ++ [(20, aH g14 ((jK x (i + 1)).length) C_), (115, .slice x.A x.ss.length x.c), (116, aB x.ss.length), (117, aB (i + 1))]) (by kernel_rfl)⟩)
   ·intro a w KX hI
    obtain ⟨ug, uc, uk, Fb, GI, Fe, GK, HM, HF⟩ := hI
    refine aW ?_
    refine wp_pure HF HM rfl 1 [] ((jF z1 gl x bU bg gt bW bc pg pc qg qc gp iK) ++ [(20, aH ug ((jK x x.ss.length).length) uc), (115, .slice x.A x.ss.length x.c), (116, aB x.ss.length), (117, aB x.ss.length), (118, .bool (decide (((x.ss.length : Nat) : Int) < ((x.ss.length : Nat) : Int))))]) (by kernel_rfl) fun a HF => ?_
    refine aI ?_
    refine wp_seq ?_
    rw [show decide (((x.ss.length : Nat) : Int) < ((x.ss.length : Nat) : Int)) = false from bZ (by omega)] at HF
    refine bf HF rfl ?_
    refine wp_exit ?_
    repeat (first | refine iW ?_ | refine ku rfl ?_)
    refine kH ?_
    repeat first | refine aS ?_ | refine aU ?_
    refine aW ?_
    refine wp_pure HF HM rfl 2 [] [(1, aG z1), (8, aH gl (x.ps.length + 2) bU), (11, aH pg x.ss.length pc), (12, aH qg (x.ps.length + 2) qc), (19, aH gp x.img.names.length iK), (132, aH ug ((jK x x.ss.length).length) uc), (133, aH bg ((fQ x gt bW (x.ps.length + 2)).length) bc)] (by kernel_rfl) fun a HF => ?_
    refine iF HF HM rfl _ _ 33 33 rfl rfl 5 (z := aN 0) (size := 1) (bytes := 1) Tryd.underlying33 (by kernel_rfl) rfl (by decide) 0 ug ((jK x x.ss.length).length) uc uk rfl rfl Fe GK GI ((jK x x.ss.length).map Bv) Fb (aH bg ((fQ x gt bW (x.ps.length + 2)).length) bc) ((fQ x gt bW (x.ps.length + 2)).length) ((fQ x gt bW (x.ps.length + 2)).map Bv) rfl (mX Tryd.underlying33 (EN yT FU Dp) (by decide) (HM.nG (i := 3) rfl yT) (qp _)) (by unfold maxLen; omega) (by omega) ?_
    intro a Fa g15 Ey Gv bI Gp hsz15 NH hcm15 HF2; clear HF HM
    replace Gp : Gv.toList.take ((((jK x x.ss.length).length) + ((fQ x gt bW (x.ps.length + 2)).length)) * 1) = (lg x 0).map Bv := Gp.trans (by rw [FQ, BO, List.map_append (l₁ := jK x x.ss.length)])
    have HM : Mm [] w0 Fa [(g15, .cells Gv 5 (0, 0)), (gp, .cells ni 3 (0, 0)), (qg, .cells qk 3 (0, 0)), (bg, .cells bk 5 (0, 0)), (pg, .cells pk 3 (0, 0)), (gl, .cells curl 46 (0, 0)), (gt, .cells iJ 5 (0, 0)), dh z1 x] := bI
    have HF := HF2.sub [(1, aG z1), (8, aH gl (x.ps.length + 2) bU), (11, aH pg x.ss.length pc), (12, aH qg (x.ps.length + 2) qc), (19, aH gp x.img.names.length iK), (134, aH g15 (((jK x x.ss.length).length) + ((fQ x gt bW (x.ps.length + 2)).length)) Ey)] (by kernel_rfl); clear bI HF2
    refine wp_pure HF HM rfl 1 [] [(1, aG z1), (8, aH gl (x.ps.length + 2) bU), (11, aH pg x.ss.length pc), (12, aH qg (x.ps.length + 2) qc), (19, aH gp x.img.names.length iK), (20, aH g15 (((jK x x.ss.length).length) + ((fQ x gt bW (x.ps.length + 2)).length)) Ey)] (by kernel_rfl) fun a HF => ?_
    refine aI ?_
    refine wp_seq ?_
    refine aW ?_
    refine wp_pure HF HM rfl 3 [] ((jE z1 pg x pc qg qc gp iK) ++ [(20, aH g15 (((jK x x.ss.length).length) + ((fQ x gt bW (x.ps.length + 2)).length)) Ey), (135, aH gl (x.ps.length + 2) bU), (136, aB (x.ps.length + 2)), (137, aA 0)]) (by kernel_rfl) fun a HF => ?_
    refine aI ?_
    refine wp_block ?_
    replace HM := HM.pick [0, 1, 2, 4, 5, 6, 7] [(g15, .cells Gv 5 (0, 0)), (gp, .cells ni 3 (0, 0)), (qg, .cells qk 3 (0, 0)), (pg, .cells pk 3 (0, 0)), (gl, .cells curl 46 (0, 0)), (gt, .cells iJ 5 (0, 0)), dh z1 x] rfl (by decide)
    refine oU ((x.ps.length + 2)) (fun i a w => (∃ ug : Nat, ∃ uc : Nat, ∃ uk : Array Value, (uk.toList.take (((lg x i).length) * 1) = (lg x i).map Bv) ∧ (uk.size = uc * 1) ∧ (((lg x i).length) ≤ uc) ∧ (uc ≤ maxLen) ∧ Mm [] w0 w [(ug, .cells uk 5 (0, 0)), (gp, .cells ni 3 (0, 0)), (qg, .cells qk 3 (0, 0)), (pg, .cells pk 3 (0, 0)), (gl, .cells curl 46 (0, 0)), (gt, .cells iJ 5 (0, 0)), dh z1 x] ∧ Fr 159 a (xu z1 pg x pc qg qc gp iK ug i uc gl bU))) ?_ ?_ ?_
    rw [show (((jK x x.ss.length).length) + ((fQ x gt bW (x.ps.length + 2)).length)) = ((lg x 0).length) from by rw [FQ, BO]; exact (List.length_append ..).symm] at HF Gp NH
    ·exact ⟨g15, Ey, Gv, Gp, hsz15, NH, hcm15, HM, HF.sub ((jE z1 pg x pc qg qc gp iK) ++ [(20, aH g15 ((lg x 0).length) Ey), (135, aH gl (x.ps.length + 2) bU), (136, aB (x.ps.length + 2)), (137, aA 0)]) (by kernel_rfl)⟩
    ·intro i a w KX hi hI KR
     obtain ⟨ug, uc, uk, Fb, GI, Fe, GK, HM, HF⟩ := hI
     have hoz := Ij x i rP; have hoz2 := Ij x (i + 1) rP; have hpl := x.img.uO i; have hnp := rP.wY i (by rw [Dc]; omega)
     refine aW ?_
     refine wp_pure HF HM rfl 1 [] ((xu z1 pg x pc qg qc gp iK ug i uc gl bU) ++ [(138, .bool (decide (((i : Nat) : Int) < (((x.ps.length + 2) : Nat) : Int))))]) (by kernel_rfl) fun a HF => ?_
     refine aI ?_
     refine wp_seq ?_
     rw [show decide (((i : Nat) : Int) < (((x.ps.length + 2) : Nat) : Int)) = true from dM (by omega)] at HF
     refine bF HF rfl ?_
     refine wp_skip ?_
     repeat first | refine aS ?_ | refine aU ?_
     refine wp_seq ?_
     refine wp_block ?_
     refine aW ?_
     refine wp_pure HF HM rfl 1 [] ((xu z1 pg x pc qg qc gp iK ug i uc gl bU) ++ [(139, aB i)]) (by kernel_rfl) fun a HF => ?_
     obtain ⟨m16, KC⟩ : ∃ m, (allM x gt bW)[i]? = some m := ⟨_, List.getElem?_eq_getElem (by omega)⟩
     have Ob := List.mem_of_getElem? KC
     have yP := MC h ok m16 Ob
     have hmd_m16 := yP.data; have hmt_m16 := yP.ty; have hmf_m16 := yP.flags; have hml_m16 := yP.link; have hmi_m16 := yP.info
     refine dP HF (by kernel_rfl) (.pointer (Option.map (fun q : Addr => q.add (i * 10)) (some ⟨gl, 0, none⟩))) (by kernel_rfl) (iU Tryd.underlying24 (by kernel_rfl) rfl i rfl rfl (by omega) (Option.some_ne_none _)) fun a HF => ?_
     refine dP HF (by kernel_rfl) (.agg #[.string (⟨m16.name.toArray⟩), aY m16.ty, aY m16.flags, aJ m16.addr, aY m16.link, aY m16.info, aJ m16.align, aJ m16.ent, aJ m16.size, .slice m16.A m16.data.length m16.c]) (by kernel_rfl) (lQ rfl rfl (lC (f := fK.cells) (k := 10) (fun _ => rfl) (HM.nG (i := 4) rfl hol.tk) i KC) (Nat.zero_lt_succ _) Tryd.underlying46 rfl (by kernel_rfl)) fun a HF => ?_
     obtain ⟨z57, hz57⟩ : ∃ z, w.heap.size = z := ⟨_, rfl⟩
     refine aO HF HM hz57 3 [[7]] ((jE z1 pg x pc qg qc gp iK) ++ [(20, aH ug ((lg x i).length) uc), (23, aB i), (24, aG z57), (135, aH gl (x.ps.length + 2) bU), (136, aB (x.ps.length + 2)), (137, aB i)]) [(z57, .cells #[.string (⟨m16.name.toArray⟩), aY m16.ty, aY m16.flags, aJ m16.addr, aY m16.link, aY m16.info, aJ m16.align, aJ m16.ent, aJ m16.size, .slice m16.A m16.data.length m16.c] 46 (0, 0)), (ug, .cells uk 5 (0, 0)), (gp, .cells ni 3 (0, 0)), (qg, .cells qk 3 (0, 0)), (pg, .cells pk 3 (0, 0)), (gl, .cells curl 46 (0, 0)), (gt, .cells iJ 5 (0, 0)), dh z1 x] (by kernel_rfl) fun a w HF HM => ?_
     clear hz57
     refine aI ?_
     refine sG HM (by kernel_rfl) [(z57, .cells #[.string (⟨m16.name.toArray⟩), aY m16.ty, aY m16.flags, aJ m16.addr, aY m16.link, aY m16.info, aJ m16.align, aJ m16.ent, aJ m16.size, .slice m16.A m16.data.length m16.c] 46 (0, 0)), (gp, .cells ni 3 (0, 0)), (qg, .cells qk 3 (0, 0)), (pg, .cells pk 3 (0, 0)), (gl, .cells curl 46 (0, 0)), (gt, .cells iJ 5 (0, 0)), dh z1 x] [(0, false), (1, false), (2, false), (3, false), (4, false), (5, false), (6, false), (7, false), (8, false), (9, false), (10, false), (11, true), (12, true), (13, false)] (by kernel_rfl) fun w16 HM => ?_
     refine bH HF (HM.told [0, 2, 3, 4, 5, 6, 7] rfl) 4 [[0]] ((Ih z1 pg x pc qg qc gp iK i z57 gl bU ug uc) ++ [(144, aH gp x.img.names.length iK), (145, aB i)]) (by kernel_rfl) fun a HF => ?_
     refine dZ rfl HF (HM.told [0, 2, 3, 4, 5, 6, 7] rfl) rfl (.pointer (Option.map (fun q : Addr => q.add (i * 1)) (some ⟨gp, 0, none⟩))) (by kernel_rfl) (fun w hw => iU Tryd.underlying66 (by kernel_rfl) rfl i rfl rfl (by omega) (Option.some_ne_none _)) fun a HF => ?_
     refine dZ rfl HF (HM.told [0, 2, 3, 4, 5, 6, 7] rfl) rfl (aB (x.img.jS i)) (by kernel_rfl) (fun w hw => oH rfl rfl (uV (Told.nG hw (i := 1) rfl JQ) i (List.getElem?_range (by omega))) (by kernel_rfl)) fun a HF => ?_
     refine bH HF (HM.told [0, 2, 3, 4, 5, 6, 7] rfl) 3 [[6]] ((jE z1 pg x pc qg qc gp iK) ++ [(135, aH gl (x.ps.length + 2) bU), (136, aB (x.ps.length + 2)), (137, aB i), (142, aH ug ((lg x i).length) uc), BM x, (147, aB (x.img.jS i)), (148, .agg #[.string (⟨m16.name.toArray⟩), aY m16.ty, aY m16.flags, aJ m16.addr, aY m16.link, aY m16.info, aJ m16.align, aJ m16.ent, aJ m16.size, .slice m16.A m16.data.length m16.c]), (149, aH qg (x.ps.length + 2) qc), (150, aB i)]) (by kernel_rfl) fun a HF => ?_
     refine dZ rfl HF (HM.told [0, 2, 3, 4, 5, 6, 7] rfl) rfl (.pointer (Option.map (fun q : Addr => q.add (i * 1)) (some ⟨qg, 0, none⟩))) (by kernel_rfl) (fun w hw => iU Tryd.underlying66 (by kernel_rfl) rfl i rfl rfl (by omega) (Option.some_ne_none _)) fun a HF => ?_
     refine dZ rfl HF (HM.told [0, 2, 3, 4, 5, 6, 7] rfl) rfl (aB (x.img.iL i)) (by kernel_rfl) (fun w hw => oH rfl rfl (uV (Told.nG hw (i := 2) rfl D8) i (List.getElem?_range (by omega))) (by kernel_rfl)) ?_
     clear HF; intro a HF; replace HF := HF.sub ((jE z1 pg x pc qg qc gp iK) ++ [(135, aH gl (x.ps.length + 2) bU), (136, aB (x.ps.length + 2)), (137, aB i), (142, aH ug ((lg x i).length) uc), BM x, (147, aB (x.img.jS i)), (148, .agg #[.string (⟨m16.name.toArray⟩), aY m16.ty, aY m16.flags, aJ m16.addr, aY m16.link, aY m16.info, aJ m16.align, aJ m16.ent, aJ m16.size, .slice m16.A m16.data.length m16.c]), (152, aB (x.img.iL i))]) (by kernel_rfl)
     refine b_ rfl ?_
     refine bn HF (by kernel_rfl) 68 #[.agg #[.bool x.wide, .bool x.big, aV x.abi, aV x.aC, .int .i64 x.ty, .int .i64 x.machine, aJ x.entry, .slice x.A x.ss.length x.c, .slice x.B x.ps.length x.d], aB (x.img.jS i), .agg #[.string (⟨m16.name.toArray⟩), aY m16.ty, aY m16.flags, aJ m16.addr, aY m16.link, aY m16.info, aJ m16.align, aJ m16.ent, aJ m16.size, .slice m16.A m16.data.length m16.c], aB (x.img.iL i)] (by kernel_rfl) (fun w => by kernel_rfl) (Calls.mono (IW x.wide x.big _ _ _ _ _ _ _ (x.img.jS i) ⟨m16.name.toArray⟩ m16.ty m16.flags m16.addr m16.link m16.info m16.align m16.ent m16.size m16.data.length m16.c (x.img.iL i) m16.A (by omega) (by omega) (by omega) (by omega) (by omega) (by omega) (by omega) w16) ?_)
     rintro _ w17 ⟨gr, Iq, curr, rfl, hb, hor⟩
     replace HM : Mm [] w0 w17 [(gr, .cells curr 5 (0, 0)), (z57, .cells #[.string (⟨m16.name.toArray⟩), aY m16.ty, aY m16.flags, aJ m16.addr, aY m16.link, aY m16.info, aJ m16.align, aJ m16.ent, aJ m16.size, .slice m16.A m16.data.length m16.c] 46 (0, 0)), (ug, .cells uk 5 (0, 0)), (gp, .cells ni 3 (0, 0)), (qg, .cells qk 3 (0, 0)), (pg, .cells pk 3 (0, 0)), (gl, .cells curl 46 (0, 0)), (gt, .cells iJ 5 (0, 0)), dh z1 x] := HM.push hb hor.new hor.obj
     have hrl : (mZ x i m16).length ≤ 64 := by rw [show (mZ x i m16).length = gQ x.wide from qx ..]; omega
     refine ⟨_, rfl, ?_⟩; clear HF; intro a HF
     replace HF := HF.sub ((jE z1 pg x pc qg qc gp iK) ++ [(135, aH gl (x.ps.length + 2) bU), (136, aB (x.ps.length + 2)), (137, aB i), (142, aH ug ((lg x i).length) uc), (153, aH gr ((mZ x i m16).length) Iq)]) (by kernel_rfl)
     refine dF (HM.told [1, 3, 4, 5, 6, 7, 8] rfl) ?_
     refine b_ rfl ?_
     refine iF HF HM rfl _ _ 33 33 rfl rfl 5 (z := aN 0) (size := 1) (bytes := 1) Tryd.underlying33 (by kernel_rfl) rfl (by decide) 2 ug ((lg x i).length) uc uk rfl rfl Fe GK GI ((lg x i).map Bv) Fb (aH gr ((mZ x i m16).length) Iq) ((mZ x i m16).length) ((mZ x i m16).map Bv) rfl (mX Tryd.underlying33 (EN hor.tk hor.sz hor.nc) (by decide) (HM.nG (i := 0) rfl hor.tk) (qp _)) (by unfold maxLen; omega) (by omega) ?_
     intro a w18 g18 C9 Gu bI Gn hsz18 NG hcm18 HF2; clear HF HM
     replace Gn : Gu.toList.take ((((lg x i).length) + ((mZ x i m16).length)) * 1) = (lg x (i + 1)).map Bv := Gn.trans (by rw [FT KC, List.map_append])
     have HM : Mm [] w0 w18 [(gr, .cells curr 5 (0, 0)), (z57, .cells #[.string (⟨m16.name.toArray⟩), aY m16.ty, aY m16.flags, aJ m16.addr, aY m16.link, aY m16.info, aJ m16.align, aJ m16.ent, aJ m16.size, .slice m16.A m16.data.length m16.c] 46 (0, 0)), (g18, .cells Gu 5 (0, 0)), (gp, .cells ni 3 (0, 0)), (qg, .cells qk 3 (0, 0)), (pg, .cells pk 3 (0, 0)), (gl, .cells curl 46 (0, 0)), (gt, .cells iJ 5 (0, 0)), dh z1 x] := bI
     have HF := HF2.sub ((jE z1 pg x pc qg qc gp iK) ++ [(135, aH gl (x.ps.length + 2) bU), (136, aB (x.ps.length + 2)), (137, aB i), (154, aH g18 (((lg x i).length) + ((mZ x i m16).length)) C9)]) (by kernel_rfl); clear bI HF2
     refine dF (HM.told [1, 3, 4, 5, 6, 7, 8] rfl) ?_
     refine bH HF (HM.told [1, 3, 4, 5, 6, 7, 8] rfl) 1 [] ((jE z1 pg x pc qg qc gp iK) ++ [(20, aH g18 (((lg x i).length) + ((mZ x i m16).length)) C9), (135, aH gl (x.ps.length + 2) bU), (136, aB (x.ps.length + 2)), (137, aB i)]) (by kernel_rfl) fun a HF => ?_
     refine lI ?_
     repeat first | refine aS ?_ | refine aU ?_
     refine wp_region_lit ?_
     refine wp_pure HF HM rfl 1 [] ((jE z1 pg x pc qg qc gp iK) ++ [(20, aH g18 (((lg x i).length) + ((mZ x i m16).length)) C9), (135, aH gl (x.ps.length + 2) bU), (136, aB (x.ps.length + 2)), (155, aA (IntKind.i64.wrap (((i : Nat) : Int) + 1)))]) (by kernel_rfl) fun a HF => ?_
     rw [show IntKind.i64.wrap (((i : Nat) : Int) + 1) = (((i + 1) : Nat) : Int) from (IntWalk.i64_in _ (by omega)).trans (by omega)] at HF
     refine wp_pure HF HM rfl 1 [] ((jE z1 pg x pc qg qc gp iK) ++ [(20, aH g18 (((lg x i).length) + ((mZ x i m16).length)) C9), (135, aH gl (x.ps.length + 2) bU), (136, aB (x.ps.length + 2)), (137, aB (i + 1))]) (by kernel_rfl) fun a HF => ?_
     refine wpList_nil ?_
     repeat first | refine aS ?_ | refine aU ?_
     rw [show (((lg x i).length) + ((mZ x i m16).length)) = ((lg x (i + 1)).length) from by rw [FT KC, List.length_append]] at HF Gn NG
     exact KR _ _ (⟨g18, C9, Gu, Gn, hsz18, NG, hcm18, (HM.pick [2, 3, 4, 5, 6, 7, 8] [(g18, .cells Gu 5 (0, 0)), (gp, .cells ni 3 (0, 0)), (qg, .cells qk 3 (0, 0)), (pg, .cells pk 3 (0, 0)), (gl, .cells curl 46 (0, 0)), (gt, .cells iJ 5 (0, 0)), dh z1 x] rfl (by decide)), HF.sub ((jE z1 pg x pc qg qc gp iK) ++ [(20, aH g18 ((lg x (i + 1)).length) C9), (135, aH gl (x.ps.length + 2) bU), (136, aB (x.ps.length + 2)), (137, aB (i + 1))]) (by kernel_rfl)⟩)
    ·intro a w KX hI
     obtain ⟨ug, uc, uk, Fb, GI, Fe, GK, HM, HF⟩ := hI
     refine aW ?_
     refine wp_pure HF HM rfl 1 [] ((jE z1 pg x pc qg qc gp iK) ++ [(20, aH ug ((lg x (x.ps.length + 2)).length) uc), (135, aH gl (x.ps.length + 2) bU), (136, aB (x.ps.length + 2)), (137, aB (x.ps.length + 2)), (138, .bool (decide ((((x.ps.length + 2) : Nat) : Int) < (((x.ps.length + 2) : Nat) : Int))))]) (by kernel_rfl) fun a HF => ?_
     refine aI ?_
     refine wp_seq ?_
     rw [show decide ((((x.ps.length + 2) : Nat) : Int) < (((x.ps.length + 2) : Nat) : Int)) = false from bZ (by omega)] at HF
     refine bf HF rfl ?_
     refine wp_exit ?_
     repeat (first | refine iW ?_ | refine ku rfl ?_)
     refine kH ?_
     repeat first | refine aS ?_ | refine aU ?_
     refine aW ?_
     refine wp_pure HF HM rfl 6 [] [(2, aH ug ((lg x (x.ps.length + 2)).length) uc), (3, aH pg x.ss.length pc), (4, aH qg (x.ps.length + 2) qc)] (by kernel_rfl) fun a HF => ?_
     refine aI ?_
     refine wp_ret ?_
     repeat first | refine cu ?_ | refine dw ?_
     rw [Ns] at HF Fb Fe
     exact AY HF rfl rfl rfl rfl ⟨ug, uc, uk, pg, pc, pk, qg, qc, qk, rfl, HM.below, ⟨HM.ge (i := 0) rfl, HM.get (i := 0) rfl, Fb, GI, Fe, GK⟩, ⟨HM.ge (i := 3) rfl, HM.get (i := 3) rfl, ptk, psz, pnc, pcm⟩, ⟨HM.ge (i := 2) rfl, HM.get (i := 2) rfl, D8, G7, Fp, G8⟩⟩

end Go.Proofs.YtdgehpocmfjbiaaDoor
namespace Go.Proofs.YtdgehpocmfjbiaaDoor
open Go.RowKit

theorem KG (x : dJ) (w0 : World) (h : x.At w0) (ok : x.Ok) : Calls Tryd.prog 25 #[x.val] w0 fun e w' => ∃ g cap cur, e = .returned (aH g x.img.file.length cap) ∧ Below w0.heap.size w0 w' ∧ Own w0.heap.size w' 5 1 g x.img.file.length cap cur (x.img.file.map Bv) := by
 obtain ⟨w, hw⟩ : ∃ w, w0 = w := ⟨_, rfl⟩
 have HM : Mm [] w0 w [] := hw ▸ Mm.start w0
 conv => arg 4; rw [hw]
 clear hw
 refine bV Tryd.func25 rfl Tryd.ntmps25 [(0, .agg #[.bool x.wide, .bool x.big, aV x.abi, aV x.aC, .int .i64 x.ty, .int .i64 x.machine, aJ x.entry, .slice x.A x.ss.length x.c, .slice x.B x.ps.length x.d])] (by kernel_rfl) (Nat.le_of_ble_eq_true rfl) ?_
 intro a HF
 refine aW ?_
 obtain ⟨z1, hz1⟩ : ∃ z, w.heap.size = z := ⟨_, rfl⟩
 refine aO HF HM hz1 2 [] [(1, aG z1)] [(z1, .cells #[.bool x.wide, .bool x.big, aV x.abi, aV x.aC, .int .i64 x.ty, .int .i64 x.machine, aJ x.entry, .slice x.A x.ss.length x.c, .slice x.B x.ps.length x.d] 26 (0, 0))] (by kernel_rfl) fun a w HF HM => ?_
 clear hz1
 refine dK ?_
 refine wp_pure HF HM rfl 1 [[0]] [(7, .agg #[.bool x.wide, .bool x.big, aV x.abi, aV x.aC, .int .i64 x.ty, .int .i64 x.machine, aJ x.entry, .slice x.A x.ss.length x.c, .slice x.B x.ps.length x.d])] (by kernel_rfl) fun a HF => ?_
 refine bn HF (by kernel_rfl) 36 #[.agg #[.bool x.wide, .bool x.big, aV x.abi, aV x.aC, .int .i64 x.ty, .int .i64 x.machine, aJ x.entry, .slice x.A x.ss.length x.c, .slice x.B x.ps.length x.d]] (by kernel_rfl) (fun w => by kernel_rfl) (Calls.mono (Np x w (h.below HM.below) ok) ?_)
 rintro _ w1 ⟨g1, cap1, qU, g2, cap2, qE, g3, cap3, qR, rfl, hb, ho1, ho2, ho3⟩
 replace HM : Mm [] w0 w1 [(g1, .cells qU 5 (0, 0)), (z1, .cells #[.bool x.wide, .bool x.big, aV x.abi, aV x.aC, .int .i64 x.ty, .int .i64 x.machine, aJ x.entry, .slice x.A x.ss.length x.c, .slice x.B x.ps.length x.d] 26 (0, 0))] := HM.push hb ho1.new ho1.obj
 refine ⟨_, rfl, ?_⟩; clear HF; intro a HF
 refine wp_pure HF HM rfl 7 [] [(3, aH g1 x.img.file.length cap1)] (by kernel_rfl) fun a HF => ?_
 refine dK ?_
 refine wp_pure HF HM rfl 2 [] [(2, aH g1 x.img.file.length cap1)] (by kernel_rfl) fun a HF => ?_
 refine aI ?_
 refine wp_ret ?_
 repeat first | refine cu ?_ | refine dw ?_
 exact dI HF rfl rfl ⟨g1, cap1, qU, rfl, HM.below, ⟨HM.ge (i := 0) rfl, HM.get (i := 0) rfl, ho1.tk, ho1.sz, ho1.nc, ho1.cm⟩⟩

end Go.Proofs.YtdgehpocmfjbiaaDoor
namespace Go.Proofs.YtdgehpocmfjbiaaDoor
open Go.ChangeShapes Go.WideShapes Go.ChangeAt Go.RowKit Go.Deep

end Go.Proofs.YtdgehpocmfjbiaaDoor
namespace Go.Proofs.YtdgehpocmfjbiaaDoor
open Go.ChangeShapes Go.WideShapes Go.ChangeAt Go.RowKit Go.Deep

section
variable {H : Type} {enc : TypeId × Value → H} {P : Program} {w : World} {base : Nat} {spare : Nat → Bool} {held : Bool}
theorem yu {t : TypeId} {fs : Array Field} {fuel : Nat} {cs : List Value} {x : DataW H × List MemPlace} (hs : P.underlying t = some (.struct fs)) (hone : oneCellFields P fs = true) (hC : P.cellsOf t = fs.size) (h : DataW.trod enc P w base spare held fuel t cs = some x) :
  cs.length = fs.size ∧ ∃ (n : Nat), ∀ (j : Nat) (f : Field), fs[j]? = some f → ∃ (u : Value) (y : DataW H × List MemPlace), cs[j]? = some u ∧ DataW.trod enc P w base spare held n f.type [u] = some y := by
 obtain ⟨xs, n, _, hx, hl, hlen, hg⟩ := DataW.trod_struct hs h
 refine ⟨hl.trans hC, n, fun j f hj => ?_⟩
 obtain ⟨ho, hk⟩ := hone_of hone j f hj
 have h1 := hg j f hj
 rw [ho, hk] at h1
 have hj1 : j < fs.size := (Array.getElem?_eq_some_iff.1 hj).1
 have hj2 : j < xs.length := by omega
 have hj3 : j < cs.length := by omega
 have e : (cs.drop j).take 1 = [cs[j]] := by
  rw [List.drop_eq_getElem_cons hj3]
  rfl
 rw [e, List.getElem?_eq_getElem hj2] at h1
 exact ⟨cs[j], xs[j], List.getElem?_eq_getElem hj3, h1⟩
theorem G6 {α : Type} {f : α → List Value} {k : Nat} (hk : ∀ a, (f a).length = k) (b : Nat) : ∀ (l : List α) (off : Nat), (∀ i (h : i < l.length) j v, (f l[i])[j]? = some v → w.cell? ⟨b, off + i * k + j, none⟩ = some v) → Row w (some ⟨b, off, none⟩) (l.flatMap f)
 | [], off, _ => Row.nil _ _
 | a :: l, off, h => by
  have ih := G6 hk b l (off + k) fun i hi j v hv => by
   have := h (i + 1) (by simpa using hi) j v (by simpa using hv)
   rw [Nat.succ_mul] at this
   rw [show off + k + i * k + j = off + (i * k + k) + j by omega]
   exact this
  intro i v hv
  rw [List.flatMap_cons] at hv
  refine ⟨b, off, rfl, ?_⟩
  by_cases hik : i < k
  ·rw [List.getElem?_append_left (by rw [hk]; exact hik)] at hv
   have := h 0 (by simp) i v (by simpa using hv)
   simpa using this
  ·rw [List.getElem?_append_right (by rw [hk]; omega), hk] at hv
   obtain ⟨b', off', e, hc⟩ := ih _ v hv
   injection e with e
   injection e with e1 e2
   subst e1; subst e2
   rw [show off + k + (i - k) = off + i by omega] at hc
   exact hc
/-- a slice of elements of k cells -/
theorem open_row {α : Type} [Inhabited α] {t e : TypeId} {k : Nat} {f : α → List Value} {Good : α → Prop} (ht : P.underlying t = some (.slice e)) (hc : P.cellsOf e = k) (hk0 : 0 < k) (hk : ∀ a, (f a).length = k)
  (hel : ∀ (n : Nat) (cs : List Value) (x : DataW H × List MemPlace), DataW.trod enc P w base spare held n e cs = some x → ∃ m, cs = f m ∧ Good m)
  {fuel : Nat} {u : Value} {x : DataW H × List MemPlace} (h : DataW.trod enc P w base spare held fuel t [u] = some x) :
  ∃ (l : List α) (A : Option Addr) (c : Nat), u = .slice A l.length c ∧ Row w A (l.flatMap f) ∧ (∀ m ∈ l, Good m) ∧ l.length ≤ c ∧ c ≤ maxLen := by
 rcases open_slice ht h with ⟨hcs, _⟩ | ⟨a, len, cap, m, n, D, Pl, hcs, hb, hl, hm, hmm, hx, hel2⟩
 ·obtain rfl : u = .slice none 0 0 := by simpa using hcs
  exact ⟨[], none, 0, rfl, Row.nil _ _, by simp, Nat.le_refl _, Nat.zero_le _⟩
 ·obtain rfl : u = .slice (some a) len cap := by simpa using hcs
  have hlm : len ≤ m := by rw [hmm]; split <;> omega
  obtain ⟨V, hV⟩ := choose_lt (α := α) (n := len) (p := fun i v => w.cells? base (a.add (i * k)) k = some (f v) ∧ Good v) (fun i hi => by
   obtain ⟨cs', h1, h2⟩ := hel2 i (by omega)
   obtain ⟨v, rfl, hg⟩ := hel n cs' _ h2
   rw [hc] at h1
   exact ⟨v, h1, hg⟩)
  refine ⟨(List.range len).map V, some a, cap, by simp, ?_, ?_, by simpa using hl, hm⟩
  ·rcases Nat.eq_zero_or_pos len with h0 | h0
   ·subst h0
    exact Row.nil _ _
   ·obtain ⟨b, off, spot⟩ := a
    have hs0 : spot = none := by
     have h1 := (World.cells?_some (hV 0 h0).1).2.2 0 hk0
     have h2 : (f (V 0))[0]? = some ((f (V 0))[0]'(by rw [hk]; exact hk0)) := List.getElem?_eq_getElem _
     rw [h2] at h1
     simpa [Addr.add] using World.cell?_spot h1
    subst hs0
    refine G6 hk b _ _ fun i hi j v hv => ?_
    simp only [List.length_map, List.length_range] at hi
    simp only [List.getElem_map, List.getElem_range] at hv
    have hj : j < k := by have := (List.getElem?_eq_some_iff.1 hv).1; rw [hk] at this; exact this
    have h1 := (World.cells?_some (hV i hi).1).2.2 j hj
    rw [hv, addr_add, addr_add] at h1
    exact h1
  ·intro v hv
   obtain ⟨i, hi, rfl⟩ := List.mem_map.1 hv
   exact (hV i (List.mem_range.1 hi)).2
end
section
variable {H : Type} {enc : TypeId × Value → H} {w : World} {base : Nat} {spare : Nat → Bool} {held : Bool}
theorem OD {n : Int} (h : (Lit.int .u8 n).wf = true) : ∃ b : UInt8, n = (b.toNat : Int) := by
 have := bounds_u8 h
 refine ⟨UInt8.ofNat n.toNat, ?_⟩
 rw [UInt8.toNat_ofNat']
 omega
theorem Dj {fuel : Nat} {u : Value} {x : DataW H × List MemPlace} (h : DataW.trod enc Tryd.prog w base spare held fuel 33 [u] = some x) :
  ∃ (l : List UInt8) (A : Option Addr) (c : Nat), u = .slice A l.length c ∧ Row w A (l.map Bv) ∧ l.length ≤ c ∧ c ≤ maxLen := by
 obtain ⟨l, A, c, h1, h2, _, h4, h5⟩ := open_row (α := UInt8) (f := fun b => [Bv b]) (Good := fun _ => True) Tryd.underlying33 (k := 1) (by kernel_rfl) (by omega) (fun _ => rfl) (fun n cs x hx => by
  obtain ⟨m, rfl, _, hw⟩ := DataW.trod_int Tryd.underlying5 hx
  obtain ⟨b, rfl⟩ := OD hw
  exact ⟨b, rfl, trivial⟩) h
 exact ⟨l, A, c, h1, by rw [List.map_eq_flatMap]; exact h2, h4, h5⟩
theorem MR {fuel : Nat} {u : Value} {x : DataW H × List MemPlace} (h : DataW.trod enc Tryd.prog w base spare held fuel 9 [u] = some x) : ∃ l : List UInt8, u = vg l ∧ l.length ≤ maxLen := by
 obtain ⟨s, hs, _, hl⟩ := DataW.trod_string Tryd.underlying9 h
 obtain rfl : u = .string s := by simpa using hs
 exact ⟨s.data.toList, rfl, by rw [Array.length_toList]; exact hl⟩
theorem list7 {α : Type} {l : List α} (h : l.length = 7) : ∃ a0 a1 a2 a3 a4 a5 a6, l = [a0, a1, a2, a3, a4, a5, a6] := by
 match l, h with
 | [a0, a1, a2, a3, a4, a5, a6], _ => exact ⟨a0, a1, a2, a3, a4, a5, a6, rfl⟩
theorem list9 {α : Type} {l : List α} (h : l.length = 9) : ∃ a0 a1 a2 a3 a4 a5 a6 a7 a8, l = [a0, a1, a2, a3, a4, a5, a6, a7, a8] := by
 match l, h with
 | [a0, a1, a2, a3, a4, a5, a6, a7, a8], _ => exact ⟨a0, a1, a2, a3, a4, a5, a6, a7, a8, rfl⟩
theorem OE {α : Type} {l : List α} (h : l.length = 10) : ∃ a0 a1 a2 a3 a4 a5 a6 a7 a8 a9, l = [a0, a1, a2, a3, a4, a5, a6, a7, a8, a9] := by
 match l, h with
 | [a0, a1, a2, a3, a4, a5, a6, a7, a8, a9], _ => exact ⟨a0, a1, a2, a3, a4, a5, a6, a7, a8, a9, rfl⟩
instance : Inhabited jH := ⟨⟨0, 0, 0, 0, 0, 0, [], none, 0⟩⟩
instance : Inhabited fK := ⟨Gm⟩
theorem MS {fuel : Nat} {cs : List Value} {x : DataW H × List MemPlace} (h : DataW.trod enc Tryd.prog w base spare held fuel 57 cs = some x) : ∃ m : jH, cs = m.cells ∧ jH.At w m := by
 obtain ⟨hl, n, hf⟩ := yu Tryd.underlying57 (by kernel_rfl) (by kernel_rfl) h
 obtain ⟨c0, c1, c2, c3, c4, c5, c6, rfl⟩ := list7 hl
 obtain ⟨u0, y0, e0, t0⟩ := hf 0 _ rfl
 obtain rfl : c0 = u0 := by simpa using e0
 obtain ⟨a0, x0, -, z0⟩ := DataW.trod_int Tryd.underlying36 t0
 obtain rfl : c0 = _ := by simpa using x0
 have q0 := bounds_u32 z0
 obtain ⟨m0, rfl⟩ := Int.eq_ofNat_of_zero_le q0.1
 obtain ⟨u1, y1, e1, t1⟩ := hf 1 _ rfl
 obtain rfl : c1 = u1 := by simpa using e1
 obtain ⟨a1, x1, -, z1⟩ := DataW.trod_int Tryd.underlying36 t1
 obtain rfl : c1 = _ := by simpa using x1
 have q1 := bounds_u32 z1
 obtain ⟨m1, rfl⟩ := Int.eq_ofNat_of_zero_le q1.1
 obtain ⟨u2, y2, e2, t2⟩ := hf 2 _ rfl
 obtain rfl : c2 = u2 := by simpa using e2
 obtain ⟨a2, x2, -, z2⟩ := DataW.trod_int Tryd.underlying22 t2
 obtain rfl : c2 = _ := by simpa using x2
 have q2 := bounds_u64 z2
 obtain ⟨m2, rfl⟩ := Int.eq_ofNat_of_zero_le q2.1
 obtain ⟨u3, y3, e3, t3⟩ := hf 3 _ rfl
 obtain rfl : c3 = u3 := by simpa using e3
 obtain ⟨a3, x3, -, z3⟩ := DataW.trod_int Tryd.underlying22 t3
 obtain rfl : c3 = _ := by simpa using x3
 have q3 := bounds_u64 z3
 obtain ⟨m3, rfl⟩ := Int.eq_ofNat_of_zero_le q3.1
 obtain ⟨u4, y4, e4, t4⟩ := hf 4 _ rfl
 obtain rfl : c4 = u4 := by simpa using e4
 obtain ⟨a4, x4, -, z4⟩ := DataW.trod_int Tryd.underlying22 t4
 obtain rfl : c4 = _ := by simpa using x4
 have q4 := bounds_u64 z4
 obtain ⟨m4, rfl⟩ := Int.eq_ofNat_of_zero_le q4.1
 obtain ⟨u5, y5, e5, t5⟩ := hf 5 _ rfl
 obtain rfl : c5 = u5 := by simpa using e5
 obtain ⟨a5, x5, -, z5⟩ := DataW.trod_int Tryd.underlying22 t5
 obtain rfl : c5 = _ := by simpa using x5
 have q5 := bounds_u64 z5
 obtain ⟨m5, rfl⟩ := Int.eq_ofNat_of_zero_le q5.1
 obtain ⟨u6, y6, e6, t6⟩ := hf 6 _ rfl
 obtain rfl : c6 = u6 := by simpa using e6
 obtain ⟨l6, A6, k6, rfl, r6, g6, j6⟩ := Dj t6
 exact ⟨⟨m0, m1, m2, m3, m4, m5, l6, A6, k6⟩, rfl, ⟨r6, g6, j6, by show m0 < _; omega, by show m1 < _; omega, by show m2 < _; omega, by show m3 < _; omega, by show m4 < _; omega, by show m5 < _; omega⟩⟩
theorem Lu {fuel : Nat} {cs : List Value} {x : DataW H × List MemPlace} (h : DataW.trod enc Tryd.prog w base spare held fuel 46 cs = some x) : ∃ m : fK, cs = m.cells ∧ fK.At w m := by
 obtain ⟨hl, n, hf⟩ := yu Tryd.underlying46 (by kernel_rfl) (by kernel_rfl) h
 obtain ⟨c0, c1, c2, c3, c4, c5, c6, c7, c8, c9, rfl⟩ := OE hl
 obtain ⟨u0, y0, e0, t0⟩ := hf 0 _ rfl
 obtain rfl : c0 = u0 := by simpa using e0
 obtain ⟨m0, rfl, z0⟩ := MR t0
 obtain ⟨u1, y1, e1, t1⟩ := hf 1 _ rfl
 obtain rfl : c1 = u1 := by simpa using e1
 obtain ⟨a1, x1, -, z1⟩ := DataW.trod_int Tryd.underlying36 t1
 obtain rfl : c1 = _ := by simpa using x1
 have q1 := bounds_u32 z1
 obtain ⟨m1, rfl⟩ := Int.eq_ofNat_of_zero_le q1.1
 obtain ⟨u2, y2, e2, t2⟩ := hf 2 _ rfl
 obtain rfl : c2 = u2 := by simpa using e2
 obtain ⟨a2, x2, -, z2⟩ := DataW.trod_int Tryd.underlying36 t2
 obtain rfl : c2 = _ := by simpa using x2
 have q2 := bounds_u32 z2
 obtain ⟨m2, rfl⟩ := Int.eq_ofNat_of_zero_le q2.1
 obtain ⟨u3, y3, e3, t3⟩ := hf 3 _ rfl
 obtain rfl : c3 = u3 := by simpa using e3
 obtain ⟨a3, x3, -, z3⟩ := DataW.trod_int Tryd.underlying22 t3
 obtain rfl : c3 = _ := by simpa using x3
 have q3 := bounds_u64 z3
 obtain ⟨m3, rfl⟩ := Int.eq_ofNat_of_zero_le q3.1
 obtain ⟨u4, y4, e4, t4⟩ := hf 4 _ rfl
 obtain rfl : c4 = u4 := by simpa using e4
 obtain ⟨a4, x4, -, z4⟩ := DataW.trod_int Tryd.underlying36 t4
 obtain rfl : c4 = _ := by simpa using x4
 have q4 := bounds_u32 z4
 obtain ⟨m4, rfl⟩ := Int.eq_ofNat_of_zero_le q4.1
 obtain ⟨u5, y5, e5, t5⟩ := hf 5 _ rfl
 obtain rfl : c5 = u5 := by simpa using e5
 obtain ⟨a5, x5, -, z5⟩ := DataW.trod_int Tryd.underlying36 t5
 obtain rfl : c5 = _ := by simpa using x5
 have q5 := bounds_u32 z5
 obtain ⟨m5, rfl⟩ := Int.eq_ofNat_of_zero_le q5.1
 obtain ⟨u6, y6, e6, t6⟩ := hf 6 _ rfl
 obtain rfl : c6 = u6 := by simpa using e6
 obtain ⟨a6, x6, -, z6⟩ := DataW.trod_int Tryd.underlying22 t6
 obtain rfl : c6 = _ := by simpa using x6
 have q6 := bounds_u64 z6
 obtain ⟨m6, rfl⟩ := Int.eq_ofNat_of_zero_le q6.1
 obtain ⟨u7, y7, e7, t7⟩ := hf 7 _ rfl
 obtain rfl : c7 = u7 := by simpa using e7
 obtain ⟨a7, x7, -, z7⟩ := DataW.trod_int Tryd.underlying22 t7
 obtain rfl : c7 = _ := by simpa using x7
 have q7 := bounds_u64 z7
 obtain ⟨m7, rfl⟩ := Int.eq_ofNat_of_zero_le q7.1
 obtain ⟨u8, y8, e8, t8⟩ := hf 8 _ rfl
 obtain rfl : c8 = u8 := by simpa using e8
 obtain ⟨a8, x8, -, z8⟩ := DataW.trod_int Tryd.underlying22 t8
 obtain rfl : c8 = _ := by simpa using x8
 have q8 := bounds_u64 z8
 obtain ⟨m8, rfl⟩ := Int.eq_ofNat_of_zero_le q8.1
 obtain ⟨u9, y9, e9, t9⟩ := hf 9 _ rfl
 obtain rfl : c9 = u9 := by simpa using e9
 obtain ⟨l9, A9, k9, rfl, r9, g9, j9⟩ := Dj t9
 exact ⟨⟨m0, m1, m2, m3, m4, m5, m6, m7, m8, l9, A9, k9⟩, rfl, ⟨r9, g9, j9, z0, by show m1 < _; omega, by show m2 < _; omega, by show m3 < _; omega, by show m4 < _; omega, by show m5 < _; omega, by show m6 < _; omega, by show m7 < _; omega, by show m8 < _; omega⟩⟩
theorem MV {r : Reach} {b0 : Nat} {v : Value} {d : DataW H} {p : List MemPlace} (hv : Value.okWide Tryd.prog w r b0 26 v) (ht : DataW.Trod enc Tryd.prog w base spare held 26 v d p) : ∃ x : dJ, v = x.val ∧ x.At w := by
 obtain ⟨cs, rfl, hsz⟩ := okWide_struct Tryd.underlying26 hv
 obtain ⟨fuel, h0⟩ := ht
 have h : DataW.trod enc Tryd.prog w base spare held fuel 26 cs.toList = some (d, p) := h0
 obtain ⟨l, rfl⟩ : ∃ l : List Value, cs = l.toArray := ⟨cs.toList, by simp⟩
 simp only [List.toList_toArray] at h
 obtain ⟨hl, n, hf⟩ := yu Tryd.underlying26 (by kernel_rfl) (by kernel_rfl) h
 obtain ⟨c0, c1, c2, c3, c4, c5, c6, c7, c8, rfl⟩ := list9 hl
 obtain ⟨u0, y0, e0, t0⟩ := hf 0 _ rfl
 obtain rfl : c0 = u0 := by simpa using e0
 obtain ⟨b0_, x0, -⟩ := DataW.trod_bool Tryd.underlying4 t0
 obtain rfl : c0 = .bool b0_ := by simpa using x0
 obtain ⟨u1, y1, e1, t1⟩ := hf 1 _ rfl
 obtain rfl : c1 = u1 := by simpa using e1
 obtain ⟨b1, x1, -⟩ := DataW.trod_bool Tryd.underlying4 t1
 obtain rfl : c1 = .bool b1 := by simpa using x1
 obtain ⟨u2, y2, e2, t2⟩ := hf 2 _ rfl
 obtain rfl : c2 = u2 := by simpa using e2
 obtain ⟨a2, x2, -, z2⟩ := DataW.trod_int Tryd.underlying5 t2
 obtain rfl : c2 = _ := by simpa using x2
 have q2 := bounds_u8 z2
 obtain ⟨m2, rfl⟩ := Int.eq_ofNat_of_zero_le q2.1
 obtain ⟨u3, y3, e3, t3⟩ := hf 3 _ rfl
 obtain rfl : c3 = u3 := by simpa using e3
 obtain ⟨a3, x3, -, z3⟩ := DataW.trod_int Tryd.underlying5 t3
 obtain rfl : c3 = _ := by simpa using x3
 have q3 := bounds_u8 z3
 obtain ⟨m3, rfl⟩ := Int.eq_ofNat_of_zero_le q3.1
 obtain ⟨u4, y4, e4, t4⟩ := hf 4 _ rfl
 obtain rfl : c4 = u4 := by simpa using e4
 obtain ⟨a4, x4, -, z4⟩ := DataW.trod_int Tryd.underlying3 t4
 obtain rfl : c4 = _ := by simpa using x4
 have q4 := bounds_i64 z4
 obtain ⟨u5, y5, e5, t5⟩ := hf 5 _ rfl
 obtain rfl : c5 = u5 := by simpa using e5
 obtain ⟨a5, x5, -, z5⟩ := DataW.trod_int Tryd.underlying3 t5
 obtain rfl : c5 = _ := by simpa using x5
 have q5 := bounds_i64 z5
 obtain ⟨u6, y6, e6, t6⟩ := hf 6 _ rfl
 obtain rfl : c6 = u6 := by simpa using e6
 obtain ⟨a6, x6, -, z6⟩ := DataW.trod_int Tryd.underlying22 t6
 obtain rfl : c6 = _ := by simpa using x6
 have q6 := bounds_u64 z6
 obtain ⟨m6, rfl⟩ := Int.eq_ofNat_of_zero_le q6.1
 obtain ⟨u7, y7, e7, t7⟩ := hf 7 _ rfl
 obtain rfl : c7 = u7 := by simpa using e7
 obtain ⟨l7, A7, k7, rfl, r7, v7, g7, j7⟩ := open_row (α := jH) Tryd.underlying23 (k := 7) (by kernel_rfl) (by omega) (fun _ => rfl) (fun n cs x hx => MS hx) t7
 obtain ⟨u8, y8, e8, t8⟩ := hf 8 _ rfl
 obtain rfl : c8 = u8 := by simpa using e8
 obtain ⟨l8, A8, k8, rfl, r8, v8, g8, j8⟩ := open_row (α := fK) Tryd.underlying24 (k := 10) (by kernel_rfl) (by omega) (fun _ => rfl) (fun n cs x hx => Lu hx) t8
 exact ⟨⟨b0_, b1, m2, m3, a4, a5, m6, l7, A7, k7, l8, A8, k8⟩, rfl, ⟨r7, r8, v7, v8, g7, j7, g8, j8, by show m2 < _; omega, by show m3 < _; omega, by show m6 < _; omega⟩⟩
end
end Go.Proofs.YtdgehpocmfjbiaaDoor
