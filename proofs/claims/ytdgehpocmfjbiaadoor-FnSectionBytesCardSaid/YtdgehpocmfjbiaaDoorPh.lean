/- spec.File and laws.fileOf. · laws.fileOf. · A struct by value, opened: each field's own reading, whatever the number of one-cell fields. · Arguments, opened: what the premise of a row says of memory, in the words of the walks. -/
import Derived.Test.YtdgehpocmfjbiaaDoorPg
import Derived.Test.YtdgehpocmfjbiaaDoorRows
import Derived.WalkKit
import Derived.ProofKit
import Derived.OpenShut
import Derived.ShutString
import Derived.ChangeOld
import Derived.Below
import Derived.Deep.Slices
import Derived.Deep.Fields
set_option linter.unusedVariables false
set_option linter.unusedSimpArgs false
namespace Go.Proofs.YtdgehpocmfjbiaaDoor
open Go.RowKit

abbrev file_any_B0 := fun z1 (x : ImgM) => ((z1, .cells #[.bool x.wide, .bool x.big, u8_ x.abi, u8_ x.abiv, .int .i64 x.ty, .int .i64 x.machine, u6_ x.entry, .slice x.A x.ss.length x.c, .slice x.B x.ps.length x.d] 26 (0, 0)) : Nat × Obj)
abbrev file_any_S1 := fun z1 (x : ImgM) gl capl => ([(1, pt_ z1), (5, i6_ (hSize x.wide)), (8, sl_ gl (x.ps.length + 2) capl)] : Slots)
abbrev file_any_S2 := fun z1 (x : ImgM) gl capl bg i bc pg pc z10 => ((file_any_S1 z1 x gl capl) ++ [(9, i6_ x.img.at0), (10, sl_ bg ((segPre x i).length) bc), (11, sl_ pg i pc), (12, sl_ (z10 + 2) 0 0), (45, .slice x.A x.ss.length x.c), (46, i6_ x.ss.length), (47, i6_ i)] : Slots)
abbrev file_any_B3 := fun z13 (m1 : SegM) => ((z13, .cells #[u3_ m1.ty, u3_ m1.flags, u6_ m1.vaddr, u6_ m1.paddr, u6_ m1.memsz, u6_ m1.align, .slice m1.A m1.data.length m1.c] 57 (0, 0)) : Nat × Obj)
abbrev file_any_S4 := fun z1 (x : ImgM) gl capl bg i bc z10 z13 => ((file_any_S1 z1 x gl capl) ++ [(9, i6_ x.img.at0), (10, sl_ bg ((segPre x i).length) bc), (12, sl_ (z10 + 2) 0 0), (14, pt_ z13), (45, .slice x.A x.ss.length x.c), (46, i6_ x.ss.length), (47, i6_ i)] : Slots)
abbrev file_any_S5 := fun z1 (x : ImgM) gl capl g3 i (m1 : SegM) cap3 g2 cap2 z10 => ((file_any_S1 z1 x gl capl) ++ [(9, i6_ x.img.at0), (10, sl_ g3 (((segPre x i).length) + m1.data.length) cap3), (11, sl_ g2 (i + 1) cap2), (12, sl_ (z10 + 2) 0 0), (45, .slice x.A x.ss.length x.c), (46, i6_ x.ss.length)] : Slots)
abbrev file_any_S6 := fun z1 (x : ImgM) gl capl bg gt capt i bc pg pc => ((file_any_S1 z1 x gl capl) ++ [(9, i6_ x.img.at0), (10, sl_ bg ((bodyM x gt capt i).length) bc), (11, sl_ pg x.ss.length pc)] : Slots)
abbrev file_any_B7 := fun z28 (x : ImgM) gt capt i => ((z28, .cells #[i6_ (x.img.at0 + (bodyM x gt capt i).length)] 3 (0, 0)) : Nat × Obj)
abbrev file_any_S8 := fun z1 (x : ImgM) gl capl bg gt capt i bc pg pc g5 cap5 ng nc z26 => ((file_any_S6 z1 x gl capl bg gt capt i bc pg pc) ++ [(12, sl_ g5 (i + 1) cap5), (15, sl_ ng i nc), (17, pt_ z26), (64, sl_ gl (x.ps.length + 2) capl), (65, i6_ (x.ps.length + 2)), (66, i6_ i)] : Slots)
abbrev file_any_S9 := fun z1 (x : ImgM) gl capl cg gt capt i cc pg pc rg rc => ((file_any_S1 z1 x gl capl) ++ [(9, i6_ x.img.at0), (10, sl_ cg ((bodyM x gt capt (i + 1)).length) cc), (11, sl_ pg x.ss.length pc), (12, sl_ rg (i + 1) rc)] : Slots)
abbrev file_any_S10 := fun z1 (x : ImgM) gl capl cg gt capt i cc pg pc rg rc g10 cap10 => ((file_any_S9 z1 x gl capl cg gt capt i cc pg pc rg rc) ++ [(15, sl_ g10 (i + 1) cap10), (64, sl_ gl (x.ps.length + 2) capl), (65, i6_ (x.ps.length + 2))] : Slots)
abbrev file_any_S11 := fun z1 (x : ImgM) gl capl bg gt capt bc pg pc qg qc => ((file_any_S1 z1 x gl capl) ++ [(9, i6_ x.img.at0), (10, sl_ bg ((bodyM x gt capt (x.ps.length + 2)).length) bc), (11, sl_ pg x.ss.length pc), (12, sl_ qg (x.ps.length + 2) qc)] : Slots)
abbrev file_any_S12 := fun z1 gl (x : ImgM) capl bg gt capt bc pg pc qg qc gp capp => ([(1, pt_ z1), (8, sl_ gl (x.ps.length + 2) capl), (10, sl_ bg ((bodyM x gt capt (x.ps.length + 2)).length) bc), (11, sl_ pg x.ss.length pc), (12, sl_ qg (x.ps.length + 2) qc), (19, sl_ gp x.img.names.length capp)] : Slots)
abbrev file_any_S13 := fun z1 gl (x : ImgM) capl bg gt capt bc pg pc qg qc gp capp ug i uc => ((file_any_S12 z1 gl x capl bg gt capt bc pg pc qg qc gp capp) ++ [(20, sl_ ug ((outM x i).length) uc), (115, .slice x.A x.ss.length x.c), (116, i6_ x.ss.length), (117, i6_ i)] : Slots)
abbrev file_any_B14 := fun z48 (m12 : SegM) => ((z48, .cells #[u3_ m12.ty, u3_ m12.flags, u6_ m12.vaddr, u6_ m12.paddr, u6_ m12.memsz, u6_ m12.align, .slice m12.A m12.data.length m12.c] 57 (0, 0)) : Nat × Obj)
abbrev file_any_S15 := fun z1 gl (x : ImgM) capl bg gt capt bc pg pc qg qc gp capp i ug uc (m12 : SegM) => ((file_any_S12 z1 gl x capl bg gt capt bc pg pc qg qc gp capp) ++ [(115, .slice x.A x.ss.length x.c), (116, i6_ x.ss.length), (117, i6_ i), (122, sl_ ug ((outM x i).length) uc), (123, .agg #[.bool x.wide, .bool x.big, u8_ x.abi, u8_ x.abiv, .int .i64 x.ty, .int .i64 x.machine, u6_ x.entry, .slice x.A x.ss.length x.c, .slice x.B x.ps.length x.d]), (124, .agg #[u3_ m12.ty, u3_ m12.flags, u6_ m12.vaddr, u6_ m12.paddr, u6_ m12.memsz, u6_ m12.align, .slice m12.A m12.data.length m12.c])] : Slots)
abbrev file_any_S16 := fun z1 pg (x : ImgM) pc qg qc gp capp => ([(1, pt_ z1), (11, sl_ pg x.ss.length pc), (12, sl_ qg (x.ps.length + 2) qc), (19, sl_ gp x.img.names.length capp)] : Slots)
abbrev file_any_S17 := fun z1 pg (x : ImgM) pc qg qc gp capp ug i uc gl capl => ((file_any_S16 z1 pg x pc qg qc gp capp) ++ [(20, sl_ ug ((endM x i).length) uc), (135, sl_ gl (x.ps.length + 2) capl), (136, i6_ (x.ps.length + 2)), (137, i6_ i)] : Slots)
abbrev file_any_S18 := fun z1 pg (x : ImgM) pc qg qc gp capp i z57 gl capl ug uc => ((file_any_S16 z1 pg x pc qg qc gp capp) ++ [(23, i6_ i), (24, pt_ z57), (135, sl_ gl (x.ps.length + 2) capl), (136, i6_ (x.ps.length + 2)), (137, i6_ i), (142, sl_ ug ((endM x i).length) uc), (143, .agg #[.bool x.wide, .bool x.big, u8_ x.abi, u8_ x.abiv, .int .i64 x.ty, .int .i64 x.machine, u6_ x.entry, .slice x.A x.ss.length x.c, .slice x.B x.ps.length x.d])] : Slots)
abbrev file_any_P19 := fun (x : ImgM) => ((143, .agg #[.bool x.wide, .bool x.big, u8_ x.abi, u8_ x.abiv, .int .i64 x.ty, .int .i64 x.machine, u6_ x.entry, .slice x.A x.ss.length x.c, .slice x.B x.ps.length x.d]) : Nat × Value)
set_option maxRecDepth 100000 in
set_option maxHeartbeats 1000000 in
theorem file_any (x : ImgM) (w0 : World) (h : x.At w0) (ok : x.Ok) :
    Calls Tryd.prog 36 #[x.val] w0 fun e w' => ∃ g cap cur g2 cap2 cur2 g3 cap3 cur3, e = .returned (.tuple #[sl_ g x.img.file.length cap, sl_ g2 x.ss.length cap2, sl_ g3 (x.ps.length + 2) cap3]) ∧ Below w0.heap.size w0 w' ∧
      Own w0.heap.size w' 5 1 g x.img.file.length cap cur (x.img.file.map Bv) ∧ Own w0.heap.size w' 3 1 g2 x.ss.length cap2 cur2 ((List.range x.ss.length).map (fun j => numV (x.img.segPlace j))) ∧ Own w0.heap.size w' 3 1 g3 (x.ps.length + 2) cap3 cur3 ((List.range (x.ps.length + 2)).map (fun j => numV (x.img.secPlace j))) := by
  have iok := ImgM.ok ok h
  have hk1 := ok.segs; have hk2 := ok.parts; have hk3 := iok.namesB_le; have hk4 := iok.segBody_le; have hk5 := iok.secBody_le; have hk6 := iok.at0_le; have hk7 := iok.shoff_le; have hk8 := iok.length_le
  have hsz : hSize x.wide ≤ 64 ∧ pSize x.wide ≤ 64 ∧ sSize x.wide ≤ 64 := by unfold hSize pSize sSize; cases x.wide <;> decide
  have hat0 := at0_eq x
  have hmul : pSize x.wide * x.ss.length ≤ 64 * 100 := Nat.mul_le_mul hsz.2.1 hk1
  obtain ⟨w, hw⟩ : ∃ w, w0 = w := ⟨_, rfl⟩
  have HM : Mm [] w0 w [] := hw ▸ Mm.start w0
  conv => arg 4; rw [hw]
  clear hw
  refine calls_start Tryd.func36 rfl Tryd.ntmps36 [(0, .agg #[.bool x.wide, .bool x.big, u8_ x.abi, u8_ x.abiv, .int .i64 x.ty, .int .i64 x.machine, u6_ x.entry, .slice x.A x.ss.length x.c, .slice x.B x.ps.length x.d])] (by kernel_rfl) (Nat.le_of_ble_eq_true rfl) ?_
  intro a HF
  refine wp_seq (wp_region_lit ?_)
  obtain ⟨z1, hz1⟩ : ∃ z, w.heap.size = z := ⟨_, rfl⟩
  refine wp_sym HF HM hz1 4 [] [(1, pt_ z1)] [file_any_B0 z1 x] (by kernel_rfl) ?_
  clear HF HM hz1; intro a w HF HM
  refine nil_then ?_
  refine wp_seq (wp_region_lit ?_)
  refine wp_pure HF HM rfl 2 [[0]] [(1, pt_ z1), (27, .bool x.wide)] (by kernel_rfl) ?_
  clear HF; intro a HF
  refine wp_call HF (by kernel_rfl) 64 #[.bool x.wide] (by kernel_rfl) (fun w => by kernel_rfl) (Calls.mono (sizes_any x.wide w) ?_)
  rintro _ w1 ⟨rfl, hb⟩
  replace HM := HM.call hb
  clear hb
  refine ⟨_, rfl, ?_⟩; clear HF; intro a HF
  replace HF := HF.sub [(1, pt_ z1), (28, .tuple #[i6_ (hSize x.wide), i6_ (pSize x.wide), i6_ (sSize x.wide)])] (by kernel_rfl)
  refine wp_pure HF HM rfl 7 [] [(1, pt_ z1), (5, i6_ (hSize x.wide)), (6, i6_ (pSize x.wide))] (by kernel_rfl) ?_
  clear HF; intro a HF
  refine nil_then ?_
  refine wp_seq (wp_region_lit ?_)
  refine wp_pure HF HM rfl 1 [[0]] [(1, pt_ z1), (5, i6_ (hSize x.wide)), (6, i6_ (pSize x.wide)), (32, .agg #[.bool x.wide, .bool x.big, u8_ x.abi, u8_ x.abiv, .int .i64 x.ty, .int .i64 x.machine, u6_ x.entry, .slice x.A x.ss.length x.c, .slice x.B x.ps.length x.d])] (by kernel_rfl) ?_
  clear HF; intro a HF
  refine wp_call HF (by kernel_rfl) 38 #[.agg #[.bool x.wide, .bool x.big, u8_ x.abi, u8_ x.abiv, .int .i64 x.ty, .int .i64 x.machine, u6_ x.entry, .slice x.A x.ss.length x.c, .slice x.B x.ps.length x.d]] (by kernel_rfl) (fun w => by kernel_rfl) (Calls.mono (all_any x w1 (h.below HM.below) (by omega) (by omega)) ?_)
  rintro _ w2 ⟨gl, capl, curl, gt, capt, curt, rfl, hb, hol, hot, hne⟩
  replace HM : Mm [] w0 w2 [(gl, .cells curl 46 (0, 0)), (gt, .cells curt 5 (0, 0)), file_any_B0 z1 x] := HM.push2 hb hot.new hot.obj hol.new hol.obj hne
  have hal := allM_length x gt capt
  refine ⟨_, rfl, ?_⟩; clear HF; intro a HF
  replace HF := HF.sub [(1, pt_ z1), (5, i6_ (hSize x.wide)), (6, i6_ (pSize x.wide)), (33, sl_ gl (x.ps.length + 2) capl)] (by kernel_rfl)
  refine wp_pure HF HM rfl 1 [] [(1, pt_ z1), (5, i6_ (hSize x.wide)), (6, i6_ (pSize x.wide)), (8, sl_ gl (x.ps.length + 2) capl)] (by kernel_rfl) ?_
  clear HF; intro a HF
  refine nil_then ?_
  refine wp_seq (wp_region_lit ?_)
  refine wp_pure HF HM rfl 5 [[0]] ((file_any_S1 z1 x gl capl) ++ [(34, i6_ (hSize x.wide)), (35, i6_ (pSize x.wide)), (38, i6_ x.ss.length)]) (by kernel_rfl) ?_
  clear HF; intro a HF
  refine wp_pure HF HM rfl 1 [] ((file_any_S1 z1 x gl capl) ++ [(34, i6_ (hSize x.wide)), (39, iI_ (IntKind.i64.wrap ((((pSize x.wide) : Nat) : Int) * ((x.ss.length : Nat) : Int))))]) (by kernel_rfl) ?_
  clear HF; intro a HF
  rw [show IntKind.i64.wrap ((((pSize x.wide) : Nat) : Int) * ((x.ss.length : Nat) : Int)) = ((((pSize x.wide * x.ss.length)) : Nat) : Int) from (IntWalk.i64_in _ (by rw [← Int.natCast_mul]; omega)).trans (Int.natCast_mul _ _).symm] at HF
  refine wp_pure HF HM rfl 1 [] ((file_any_S1 z1 x gl capl) ++ [(40, iI_ (IntKind.i64.wrap ((((hSize x.wide) : Nat) : Int) + ((((pSize x.wide * x.ss.length)) : Nat) : Int))))]) (by kernel_rfl) ?_
  clear HF; intro a HF
  rw [show IntKind.i64.wrap ((((hSize x.wide) : Nat) : Int) + ((((pSize x.wide * x.ss.length)) : Nat) : Int)) = ((x.img.at0 : Nat) : Int) from (IntWalk.i64_in _ (by omega)).trans (by omega)] at HF
  refine wp_pure HF HM rfl 1 [] ((file_any_S1 z1 x gl capl) ++ [(9, i6_ x.img.at0)]) (by kernel_rfl) ?_
  clear HF; intro a HF
  refine nil_then ?_
  refine wp_seq (wp_region_lit ?_)
  obtain ⟨z10, hz10⟩ : ∃ z, w2.heap.size = z := ⟨_, rfl⟩
  refine wp_sym HF HM hz10 6 [] ((file_any_S1 z1 x gl capl) ++ [(9, i6_ x.img.at0), (10, sl_ z10 0 0), (11, sl_ (z10 + 1) 0 0), (12, sl_ (z10 + 2) 0 0)]) [((z10 + 2), .cells #[] 3 (0, 0)), ((z10 + 1), .cells #[] 3 (0, 0)), (z10, .cells #[] 5 (0, 0)), (gl, .cells curl 46 (0, 0)), (gt, .cells curt 5 (0, 0)), file_any_B0 z1 x] (by kernel_rfl) ?_
  clear HF HM hz10; intro a w HF HM
  refine nil_then ?_
  refine wp_seq ?_
  refine wp_seq (wp_region_lit ?_)
  refine wp_pure HF HM rfl 4 [[0]] ((file_any_S1 z1 x gl capl) ++ [(9, i6_ x.img.at0), (10, sl_ z10 0 0), (11, sl_ (z10 + 1) 0 0), (12, sl_ (z10 + 2) 0 0), (45, .slice x.A x.ss.length x.c), (46, i6_ x.ss.length), (47, iI_ 0)]) (by kernel_rfl) ?_
  clear HF; intro a HF
  refine nil_then ?_
  refine wp_block ?_
  refine loop_ind (x.ss.length) (fun i a w => (∃ bg : Nat, ∃ bc : Nat, ∃ bk : Array Value, ∃ pg : Nat, ∃ pc : Nat, ∃ pk : Array Value, (bk.toList.take (((segPre x i).length) * 1) = (segPre x i).map Bv) ∧ (bk.size = bc * 1) ∧ (((segPre x i).length) ≤ bc) ∧ (bc ≤ maxLen) ∧ (pk.toList.take (i * 1) = (List.range i).map (fun j => numV (x.img.segPlace j))) ∧ (pk.size = pc * 1) ∧ (i ≤ pc) ∧ (pc ≤ maxLen) ∧ Mm [] w0 w [(pg, .cells pk 3 (0, 0)), (bg, .cells bk 5 (0, 0)), ((z10 + 2), .cells #[] 3 (0, 0)), (gl, .cells curl 46 (0, 0)), (gt, .cells curt 5 (0, 0)), file_any_B0 z1 x] ∧ Fr 159 a (file_any_S2 z1 x gl capl bg i bc pg pc z10))) ?_ ?_ ?_
  · exact ⟨z10, 0, #[], (z10 + 1), 0, #[], rfl, rfl, Nat.le_refl _, by unfold maxLen; omega, rfl, rfl, Nat.le_refl _, by unfold maxLen; omega, (HM.pick [1, 2, 0, 3, 4, 5] [((z10 + 1), .cells #[] 3 (0, 0)), (z10, .cells #[] 5 (0, 0)), ((z10 + 2), .cells #[] 3 (0, 0)), (gl, .cells curl 46 (0, 0)), (gt, .cells curt 5 (0, 0)), file_any_B0 z1 x] rfl (by decide)), HF.sub ((file_any_S1 z1 x gl capl) ++ [(9, i6_ x.img.at0), (10, sl_ z10 ((segPre x 0).length) 0), (11, sl_ (z10 + 1) 0 0), (12, sl_ (z10 + 2) 0 0), (45, .slice x.A x.ss.length x.c), (46, i6_ x.ss.length), (47, iI_ 0)]) (by kernel_rfl)⟩
  · intro i a w KX hi hI KR
    obtain ⟨bg, bc, bk, pg, pc, pk, btk, bsz, bnc, bcm, ptk, psz, pnc, pcm, HM, HF⟩ := hI
    have hpl := segPlace_eq x i; have hsl := segPre_le x i
    refine wp_seq (wp_region_lit ?_)
    refine wp_pure HF HM rfl 1 [] ((file_any_S2 z1 x gl capl bg i bc pg pc z10) ++ [(48, .bool (decide (((i : Nat) : Int) < ((x.ss.length : Nat) : Int))))]) (by kernel_rfl) ?_
    clear HF; intro a HF
    refine nil_then ?_
    refine wp_seq ?_
    rw [show decide (((i : Nat) : Int) < ((x.ss.length : Nat) : Int)) = true from dec_t (by omega)] at HF
    refine wp_condT HF rfl ?_
    refine wp_skip ?_
    repeat (first | refine then_norm ?_ | refine inb_norm ?_)
    refine wp_seq ?_
    refine wp_block ?_
    refine wp_seq (wp_region_lit ?_)
    obtain ⟨m1, hm1⟩ : ∃ m, x.ss[i]? = some m := ⟨_, List.getElem?_eq_getElem (by omega)⟩
    have hme_m1 := ok.seg m1 (List.mem_of_getElem? hm1)
    have hmd_m1 := hme_m1.data
    have hmb_m1 := h.seg m1 (List.mem_of_getElem? hm1)
    have hmt_m1 := hmb_m1.ty; have hmf_m1 := hmb_m1.flags
    refine wp_run HF (by kernel_rfl) (.pointer (Option.map (fun q : Addr => q.add (i * 7)) x.A)) (by kernel_rfl) (run_index_row Tryd.underlying23 (by kernel_rfl) rfl i rfl rfl (by omega) (row_some_elem (row_elem (f := SegM.cells) (k := 7) (fun _ => rfl) (HM.row h.segs) i hm1) (Nat.zero_lt_succ _))) ?_
    clear HF; intro a HF; replace HF := HF.sub ((file_any_S2 z1 x gl capl bg i bc pg pc z10) ++ [(49, .pointer (Option.map (fun q : Addr => q.add (i * 7)) x.A))]) (by kernel_rfl)
    refine wp_run HF (by kernel_rfl) (.agg #[u3_ m1.ty, u3_ m1.flags, u6_ m1.vaddr, u6_ m1.paddr, u6_ m1.memsz, u6_ m1.align, .slice m1.A m1.data.length m1.c]) (by kernel_rfl) (run_load_row rfl rfl (row_elem (f := SegM.cells) (k := 7) (fun _ => rfl) (HM.row h.segs) i hm1) (Nat.zero_lt_succ _) Tryd.underlying57 rfl (by kernel_rfl)) ?_
    clear HF; intro a HF; replace HF := HF.sub ((file_any_S2 z1 x gl capl bg i bc pg pc z10) ++ [(50, .agg #[u3_ m1.ty, u3_ m1.flags, u6_ m1.vaddr, u6_ m1.paddr, u6_ m1.memsz, u6_ m1.align, .slice m1.A m1.data.length m1.c])]) (by kernel_rfl)
    obtain ⟨z13, hz13⟩ : ∃ z, w.heap.size = z := ⟨_, rfl⟩
    refine wp_sym HF HM hz13 2 [[6]] ((file_any_S1 z1 x gl capl) ++ [(9, i6_ x.img.at0), (10, sl_ bg ((segPre x i).length) bc), (11, sl_ pg i pc), (12, sl_ (z10 + 2) 0 0), (14, pt_ z13), (45, .slice x.A x.ss.length x.c), (46, i6_ x.ss.length), (47, i6_ i)]) [file_any_B3 z13 m1, (pg, .cells pk 3 (0, 0)), (bg, .cells bk 5 (0, 0)), ((z10 + 2), .cells #[] 3 (0, 0)), (gl, .cells curl 46 (0, 0)), (gt, .cells curt 5 (0, 0)), file_any_B0 z1 x] (by kernel_rfl) ?_
    clear HF HM hz13; intro a w HF HM
    refine nil_then ?_
    refine wp_seq (wp_region_lit ?_)
    refine wp_pure HF HM rfl 5 [] ((file_any_S4 z1 x gl capl bg i bc z10 z13) ++ [(51, sl_ pg i pc), (55, iI_ (IntKind.i64.wrap (((x.img.at0 : Nat) : Int) + ((((segPre x i).length) : Nat) : Int))))]) (by kernel_rfl) ?_
    clear HF; intro a HF
    rw [show IntKind.i64.wrap (((x.img.at0 : Nat) : Int) + ((((segPre x i).length) : Nat) : Int)) = (((x.img.segPlace i) : Nat) : Int) from (IntWalk.i64_in _ (by omega)).trans (by omega)] at HF
    obtain ⟨z15, hz15⟩ : ∃ z, w.heap.size = z := ⟨_, rfl⟩
    refine wp_sym HF HM hz15 1 [] ((file_any_S4 z1 x gl capl bg i bc z10 z13) ++ [(51, sl_ pg i pc), (56, sl_ z15 1 1)]) [(z15, .cells #[i6_ (x.img.segPlace i)] 3 (0, 0)), file_any_B3 z13 m1, (pg, .cells pk 3 (0, 0)), (bg, .cells bk 5 (0, 0)), ((z10 + 2), .cells #[] 3 (0, 0)), (gl, .cells curl 46 (0, 0)), (gt, .cells curt 5 (0, 0)), file_any_B0 z1 x] (by kernel_rfl) ?_
    clear HF HM hz15; intro a w HF HM
    refine wp_append_told HF HM rfl _ _ 66 66 rfl rfl 3 (z := iI_ 0) (size := 1) (bytes := 8) Tryd.underlying66 (by kernel_rfl) rfl (by decide) 2 pg i pc pk rfl rfl pnc pcm psz ((List.range i).map (fun j => numV (x.img.segPlace j))) ptk (sl_ z15 1 1) 1 [i6_ (x.img.segPlace i)] rfl (src_row Tryd.underlying66 rfl (by decide) (HM.rowAt (i := 0) rfl) (one_cells rfl)) (by unfold maxLen; omega) (by omega) ?_
    intro a w3 g2 cap2 cur2 HM2 htk2 hsz2 hnc2 hcm2 HF2; clear HF HM
    replace htk2 : cur2.toList.take ((i + 1) * 1) = (List.range (i + 1)).map (fun j => numV (x.img.segPlace j)) := htk2.trans (range_next i)
    have HM : Mm [] w0 w3 [(z15, .cells #[i6_ (x.img.segPlace i)] 3 (0, 0)), file_any_B3 z13 m1, (g2, .cells cur2 3 (0, 0)), (bg, .cells bk 5 (0, 0)), ((z10 + 2), .cells #[] 3 (0, 0)), (gl, .cells curl 46 (0, 0)), (gt, .cells curt 5 (0, 0)), file_any_B0 z1 x] := HM2
    have HF := HF2.sub ((file_any_S4 z1 x gl capl bg i bc z10 z13) ++ [(57, sl_ g2 (i + 1) cap2)]) (by kernel_rfl); clear HM2 HF2
    refine wp_pure HF HM rfl 1 [] ((file_any_S1 z1 x gl capl) ++ [(9, i6_ x.img.at0), (10, sl_ bg ((segPre x i).length) bc), (11, sl_ g2 (i + 1) cap2), (12, sl_ (z10 + 2) 0 0), (14, pt_ z13), (45, .slice x.A x.ss.length x.c), (46, i6_ x.ss.length), (47, i6_ i)]) (by kernel_rfl) ?_
    clear HF; intro a HF
    refine nil_then ?_
    refine wp_region_lit ?_
    refine wp_pure HF HM rfl 3 [[6]] ((file_any_S1 z1 x gl capl) ++ [(9, i6_ x.img.at0), (11, sl_ g2 (i + 1) cap2), (12, sl_ (z10 + 2) 0 0), (45, .slice x.A x.ss.length x.c), (46, i6_ x.ss.length), (47, i6_ i), (58, sl_ bg ((segPre x i).length) bc), (60, .slice m1.A m1.data.length m1.c)]) (by kernel_rfl) ?_
    clear HF; intro a HF
    refine wp_append_told HF HM rfl _ _ 33 33 rfl rfl 5 (z := iB_ 0) (size := 1) (bytes := 1) Tryd.underlying33 (by kernel_rfl) rfl (by decide) 3 bg ((segPre x i).length) bc bk rfl rfl bnc bcm bsz ((segPre x i).map Bv) btk (.slice m1.A m1.data.length m1.c) m1.data.length (m1.data.map Bv) rfl (src_row Tryd.underlying33 (by simp) (by decide) (HM.row hmb_m1.row) (Bv_one _)) (by unfold maxLen; omega) (by omega) ?_
    intro a w4 g3 cap3 cur3 HM2 htk3 hsz3 hnc3 hcm3 HF2; clear HF HM
    replace htk3 : cur3.toList.take ((((segPre x i).length) + m1.data.length) * 1) = (segPre x (i + 1)).map Bv := htk3.trans (by rw [segPre_next hm1, List.map_append])
    have HM : Mm [] w0 w4 [(z15, .cells #[i6_ (x.img.segPlace i)] 3 (0, 0)), file_any_B3 z13 m1, (g2, .cells cur2 3 (0, 0)), (g3, .cells cur3 5 (0, 0)), ((z10 + 2), .cells #[] 3 (0, 0)), (gl, .cells curl 46 (0, 0)), (gt, .cells curt 5 (0, 0)), file_any_B0 z1 x] := HM2
    have HF := HF2.sub ((file_any_S1 z1 x gl capl) ++ [(9, i6_ x.img.at0), (11, sl_ g2 (i + 1) cap2), (12, sl_ (z10 + 2) 0 0), (45, .slice x.A x.ss.length x.c), (46, i6_ x.ss.length), (47, i6_ i), (61, sl_ g3 (((segPre x i).length) + m1.data.length) cap3)]) (by kernel_rfl); clear HM2 HF2
    refine wp_pure HF HM rfl 1 [] ((file_any_S5 z1 x gl capl g3 i m1 cap3 g2 cap2 z10) ++ [(47, i6_ i)]) (by kernel_rfl) ?_
    clear HF; intro a HF
    refine wpList_nil ?_
    repeat (first | refine then_norm ?_ | refine inb_norm ?_)
    refine wp_region_lit ?_
    refine wp_pure HF HM rfl 1 [] ((file_any_S5 z1 x gl capl g3 i m1 cap3 g2 cap2 z10) ++ [(62, iI_ (IntKind.i64.wrap (((i : Nat) : Int) + 1)))]) (by kernel_rfl) ?_
    clear HF; intro a HF
    rw [show IntKind.i64.wrap (((i : Nat) : Int) + 1) = (((i + 1) : Nat) : Int) from (IntWalk.i64_in _ (by omega)).trans (by omega)] at HF
    refine wp_pure HF HM rfl 1 [] ((file_any_S1 z1 x gl capl) ++ [(9, i6_ x.img.at0), (10, sl_ g3 (((segPre x i).length) + m1.data.length) cap3), (11, sl_ g2 (i + 1) cap2), (12, sl_ (z10 + 2) 0 0), (45, .slice x.A x.ss.length x.c), (46, i6_ x.ss.length), (47, i6_ (i + 1))]) (by kernel_rfl) ?_
    clear HF; intro a HF
    refine wpList_nil ?_
    repeat (first | refine then_norm ?_ | refine inb_norm ?_)
    rw [show (((segPre x i).length) + m1.data.length) = ((segPre x (i + 1)).length) from by rw [segPre_next hm1, List.length_append]] at HF htk3 hnc3
    exact KR _ _ (⟨g3, cap3, cur3, g2, cap2, cur2, htk3, hsz3, hnc3, hcm3, htk2, hsz2, hnc2, hcm2, (HM.pick [2, 3, 4, 5, 6, 7] [(g2, .cells cur2 3 (0, 0)), (g3, .cells cur3 5 (0, 0)), ((z10 + 2), .cells #[] 3 (0, 0)), (gl, .cells curl 46 (0, 0)), (gt, .cells curt 5 (0, 0)), file_any_B0 z1 x] rfl (by decide)), HF.sub ((file_any_S1 z1 x gl capl) ++ [(9, i6_ x.img.at0), (10, sl_ g3 ((segPre x (i + 1)).length) cap3), (11, sl_ g2 (i + 1) cap2), (12, sl_ (z10 + 2) 0 0), (45, .slice x.A x.ss.length x.c), (46, i6_ x.ss.length), (47, i6_ (i + 1))]) (by kernel_rfl)⟩)
  · intro a w KX hI
    obtain ⟨bg, bc, bk, pg, pc, pk, btk, bsz, bnc, bcm, ptk, psz, pnc, pcm, HM, HF⟩ := hI
    refine wp_seq (wp_region_lit ?_)
    refine wp_pure HF HM rfl 1 [] ((file_any_S1 z1 x gl capl) ++ [(9, i6_ x.img.at0), (10, sl_ bg ((segPre x x.ss.length).length) bc), (11, sl_ pg x.ss.length pc), (12, sl_ (z10 + 2) 0 0), (45, .slice x.A x.ss.length x.c), (46, i6_ x.ss.length), (47, i6_ x.ss.length), (48, .bool (decide (((x.ss.length : Nat) : Int) < ((x.ss.length : Nat) : Int))))]) (by kernel_rfl) ?_
    clear HF; intro a HF
    refine nil_then ?_
    refine wp_seq ?_
    rw [show decide (((x.ss.length : Nat) : Int) < ((x.ss.length : Nat) : Int)) = false from dec_f (by omega)] at HF
    refine wp_condF HF rfl ?_
    refine wp_exit ?_
    repeat (first | refine then_exit ?_ | refine inb_exit_other rfl ?_)
    refine inb_exit ?_
    repeat (first | refine then_norm ?_ | refine inb_norm ?_)
    refine wp_seq (wp_region_lit ?_)
    obtain ⟨z22, hz22⟩ : ∃ z, w.heap.size = z := ⟨_, rfl⟩
    refine wp_sym HF HM hz22 2 [] ((file_any_S1 z1 x gl capl) ++ [(9, i6_ x.img.at0), (10, sl_ bg ((segPre x x.ss.length).length) bc), (11, sl_ pg x.ss.length pc), (12, sl_ (z10 + 2) 0 0), (15, sl_ z22 0 0)]) [(z22, .cells #[] 9 (0, 0)), (pg, .cells pk 3 (0, 0)), (bg, .cells bk 5 (0, 0)), ((z10 + 2), .cells #[] 3 (0, 0)), (gl, .cells curl 46 (0, 0)), (gt, .cells curt 5 (0, 0)), file_any_B0 z1 x] (by kernel_rfl) ?_
    clear HF HM hz22; intro a w HF HM
    refine nil_then ?_
    refine wp_seq ?_
    refine wp_seq (wp_region_lit ?_)
    refine wp_pure HF HM rfl 3 [] ((file_any_S1 z1 x gl capl) ++ [(9, i6_ x.img.at0), (10, sl_ bg ((segPre x x.ss.length).length) bc), (11, sl_ pg x.ss.length pc), (12, sl_ (z10 + 2) 0 0), (15, sl_ z22 0 0), (64, sl_ gl (x.ps.length + 2) capl), (65, i6_ (x.ps.length + 2)), (66, iI_ 0)]) (by kernel_rfl) ?_
    clear HF; intro a HF
    refine nil_then ?_
    refine wp_block ?_
    refine loop_ind ((x.ps.length + 2)) (fun i a w => (∃ bg : Nat, ∃ bc : Nat, ∃ bk : Array Value, ∃ qg : Nat, ∃ qc : Nat, ∃ qk : Array Value, ∃ ng : Nat, ∃ nc : Nat, ∃ nk : Array Value, (bk.toList.take (((bodyM x gt capt i).length) * 1) = (bodyM x gt capt i).map Bv) ∧ (bk.size = bc * 1) ∧ (((bodyM x gt capt i).length) ≤ bc) ∧ (bc ≤ maxLen) ∧ (qk.toList.take (i * 1) = (List.range i).map (fun j => numV (x.img.secPlace j))) ∧ (qk.size = qc * 1) ∧ (i ≤ qc) ∧ (qc ≤ maxLen) ∧ (nk.toList.take (i * 1) = ((allM x gt capt).take i).map (fun p => strV p.name)) ∧ (nk.size = nc * 1) ∧ (i ≤ nc) ∧ (nc ≤ maxLen) ∧ Mm [] w0 w [(ng, .cells nk 9 (0, 0)), (qg, .cells qk 3 (0, 0)), (bg, .cells bk 5 (0, 0)), (pg, .cells pk 3 (0, 0)), (gl, .cells curl 46 (0, 0)), (gt, .cells curt 5 (0, 0)), file_any_B0 z1 x] ∧ Fr 159 a [(1, pt_ z1), (5, i6_ (hSize x.wide)), (8, sl_ gl (x.ps.length + 2) capl), (9, i6_ x.img.at0), (10, sl_ bg ((bodyM x gt capt i).length) bc), (11, sl_ pg x.ss.length pc), (12, sl_ qg i qc), (15, sl_ ng i nc), (64, sl_ gl (x.ps.length + 2) capl), (65, i6_ (x.ps.length + 2)), (66, i6_ i)])) ?_ ?_ ?_
    rw [segPre_all, ← bodyM_zero x gt capt] at HF btk bnc
    · exact ⟨bg, bc, bk, (z10 + 2), 0, #[], z22, 0, #[], btk, bsz, bnc, bcm, rfl, rfl, Nat.le_refl _, by unfold maxLen; omega, rfl, rfl, Nat.le_refl _, by unfold maxLen; omega, (HM.pick [0, 3, 2, 1, 4, 5, 6] [(z22, .cells #[] 9 (0, 0)), ((z10 + 2), .cells #[] 3 (0, 0)), (bg, .cells bk 5 (0, 0)), (pg, .cells pk 3 (0, 0)), (gl, .cells curl 46 (0, 0)), (gt, .cells curt 5 (0, 0)), file_any_B0 z1 x] rfl (by decide)), HF.sub ((file_any_S1 z1 x gl capl) ++ [(9, i6_ x.img.at0), (10, sl_ bg ((bodyM x gt capt 0).length) bc), (11, sl_ pg x.ss.length pc), (12, sl_ (z10 + 2) 0 0), (15, sl_ z22 0 0), (64, sl_ gl (x.ps.length + 2) capl), (65, i6_ (x.ps.length + 2)), (66, iI_ 0)]) (by kernel_rfl)⟩
    · intro i a w KX hi hI KR
      obtain ⟨bg, bc, bk, qg, qc, qk, ng, nc, nk, btk, bsz, bnc, bcm, qtk, qsz, qnc, qcm, ntk, nsz, nnc, ncm, HM, HF⟩ := hI
      have hsl := bodyM_le x gt capt i iok; have hsl2 := bodyM_le x gt capt (i + 1) iok; have hat9 := iok.at0_le
      refine wp_seq (wp_region_lit ?_)
      refine wp_pure HF HM rfl 1 [] ((file_any_S6 z1 x gl capl bg gt capt i bc pg pc) ++ [(12, sl_ qg i qc), (15, sl_ ng i nc), (64, sl_ gl (x.ps.length + 2) capl), (65, i6_ (x.ps.length + 2)), (66, i6_ i), (67, .bool (decide (((i : Nat) : Int) < (((x.ps.length + 2) : Nat) : Int))))]) (by kernel_rfl) ?_
      clear HF; intro a HF
      refine nil_then ?_
      refine wp_seq ?_
      rw [show decide (((i : Nat) : Int) < (((x.ps.length + 2) : Nat) : Int)) = true from dec_t (by omega)] at HF
      refine wp_condT HF rfl ?_
      refine wp_skip ?_
      repeat (first | refine then_norm ?_ | refine inb_norm ?_)
      refine wp_seq ?_
      refine wp_block ?_
      refine wp_seq (wp_region_lit ?_)
      refine wp_pure HF HM rfl 1 [] ((file_any_S6 z1 x gl capl bg gt capt i bc pg pc) ++ [(12, sl_ qg i qc), (15, sl_ ng i nc), (64, sl_ gl (x.ps.length + 2) capl), (65, i6_ (x.ps.length + 2)), (66, i6_ i), (68, i6_ i)]) (by kernel_rfl) ?_
      clear HF; intro a HF
      obtain ⟨m4, hm4⟩ : ∃ m, (allM x gt capt)[i]? = some m := ⟨_, List.getElem?_eq_getElem (by omega)⟩
      have hmm_m4 := List.mem_of_getElem? hm4
      have hmb_m4 := allM_b h ok m4 hmm_m4
      have hmd_m4 := hmb_m4.data; have hmt_m4 := hmb_m4.ty; have hmf_m4 := hmb_m4.flags; have hml_m4 := hmb_m4.link; have hmi_m4 := hmb_m4.info
      refine wp_run HF (by kernel_rfl) (.pointer (Option.map (fun q : Addr => q.add (i * 10)) (some ⟨gl, 0, none⟩))) (by kernel_rfl) (run_index_row Tryd.underlying24 (by kernel_rfl) rfl i rfl rfl (by omega) (Option.some_ne_none _)) ?_
      clear HF; intro a HF; replace HF := HF.sub ((file_any_S6 z1 x gl capl bg gt capt i bc pg pc) ++ [(12, sl_ qg i qc), (15, sl_ ng i nc), (64, sl_ gl (x.ps.length + 2) capl), (65, i6_ (x.ps.length + 2)), (66, i6_ i), (68, i6_ i), (69, .pointer (Option.map (fun q : Addr => q.add (i * 10)) (some ⟨gl, 0, none⟩)))]) (by kernel_rfl)
      refine wp_run HF (by kernel_rfl) (.agg #[.string (⟨m4.name.toArray⟩), u3_ m4.ty, u3_ m4.flags, u6_ m4.addr, u3_ m4.link, u3_ m4.info, u6_ m4.align, u6_ m4.ent, u6_ m4.size, .slice m4.A m4.data.length m4.c]) (by kernel_rfl) (run_load_row rfl rfl (row_elem (f := PartM.cells) (k := 10) (fun _ => rfl) (HM.rowOwn (i := 4) rfl hol.tk) i hm4) (Nat.zero_lt_succ _) Tryd.underlying46 rfl (by kernel_rfl)) ?_
      clear HF; intro a HF; replace HF := HF.sub ((file_any_S6 z1 x gl capl bg gt capt i bc pg pc) ++ [(12, sl_ qg i qc), (15, sl_ ng i nc), (64, sl_ gl (x.ps.length + 2) capl), (65, i6_ (x.ps.length + 2)), (66, i6_ i), (68, i6_ i), (70, .agg #[.string (⟨m4.name.toArray⟩), u3_ m4.ty, u3_ m4.flags, u6_ m4.addr, u3_ m4.link, u3_ m4.info, u6_ m4.align, u6_ m4.ent, u6_ m4.size, .slice m4.A m4.data.length m4.c])]) (by kernel_rfl)
      obtain ⟨z26, hz26⟩ : ∃ z, w.heap.size = z := ⟨_, rfl⟩
      refine wp_sym HF HM hz26 3 [[7]] ((file_any_S6 z1 x gl capl bg gt capt i bc pg pc) ++ [(12, sl_ qg i qc), (15, sl_ ng i nc), (16, i6_ i), (17, pt_ z26), (64, sl_ gl (x.ps.length + 2) capl), (65, i6_ (x.ps.length + 2)), (66, i6_ i)]) [(z26, .cells #[.string (⟨m4.name.toArray⟩), u3_ m4.ty, u3_ m4.flags, u6_ m4.addr, u3_ m4.link, u3_ m4.info, u6_ m4.align, u6_ m4.ent, u6_ m4.size, .slice m4.A m4.data.length m4.c] 46 (0, 0)), (ng, .cells nk 9 (0, 0)), (qg, .cells qk 3 (0, 0)), (bg, .cells bk 5 (0, 0)), (pg, .cells pk 3 (0, 0)), (gl, .cells curl 46 (0, 0)), (gt, .cells curt 5 (0, 0)), file_any_B0 z1 x] (by kernel_rfl) ?_
      clear HF HM hz26; intro a w HF HM
      refine nil_then ?_
      refine wp_seq (wp_region_lit ?_)
      refine wp_pure HF HM rfl 5 [] ((file_any_S6 z1 x gl capl bg gt capt i bc pg pc) ++ [(15, sl_ ng i nc), (16, i6_ i), (17, pt_ z26), (64, sl_ gl (x.ps.length + 2) capl), (65, i6_ (x.ps.length + 2)), (66, i6_ i), (71, sl_ qg i qc), (75, iI_ (IntKind.i64.wrap (((x.img.at0 : Nat) : Int) + ((((bodyM x gt capt i).length) : Nat) : Int))))]) (by kernel_rfl) ?_
      clear HF; intro a HF
      rw [show IntKind.i64.wrap (((x.img.at0 : Nat) : Int) + ((((bodyM x gt capt i).length) : Nat) : Int)) = (((x.img.at0 + (bodyM x gt capt i).length) : Nat) : Int) from (IntWalk.i64_in _ (by omega)).trans (by omega)] at HF
      obtain ⟨z28, hz28⟩ : ∃ z, w.heap.size = z := ⟨_, rfl⟩
      refine wp_sym HF HM hz28 1 [] ((file_any_S6 z1 x gl capl bg gt capt i bc pg pc) ++ [(15, sl_ ng i nc), (16, i6_ i), (17, pt_ z26), (64, sl_ gl (x.ps.length + 2) capl), (65, i6_ (x.ps.length + 2)), (66, i6_ i), (71, sl_ qg i qc), (76, sl_ z28 1 1)]) [file_any_B7 z28 x gt capt i, (z26, .cells #[.string (⟨m4.name.toArray⟩), u3_ m4.ty, u3_ m4.flags, u6_ m4.addr, u3_ m4.link, u3_ m4.info, u6_ m4.align, u6_ m4.ent, u6_ m4.size, .slice m4.A m4.data.length m4.c] 46 (0, 0)), (ng, .cells nk 9 (0, 0)), (qg, .cells qk 3 (0, 0)), (bg, .cells bk 5 (0, 0)), (pg, .cells pk 3 (0, 0)), (gl, .cells curl 46 (0, 0)), (gt, .cells curt 5 (0, 0)), file_any_B0 z1 x] (by kernel_rfl) ?_
      clear HF HM hz28; intro a w HF HM
      refine wp_append_told HF HM rfl _ _ 66 66 rfl rfl 3 (z := iI_ 0) (size := 1) (bytes := 8) Tryd.underlying66 (by kernel_rfl) rfl (by decide) 3 qg i qc qk rfl rfl qnc qcm qsz ((List.range i).map (fun j => numV (x.img.secPlace j))) qtk (sl_ z28 1 1) 1 [i6_ (x.img.at0 + (bodyM x gt capt i).length)] rfl (src_row Tryd.underlying66 rfl (by decide) (HM.rowAt (i := 0) rfl) (one_cells rfl)) (by unfold maxLen; omega) (by omega) ?_
      intro a w5 g5 cap5 cur5 HM2 htk5 hsz5 hnc5 hcm5 HF2; clear HF HM
      have HM : Mm [] w0 w5 [file_any_B7 z28 x gt capt i, (z26, .cells #[.string (⟨m4.name.toArray⟩), u3_ m4.ty, u3_ m4.flags, u6_ m4.addr, u3_ m4.link, u3_ m4.info, u6_ m4.align, u6_ m4.ent, u6_ m4.size, .slice m4.A m4.data.length m4.c] 46 (0, 0)), (ng, .cells nk 9 (0, 0)), (g5, .cells cur5 3 (0, 0)), (bg, .cells bk 5 (0, 0)), (pg, .cells pk 3 (0, 0)), (gl, .cells curl 46 (0, 0)), (gt, .cells curt 5 (0, 0)), file_any_B0 z1 x] := HM2
      have HF := HF2.sub ((file_any_S6 z1 x gl capl bg gt capt i bc pg pc) ++ [(15, sl_ ng i nc), (16, i6_ i), (17, pt_ z26), (64, sl_ gl (x.ps.length + 2) capl), (65, i6_ (x.ps.length + 2)), (66, i6_ i), (77, sl_ g5 (i + 1) cap5)]) (by kernel_rfl); clear HM2 HF2
      refine wp_pure HF HM rfl 1 [] ((file_any_S6 z1 x gl capl bg gt capt i bc pg pc) ++ [(12, sl_ g5 (i + 1) cap5), (15, sl_ ng i nc), (16, i6_ i), (17, pt_ z26), (64, sl_ gl (x.ps.length + 2) capl), (65, i6_ (x.ps.length + 2)), (66, i6_ i)]) (by kernel_rfl) ?_
      clear HF; intro a HF
      refine nil_then ?_
      refine wp_seq ?_
      refine wp_seq (wp_region_lit ?_)
      refine wp_pure HF HM rfl 2 [] ((file_any_S8 z1 x gl capl bg gt capt i bc pg pc g5 cap5 ng nc z26) ++ [(79, .bool (((i : Nat) : Int) == 0))]) (by kernel_rfl) ?_
      clear HF; intro a HF
      refine nil_then ?_
      refine wp_merge (fun a w => (∃ rg : Nat, ∃ rc : Nat, ∃ rk : Array Value, (rk.toList.take ((i + 1) * 1) = (List.range (i + 1)).map (fun j => numV (x.img.secPlace j))) ∧ (rk.size = rc * 1) ∧ ((i + 1) ≤ rc) ∧ (rc ≤ maxLen) ∧ Mm [] w0 w [(rg, .cells rk 3 (0, 0)), file_any_B7 z28 x gt capt i, (z26, .cells #[.string (⟨m4.name.toArray⟩), u3_ m4.ty, u3_ m4.flags, u6_ m4.addr, u3_ m4.link, u3_ m4.info, u6_ m4.align, u6_ m4.ent, u6_ m4.size, .slice m4.A m4.data.length m4.c] 46 (0, 0)), (ng, .cells nk 9 (0, 0)), (bg, .cells bk 5 (0, 0)), (pg, .cells pk 3 (0, 0)), (gl, .cells curl 46 (0, 0)), (gt, .cells curt 5 (0, 0)), file_any_B0 z1 x] ∧ Fr 159 a ((file_any_S6 z1 x gl capl bg gt capt i bc pg pc) ++ [(12, sl_ rg (i + 1) rc), (15, sl_ ng i nc), (17, pt_ z26), (64, sl_ gl (x.ps.length + 2) capl), (65, i6_ (x.ps.length + 2)), (66, i6_ i)]))) ?_ ?_
      · by_cases hc6 : ((i : Nat) : Int) = 0
        · rw [show (((i : Nat) : Int) == 0) = true from beq_t (hc6)] at HF
          refine wp_condT HF rfl ?_
          refine wp_region_lit ?_
          refine wp_pure HF HM rfl 1 [] ((file_any_S8 z1 x gl capl bg gt capt i bc pg pc g5 cap5 ng nc z26) ++ [(80, sl_ g5 (i + 1) cap5)]) (by kernel_rfl) ?_
          clear HF; intro a HF
          refine wp_run HF (by kernel_rfl) (pt_ g5) (by kernel_rfl) (run_index_row Tryd.underlying66 (k := 1) (by kernel_rfl) rfl 0 rfl rfl (by omega) (Option.some_ne_none _)) ?_
          clear HF; intro a HF; replace HF := HF.sub ((file_any_S8 z1 x gl capl bg gt capt i bc pg pc g5 cap5 ng nc z26) ++ [(81, pt_ g5)]) (by kernel_rfl)
          have hi0 : i = 0 := by omega
          refine wp_store_own HF HM rfl 3 _ _ rfl rfl 3 g5 0 cur5 3 rfl rfl (iI_ 0) rfl rfl rfl (by rw [hsz5]; have hq := hnc5; omega) (by kernel_rfl) ?_
          intro a w6 cur7 HM2 hcu HF2; clear HF HM
          have tks7 : cur7.toList.take ((i + 1) * 1) = (((List.range i).map (fun j => numV (x.img.secPlace j)) ++ [i6_ (x.img.at0 + (bodyM x gt capt i).length)]) : List Value).set 0 (iI_ 0) := by rw [hcu, List.take_set, htk5]
          have szs7 : cur7.size = cap5 * 1 := by rw [← Array.length_toList, hcu, List.length_set, Array.length_toList, hsz5]
          have HM : Mm [] w0 w6 [file_any_B7 z28 x gt capt i, (z26, .cells #[.string (⟨m4.name.toArray⟩), u3_ m4.ty, u3_ m4.flags, u6_ m4.addr, u3_ m4.link, u3_ m4.info, u6_ m4.align, u6_ m4.ent, u6_ m4.size, .slice m4.A m4.data.length m4.c] 46 (0, 0)), (ng, .cells nk 9 (0, 0)), (g5, .cells cur7 3 (0, 0)), (bg, .cells bk 5 (0, 0)), (pg, .cells pk 3 (0, 0)), (gl, .cells curl 46 (0, 0)), (gt, .cells curt 5 (0, 0)), file_any_B0 z1 x] := HM2
          have HF := HF2.sub (file_any_S8 z1 x gl capl bg gt capt i bc pg pc g5 cap5 ng nc z26) (by kernel_rfl); clear HM2 HF2 hcu
          replace tks7 : cur7.toList.take ((i + 1) * 1) = (List.range (i + 1)).map (fun j => numV (x.img.secPlace j)) := tks7.trans (by subst hi0; rfl)
          refine wpList_nil ?_
          repeat (first | refine then_norm ?_ | refine inb_norm ?_)
          exact ⟨g5, cap5, cur7, tks7, szs7, hnc5, hcm5, (HM.pick [3, 0, 1, 2, 4, 5, 6, 7, 8] [(g5, .cells cur7 3 (0, 0)), file_any_B7 z28 x gt capt i, (z26, .cells #[.string (⟨m4.name.toArray⟩), u3_ m4.ty, u3_ m4.flags, u6_ m4.addr, u3_ m4.link, u3_ m4.info, u6_ m4.align, u6_ m4.ent, u6_ m4.size, .slice m4.A m4.data.length m4.c] 46 (0, 0)), (ng, .cells nk 9 (0, 0)), (bg, .cells bk 5 (0, 0)), (pg, .cells pk 3 (0, 0)), (gl, .cells curl 46 (0, 0)), (gt, .cells curt 5 (0, 0)), file_any_B0 z1 x] rfl (by decide)), HF.sub (file_any_S8 z1 x gl capl bg gt capt i bc pg pc g5 cap5 ng nc z26) (by kernel_rfl)⟩
        rw [show (((i : Nat) : Int) == 0) = false from beq_f (hc6)] at HF
        refine wp_condF HF rfl ?_
        refine wp_skip ?_
        repeat (first | refine then_norm ?_ | refine inb_norm ?_)
        replace htk5 : cur5.toList.take ((i + 1) * 1) = (List.range (i + 1)).map (fun j => numV (x.img.secPlace j)) := htk5.trans (by rw [← secPlace_eq x gt capt i (by omega)]; exact range_next i)
        exact ⟨g5, cap5, cur5, htk5, hsz5, hnc5, hcm5, (HM.pick [3, 0, 1, 2, 4, 5, 6, 7, 8] [(g5, .cells cur5 3 (0, 0)), file_any_B7 z28 x gt capt i, (z26, .cells #[.string (⟨m4.name.toArray⟩), u3_ m4.ty, u3_ m4.flags, u6_ m4.addr, u3_ m4.link, u3_ m4.info, u6_ m4.align, u6_ m4.ent, u6_ m4.size, .slice m4.A m4.data.length m4.c] 46 (0, 0)), (ng, .cells nk 9 (0, 0)), (bg, .cells bk 5 (0, 0)), (pg, .cells pk 3 (0, 0)), (gl, .cells curl 46 (0, 0)), (gt, .cells curt 5 (0, 0)), file_any_B0 z1 x] rfl (by decide)), HF.sub (file_any_S8 z1 x gl capl bg gt capt i bc pg pc g5 cap5 ng nc z26) (by kernel_rfl)⟩
      rintro a w ⟨rg, rc, rk, rtk, rsz, rnc, rcm, HM, HF⟩
      repeat (first | refine then_norm ?_ | refine inb_norm ?_)
      refine wp_seq ?_
      refine wp_seq (wp_region_lit ?_)
      refine wp_pure HF HM rfl 3 [[6]] ((file_any_S6 z1 x gl capl bg gt capt i bc pg pc) ++ [(12, sl_ rg (i + 1) rc), (15, sl_ ng i nc), (17, pt_ z26), (64, sl_ gl (x.ps.length + 2) capl), (65, i6_ (x.ps.length + 2)), (66, i6_ i), (84, .bool (((m4.ty : Nat) : Int) != 8))]) (by kernel_rfl) ?_
      clear HF; intro a HF
      refine nil_then ?_
      refine wp_merge (fun a w => (∃ cg : Nat, ∃ cc : Nat, ∃ ck : Array Value, (ck.toList.take (((bodyM x gt capt (i + 1)).length) * 1) = (bodyM x gt capt (i + 1)).map Bv) ∧ (ck.size = cc * 1) ∧ (((bodyM x gt capt (i + 1)).length) ≤ cc) ∧ (cc ≤ maxLen) ∧ Mm [] w0 w [(cg, .cells ck 5 (0, 0)), (rg, .cells rk 3 (0, 0)), file_any_B7 z28 x gt capt i, (z26, .cells #[.string (⟨m4.name.toArray⟩), u3_ m4.ty, u3_ m4.flags, u6_ m4.addr, u3_ m4.link, u3_ m4.info, u6_ m4.align, u6_ m4.ent, u6_ m4.size, .slice m4.A m4.data.length m4.c] 46 (0, 0)), (ng, .cells nk 9 (0, 0)), (pg, .cells pk 3 (0, 0)), (gl, .cells curl 46 (0, 0)), (gt, .cells curt 5 (0, 0)), file_any_B0 z1 x] ∧ Fr 159 a ((file_any_S9 z1 x gl capl cg gt capt i cc pg pc rg rc) ++ [(15, sl_ ng i nc), (17, pt_ z26), (64, sl_ gl (x.ps.length + 2) capl), (65, i6_ (x.ps.length + 2)), (66, i6_ i)]))) ?_ ?_
      · by_cases hc8 : ((m4.ty : Nat) : Int) ≠ 8
        · rw [show (((m4.ty : Nat) : Int) != 8) = true from bne_t (hc8)] at HF
          refine wp_condT HF rfl ?_
          refine wp_region_lit ?_
          refine wp_pure HF HM rfl 3 [[6]] ((file_any_S1 z1 x gl capl) ++ [(9, i6_ x.img.at0), (11, sl_ pg x.ss.length pc), (12, sl_ rg (i + 1) rc), (15, sl_ ng i nc), (17, pt_ z26), (64, sl_ gl (x.ps.length + 2) capl), (65, i6_ (x.ps.length + 2)), (66, i6_ i), (85, sl_ bg ((bodyM x gt capt i).length) bc), (87, .slice m4.A m4.data.length m4.c)]) (by kernel_rfl) ?_
          clear HF; intro a HF
          refine wp_append_told HF HM rfl _ _ 33 33 rfl rfl 5 (z := iB_ 0) (size := 1) (bytes := 1) Tryd.underlying33 (by kernel_rfl) rfl (by decide) 4 bg ((bodyM x gt capt i).length) bc bk rfl rfl bnc bcm bsz ((bodyM x gt capt i).map Bv) btk (.slice m4.A m4.data.length m4.c) m4.data.length (m4.data.map Bv) rfl (src_row Tryd.underlying33 (by simp) (by decide) (allM_at h HM (k := 7) rfl hot.tk m4 hmm_m4) (Bv_one _)) (by unfold maxLen; omega) (by omega) ?_
          intro a w7 g9 cap9 cur9 HM2 htk9 hsz9 hnc9 hcm9 HF2; clear HF HM
          have HM : Mm [] w0 w7 [(rg, .cells rk 3 (0, 0)), file_any_B7 z28 x gt capt i, (z26, .cells #[.string (⟨m4.name.toArray⟩), u3_ m4.ty, u3_ m4.flags, u6_ m4.addr, u3_ m4.link, u3_ m4.info, u6_ m4.align, u6_ m4.ent, u6_ m4.size, .slice m4.A m4.data.length m4.c] 46 (0, 0)), (ng, .cells nk 9 (0, 0)), (g9, .cells cur9 5 (0, 0)), (pg, .cells pk 3 (0, 0)), (gl, .cells curl 46 (0, 0)), (gt, .cells curt 5 (0, 0)), file_any_B0 z1 x] := HM2
          have HF := HF2.sub ((file_any_S1 z1 x gl capl) ++ [(9, i6_ x.img.at0), (11, sl_ pg x.ss.length pc), (12, sl_ rg (i + 1) rc), (15, sl_ ng i nc), (17, pt_ z26), (64, sl_ gl (x.ps.length + 2) capl), (65, i6_ (x.ps.length + 2)), (66, i6_ i), (88, sl_ g9 (((bodyM x gt capt i).length) + m4.data.length) cap9)]) (by kernel_rfl); clear HM2 HF2
          refine wp_pure HF HM rfl 1 [] ((file_any_S1 z1 x gl capl) ++ [(9, i6_ x.img.at0), (10, sl_ g9 (((bodyM x gt capt i).length) + m4.data.length) cap9), (11, sl_ pg x.ss.length pc), (12, sl_ rg (i + 1) rc), (15, sl_ ng i nc), (17, pt_ z26), (64, sl_ gl (x.ps.length + 2) capl), (65, i6_ (x.ps.length + 2)), (66, i6_ i)]) (by kernel_rfl) ?_
          clear HF; intro a HF
          refine wpList_nil ?_
          repeat (first | refine then_norm ?_ | refine inb_norm ?_)
          replace htk9 : cur9.toList.take ((((bodyM x gt capt i).length) + m4.data.length) * 1) = (bodyM x gt capt (i + 1)).map Bv := htk9.trans (by rw [bodyM_next hm4, fdM_not hc8, List.map_append])
          rw [show (((bodyM x gt capt i).length) + m4.data.length) = ((bodyM x gt capt (i + 1)).length) from by rw [bodyM_next hm4, fdM_not hc8, List.length_append]] at HF htk9 hnc9
          exact ⟨g9, cap9, cur9, htk9, hsz9, hnc9, hcm9, (HM.pick [4, 0, 1, 2, 3, 5, 6, 7, 8] [(g9, .cells cur9 5 (0, 0)), (rg, .cells rk 3 (0, 0)), file_any_B7 z28 x gt capt i, (z26, .cells #[.string (⟨m4.name.toArray⟩), u3_ m4.ty, u3_ m4.flags, u6_ m4.addr, u3_ m4.link, u3_ m4.info, u6_ m4.align, u6_ m4.ent, u6_ m4.size, .slice m4.A m4.data.length m4.c] 46 (0, 0)), (ng, .cells nk 9 (0, 0)), (pg, .cells pk 3 (0, 0)), (gl, .cells curl 46 (0, 0)), (gt, .cells curt 5 (0, 0)), file_any_B0 z1 x] rfl (by decide)), HF.sub ((file_any_S1 z1 x gl capl) ++ [(9, i6_ x.img.at0), (10, sl_ g9 ((bodyM x gt capt (i + 1)).length) cap9), (11, sl_ pg x.ss.length pc), (12, sl_ rg (i + 1) rc), (15, sl_ ng i nc), (17, pt_ z26), (64, sl_ gl (x.ps.length + 2) capl), (65, i6_ (x.ps.length + 2)), (66, i6_ i)]) (by kernel_rfl)⟩
        rw [show (((m4.ty : Nat) : Int) != 8) = false from bne_f (hc8)] at HF
        refine wp_condF HF rfl ?_
        refine wp_skip ?_
        repeat (first | refine then_norm ?_ | refine inb_norm ?_)
        replace btk : bk.toList.take (((bodyM x gt capt i).length) * 1) = (bodyM x gt capt (i + 1)).map Bv := btk.trans (by rw [bodyM_next hm4, fdM_is hc8, List.append_nil])
        simp only [file_any_S6] at HF
        rw [show ((bodyM x gt capt i).length) = ((bodyM x gt capt (i + 1)).length) from by rw [bodyM_next hm4, fdM_is hc8, List.append_nil]] at HF btk bnc
        exact ⟨bg, bc, bk, btk, bsz, bnc, bcm, (HM.pick [4, 0, 1, 2, 3, 5, 6, 7, 8] [(bg, .cells bk 5 (0, 0)), (rg, .cells rk 3 (0, 0)), file_any_B7 z28 x gt capt i, (z26, .cells #[.string (⟨m4.name.toArray⟩), u3_ m4.ty, u3_ m4.flags, u6_ m4.addr, u3_ m4.link, u3_ m4.info, u6_ m4.align, u6_ m4.ent, u6_ m4.size, .slice m4.A m4.data.length m4.c] 46 (0, 0)), (ng, .cells nk 9 (0, 0)), (pg, .cells pk 3 (0, 0)), (gl, .cells curl 46 (0, 0)), (gt, .cells curt 5 (0, 0)), file_any_B0 z1 x] rfl (by decide)), HF.sub ((file_any_S1 z1 x gl capl) ++ [(9, i6_ x.img.at0), (10, sl_ bg ((bodyM x gt capt (i + 1)).length) bc), (11, sl_ pg x.ss.length pc), (12, sl_ rg (i + 1) rc), (15, sl_ ng i nc), (17, pt_ z26), (64, sl_ gl (x.ps.length + 2) capl), (65, i6_ (x.ps.length + 2)), (66, i6_ i)]) (by kernel_rfl)⟩
      rintro a w ⟨cg, cc, ck, ctk, csz, cnc, ccm, HM, HF⟩
      repeat (first | refine then_norm ?_ | refine inb_norm ?_)
      refine wp_region_lit ?_
      obtain ⟨z35, hz35⟩ : ∃ z, w.heap.size = z := ⟨_, rfl⟩
      refine wp_sym HF HM hz35 4 [[5]] ((file_any_S9 z1 x gl capl cg gt capt i cc pg pc rg rc) ++ [(64, sl_ gl (x.ps.length + 2) capl), (65, i6_ (x.ps.length + 2)), (66, i6_ i), (89, sl_ ng i nc), (92, sl_ z35 1 1)]) [(z35, .cells #[.string (⟨m4.name.toArray⟩)] 9 (0, 0)), (cg, .cells ck 5 (0, 0)), (rg, .cells rk 3 (0, 0)), file_any_B7 z28 x gt capt i, (z26, .cells #[.string (⟨m4.name.toArray⟩), u3_ m4.ty, u3_ m4.flags, u6_ m4.addr, u3_ m4.link, u3_ m4.info, u6_ m4.align, u6_ m4.ent, u6_ m4.size, .slice m4.A m4.data.length m4.c] 46 (0, 0)), (ng, .cells nk 9 (0, 0)), (pg, .cells pk 3 (0, 0)), (gl, .cells curl 46 (0, 0)), (gt, .cells curt 5 (0, 0)), file_any_B0 z1 x] (by kernel_rfl) ?_
      clear HF HM hz35; intro a w HF HM
      refine wp_append_told HF HM rfl _ _ 38 38 rfl rfl 9 (z := .string (⟨#[]⟩ : ByteArray)) (size := 1) (bytes := 16) Tryd.underlying38 (by kernel_rfl) rfl (by decide) 5 ng i nc nk rfl rfl nnc ncm nsz (((allM x gt capt).take i).map (fun p => strV p.name)) ntk (sl_ z35 1 1) 1 [.string (⟨m4.name.toArray⟩)] rfl (src_row Tryd.underlying38 rfl (by decide) (HM.rowAt (i := 0) rfl) (one_cells rfl)) (by unfold maxLen; omega) (by omega) ?_
      intro a w8 g10 cap10 cur10 HM2 htk10 hsz10 hnc10 hcm10 HF2; clear HF HM
      replace htk10 : cur10.toList.take ((i + 1) * 1) = ((allM x gt capt).take (i + 1)).map (fun p => strV p.name) := htk10.trans (by rw [take_next hm4, List.map_append]; rfl)
      have HM : Mm [] w0 w8 [(z35, .cells #[.string (⟨m4.name.toArray⟩)] 9 (0, 0)), (cg, .cells ck 5 (0, 0)), (rg, .cells rk 3 (0, 0)), file_any_B7 z28 x gt capt i, (z26, .cells #[.string (⟨m4.name.toArray⟩), u3_ m4.ty, u3_ m4.flags, u6_ m4.addr, u3_ m4.link, u3_ m4.info, u6_ m4.align, u6_ m4.ent, u6_ m4.size, .slice m4.A m4.data.length m4.c] 46 (0, 0)), (g10, .cells cur10 9 (0, 0)), (pg, .cells pk 3 (0, 0)), (gl, .cells curl 46 (0, 0)), (gt, .cells curt 5 (0, 0)), file_any_B0 z1 x] := HM2
      have HF := HF2.sub ((file_any_S9 z1 x gl capl cg gt capt i cc pg pc rg rc) ++ [(64, sl_ gl (x.ps.length + 2) capl), (65, i6_ (x.ps.length + 2)), (66, i6_ i), (93, sl_ g10 (i + 1) cap10)]) (by kernel_rfl); clear HM2 HF2
      refine wp_pure HF HM rfl 1 [] ((file_any_S10 z1 x gl capl cg gt capt i cc pg pc rg rc g10 cap10) ++ [(66, i6_ i)]) (by kernel_rfl) ?_
      clear HF; intro a HF
      refine wpList_nil ?_
      repeat (first | refine then_norm ?_ | refine inb_norm ?_)
      refine wp_region_lit ?_
      refine wp_pure HF HM rfl 1 [] ((file_any_S10 z1 x gl capl cg gt capt i cc pg pc rg rc g10 cap10) ++ [(94, iI_ (IntKind.i64.wrap (((i : Nat) : Int) + 1)))]) (by kernel_rfl) ?_
      clear HF; intro a HF
      rw [show IntKind.i64.wrap (((i : Nat) : Int) + 1) = (((i + 1) : Nat) : Int) from (IntWalk.i64_in _ (by omega)).trans (by omega)] at HF
      refine wp_pure HF HM rfl 1 [] ((file_any_S10 z1 x gl capl cg gt capt i cc pg pc rg rc g10 cap10) ++ [(66, i6_ (i + 1))]) (by kernel_rfl) ?_
      clear HF; intro a HF
      refine wpList_nil ?_
      repeat (first | refine then_norm ?_ | refine inb_norm ?_)
      exact KR _ _ (⟨cg, cc, ck, rg, rc, rk, g10, cap10, cur10, ctk, csz, cnc, ccm, rtk, rsz, rnc, rcm, htk10, hsz10, hnc10, hcm10, (HM.pick [5, 2, 1, 6, 7, 8, 9] [(g10, .cells cur10 9 (0, 0)), (rg, .cells rk 3 (0, 0)), (cg, .cells ck 5 (0, 0)), (pg, .cells pk 3 (0, 0)), (gl, .cells curl 46 (0, 0)), (gt, .cells curt 5 (0, 0)), file_any_B0 z1 x] rfl (by decide)), HF.sub ((file_any_S10 z1 x gl capl cg gt capt i cc pg pc rg rc g10 cap10) ++ [(66, i6_ (i + 1))]) (by kernel_rfl)⟩)
    · intro a w KX hI
      obtain ⟨bg, bc, bk, qg, qc, qk, ng, nc, nk, btk, bsz, bnc, bcm, qtk, qsz, qnc, qcm, ntk, nsz, nnc, ncm, HM, HF⟩ := hI
      refine wp_seq (wp_region_lit ?_)
      refine wp_pure HF HM rfl 1 [] ((file_any_S11 z1 x gl capl bg gt capt bc pg pc qg qc) ++ [(15, sl_ ng (x.ps.length + 2) nc), (64, sl_ gl (x.ps.length + 2) capl), (65, i6_ (x.ps.length + 2)), (66, i6_ (x.ps.length + 2)), (67, .bool (decide ((((x.ps.length + 2) : Nat) : Int) < (((x.ps.length + 2) : Nat) : Int))))]) (by kernel_rfl) ?_
      clear HF; intro a HF
      refine nil_then ?_
      refine wp_seq ?_
      rw [show decide ((((x.ps.length + 2) : Nat) : Int) < (((x.ps.length + 2) : Nat) : Int)) = false from dec_f (by omega)] at HF
      refine wp_condF HF rfl ?_
      refine wp_exit ?_
      repeat (first | refine then_exit ?_ | refine inb_exit_other rfl ?_)
      refine inb_exit ?_
      repeat (first | refine then_norm ?_ | refine inb_norm ?_)
      refine wp_seq (wp_region_lit ?_)
      refine wp_pure HF HM rfl 1 [] ((file_any_S11 z1 x gl capl bg gt capt bc pg pc qg qc) ++ [(96, sl_ ng (x.ps.length + 2) nc)]) (by kernel_rfl) ?_
      clear HF; intro a HF
      refine wp_call HF (by kernel_rfl) 65 #[sl_ ng (x.ps.length + 2) nc] (by kernel_rfl) (fun w => by kernel_rfl) (Calls.mono (names_any x.img.names _ _ _ (by rw [names_len]) w (HM.rowOwn (i := 0) rfl (ntk.trans (names_takeS x gt capt))) (by omega) (by omega)) ?_)
      rintro _ w9 ⟨gu, capu, curu, gp, capp, curp, rfl, hb, hou, hop, hnu⟩
      replace HM : Mm [] w0 w9 [(gp, .cells curp 3 (0, 0)), (ng, .cells nk 9 (0, 0)), (qg, .cells qk 3 (0, 0)), (bg, .cells bk 5 (0, 0)), (pg, .cells pk 3 (0, 0)), (gl, .cells curl 46 (0, 0)), (gt, .cells curt 5 (0, 0)), file_any_B0 z1 x] := HM.push hb hop.new hop.obj
      have hnl := names_len x; have hso := shoff_eq x gt capt; have hbl := bodyM_le x gt capt (x.ps.length + 2) iok; have hou9 := outM_len x x.ss.length iok
      refine ⟨_, rfl, ?_⟩; clear HF; intro a HF
      replace HF := HF.sub ((file_any_S11 z1 x gl capl bg gt capt bc pg pc qg qc) ++ [(97, .tuple #[sl_ gu ((namesB x.img.names).length) capu, sl_ gp x.img.names.length capp])]) (by kernel_rfl)
      refine wp_pure HF HM rfl 5 [] ((file_any_S11 z1 x gl capl bg gt capt bc pg pc qg qc) ++ [(19, sl_ gp x.img.names.length capp)]) (by kernel_rfl) ?_
      clear HF; intro a HF
      refine nil_then ?_
      refine wp_seq (wp_region_lit ?_)
      refine wp_pure HF HM rfl 1 [] ((file_any_S11 z1 x gl capl bg gt capt bc pg pc qg qc) ++ [(19, sl_ gp x.img.names.length capp), (100, sl_ gp x.img.names.length capp)]) (by kernel_rfl) ?_
      clear HF; intro a HF
      refine wp_run HF (by kernel_rfl) (pt_ gp) (by kernel_rfl) (run_index_row Tryd.underlying66 (k := 1) (by kernel_rfl) rfl 0 rfl rfl (by omega) (Option.some_ne_none _)) ?_
      clear HF; intro a HF; replace HF := HF.sub ((file_any_S11 z1 x gl capl bg gt capt bc pg pc qg qc) ++ [(19, sl_ gp x.img.names.length capp), (101, pt_ gp)]) (by kernel_rfl)
      refine wp_store_own HF HM rfl 3 _ _ rfl rfl 0 gp 0 curp 3 rfl rfl (iI_ 0) rfl rfl rfl (by rw [hop.sz]; have hq := hop.nc; omega) (by kernel_rfl) ?_
      intro a w10 cur11 HM2 hcu HF2; clear HF HM
      have tks11 : cur11.toList.take (x.img.names.length * 1) = ((List.range x.img.names.length).map (fun j => numV (nameAt x.img.names j)) : List Value).set 0 (iI_ 0) := by rw [hcu, List.take_set, hop.tk]
      have szs11 : cur11.size = capp * 1 := by rw [← Array.length_toList, hcu, List.length_set, Array.length_toList, hop.sz]
      have HM : Mm [] w0 w10 [(gp, .cells cur11 3 (0, 0)), (ng, .cells nk 9 (0, 0)), (qg, .cells qk 3 (0, 0)), (bg, .cells bk 5 (0, 0)), (pg, .cells pk 3 (0, 0)), (gl, .cells curl 46 (0, 0)), (gt, .cells curt 5 (0, 0)), file_any_B0 z1 x] := HM2
      have HF := HF2.sub ((file_any_S11 z1 x gl capl bg gt capt bc pg pc qg qc) ++ [(19, sl_ gp x.img.names.length capp)]) (by kernel_rfl); clear HM2 HF2 hcu
      replace tks11 : cur11.toList.take (x.img.names.length * 1) = (List.range x.img.names.length).map (fun j => numV (x.img.namePlace j)) := tks11.trans (places_set x)
      refine nil_then ?_
      refine wp_seq (wp_region_lit ?_)
      refine wp_pure HF HM rfl 11 [[0], [0]] ((file_any_S12 z1 gl x capl bg gt capt bc pg pc qg qc gp capp) ++ [(102, .agg #[.bool x.wide, .bool x.big, u8_ x.abi, u8_ x.abiv, .int .i64 x.ty, .int .i64 x.machine, u6_ x.entry, .slice x.A x.ss.length x.c, .slice x.B x.ps.length x.d]), (105, i6_ x.ss.length), (106, i6_ (hSize x.wide)), (108, i6_ (x.ps.length + 2)), (112, iI_ (IntKind.i64.wrap (((x.img.at0 : Nat) : Int) + ((((bodyM x gt capt (x.ps.length + 2)).length) : Nat) : Int))))]) (by kernel_rfl) ?_
      clear HF; intro a HF
      rw [show IntKind.i64.wrap (((x.img.at0 : Nat) : Int) + ((((bodyM x gt capt (x.ps.length + 2)).length) : Nat) : Int)) = ((x.img.shoff : Nat) : Int) from (IntWalk.i64_in _ (by omega)).trans (by omega)] at HF
      refine wp_call HF (by kernel_rfl) 66 #[.agg #[.bool x.wide, .bool x.big, u8_ x.abi, u8_ x.abiv, .int .i64 x.ty, .int .i64 x.machine, u6_ x.entry, .slice x.A x.ss.length x.c, .slice x.B x.ps.length x.d], i6_ x.ss.length, i6_ (hSize x.wide), i6_ (x.ps.length + 2), i6_ x.img.shoff] (by kernel_rfl) (fun w => by kernel_rfl) (Calls.mono (headerRow_any x x.ss.length (hSize x.wide) (x.ps.length + 2) x.img.shoff (by omega) (by omega) (by omega) (by omega) (by omega) ok.ty0 ok.ty1 ok.mc0 ok.mc1 w10 (h.below HM.below)) ?_)
      rintro _ w11 ⟨go, capo, curo, rfl, hb, hoo⟩
      rw [head_eq, ← outM_zero] at hoo
      replace HM : Mm [] w0 w11 [(go, .cells curo 5 (0, 0)), (gp, .cells cur11 3 (0, 0)), (ng, .cells nk 9 (0, 0)), (qg, .cells qk 3 (0, 0)), (bg, .cells bk 5 (0, 0)), (pg, .cells pk 3 (0, 0)), (gl, .cells curl 46 (0, 0)), (gt, .cells curt 5 (0, 0)), file_any_B0 z1 x] := HM.push hb hoo.new hoo.obj
      rw [head_eq, ← outM_zero]
      refine ⟨_, rfl, ?_⟩; clear HF; intro a HF
      replace HF := HF.sub ((file_any_S12 z1 gl x capl bg gt capt bc pg pc qg qc gp capp) ++ [(113, sl_ go ((outM x 0).length) capo)]) (by kernel_rfl)
      refine wp_pure HF HM rfl 1 [] ((file_any_S12 z1 gl x capl bg gt capt bc pg pc qg qc gp capp) ++ [(20, sl_ go ((outM x 0).length) capo)]) (by kernel_rfl) ?_
      clear HF; intro a HF
      refine nil_then ?_
      refine wp_seq ?_
      refine wp_seq (wp_region_lit ?_)
      refine wp_pure HF HM rfl 4 [[0]] ((file_any_S12 z1 gl x capl bg gt capt bc pg pc qg qc gp capp) ++ [(20, sl_ go ((outM x 0).length) capo), (115, .slice x.A x.ss.length x.c), (116, i6_ x.ss.length), (117, iI_ 0)]) (by kernel_rfl) ?_
      clear HF; intro a HF
      refine nil_then ?_
      refine wp_block ?_
      replace HM := HM.pick [0, 1, 3, 4, 5, 6, 7, 8] [(go, .cells curo 5 (0, 0)), (gp, .cells cur11 3 (0, 0)), (qg, .cells qk 3 (0, 0)), (bg, .cells bk 5 (0, 0)), (pg, .cells pk 3 (0, 0)), (gl, .cells curl 46 (0, 0)), (gt, .cells curt 5 (0, 0)), file_any_B0 z1 x] rfl (by decide)
      refine loop_ind (x.ss.length) (fun i a w => (∃ ug : Nat, ∃ uc : Nat, ∃ uk : Array Value, (uk.toList.take (((outM x i).length) * 1) = (outM x i).map Bv) ∧ (uk.size = uc * 1) ∧ (((outM x i).length) ≤ uc) ∧ (uc ≤ maxLen) ∧ Mm [] w0 w [(ug, .cells uk 5 (0, 0)), (gp, .cells cur11 3 (0, 0)), (qg, .cells qk 3 (0, 0)), (bg, .cells bk 5 (0, 0)), (pg, .cells pk 3 (0, 0)), (gl, .cells curl 46 (0, 0)), (gt, .cells curt 5 (0, 0)), file_any_B0 z1 x] ∧ Fr 159 a (file_any_S13 z1 gl x capl bg gt capt bc pg pc qg qc gp capp ug i uc))) ?_ ?_ ?_
      · exact ⟨go, capo, curo, hoo.tk, hoo.sz, hoo.nc, hoo.cm, HM, HF.sub ((file_any_S12 z1 gl x capl bg gt capt bc pg pc qg qc gp capp) ++ [(20, sl_ go ((outM x 0).length) capo), (115, .slice x.A x.ss.length x.c), (116, i6_ x.ss.length), (117, iI_ 0)]) (by kernel_rfl)⟩
      · intro i a w KX hi hI KR
        obtain ⟨ug, uc, uk, utk, usz, unc, ucm, HM, HF⟩ := hI
        have hoz := outM_len x i iok; have hoz2 := outM_len x (i + 1) iok; have hpl := x.img.segPlace_le i
        refine wp_seq (wp_region_lit ?_)
        refine wp_pure HF HM rfl 1 [] ((file_any_S13 z1 gl x capl bg gt capt bc pg pc qg qc gp capp ug i uc) ++ [(118, .bool (decide (((i : Nat) : Int) < ((x.ss.length : Nat) : Int))))]) (by kernel_rfl) ?_
        clear HF; intro a HF
        refine nil_then ?_
        refine wp_seq ?_
        rw [show decide (((i : Nat) : Int) < ((x.ss.length : Nat) : Int)) = true from dec_t (by omega)] at HF
        refine wp_condT HF rfl ?_
        refine wp_skip ?_
        repeat (first | refine then_norm ?_ | refine inb_norm ?_)
        refine wp_seq ?_
        refine wp_block ?_
        refine wp_seq (wp_region_lit ?_)
        refine wp_pure HF HM rfl 1 [] ((file_any_S13 z1 gl x capl bg gt capt bc pg pc qg qc gp capp ug i uc) ++ [(119, i6_ i)]) (by kernel_rfl) ?_
        clear HF; intro a HF
        obtain ⟨m12, hm12⟩ : ∃ m, x.ss[i]? = some m := ⟨_, List.getElem?_eq_getElem (by omega)⟩
        have hme_m12 := ok.seg m12 (List.mem_of_getElem? hm12)
        have hmd_m12 := hme_m12.data
        have hmb_m12 := h.seg m12 (List.mem_of_getElem? hm12)
        have hmt_m12 := hmb_m12.ty; have hmf_m12 := hmb_m12.flags
        refine wp_run HF (by kernel_rfl) (.pointer (Option.map (fun q : Addr => q.add (i * 7)) x.A)) (by kernel_rfl) (run_index_row Tryd.underlying23 (by kernel_rfl) rfl i rfl rfl (by omega) (row_some_elem (row_elem (f := SegM.cells) (k := 7) (fun _ => rfl) (HM.row h.segs) i hm12) (Nat.zero_lt_succ _))) ?_
        clear HF; intro a HF; replace HF := HF.sub ((file_any_S13 z1 gl x capl bg gt capt bc pg pc qg qc gp capp ug i uc) ++ [(119, i6_ i), (120, .pointer (Option.map (fun q : Addr => q.add (i * 7)) x.A))]) (by kernel_rfl)
        refine wp_run HF (by kernel_rfl) (.agg #[u3_ m12.ty, u3_ m12.flags, u6_ m12.vaddr, u6_ m12.paddr, u6_ m12.memsz, u6_ m12.align, .slice m12.A m12.data.length m12.c]) (by kernel_rfl) (run_load_row rfl rfl (row_elem (f := SegM.cells) (k := 7) (fun _ => rfl) (HM.row h.segs) i hm12) (Nat.zero_lt_succ _) Tryd.underlying57 rfl (by kernel_rfl)) ?_
        clear HF; intro a HF; replace HF := HF.sub ((file_any_S13 z1 gl x capl bg gt capt bc pg pc qg qc gp capp ug i uc) ++ [(119, i6_ i), (121, .agg #[u3_ m12.ty, u3_ m12.flags, u6_ m12.vaddr, u6_ m12.paddr, u6_ m12.memsz, u6_ m12.align, .slice m12.A m12.data.length m12.c])]) (by kernel_rfl)
        obtain ⟨z48, hz48⟩ : ∃ z, w.heap.size = z := ⟨_, rfl⟩
        refine wp_sym HF HM hz48 3 [[8]] ((file_any_S12 z1 gl x capl bg gt capt bc pg pc qg qc gp capp) ++ [(20, sl_ ug ((outM x i).length) uc), (21, i6_ i), (22, pt_ z48), (115, .slice x.A x.ss.length x.c), (116, i6_ x.ss.length), (117, i6_ i)]) [file_any_B14 z48 m12, (ug, .cells uk 5 (0, 0)), (gp, .cells cur11 3 (0, 0)), (qg, .cells qk 3 (0, 0)), (bg, .cells bk 5 (0, 0)), (pg, .cells pk 3 (0, 0)), (gl, .cells curl 46 (0, 0)), (gt, .cells curt 5 (0, 0)), file_any_B0 z1 x] (by kernel_rfl) ?_
        clear HF HM hz48; intro a w HF HM
        refine nil_then ?_
        refine reg_plan1 HM (by kernel_rfl) [file_any_B14 z48 m12, (gp, .cells cur11 3 (0, 0)), (qg, .cells qk 3 (0, 0)), (bg, .cells bk 5 (0, 0)), (pg, .cells pk 3 (0, 0)), (gl, .cells curl 46 (0, 0)), (gt, .cells curt 5 (0, 0)), file_any_B0 z1 x] [(0, false), (1, false), (2, false), (3, false), (4, false), (5, false), (6, false), (7, true), (8, true), (9, false)] (by kernel_rfl) ?_
        clear HM; intro w12 HM
        refine plan_sym HF (HM.told [0, 2, 3, 4, 5, 6, 7, 8] rfl) 5 [[0], [7]] ((file_any_S15 z1 gl x capl bg gt capt bc pg pc qg qc gp capp i ug uc m12) ++ [(125, sl_ pg x.ss.length pc), (126, i6_ i)]) (by kernel_rfl) ?_
        clear HF; intro a HF
        refine plan_run rfl HF (HM.told [0, 2, 3, 4, 5, 6, 7, 8] rfl) rfl (.pointer (Option.map (fun q : Addr => q.add (i * 1)) (some ⟨pg, 0, none⟩))) (by kernel_rfl) (fun w hw => run_index_row Tryd.underlying66 (by kernel_rfl) rfl i rfl rfl (by omega) (Option.some_ne_none _)) ?_
        clear HF; intro a HF; replace HF := HF.sub ((file_any_S15 z1 gl x capl bg gt capt bc pg pc qg qc gp capp i ug uc m12) ++ [(127, .pointer (Option.map (fun q : Addr => q.add (i * 1)) (some ⟨pg, 0, none⟩)))]) (by kernel_rfl)
        refine plan_run rfl HF (HM.told [0, 2, 3, 4, 5, 6, 7, 8] rfl) rfl (i6_ (x.img.segPlace i)) (by kernel_rfl) (fun w hw => run_load_row1 rfl rfl (row_elem1 (Told.rowOwn hw (i := 4) rfl ptk) i (List.getElem?_range (by omega))) (by kernel_rfl)) ?_
        clear HF; intro a HF; replace HF := HF.sub ((file_any_S15 z1 gl x capl bg gt capt bc pg pc qg qc gp capp i ug uc m12) ++ [(128, i6_ (x.img.segPlace i))]) (by kernel_rfl)
        refine plan_force rfl ?_
        refine wp_call HF (by kernel_rfl) 67 #[.agg #[.bool x.wide, .bool x.big, u8_ x.abi, u8_ x.abiv, .int .i64 x.ty, .int .i64 x.machine, u6_ x.entry, .slice x.A x.ss.length x.c, .slice x.B x.ps.length x.d], .agg #[u3_ m12.ty, u3_ m12.flags, u6_ m12.vaddr, u6_ m12.paddr, u6_ m12.memsz, u6_ m12.align, .slice m12.A m12.data.length m12.c], i6_ (x.img.segPlace i)] (by kernel_rfl) (fun w => by kernel_rfl) (Calls.mono (segRow_call x.wide x.big _ _ _ _ _ _ _ m12.ty m12.flags m12.vaddr m12.paddr m12.memsz m12.align m12.data.length m12.c (x.img.segPlace i) m12.A (by omega) (by omega) (by omega) (by omega) w12) ?_)
        rintro _ w13 ⟨gr, capr, curr, rfl, hb, hor⟩
        replace HM : Mm [] w0 w13 [(gr, .cells curr 5 (0, 0)), file_any_B14 z48 m12, (ug, .cells uk 5 (0, 0)), (gp, .cells cur11 3 (0, 0)), (qg, .cells qk 3 (0, 0)), (bg, .cells bk 5 (0, 0)), (pg, .cells pk 3 (0, 0)), (gl, .cells curl 46 (0, 0)), (gt, .cells curt 5 (0, 0)), file_any_B0 z1 x] := HM.push hb hor.new hor.obj
        have hrl : (segRowM x i m12).length ≤ 64 := by rw [show (segRowM x i m12).length = pSize x.wide from segB_length ..]; omega
        refine ⟨_, rfl, ?_⟩; clear HF; intro a HF
        replace HF := HF.sub ((file_any_S12 z1 gl x capl bg gt capt bc pg pc qg qc gp capp) ++ [(115, .slice x.A x.ss.length x.c), (116, i6_ x.ss.length), (117, i6_ i), (122, sl_ ug ((outM x i).length) uc), (129, sl_ gr ((segRowM x i m12).length) capr)]) (by kernel_rfl)
        refine only_end (HM.told [1, 3, 4, 5, 6, 7, 8, 9] rfl) ?_
        refine plan_force rfl ?_
        refine wp_append_told HF HM rfl _ _ 33 33 rfl rfl 5 (z := iB_ 0) (size := 1) (bytes := 1) Tryd.underlying33 (by kernel_rfl) rfl (by decide) 2 ug ((outM x i).length) uc uk rfl rfl unc ucm usz ((outM x i).map Bv) utk (sl_ gr ((segRowM x i m12).length) capr) ((segRowM x i m12).length) ((segRowM x i m12).map Bv) rfl (src_row Tryd.underlying33 (own_len hor.tk hor.sz hor.nc) (by decide) (HM.rowOwn (i := 0) rfl hor.tk) (Bv_one _)) (by unfold maxLen; omega) (by omega) ?_
        intro a w14 g14 cap14 cur14 HM2 htk14 hsz14 hnc14 hcm14 HF2; clear HF HM
        replace htk14 : cur14.toList.take ((((outM x i).length) + ((segRowM x i m12).length)) * 1) = (outM x (i + 1)).map Bv := htk14.trans (by rw [outM_next hm12, List.map_append])
        have HM : Mm [] w0 w14 [(gr, .cells curr 5 (0, 0)), file_any_B14 z48 m12, (g14, .cells cur14 5 (0, 0)), (gp, .cells cur11 3 (0, 0)), (qg, .cells qk 3 (0, 0)), (bg, .cells bk 5 (0, 0)), (pg, .cells pk 3 (0, 0)), (gl, .cells curl 46 (0, 0)), (gt, .cells curt 5 (0, 0)), file_any_B0 z1 x] := HM2
        have HF := HF2.sub ((file_any_S12 z1 gl x capl bg gt capt bc pg pc qg qc gp capp) ++ [(115, .slice x.A x.ss.length x.c), (116, i6_ x.ss.length), (117, i6_ i), (130, sl_ g14 (((outM x i).length) + ((segRowM x i m12).length)) cap14)]) (by kernel_rfl); clear HM2 HF2
        refine only_end (HM.told [1, 3, 4, 5, 6, 7, 8, 9] rfl) ?_
        refine plan_sym HF (HM.told [1, 3, 4, 5, 6, 7, 8, 9] rfl) 1 [] ((file_any_S12 z1 gl x capl bg gt capt bc pg pc qg qc gp capp) ++ [(20, sl_ g14 (((outM x i).length) + ((segRowM x i m12).length)) cap14), (115, .slice x.A x.ss.length x.c), (116, i6_ x.ss.length), (117, i6_ i)]) (by kernel_rfl) ?_
        clear HF; intro a HF
        refine plan_end ?_
        repeat (first | refine then_norm ?_ | refine inb_norm ?_)
        refine wp_region_lit ?_
        refine wp_pure HF HM rfl 1 [] ((file_any_S12 z1 gl x capl bg gt capt bc pg pc qg qc gp capp) ++ [(20, sl_ g14 (((outM x i).length) + ((segRowM x i m12).length)) cap14), (115, .slice x.A x.ss.length x.c), (116, i6_ x.ss.length), (131, iI_ (IntKind.i64.wrap (((i : Nat) : Int) + 1)))]) (by kernel_rfl) ?_
        clear HF; intro a HF
        rw [show IntKind.i64.wrap (((i : Nat) : Int) + 1) = (((i + 1) : Nat) : Int) from (IntWalk.i64_in _ (by omega)).trans (by omega)] at HF
        refine wp_pure HF HM rfl 1 [] ((file_any_S12 z1 gl x capl bg gt capt bc pg pc qg qc gp capp) ++ [(20, sl_ g14 (((outM x i).length) + ((segRowM x i m12).length)) cap14), (115, .slice x.A x.ss.length x.c), (116, i6_ x.ss.length), (117, i6_ (i + 1))]) (by kernel_rfl) ?_
        clear HF; intro a HF
        refine wpList_nil ?_
        repeat (first | refine then_norm ?_ | refine inb_norm ?_)
        rw [show (((outM x i).length) + ((segRowM x i m12).length)) = ((outM x (i + 1)).length) from by rw [outM_next hm12, List.length_append]] at HF htk14 hnc14
        exact KR _ _ (⟨g14, cap14, cur14, htk14, hsz14, hnc14, hcm14, (HM.pick [2, 3, 4, 5, 6, 7, 8, 9] [(g14, .cells cur14 5 (0, 0)), (gp, .cells cur11 3 (0, 0)), (qg, .cells qk 3 (0, 0)), (bg, .cells bk 5 (0, 0)), (pg, .cells pk 3 (0, 0)), (gl, .cells curl 46 (0, 0)), (gt, .cells curt 5 (0, 0)), file_any_B0 z1 x] rfl (by decide)), HF.sub ((file_any_S12 z1 gl x capl bg gt capt bc pg pc qg qc gp capp) ++ [(20, sl_ g14 ((outM x (i + 1)).length) cap14), (115, .slice x.A x.ss.length x.c), (116, i6_ x.ss.length), (117, i6_ (i + 1))]) (by kernel_rfl)⟩)
      · intro a w KX hI
        obtain ⟨ug, uc, uk, utk, usz, unc, ucm, HM, HF⟩ := hI
        refine wp_seq (wp_region_lit ?_)
        refine wp_pure HF HM rfl 1 [] ((file_any_S12 z1 gl x capl bg gt capt bc pg pc qg qc gp capp) ++ [(20, sl_ ug ((outM x x.ss.length).length) uc), (115, .slice x.A x.ss.length x.c), (116, i6_ x.ss.length), (117, i6_ x.ss.length), (118, .bool (decide (((x.ss.length : Nat) : Int) < ((x.ss.length : Nat) : Int))))]) (by kernel_rfl) ?_
        clear HF; intro a HF
        refine nil_then ?_
        refine wp_seq ?_
        rw [show decide (((x.ss.length : Nat) : Int) < ((x.ss.length : Nat) : Int)) = false from dec_f (by omega)] at HF
        refine wp_condF HF rfl ?_
        refine wp_exit ?_
        repeat (first | refine then_exit ?_ | refine inb_exit_other rfl ?_)
        refine inb_exit ?_
        repeat (first | refine then_norm ?_ | refine inb_norm ?_)
        refine wp_seq (wp_region_lit ?_)
        refine wp_pure HF HM rfl 2 [] [(1, pt_ z1), (8, sl_ gl (x.ps.length + 2) capl), (11, sl_ pg x.ss.length pc), (12, sl_ qg (x.ps.length + 2) qc), (19, sl_ gp x.img.names.length capp), (132, sl_ ug ((outM x x.ss.length).length) uc), (133, sl_ bg ((bodyM x gt capt (x.ps.length + 2)).length) bc)] (by kernel_rfl) ?_
        clear HF; intro a HF
        refine wp_append_told HF HM rfl _ _ 33 33 rfl rfl 5 (z := iB_ 0) (size := 1) (bytes := 1) Tryd.underlying33 (by kernel_rfl) rfl (by decide) 0 ug ((outM x x.ss.length).length) uc uk rfl rfl unc ucm usz ((outM x x.ss.length).map Bv) utk (sl_ bg ((bodyM x gt capt (x.ps.length + 2)).length) bc) ((bodyM x gt capt (x.ps.length + 2)).length) ((bodyM x gt capt (x.ps.length + 2)).map Bv) rfl (src_row Tryd.underlying33 (own_len btk bsz bnc) (by decide) (HM.rowOwn (i := 3) rfl btk) (Bv_one _)) (by unfold maxLen; omega) (by omega) ?_
        intro a w15 g15 cap15 cur15 HM2 htk15 hsz15 hnc15 hcm15 HF2; clear HF HM
        replace htk15 : cur15.toList.take ((((outM x x.ss.length).length) + ((bodyM x gt capt (x.ps.length + 2)).length)) * 1) = (endM x 0).map Bv := htk15.trans (by rw [endM_zero, bodyM_all, List.map_append (l₁ := outM x x.ss.length)])
        have HM : Mm [] w0 w15 [(g15, .cells cur15 5 (0, 0)), (gp, .cells cur11 3 (0, 0)), (qg, .cells qk 3 (0, 0)), (bg, .cells bk 5 (0, 0)), (pg, .cells pk 3 (0, 0)), (gl, .cells curl 46 (0, 0)), (gt, .cells curt 5 (0, 0)), file_any_B0 z1 x] := HM2
        have HF := HF2.sub [(1, pt_ z1), (8, sl_ gl (x.ps.length + 2) capl), (11, sl_ pg x.ss.length pc), (12, sl_ qg (x.ps.length + 2) qc), (19, sl_ gp x.img.names.length capp), (134, sl_ g15 (((outM x x.ss.length).length) + ((bodyM x gt capt (x.ps.length + 2)).length)) cap15)] (by kernel_rfl); clear HM2 HF2
        refine wp_pure HF HM rfl 1 [] [(1, pt_ z1), (8, sl_ gl (x.ps.length + 2) capl), (11, sl_ pg x.ss.length pc), (12, sl_ qg (x.ps.length + 2) qc), (19, sl_ gp x.img.names.length capp), (20, sl_ g15 (((outM x x.ss.length).length) + ((bodyM x gt capt (x.ps.length + 2)).length)) cap15)] (by kernel_rfl) ?_
        clear HF; intro a HF
        refine nil_then ?_
        refine wp_seq ?_
        refine wp_seq (wp_region_lit ?_)
        refine wp_pure HF HM rfl 3 [] ((file_any_S16 z1 pg x pc qg qc gp capp) ++ [(20, sl_ g15 (((outM x x.ss.length).length) + ((bodyM x gt capt (x.ps.length + 2)).length)) cap15), (135, sl_ gl (x.ps.length + 2) capl), (136, i6_ (x.ps.length + 2)), (137, iI_ 0)]) (by kernel_rfl) ?_
        clear HF; intro a HF
        refine nil_then ?_
        refine wp_block ?_
        replace HM := HM.pick [0, 1, 2, 4, 5, 6, 7] [(g15, .cells cur15 5 (0, 0)), (gp, .cells cur11 3 (0, 0)), (qg, .cells qk 3 (0, 0)), (pg, .cells pk 3 (0, 0)), (gl, .cells curl 46 (0, 0)), (gt, .cells curt 5 (0, 0)), file_any_B0 z1 x] rfl (by decide)
        refine loop_ind ((x.ps.length + 2)) (fun i a w => (∃ ug : Nat, ∃ uc : Nat, ∃ uk : Array Value, (uk.toList.take (((endM x i).length) * 1) = (endM x i).map Bv) ∧ (uk.size = uc * 1) ∧ (((endM x i).length) ≤ uc) ∧ (uc ≤ maxLen) ∧ Mm [] w0 w [(ug, .cells uk 5 (0, 0)), (gp, .cells cur11 3 (0, 0)), (qg, .cells qk 3 (0, 0)), (pg, .cells pk 3 (0, 0)), (gl, .cells curl 46 (0, 0)), (gt, .cells curt 5 (0, 0)), file_any_B0 z1 x] ∧ Fr 159 a (file_any_S17 z1 pg x pc qg qc gp capp ug i uc gl capl))) ?_ ?_ ?_
        rw [show (((outM x x.ss.length).length) + ((bodyM x gt capt (x.ps.length + 2)).length)) = ((endM x 0).length) from by rw [endM_zero, bodyM_all]; exact (List.length_append ..).symm] at HF htk15 hnc15
        · exact ⟨g15, cap15, cur15, htk15, hsz15, hnc15, hcm15, HM, HF.sub ((file_any_S16 z1 pg x pc qg qc gp capp) ++ [(20, sl_ g15 ((endM x 0).length) cap15), (135, sl_ gl (x.ps.length + 2) capl), (136, i6_ (x.ps.length + 2)), (137, iI_ 0)]) (by kernel_rfl)⟩
        · intro i a w KX hi hI KR
          obtain ⟨ug, uc, uk, utk, usz, unc, ucm, HM, HF⟩ := hI
          have hoz := endM_len x i iok; have hoz2 := endM_len x (i + 1) iok; have hpl := x.img.secPlace_le i; have hnp := iok.namePlace_lt i (by rw [all_len]; omega)
          refine wp_seq (wp_region_lit ?_)
          refine wp_pure HF HM rfl 1 [] ((file_any_S17 z1 pg x pc qg qc gp capp ug i uc gl capl) ++ [(138, .bool (decide (((i : Nat) : Int) < (((x.ps.length + 2) : Nat) : Int))))]) (by kernel_rfl) ?_
          clear HF; intro a HF
          refine nil_then ?_
          refine wp_seq ?_
          rw [show decide (((i : Nat) : Int) < (((x.ps.length + 2) : Nat) : Int)) = true from dec_t (by omega)] at HF
          refine wp_condT HF rfl ?_
          refine wp_skip ?_
          repeat (first | refine then_norm ?_ | refine inb_norm ?_)
          refine wp_seq ?_
          refine wp_block ?_
          refine wp_seq (wp_region_lit ?_)
          refine wp_pure HF HM rfl 1 [] ((file_any_S17 z1 pg x pc qg qc gp capp ug i uc gl capl) ++ [(139, i6_ i)]) (by kernel_rfl) ?_
          clear HF; intro a HF
          obtain ⟨m16, hm16⟩ : ∃ m, (allM x gt capt)[i]? = some m := ⟨_, List.getElem?_eq_getElem (by omega)⟩
          have hmm_m16 := List.mem_of_getElem? hm16
          have hmb_m16 := allM_b h ok m16 hmm_m16
          have hmd_m16 := hmb_m16.data; have hmt_m16 := hmb_m16.ty; have hmf_m16 := hmb_m16.flags; have hml_m16 := hmb_m16.link; have hmi_m16 := hmb_m16.info
          refine wp_run HF (by kernel_rfl) (.pointer (Option.map (fun q : Addr => q.add (i * 10)) (some ⟨gl, 0, none⟩))) (by kernel_rfl) (run_index_row Tryd.underlying24 (by kernel_rfl) rfl i rfl rfl (by omega) (Option.some_ne_none _)) ?_
          clear HF; intro a HF; replace HF := HF.sub ((file_any_S17 z1 pg x pc qg qc gp capp ug i uc gl capl) ++ [(139, i6_ i), (140, .pointer (Option.map (fun q : Addr => q.add (i * 10)) (some ⟨gl, 0, none⟩)))]) (by kernel_rfl)
          refine wp_run HF (by kernel_rfl) (.agg #[.string (⟨m16.name.toArray⟩), u3_ m16.ty, u3_ m16.flags, u6_ m16.addr, u3_ m16.link, u3_ m16.info, u6_ m16.align, u6_ m16.ent, u6_ m16.size, .slice m16.A m16.data.length m16.c]) (by kernel_rfl) (run_load_row rfl rfl (row_elem (f := PartM.cells) (k := 10) (fun _ => rfl) (HM.rowOwn (i := 4) rfl hol.tk) i hm16) (Nat.zero_lt_succ _) Tryd.underlying46 rfl (by kernel_rfl)) ?_
          clear HF; intro a HF; replace HF := HF.sub ((file_any_S17 z1 pg x pc qg qc gp capp ug i uc gl capl) ++ [(139, i6_ i), (141, .agg #[.string (⟨m16.name.toArray⟩), u3_ m16.ty, u3_ m16.flags, u6_ m16.addr, u3_ m16.link, u3_ m16.info, u6_ m16.align, u6_ m16.ent, u6_ m16.size, .slice m16.A m16.data.length m16.c])]) (by kernel_rfl)
          obtain ⟨z57, hz57⟩ : ∃ z, w.heap.size = z := ⟨_, rfl⟩
          refine wp_sym HF HM hz57 3 [[7]] ((file_any_S16 z1 pg x pc qg qc gp capp) ++ [(20, sl_ ug ((endM x i).length) uc), (23, i6_ i), (24, pt_ z57), (135, sl_ gl (x.ps.length + 2) capl), (136, i6_ (x.ps.length + 2)), (137, i6_ i)]) [(z57, .cells #[.string (⟨m16.name.toArray⟩), u3_ m16.ty, u3_ m16.flags, u6_ m16.addr, u3_ m16.link, u3_ m16.info, u6_ m16.align, u6_ m16.ent, u6_ m16.size, .slice m16.A m16.data.length m16.c] 46 (0, 0)), (ug, .cells uk 5 (0, 0)), (gp, .cells cur11 3 (0, 0)), (qg, .cells qk 3 (0, 0)), (pg, .cells pk 3 (0, 0)), (gl, .cells curl 46 (0, 0)), (gt, .cells curt 5 (0, 0)), file_any_B0 z1 x] (by kernel_rfl) ?_
          clear HF HM hz57; intro a w HF HM
          refine nil_then ?_
          refine reg_plan1 HM (by kernel_rfl) [(z57, .cells #[.string (⟨m16.name.toArray⟩), u3_ m16.ty, u3_ m16.flags, u6_ m16.addr, u3_ m16.link, u3_ m16.info, u6_ m16.align, u6_ m16.ent, u6_ m16.size, .slice m16.A m16.data.length m16.c] 46 (0, 0)), (gp, .cells cur11 3 (0, 0)), (qg, .cells qk 3 (0, 0)), (pg, .cells pk 3 (0, 0)), (gl, .cells curl 46 (0, 0)), (gt, .cells curt 5 (0, 0)), file_any_B0 z1 x] [(0, false), (1, false), (2, false), (3, false), (4, false), (5, false), (6, false), (7, false), (8, false), (9, false), (10, false), (11, true), (12, true), (13, false)] (by kernel_rfl) ?_
          clear HM; intro w16 HM
          refine plan_sym HF (HM.told [0, 2, 3, 4, 5, 6, 7] rfl) 4 [[0]] ((file_any_S18 z1 pg x pc qg qc gp capp i z57 gl capl ug uc) ++ [(144, sl_ gp x.img.names.length capp), (145, i6_ i)]) (by kernel_rfl) ?_
          clear HF; intro a HF
          refine plan_run rfl HF (HM.told [0, 2, 3, 4, 5, 6, 7] rfl) rfl (.pointer (Option.map (fun q : Addr => q.add (i * 1)) (some ⟨gp, 0, none⟩))) (by kernel_rfl) (fun w hw => run_index_row Tryd.underlying66 (by kernel_rfl) rfl i rfl rfl (by omega) (Option.some_ne_none _)) ?_
          clear HF; intro a HF; replace HF := HF.sub ((file_any_S18 z1 pg x pc qg qc gp capp i z57 gl capl ug uc) ++ [(146, .pointer (Option.map (fun q : Addr => q.add (i * 1)) (some ⟨gp, 0, none⟩)))]) (by kernel_rfl)
          refine plan_run rfl HF (HM.told [0, 2, 3, 4, 5, 6, 7] rfl) rfl (i6_ (x.img.namePlace i)) (by kernel_rfl) (fun w hw => run_load_row1 rfl rfl (row_elem1 (Told.rowOwn hw (i := 1) rfl tks11) i (List.getElem?_range (by omega))) (by kernel_rfl)) ?_
          clear HF; intro a HF; replace HF := HF.sub ((file_any_S18 z1 pg x pc qg qc gp capp i z57 gl capl ug uc) ++ [(147, i6_ (x.img.namePlace i))]) (by kernel_rfl)
          refine plan_sym HF (HM.told [0, 2, 3, 4, 5, 6, 7] rfl) 3 [[6]] ((file_any_S16 z1 pg x pc qg qc gp capp) ++ [(135, sl_ gl (x.ps.length + 2) capl), (136, i6_ (x.ps.length + 2)), (137, i6_ i), (142, sl_ ug ((endM x i).length) uc), file_any_P19 x, (147, i6_ (x.img.namePlace i)), (148, .agg #[.string (⟨m16.name.toArray⟩), u3_ m16.ty, u3_ m16.flags, u6_ m16.addr, u3_ m16.link, u3_ m16.info, u6_ m16.align, u6_ m16.ent, u6_ m16.size, .slice m16.A m16.data.length m16.c]), (149, sl_ qg (x.ps.length + 2) qc), (150, i6_ i)]) (by kernel_rfl) ?_
          clear HF; intro a HF
          refine plan_run rfl HF (HM.told [0, 2, 3, 4, 5, 6, 7] rfl) rfl (.pointer (Option.map (fun q : Addr => q.add (i * 1)) (some ⟨qg, 0, none⟩))) (by kernel_rfl) (fun w hw => run_index_row Tryd.underlying66 (by kernel_rfl) rfl i rfl rfl (by omega) (Option.some_ne_none _)) ?_
          clear HF; intro a HF; replace HF := HF.sub ((file_any_S16 z1 pg x pc qg qc gp capp) ++ [(135, sl_ gl (x.ps.length + 2) capl), (136, i6_ (x.ps.length + 2)), (137, i6_ i), (142, sl_ ug ((endM x i).length) uc), file_any_P19 x, (147, i6_ (x.img.namePlace i)), (148, .agg #[.string (⟨m16.name.toArray⟩), u3_ m16.ty, u3_ m16.flags, u6_ m16.addr, u3_ m16.link, u3_ m16.info, u6_ m16.align, u6_ m16.ent, u6_ m16.size, .slice m16.A m16.data.length m16.c]), (151, .pointer (Option.map (fun q : Addr => q.add (i * 1)) (some ⟨qg, 0, none⟩)))]) (by kernel_rfl)
          refine plan_run rfl HF (HM.told [0, 2, 3, 4, 5, 6, 7] rfl) rfl (i6_ (x.img.secPlace i)) (by kernel_rfl) (fun w hw => run_load_row1 rfl rfl (row_elem1 (Told.rowOwn hw (i := 2) rfl qtk) i (List.getElem?_range (by omega))) (by kernel_rfl)) ?_
          clear HF; intro a HF; replace HF := HF.sub ((file_any_S16 z1 pg x pc qg qc gp capp) ++ [(135, sl_ gl (x.ps.length + 2) capl), (136, i6_ (x.ps.length + 2)), (137, i6_ i), (142, sl_ ug ((endM x i).length) uc), file_any_P19 x, (147, i6_ (x.img.namePlace i)), (148, .agg #[.string (⟨m16.name.toArray⟩), u3_ m16.ty, u3_ m16.flags, u6_ m16.addr, u3_ m16.link, u3_ m16.info, u6_ m16.align, u6_ m16.ent, u6_ m16.size, .slice m16.A m16.data.length m16.c]), (152, i6_ (x.img.secPlace i))]) (by kernel_rfl)
          refine plan_force rfl ?_
          refine wp_call HF (by kernel_rfl) 68 #[.agg #[.bool x.wide, .bool x.big, u8_ x.abi, u8_ x.abiv, .int .i64 x.ty, .int .i64 x.machine, u6_ x.entry, .slice x.A x.ss.length x.c, .slice x.B x.ps.length x.d], i6_ (x.img.namePlace i), .agg #[.string (⟨m16.name.toArray⟩), u3_ m16.ty, u3_ m16.flags, u6_ m16.addr, u3_ m16.link, u3_ m16.info, u6_ m16.align, u6_ m16.ent, u6_ m16.size, .slice m16.A m16.data.length m16.c], i6_ (x.img.secPlace i)] (by kernel_rfl) (fun w => by kernel_rfl) (Calls.mono (secRow_call x.wide x.big _ _ _ _ _ _ _ (x.img.namePlace i) ⟨m16.name.toArray⟩ m16.ty m16.flags m16.addr m16.link m16.info m16.align m16.ent m16.size m16.data.length m16.c (x.img.secPlace i) m16.A (by omega) (by omega) (by omega) (by omega) (by omega) (by omega) (by omega) w16) ?_)
          rintro _ w17 ⟨gr, capr, curr, rfl, hb, hor⟩
          replace HM : Mm [] w0 w17 [(gr, .cells curr 5 (0, 0)), (z57, .cells #[.string (⟨m16.name.toArray⟩), u3_ m16.ty, u3_ m16.flags, u6_ m16.addr, u3_ m16.link, u3_ m16.info, u6_ m16.align, u6_ m16.ent, u6_ m16.size, .slice m16.A m16.data.length m16.c] 46 (0, 0)), (ug, .cells uk 5 (0, 0)), (gp, .cells cur11 3 (0, 0)), (qg, .cells qk 3 (0, 0)), (pg, .cells pk 3 (0, 0)), (gl, .cells curl 46 (0, 0)), (gt, .cells curt 5 (0, 0)), file_any_B0 z1 x] := HM.push hb hor.new hor.obj
          have hrl : (secRowM x i m16).length ≤ 64 := by rw [show (secRowM x i m16).length = sSize x.wide from secB_length ..]; omega
          refine ⟨_, rfl, ?_⟩; clear HF; intro a HF
          replace HF := HF.sub ((file_any_S16 z1 pg x pc qg qc gp capp) ++ [(135, sl_ gl (x.ps.length + 2) capl), (136, i6_ (x.ps.length + 2)), (137, i6_ i), (142, sl_ ug ((endM x i).length) uc), (153, sl_ gr ((secRowM x i m16).length) capr)]) (by kernel_rfl)
          refine only_end (HM.told [1, 3, 4, 5, 6, 7, 8] rfl) ?_
          refine plan_force rfl ?_
          refine wp_append_told HF HM rfl _ _ 33 33 rfl rfl 5 (z := iB_ 0) (size := 1) (bytes := 1) Tryd.underlying33 (by kernel_rfl) rfl (by decide) 2 ug ((endM x i).length) uc uk rfl rfl unc ucm usz ((endM x i).map Bv) utk (sl_ gr ((secRowM x i m16).length) capr) ((secRowM x i m16).length) ((secRowM x i m16).map Bv) rfl (src_row Tryd.underlying33 (own_len hor.tk hor.sz hor.nc) (by decide) (HM.rowOwn (i := 0) rfl hor.tk) (Bv_one _)) (by unfold maxLen; omega) (by omega) ?_
          intro a w18 g18 cap18 cur18 HM2 htk18 hsz18 hnc18 hcm18 HF2; clear HF HM
          replace htk18 : cur18.toList.take ((((endM x i).length) + ((secRowM x i m16).length)) * 1) = (endM x (i + 1)).map Bv := htk18.trans (by rw [endM_next hm16, List.map_append])
          have HM : Mm [] w0 w18 [(gr, .cells curr 5 (0, 0)), (z57, .cells #[.string (⟨m16.name.toArray⟩), u3_ m16.ty, u3_ m16.flags, u6_ m16.addr, u3_ m16.link, u3_ m16.info, u6_ m16.align, u6_ m16.ent, u6_ m16.size, .slice m16.A m16.data.length m16.c] 46 (0, 0)), (g18, .cells cur18 5 (0, 0)), (gp, .cells cur11 3 (0, 0)), (qg, .cells qk 3 (0, 0)), (pg, .cells pk 3 (0, 0)), (gl, .cells curl 46 (0, 0)), (gt, .cells curt 5 (0, 0)), file_any_B0 z1 x] := HM2
          have HF := HF2.sub ((file_any_S16 z1 pg x pc qg qc gp capp) ++ [(135, sl_ gl (x.ps.length + 2) capl), (136, i6_ (x.ps.length + 2)), (137, i6_ i), (154, sl_ g18 (((endM x i).length) + ((secRowM x i m16).length)) cap18)]) (by kernel_rfl); clear HM2 HF2
          refine only_end (HM.told [1, 3, 4, 5, 6, 7, 8] rfl) ?_
          refine plan_sym HF (HM.told [1, 3, 4, 5, 6, 7, 8] rfl) 1 [] ((file_any_S16 z1 pg x pc qg qc gp capp) ++ [(20, sl_ g18 (((endM x i).length) + ((secRowM x i m16).length)) cap18), (135, sl_ gl (x.ps.length + 2) capl), (136, i6_ (x.ps.length + 2)), (137, i6_ i)]) (by kernel_rfl) ?_
          clear HF; intro a HF
          refine plan_end ?_
          repeat (first | refine then_norm ?_ | refine inb_norm ?_)
          refine wp_region_lit ?_
          refine wp_pure HF HM rfl 1 [] ((file_any_S16 z1 pg x pc qg qc gp capp) ++ [(20, sl_ g18 (((endM x i).length) + ((secRowM x i m16).length)) cap18), (135, sl_ gl (x.ps.length + 2) capl), (136, i6_ (x.ps.length + 2)), (155, iI_ (IntKind.i64.wrap (((i : Nat) : Int) + 1)))]) (by kernel_rfl) ?_
          clear HF; intro a HF
          rw [show IntKind.i64.wrap (((i : Nat) : Int) + 1) = (((i + 1) : Nat) : Int) from (IntWalk.i64_in _ (by omega)).trans (by omega)] at HF
          refine wp_pure HF HM rfl 1 [] ((file_any_S16 z1 pg x pc qg qc gp capp) ++ [(20, sl_ g18 (((endM x i).length) + ((secRowM x i m16).length)) cap18), (135, sl_ gl (x.ps.length + 2) capl), (136, i6_ (x.ps.length + 2)), (137, i6_ (i + 1))]) (by kernel_rfl) ?_
          clear HF; intro a HF
          refine wpList_nil ?_
          repeat (first | refine then_norm ?_ | refine inb_norm ?_)
          rw [show (((endM x i).length) + ((secRowM x i m16).length)) = ((endM x (i + 1)).length) from by rw [endM_next hm16, List.length_append]] at HF htk18 hnc18
          exact KR _ _ (⟨g18, cap18, cur18, htk18, hsz18, hnc18, hcm18, (HM.pick [2, 3, 4, 5, 6, 7, 8] [(g18, .cells cur18 5 (0, 0)), (gp, .cells cur11 3 (0, 0)), (qg, .cells qk 3 (0, 0)), (pg, .cells pk 3 (0, 0)), (gl, .cells curl 46 (0, 0)), (gt, .cells curt 5 (0, 0)), file_any_B0 z1 x] rfl (by decide)), HF.sub ((file_any_S16 z1 pg x pc qg qc gp capp) ++ [(20, sl_ g18 ((endM x (i + 1)).length) cap18), (135, sl_ gl (x.ps.length + 2) capl), (136, i6_ (x.ps.length + 2)), (137, i6_ (i + 1))]) (by kernel_rfl)⟩)
        · intro a w KX hI
          obtain ⟨ug, uc, uk, utk, usz, unc, ucm, HM, HF⟩ := hI
          refine wp_seq (wp_region_lit ?_)
          refine wp_pure HF HM rfl 1 [] ((file_any_S16 z1 pg x pc qg qc gp capp) ++ [(20, sl_ ug ((endM x (x.ps.length + 2)).length) uc), (135, sl_ gl (x.ps.length + 2) capl), (136, i6_ (x.ps.length + 2)), (137, i6_ (x.ps.length + 2)), (138, .bool (decide ((((x.ps.length + 2) : Nat) : Int) < (((x.ps.length + 2) : Nat) : Int))))]) (by kernel_rfl) ?_
          clear HF; intro a HF
          refine nil_then ?_
          refine wp_seq ?_
          rw [show decide ((((x.ps.length + 2) : Nat) : Int) < (((x.ps.length + 2) : Nat) : Int)) = false from dec_f (by omega)] at HF
          refine wp_condF HF rfl ?_
          refine wp_exit ?_
          repeat (first | refine then_exit ?_ | refine inb_exit_other rfl ?_)
          refine inb_exit ?_
          repeat (first | refine then_norm ?_ | refine inb_norm ?_)
          refine wp_seq (wp_region_lit ?_)
          refine wp_pure HF HM rfl 6 [] [(2, sl_ ug ((endM x (x.ps.length + 2)).length) uc), (3, sl_ pg x.ss.length pc), (4, sl_ qg (x.ps.length + 2) qc)] (by kernel_rfl) ?_
          clear HF; intro a HF
          refine nil_then ?_
          refine wp_ret ?_
          repeat (first | refine then_ret ?_ | refine inb_ret ?_)
          rw [endM_all] at HF utk unc
          exact ret_three HF rfl rfl rfl rfl ⟨ug, uc, uk, pg, pc, pk, qg, qc, qk, rfl, HM.below, ⟨HM.ge (i := 0) rfl, HM.get (i := 0) rfl, utk, usz, unc, ucm⟩, ⟨HM.ge (i := 3) rfl, HM.get (i := 3) rfl, ptk, psz, pnc, pcm⟩, ⟨HM.ge (i := 2) rfl, HM.get (i := 2) rfl, qtk, qsz, qnc, qcm⟩⟩

end Go.Proofs.YtdgehpocmfjbiaaDoor
namespace Go.Proofs.YtdgehpocmfjbiaaDoor
open Go.RowKit

set_option maxRecDepth 100000 in
set_option maxHeartbeats 1000000 in
theorem fileOf_any (x : ImgM) (w0 : World) (h : x.At w0) (ok : x.Ok) : Calls Tryd.prog 25 #[x.val] w0 fun e w' => ∃ g cap cur, e = .returned (sl_ g x.img.file.length cap) ∧ Below w0.heap.size w0 w' ∧ Own w0.heap.size w' 5 1 g x.img.file.length cap cur (x.img.file.map Bv) := by
  obtain ⟨w, hw⟩ : ∃ w, w0 = w := ⟨_, rfl⟩
  have HM : Mm [] w0 w [] := hw ▸ Mm.start w0
  conv => arg 4; rw [hw]
  clear hw
  refine calls_start Tryd.func25 rfl Tryd.ntmps25 [(0, .agg #[.bool x.wide, .bool x.big, u8_ x.abi, u8_ x.abiv, .int .i64 x.ty, .int .i64 x.machine, u6_ x.entry, .slice x.A x.ss.length x.c, .slice x.B x.ps.length x.d])] (by kernel_rfl) (Nat.le_of_ble_eq_true rfl) ?_
  intro a HF
  refine wp_seq (wp_region_lit ?_)
  obtain ⟨z1, hz1⟩ : ∃ z, w.heap.size = z := ⟨_, rfl⟩
  refine wp_sym HF HM hz1 2 [] [(1, pt_ z1)] [(z1, .cells #[.bool x.wide, .bool x.big, u8_ x.abi, u8_ x.abiv, .int .i64 x.ty, .int .i64 x.machine, u6_ x.entry, .slice x.A x.ss.length x.c, .slice x.B x.ps.length x.d] 26 (0, 0))] (by kernel_rfl) ?_
  clear HF HM hz1; intro a w HF HM
  refine nil_then ?_
  refine wp_seq (wp_region_lit ?_)
  refine wp_pure HF HM rfl 1 [[0]] [(7, .agg #[.bool x.wide, .bool x.big, u8_ x.abi, u8_ x.abiv, .int .i64 x.ty, .int .i64 x.machine, u6_ x.entry, .slice x.A x.ss.length x.c, .slice x.B x.ps.length x.d])] (by kernel_rfl) ?_
  clear HF; intro a HF
  refine wp_call HF (by kernel_rfl) 36 #[.agg #[.bool x.wide, .bool x.big, u8_ x.abi, u8_ x.abiv, .int .i64 x.ty, .int .i64 x.machine, u6_ x.entry, .slice x.A x.ss.length x.c, .slice x.B x.ps.length x.d]] (by kernel_rfl) (fun w => by kernel_rfl) (Calls.mono (file_any x w (h.below HM.below) ok) ?_)
  rintro _ w1 ⟨g1, cap1, cur1, g2, cap2, cur2, g3, cap3, cur3, rfl, hb, ho1, ho2, ho3⟩
  replace HM : Mm [] w0 w1 [(g1, .cells cur1 5 (0, 0)), (z1, .cells #[.bool x.wide, .bool x.big, u8_ x.abi, u8_ x.abiv, .int .i64 x.ty, .int .i64 x.machine, u6_ x.entry, .slice x.A x.ss.length x.c, .slice x.B x.ps.length x.d] 26 (0, 0))] := HM.push hb ho1.new ho1.obj
  refine ⟨_, rfl, ?_⟩; clear HF; intro a HF
  replace HF := HF.sub [(8, .tuple #[sl_ g1 x.img.file.length cap1, sl_ g2 x.ss.length cap2, sl_ g3 (x.ps.length + 2) cap3])] (by kernel_rfl)
  refine wp_pure HF HM rfl 7 [] [(3, sl_ g1 x.img.file.length cap1)] (by kernel_rfl) ?_
  clear HF; intro a HF
  refine nil_then ?_
  refine wp_seq (wp_region_lit ?_)
  refine wp_pure HF HM rfl 2 [] [(2, sl_ g1 x.img.file.length cap1)] (by kernel_rfl) ?_
  clear HF; intro a HF
  refine nil_then ?_
  refine wp_ret ?_
  repeat (first | refine then_ret ?_ | refine inb_ret ?_)
  exact ret_one HF rfl rfl ⟨g1, cap1, cur1, rfl, HM.below, ⟨HM.ge (i := 0) rfl, HM.get (i := 0) rfl, ho1.tk, ho1.sz, ho1.nc, ho1.cm⟩⟩

end Go.Proofs.YtdgehpocmfjbiaaDoor
namespace Go.Proofs.YtdgehpocmfjbiaaDoor
open Go.ChangeShapes Go.WideShapes Go.ChangeAt Go.RowKit Go.Deep

end Go.Proofs.YtdgehpocmfjbiaaDoor
namespace Go.Proofs.YtdgehpocmfjbiaaDoor
open Go.ChangeShapes Go.WideShapes Go.ChangeAt Go.RowKit Go.Deep

section
variable {H : Type} {enc : TypeId × Value → H} {P : Program} {w : World} {base : Nat} {spare : Nat → Bool} {held : Bool}
theorem trod_fields {t : TypeId} {fs : Array Field} {fuel : Nat} {cs : List Value} {x : DataW H × List MemPlace} (hs : P.underlying t = some (.struct fs)) (hone : oneCellFields P fs = true) (hC : P.cellsOf t = fs.size) (h : DataW.trod enc P w base spare held fuel t cs = some x) :
    cs.length = fs.size ∧ ∃ (n : Nat), ∀ (j : Nat) (f : Field), fs[j]? = some f → ∃ (u : Value) (y : DataW H × List MemPlace), cs[j]? = some u ∧ DataW.trod enc P w base spare held n f.type [u] = some y := by
  obtain ⟨xs, n, _, hx, hl, hlen, hg⟩ := DataW.trod_struct hs h
  refine ⟨hl.trans hC, n, fun j f hj => ?_⟩
  obtain ⟨ho, hk⟩ := hone_of hone j f hj
  have h1 := hg j f hj
  rw [ho, hk] at h1
  have hj1 : j < fs.size := (Array.getElem?_eq_some_iff.1 hj).1
  have hj2 : j < xs.length := by omega
  have hj3 : j < cs.length := by omega
  have e : (cs.drop j).take 1 = [cs[j]] := by
    rw [List.drop_eq_getElem_cons hj3]
    rfl
  rw [e, List.getElem?_eq_getElem hj2] at h1
  exact ⟨cs[j], xs[j], List.getElem?_eq_getElem hj3, h1⟩
theorem row_flat {α : Type} {f : α → List Value} {k : Nat} (hk : ∀ a, (f a).length = k) (b : Nat) : ∀ (l : List α) (off : Nat), (∀ i (h : i < l.length) j v, (f l[i])[j]? = some v → w.cell? ⟨b, off + i * k + j, none⟩ = some v) → Row w (some ⟨b, off, none⟩) (l.flatMap f)
  | [], off, _ => Row.nil _ _
  | a :: l, off, h => by
    have ih := row_flat hk b l (off + k) fun i hi j v hv => by
      have := h (i + 1) (by simpa using hi) j v (by simpa using hv)
      rw [Nat.succ_mul] at this
      rw [show off + k + i * k + j = off + (i * k + k) + j by omega]
      exact this
    intro i v hv
    rw [List.flatMap_cons] at hv
    refine ⟨b, off, rfl, ?_⟩
    by_cases hik : i < k
    · rw [List.getElem?_append_left (by rw [hk]; exact hik)] at hv
      have := h 0 (by simp) i v (by simpa using hv)
      simpa using this
    · rw [List.getElem?_append_right (by rw [hk]; omega), hk] at hv
      obtain ⟨b', off', e, hc⟩ := ih _ v hv
      injection e with e
      injection e with e1 e2
      subst e1; subst e2
      rw [show off + k + (i - k) = off + i by omega] at hc
      exact hc
/-- a slice of elements of k cells -/
theorem open_row {α : Type} [Inhabited α] {t e : TypeId} {k : Nat} {f : α → List Value} {Good : α → Prop} (ht : P.underlying t = some (.slice e)) (hc : P.cellsOf e = k) (hk0 : 0 < k) (hk : ∀ a, (f a).length = k)
    (hel : ∀ (n : Nat) (cs : List Value) (x : DataW H × List MemPlace), DataW.trod enc P w base spare held n e cs = some x → ∃ m, cs = f m ∧ Good m)
    {fuel : Nat} {u : Value} {x : DataW H × List MemPlace} (h : DataW.trod enc P w base spare held fuel t [u] = some x) :
    ∃ (l : List α) (A : Option Addr) (c : Nat), u = .slice A l.length c ∧ Row w A (l.flatMap f) ∧ (∀ m ∈ l, Good m) ∧ l.length ≤ c ∧ c ≤ maxLen := by
  rcases open_slice ht h with ⟨hcs, _⟩ | ⟨a, len, cap, m, n, D, Pl, hcs, hb, hl, hm, hmm, hx, hel2⟩
  · obtain rfl : u = .slice none 0 0 := by simpa using hcs
    exact ⟨[], none, 0, rfl, Row.nil _ _, by simp, Nat.le_refl _, Nat.zero_le _⟩
  · obtain rfl : u = .slice (some a) len cap := by simpa using hcs
    have hlm : len ≤ m := by rw [hmm]; split <;> omega
    obtain ⟨V, hV⟩ := choose_lt (α := α) (n := len) (p := fun i v => w.cells? base (a.add (i * k)) k = some (f v) ∧ Good v) (fun i hi => by
      obtain ⟨cs', h1, h2⟩ := hel2 i (by omega)
      obtain ⟨v, rfl, hg⟩ := hel n cs' _ h2
      rw [hc] at h1
      exact ⟨v, h1, hg⟩)
    refine ⟨(List.range len).map V, some a, cap, by simp, ?_, ?_, by simpa using hl, hm⟩
    · rcases Nat.eq_zero_or_pos len with h0 | h0
      · subst h0
        exact Row.nil _ _
      · obtain ⟨b, off, spot⟩ := a
        have hs0 : spot = none := by
          have h1 := (World.cells?_some (hV 0 h0).1).2.2 0 hk0
          have h2 : (f (V 0))[0]? = some ((f (V 0))[0]'(by rw [hk]; exact hk0)) := List.getElem?_eq_getElem _
          rw [h2] at h1
          simpa [Addr.add] using World.cell?_spot h1
        subst hs0
        refine row_flat hk b _ _ fun i hi j v hv => ?_
        simp only [List.length_map, List.length_range] at hi
        simp only [List.getElem_map, List.getElem_range] at hv
        have hj : j < k := by have := (List.getElem?_eq_some_iff.1 hv).1; rw [hk] at this; exact this
        have h1 := (World.cells?_some (hV i hi).1).2.2 j hj
        rw [hv, addr_add, addr_add] at h1
        exact h1
    · intro v hv
      obtain ⟨i, hi, rfl⟩ := List.mem_map.1 hv
      exact (hV i (List.mem_range.1 hi)).2
end
section
variable {H : Type} {enc : TypeId × Value → H} {w : World} {base : Nat} {spare : Nat → Bool} {held : Bool}
theorem nat_u8 {n : Int} (h : (Lit.int .u8 n).wf = true) : ∃ b : UInt8, n = (b.toNat : Int) := by
  have := bounds_u8 h
  refine ⟨UInt8.ofNat n.toNat, ?_⟩
  rw [UInt8.toNat_ofNat']
  omega
theorem open_bytes_ {fuel : Nat} {u : Value} {x : DataW H × List MemPlace} (h : DataW.trod enc Tryd.prog w base spare held fuel 33 [u] = some x) :
    ∃ (l : List UInt8) (A : Option Addr) (c : Nat), u = .slice A l.length c ∧ Row w A (l.map Bv) ∧ l.length ≤ c ∧ c ≤ maxLen := by
  obtain ⟨l, A, c, h1, h2, _, h4, h5⟩ := open_row (α := UInt8) (f := fun b => [Bv b]) (Good := fun _ => True) Tryd.underlying33 (k := 1) (by kernel_rfl) (by omega) (fun _ => rfl) (fun n cs x hx => by
    obtain ⟨m, rfl, _, hw⟩ := DataW.trod_int Tryd.underlying5 hx
    obtain ⟨b, rfl⟩ := nat_u8 hw
    exact ⟨b, rfl, trivial⟩) h
  exact ⟨l, A, c, h1, by rw [List.map_eq_flatMap]; exact h2, h4, h5⟩
theorem open_str {fuel : Nat} {u : Value} {x : DataW H × List MemPlace} (h : DataW.trod enc Tryd.prog w base spare held fuel 9 [u] = some x) : ∃ l : List UInt8, u = strV l ∧ l.length ≤ maxLen := by
  obtain ⟨s, hs, _, hl⟩ := DataW.trod_string Tryd.underlying9 h
  obtain rfl : u = .string s := by simpa using hs
  exact ⟨s.data.toList, rfl, by rw [Array.length_toList]; exact hl⟩
theorem list7 {α : Type} {l : List α} (h : l.length = 7) : ∃ a0 a1 a2 a3 a4 a5 a6, l = [a0, a1, a2, a3, a4, a5, a6] := by
  match l, h with
  | [a0, a1, a2, a3, a4, a5, a6], _ => exact ⟨a0, a1, a2, a3, a4, a5, a6, rfl⟩
theorem list9 {α : Type} {l : List α} (h : l.length = 9) : ∃ a0 a1 a2 a3 a4 a5 a6 a7 a8, l = [a0, a1, a2, a3, a4, a5, a6, a7, a8] := by
  match l, h with
  | [a0, a1, a2, a3, a4, a5, a6, a7, a8], _ => exact ⟨a0, a1, a2, a3, a4, a5, a6, a7, a8, rfl⟩
theorem list10 {α : Type} {l : List α} (h : l.length = 10) : ∃ a0 a1 a2 a3 a4 a5 a6 a7 a8 a9, l = [a0, a1, a2, a3, a4, a5, a6, a7, a8, a9] := by
  match l, h with
  | [a0, a1, a2, a3, a4, a5, a6, a7, a8, a9], _ => exact ⟨a0, a1, a2, a3, a4, a5, a6, a7, a8, a9, rfl⟩
instance : Inhabited SegM := ⟨⟨0, 0, 0, 0, 0, 0, [], none, 0⟩⟩
instance : Inhabited PartM := ⟨noneM⟩
set_option maxRecDepth 100000 in
theorem open_seg {fuel : Nat} {cs : List Value} {x : DataW H × List MemPlace} (h : DataW.trod enc Tryd.prog w base spare held fuel 57 cs = some x) : ∃ m : SegM, cs = m.cells ∧ SegM.At w m := by
  obtain ⟨hl, n, hf⟩ := trod_fields Tryd.underlying57 (by kernel_rfl) (by kernel_rfl) h
  obtain ⟨c0, c1, c2, c3, c4, c5, c6, rfl⟩ := list7 hl
  obtain ⟨u0, y0, e0, t0⟩ := hf 0 _ rfl
  obtain rfl : c0 = u0 := by simpa using e0
  obtain ⟨a0, x0, -, z0⟩ := DataW.trod_int Tryd.underlying36 t0
  obtain rfl : c0 = _ := by simpa using x0
  have q0 := bounds_u32 z0
  obtain ⟨m0, rfl⟩ := Int.eq_ofNat_of_zero_le q0.1
  obtain ⟨u1, y1, e1, t1⟩ := hf 1 _ rfl
  obtain rfl : c1 = u1 := by simpa using e1
  obtain ⟨a1, x1, -, z1⟩ := DataW.trod_int Tryd.underlying36 t1
  obtain rfl : c1 = _ := by simpa using x1
  have q1 := bounds_u32 z1
  obtain ⟨m1, rfl⟩ := Int.eq_ofNat_of_zero_le q1.1
  obtain ⟨u2, y2, e2, t2⟩ := hf 2 _ rfl
  obtain rfl : c2 = u2 := by simpa using e2
  obtain ⟨a2, x2, -, z2⟩ := DataW.trod_int Tryd.underlying22 t2
  obtain rfl : c2 = _ := by simpa using x2
  have q2 := bounds_u64 z2
  obtain ⟨m2, rfl⟩ := Int.eq_ofNat_of_zero_le q2.1
  obtain ⟨u3, y3, e3, t3⟩ := hf 3 _ rfl
  obtain rfl : c3 = u3 := by simpa using e3
  obtain ⟨a3, x3, -, z3⟩ := DataW.trod_int Tryd.underlying22 t3
  obtain rfl : c3 = _ := by simpa using x3
  have q3 := bounds_u64 z3
  obtain ⟨m3, rfl⟩ := Int.eq_ofNat_of_zero_le q3.1
  obtain ⟨u4, y4, e4, t4⟩ := hf 4 _ rfl
  obtain rfl : c4 = u4 := by simpa using e4
  obtain ⟨a4, x4, -, z4⟩ := DataW.trod_int Tryd.underlying22 t4
  obtain rfl : c4 = _ := by simpa using x4
  have q4 := bounds_u64 z4
  obtain ⟨m4, rfl⟩ := Int.eq_ofNat_of_zero_le q4.1
  obtain ⟨u5, y5, e5, t5⟩ := hf 5 _ rfl
  obtain rfl : c5 = u5 := by simpa using e5
  obtain ⟨a5, x5, -, z5⟩ := DataW.trod_int Tryd.underlying22 t5
  obtain rfl : c5 = _ := by simpa using x5
  have q5 := bounds_u64 z5
  obtain ⟨m5, rfl⟩ := Int.eq_ofNat_of_zero_le q5.1
  obtain ⟨u6, y6, e6, t6⟩ := hf 6 _ rfl
  obtain rfl : c6 = u6 := by simpa using e6
  obtain ⟨l6, A6, k6, rfl, r6, g6, j6⟩ := open_bytes_ t6
  exact ⟨⟨m0, m1, m2, m3, m4, m5, l6, A6, k6⟩, rfl, ⟨r6, g6, j6, by show m0 < _; omega, by show m1 < _; omega, by show m2 < _; omega, by show m3 < _; omega, by show m4 < _; omega, by show m5 < _; omega⟩⟩
set_option maxRecDepth 100000 in
theorem open_part {fuel : Nat} {cs : List Value} {x : DataW H × List MemPlace} (h : DataW.trod enc Tryd.prog w base spare held fuel 46 cs = some x) : ∃ m : PartM, cs = m.cells ∧ PartM.At w m := by
  obtain ⟨hl, n, hf⟩ := trod_fields Tryd.underlying46 (by kernel_rfl) (by kernel_rfl) h
  obtain ⟨c0, c1, c2, c3, c4, c5, c6, c7, c8, c9, rfl⟩ := list10 hl
  obtain ⟨u0, y0, e0, t0⟩ := hf 0 _ rfl
  obtain rfl : c0 = u0 := by simpa using e0
  obtain ⟨m0, rfl, z0⟩ := open_str t0
  obtain ⟨u1, y1, e1, t1⟩ := hf 1 _ rfl
  obtain rfl : c1 = u1 := by simpa using e1
  obtain ⟨a1, x1, -, z1⟩ := DataW.trod_int Tryd.underlying36 t1
  obtain rfl : c1 = _ := by simpa using x1
  have q1 := bounds_u32 z1
  obtain ⟨m1, rfl⟩ := Int.eq_ofNat_of_zero_le q1.1
  obtain ⟨u2, y2, e2, t2⟩ := hf 2 _ rfl
  obtain rfl : c2 = u2 := by simpa using e2
  obtain ⟨a2, x2, -, z2⟩ := DataW.trod_int Tryd.underlying36 t2
  obtain rfl : c2 = _ := by simpa using x2
  have q2 := bounds_u32 z2
  obtain ⟨m2, rfl⟩ := Int.eq_ofNat_of_zero_le q2.1
  obtain ⟨u3, y3, e3, t3⟩ := hf 3 _ rfl
  obtain rfl : c3 = u3 := by simpa using e3
  obtain ⟨a3, x3, -, z3⟩ := DataW.trod_int Tryd.underlying22 t3
  obtain rfl : c3 = _ := by simpa using x3
  have q3 := bounds_u64 z3
  obtain ⟨m3, rfl⟩ := Int.eq_ofNat_of_zero_le q3.1
  obtain ⟨u4, y4, e4, t4⟩ := hf 4 _ rfl
  obtain rfl : c4 = u4 := by simpa using e4
  obtain ⟨a4, x4, -, z4⟩ := DataW.trod_int Tryd.underlying36 t4
  obtain rfl : c4 = _ := by simpa using x4
  have q4 := bounds_u32 z4
  obtain ⟨m4, rfl⟩ := Int.eq_ofNat_of_zero_le q4.1
  obtain ⟨u5, y5, e5, t5⟩ := hf 5 _ rfl
  obtain rfl : c5 = u5 := by simpa using e5
  obtain ⟨a5, x5, -, z5⟩ := DataW.trod_int Tryd.underlying36 t5
  obtain rfl : c5 = _ := by simpa using x5
  have q5 := bounds_u32 z5
  obtain ⟨m5, rfl⟩ := Int.eq_ofNat_of_zero_le q5.1
  obtain ⟨u6, y6, e6, t6⟩ := hf 6 _ rfl
  obtain rfl : c6 = u6 := by simpa using e6
  obtain ⟨a6, x6, -, z6⟩ := DataW.trod_int Tryd.underlying22 t6
  obtain rfl : c6 = _ := by simpa using x6
  have q6 := bounds_u64 z6
  obtain ⟨m6, rfl⟩ := Int.eq_ofNat_of_zero_le q6.1
  obtain ⟨u7, y7, e7, t7⟩ := hf 7 _ rfl
  obtain rfl : c7 = u7 := by simpa using e7
  obtain ⟨a7, x7, -, z7⟩ := DataW.trod_int Tryd.underlying22 t7
  obtain rfl : c7 = _ := by simpa using x7
  have q7 := bounds_u64 z7
  obtain ⟨m7, rfl⟩ := Int.eq_ofNat_of_zero_le q7.1
  obtain ⟨u8, y8, e8, t8⟩ := hf 8 _ rfl
  obtain rfl : c8 = u8 := by simpa using e8
  obtain ⟨a8, x8, -, z8⟩ := DataW.trod_int Tryd.underlying22 t8
  obtain rfl : c8 = _ := by simpa using x8
  have q8 := bounds_u64 z8
  obtain ⟨m8, rfl⟩ := Int.eq_ofNat_of_zero_le q8.1
  obtain ⟨u9, y9, e9, t9⟩ := hf 9 _ rfl
  obtain rfl : c9 = u9 := by simpa using e9
  obtain ⟨l9, A9, k9, rfl, r9, g9, j9⟩ := open_bytes_ t9
  exact ⟨⟨m0, m1, m2, m3, m4, m5, m6, m7, m8, l9, A9, k9⟩, rfl, ⟨r9, g9, j9, z0, by show m1 < _; omega, by show m2 < _; omega, by show m3 < _; omega, by show m4 < _; omega, by show m5 < _; omega, by show m6 < _; omega, by show m7 < _; omega, by show m8 < _; omega⟩⟩
set_option maxRecDepth 100000 in
theorem open_img {r : Reach} {b0 : Nat} {v : Value} {d : DataW H} {p : List MemPlace} (hv : Value.okWide Tryd.prog w r b0 26 v) (ht : DataW.Trod enc Tryd.prog w base spare held 26 v d p) : ∃ x : ImgM, v = x.val ∧ x.At w := by
  obtain ⟨cs, rfl, hsz⟩ := okWide_struct Tryd.underlying26 hv
  obtain ⟨fuel, h0⟩ := ht
  have h : DataW.trod enc Tryd.prog w base spare held fuel 26 cs.toList = some (d, p) := h0
  obtain ⟨l, rfl⟩ : ∃ l : List Value, cs = l.toArray := ⟨cs.toList, by simp⟩
  simp only [List.toList_toArray] at h
  obtain ⟨hl, n, hf⟩ := trod_fields Tryd.underlying26 (by kernel_rfl) (by kernel_rfl) h
  obtain ⟨c0, c1, c2, c3, c4, c5, c6, c7, c8, rfl⟩ := list9 hl
  obtain ⟨u0, y0, e0, t0⟩ := hf 0 _ rfl
  obtain rfl : c0 = u0 := by simpa using e0
  obtain ⟨b0_, x0, -⟩ := DataW.trod_bool Tryd.underlying4 t0
  obtain rfl : c0 = .bool b0_ := by simpa using x0
  obtain ⟨u1, y1, e1, t1⟩ := hf 1 _ rfl
  obtain rfl : c1 = u1 := by simpa using e1
  obtain ⟨b1, x1, -⟩ := DataW.trod_bool Tryd.underlying4 t1
  obtain rfl : c1 = .bool b1 := by simpa using x1
  obtain ⟨u2, y2, e2, t2⟩ := hf 2 _ rfl
  obtain rfl : c2 = u2 := by simpa using e2
  obtain ⟨a2, x2, -, z2⟩ := DataW.trod_int Tryd.underlying5 t2
  obtain rfl : c2 = _ := by simpa using x2
  have q2 := bounds_u8 z2
  obtain ⟨m2, rfl⟩ := Int.eq_ofNat_of_zero_le q2.1
  obtain ⟨u3, y3, e3, t3⟩ := hf 3 _ rfl
  obtain rfl : c3 = u3 := by simpa using e3
  obtain ⟨a3, x3, -, z3⟩ := DataW.trod_int Tryd.underlying5 t3
  obtain rfl : c3 = _ := by simpa using x3
  have q3 := bounds_u8 z3
  obtain ⟨m3, rfl⟩ := Int.eq_ofNat_of_zero_le q3.1
  obtain ⟨u4, y4, e4, t4⟩ := hf 4 _ rfl
  obtain rfl : c4 = u4 := by simpa using e4
  obtain ⟨a4, x4, -, z4⟩ := DataW.trod_int Tryd.underlying3 t4
  obtain rfl : c4 = _ := by simpa using x4
  have q4 := bounds_i64 z4
  obtain ⟨u5, y5, e5, t5⟩ := hf 5 _ rfl
  obtain rfl : c5 = u5 := by simpa using e5
  obtain ⟨a5, x5, -, z5⟩ := DataW.trod_int Tryd.underlying3 t5
  obtain rfl : c5 = _ := by simpa using x5
  have q5 := bounds_i64 z5
  obtain ⟨u6, y6, e6, t6⟩ := hf 6 _ rfl
  obtain rfl : c6 = u6 := by simpa using e6
  obtain ⟨a6, x6, -, z6⟩ := DataW.trod_int Tryd.underlying22 t6
  obtain rfl : c6 = _ := by simpa using x6
  have q6 := bounds_u64 z6
  obtain ⟨m6, rfl⟩ := Int.eq_ofNat_of_zero_le q6.1
  obtain ⟨u7, y7, e7, t7⟩ := hf 7 _ rfl
  obtain rfl : c7 = u7 := by simpa using e7
  obtain ⟨l7, A7, k7, rfl, r7, v7, g7, j7⟩ := open_row (α := SegM) Tryd.underlying23 (k := 7) (by kernel_rfl) (by omega) (fun _ => rfl) (fun n cs x hx => open_seg hx) t7
  obtain ⟨u8, y8, e8, t8⟩ := hf 8 _ rfl
  obtain rfl : c8 = u8 := by simpa using e8
  obtain ⟨l8, A8, k8, rfl, r8, v8, g8, j8⟩ := open_row (α := PartM) Tryd.underlying24 (k := 10) (by kernel_rfl) (by omega) (fun _ => rfl) (fun n cs x hx => open_part hx) t8
  exact ⟨⟨b0_, b1, m2, m3, a4, a5, m6, l7, A7, k7, l8, A8, k8⟩, rfl, ⟨r7, r8, v7, v8, g7, j7, g8, j8, by show m2 < _; omega, by show m3 < _; omega, by show m6 < _; omega⟩⟩
set_option maxRecDepth 100000 in
theorem open_top_str {r : Reach} {b0 : Nat} {v : Value} {d : DataW H} {p : List MemPlace} (hv : Value.okWide Tryd.prog w r b0 9 v) (ht : DataW.Trod enc Tryd.prog w base spare held 9 v d p) : ∃ l : List UInt8, v = strV l ∧ l.length ≤ maxLen := by
  obtain ⟨s, rfl⟩ := okWide_string Tryd.underlying9 hv
  obtain ⟨fuel, h0⟩ := ht
  exact open_str (u := .string s) h0
end
end Go.Proofs.YtdgehpocmfjbiaaDoor
