/- impl.Progs on a good file. -/
import Derived.Test.YtdgehpocmfjbiaaDoorPf
import Derived.Test.YtdgehpocmfjbiaaDoorPd
set_option linter.unusedVariables false
set_option linter.unusedSimpArgs false
namespace Go.Proofs.YtdgehpocmfjbiaaDoor
open Go.RowKit
theorem size_pp : ∃ i, Tryd.prog.info? 136 = some i ∧ i.size = 1 := by
  have h : (Tryd.prog.info? 136).map (·.size) = some 1 := by kernel_rfl
  obtain ⟨i, h1, h2⟩ := Option.map_eq_some_iff.1 h
  exact ⟨i, h1, h2⟩
def progRes (sg : Nat → SegV) (j : Nat) : List Value := [i6_ ((sg j).ty), i6_ ((sg j).flags), u6_ ((sg j).off), u6_ ((sg j).vaddr), u6_ ((sg j).paddr), u6_ ((sg j).fsz), u6_ ((sg j).memsz), u6_ ((sg j).align)]

abbrev progs_any_B0 := fun pq (sg : Nat → SegV) sq => ((pq, .cells #[i6_ ((sg 0).ty), u3_ ((sg 0).flags), u6_ ((sg 0).off), u6_ ((sg 0).vaddr), u6_ ((sg 0).paddr), u6_ ((sg 0).fsz), u6_ ((sg 0).memsz), u6_ ((sg 0).align), .iface 144 (pt_ sq), pt_ sq] 146 (0, 0)) : Nat × Obj)
abbrev progs_any_B1 := fun z10 (sg : Nat → SegV) => ((z10, .cells #[i6_ ((sg 0).ty), i6_ ((sg 0).flags), u6_ ((sg 0).off), u6_ ((sg 0).vaddr), u6_ ((sg 0).paddr), u6_ ((sg 0).fsz), u6_ ((sg 0).memsz), u6_ ((sg 0).align)] 73 (0, 0)) : Nat × Obj)
abbrev progs_any_B2 := fun pq (sg : Nat → SegV) i sq => ((pq, .cells #[i6_ ((sg i).ty), u3_ ((sg i).flags), u6_ ((sg i).off), u6_ ((sg i).vaddr), u6_ ((sg i).paddr), u6_ ((sg i).fsz), u6_ ((sg i).memsz), u6_ ((sg i).align), .iface 144 (pt_ sq), pt_ sq] 146 (0, 0)) : Nat × Obj)
abbrev progs_any_B3 := fun z14 (sg : Nat → SegV) i => ((z14, .cells #[i6_ ((sg i).ty), i6_ ((sg i).flags), u6_ ((sg i).off), u6_ ((sg i).vaddr), u6_ ((sg i).paddr), u6_ ((sg i).fsz), u6_ ((sg i).memsz), u6_ ((sg i).align)] 73 (0, 0)) : Nat × Obj)
set_option maxRecDepth 100000 in
set_option maxHeartbeats 1000000 in
theorem progs_any (l : List UInt8) (A : Option Addr) (n c : Nat) (hl : n = l.length) (hnc : n ≤ c) (wide big : Bool) (abi abiv tyN machN entryN phoffN phnumN shoffN shnumN : Nat) (sg : Nat → SegV) (sc : Nat → SecV) (nb : Nat → List UInt8) (H : GoodFile l n wide big abi abiv tyN machN entryN phoffN phnumN shoffN shnumN sg sc nb) (h47 : n ≤ 140737488355328) (w0 : World) (hr : Row w0 A (l.map Bv)) : Calls Tryd.prog 37 #[.slice A n c] w0 fun e w' => Below w0.heap.size w0 w' ∧ ((phnumN = 0 ∧ e = .returned (.tuple #[nl_, .bool true])) ∨ ∃ g cap cur, e = .returned (.tuple #[sl_ g phnumN cap, .bool true]) ∧ Own w0.heap.size w' 73 8 g phnumN cap cur ((List.range phnumN).flatMap (progRes sg))) := by
  obtain ⟨i0, his, hss⟩ := size_pp
  have hb7 := H.b7; have hb6 := H.b6; have hc3 := H.c3
  obtain ⟨w, hw⟩ : ∃ w, w0 = w := ⟨_, rfl⟩
  have HM : Mm [] w0 w [] := hw ▸ Mm.start w0
  conv => arg 4; rw [hw]
  clear hw
  refine calls_start Tryd.func37 rfl Tryd.ntmps37 [(0, .slice A n c)] (by kernel_rfl) (Nat.le_of_ble_eq_true rfl) ?_
  intro a HF
  refine wp_seq (wp_region_lit ?_)
  refine wp_pure HF HM rfl 2 [] [(0, .slice A n c)] (by kernel_rfl) ?_
  clear HF; intro a HF
  refine nil_then ?_
  refine wp_seq (wp_region_lit ?_)
  refine wp_pure HF HM rfl 1 [] [(10, .slice A n c)] (by kernel_rfl) ?_
  clear HF; intro a HF
  refine wp_call HF (by kernel_rfl) 55 #[.slice A n c] (by kernel_rfl) (fun w => by kernel_rfl) (Calls.mono (open_any l A n c hl hnc wide big abi abiv tyN machN entryN phoffN phnumN shoffN shnumN sg sc nb H h47 w (HM.row hr)) ?_)
  rintro _ w1 ⟨bg, bcap, z, fb, pg, sg_, cur, scur, rfl, hb0, hnc2, hcap, hg0, hz0, hrow, hF⟩
  replace hb0 := (HM.call hb0).below; clear HM
  have HM : Mm [] w1 w1 [] := Mm.start w1
  refine ⟨_, rfl, ?_⟩; clear HF; intro a HF
  replace HF := HF.sub [(11, .tuple #[pt_ fb, .bool true])] (by kernel_rfl)
  refine wp_pure HF HM rfl 5 [] [(4, pt_ fb), (5, .bool true)] (by kernel_rfl) ?_
  clear HF; intro a HF
  refine nil_then ?_
  refine wp_seq ?_
  refine wp_seq (wp_region_lit ?_)
  refine wp_pure HF HM rfl 2 [] [(4, pt_ fb), (15, .bool false)] (by kernel_rfl) ?_
  clear HF; intro a HF
  refine nil_then ?_
  refine wp_condF HF rfl ?_
  refine wp_skip ?_
  repeat (first | refine then_norm ?_ | refine inb_norm ?_)
  refine wp_seq (wp_region_lit ?_)
  refine wp_pure HF HM rfl 1 [] [(4, pt_ fb), (6, nl_)] (by kernel_rfl) ?_
  clear HF; intro a HF
  refine nil_then ?_
  refine wp_seq ?_
  refine wp_seq (wp_region_lit ?_)
  refine wp_pure HF HM rfl 3 [] [(6, nl_), (18, .pointer (some ⟨fb, 10, none⟩))] (by kernel_rfl) ?_
  clear HF; intro a HF
  refine wp_run HF (by kernel_rfl) (sl_ pg phnumN phnumN) (by kernel_rfl) (run_load_one rfl rfl (by kernel_rfl) ((cell_of_row w1 fb 10 _ _ _ (HM.old hF.file)).trans rfl)) ?_
  clear HF; intro a HF; replace HF := HF.sub [(6, nl_), (19, sl_ pg phnumN phnumN)] (by kernel_rfl)
  refine wp_pure HF HM rfl 2 [] [(6, nl_), (19, sl_ pg phnumN phnumN), (20, i6_ phnumN), (21, iI_ 0)] (by kernel_rfl) ?_
  clear HF; intro a HF
  refine nil_then ?_
  refine wp_block ?_
  refine loop_ind (phnumN) (fun i a w => ((i = 0) ∧ Mm [] w1 w [] ∧ Fr 72 a [(6, nl_), (19, sl_ pg phnumN phnumN), (20, i6_ phnumN), (21, i6_ i)]) ∨ (∃ og : Nat, ∃ oc : Nat, ∃ ok : Array Value, (ok.toList.take (i * 8) = (List.range i).flatMap (progRes sg)) ∧ (ok.size = oc * 8) ∧ (i ≤ oc) ∧ (oc ≤ maxLen) ∧ Mm [] w1 w [(og, .cells ok 73 (0, 0))] ∧ Fr 72 a [(6, sl_ og i oc), (19, sl_ pg phnumN phnumN), (20, i6_ phnumN), (21, i6_ i)])) ?_ ?_ ?_
  · exact Or.inl <| ⟨rfl, HM, HF.sub [(6, nl_), (19, sl_ pg phnumN phnumN), (20, i6_ phnumN), (21, iI_ 0)] (by kernel_rfl)⟩
  · intro i a w KX hi hI KR
    rcases hI with hI | hI
    · obtain ⟨h0, HM, HF⟩ := hI
      have hx1 := H.v1 i hi; have hx2 : (sg i).flags < 4294967296 := by rw [← (H.seg i hi).flags]; exact num_lt _ _ _ 4
      subst h0
      refine wp_seq (wp_region_lit ?_)
      refine wp_pure HF HM rfl 1 [] [(6, nl_), (19, sl_ pg phnumN phnumN), (20, i6_ phnumN), (21, iI_ 0), (22, .bool (decide (0 < ((phnumN : Nat) : Int))))] (by kernel_rfl) ?_
      clear HF; intro a HF
      refine nil_then ?_
      refine wp_seq ?_
      rw [show decide (0 < ((phnumN : Nat) : Int)) = true from dec_t (by omega)] at HF
      refine wp_condT HF rfl ?_
      refine wp_skip ?_
      repeat (first | refine then_norm ?_ | refine inb_norm ?_)
      refine wp_seq ?_
      refine wp_block ?_
      refine wp_seq (wp_region_lit ?_)
      obtain ⟨pq, sq, q1, q2, q3, q4, q5⟩ := hF.prog 0 (by omega)
      refine wp_run HF (by kernel_rfl) (pt_ pg) (by kernel_rfl) ((run_index Tryd.underlying127 his hss rfl 0 rfl rfl (by omega))) ?_
      clear HF; intro a HF; replace HF := HF.sub [(6, nl_), (19, sl_ pg phnumN phnumN), (20, i6_ phnumN), (21, iI_ 0), (23, pt_ pg)] (by kernel_rfl)
      refine wp_run HF (by kernel_rfl) (pt_ pq) (by kernel_rfl) (run_load_one rfl rfl (by kernel_rfl) ((cell_of_row w pg 0 _ _ _ (HM.old hF.progs)).trans q1)) ?_
      clear HF; intro a HF; replace HF := HF.sub [(6, nl_), (19, sl_ pg phnumN phnumN), (20, i6_ phnumN), (21, iI_ 0), (24, pt_ pq)] (by kernel_rfl)
      refine wp_pure HF HM rfl 1 [] [(6, nl_), (8, pt_ pq), (19, sl_ pg phnumN phnumN), (20, i6_ phnumN), (21, iI_ 0)] (by kernel_rfl) ?_
      clear HF; intro a HF
      replace HM : Mm [pq] w1 w [progs_any_B0 pq sg sq] := HM.tellOld q4 (by simp)
      refine nil_then ?_
      refine reg_plan1 HM (by kernel_rfl) [progs_any_B0 pq sg sq] [(0, false), (1, false), (2, false), (3, false), (4, false), (5, false), (6, false), (7, false), (8, false), (9, false), (10, false), (11, false), (12, false), (13, false), (14, false), (15, false), (16, false), (17, false), (18, false), (19, false), (20, false), (21, false), (22, false), (23, false), (24, false), (25, false), (26, false), (27, false), (28, false), (29, false), (30, false), (31, false), (32, false), (33, false), (34, false), (35, false), (36, false), (37, false), (38, false), (39, false), (40, false), (41, false), (42, false), (43, true), (44, true), (45, false)] (by kernel_rfl) ?_
      clear HM; intro w2 HM
      refine plan_sym HF (HM.told [0] rfl) 12 [[0], [0]] [(8, pt_ pq), (19, sl_ pg phnumN phnumN), (20, i6_ phnumN), (21, iI_ 0), (25, nl_), (30, i6_ ((sg 0).ty)), (36, iI_ (IntKind.i64.wrap ((((sg 0).flags) : Nat) : Int)))] (by kernel_rfl) ?_
      clear HF; intro a HF
      rw [show IntKind.i64.wrap ((((sg 0).flags) : Nat) : Int) = ((((sg 0).flags) : Nat) : Int) from IntWalk.i64_in _ (by omega)] at HF
      refine plan_sym HF (HM.told [0] rfl) 31 [[0], [0], [0], [0], [0], [0]] [(19, sl_ pg phnumN phnumN), (20, i6_ phnumN), (21, iI_ 0), (25, nl_), (67, .agg #[i6_ ((sg 0).ty), i6_ ((sg 0).flags), u6_ ((sg 0).off), u6_ ((sg 0).vaddr), u6_ ((sg 0).paddr), u6_ ((sg 0).fsz), u6_ ((sg 0).memsz), u6_ ((sg 0).align)])] (by kernel_rfl) ?_
      clear HF; intro a HF
      refine plan_force rfl ?_
      obtain ⟨z10, hz10⟩ : ∃ z, w2.heap.size = z := ⟨_, rfl⟩
      refine wp_sym HF HM hz10 1 [] [(19, sl_ pg phnumN phnumN), (20, i6_ phnumN), (21, iI_ 0), (25, nl_), (68, sl_ z10 1 1)] [progs_any_B1 z10 sg, progs_any_B0 pq sg sq] (by kernel_rfl) ?_
      clear HF HM hz10; intro a w HF HM
      refine only_end (HM.told [1] rfl) ?_
      refine plan_force rfl ?_
      refine wp_append_new HF HM rfl _ _ 69 rfl rfl 73 (z := .agg #[iI_ 0, iI_ 0, iL_ 0, iL_ 0, iL_ 0, iL_ 0, iL_ 0, iL_ 0]) (size := 8) (bytes := 64) Tryd.underlying69 (by kernel_rfl) rfl (by decide) rfl (some ⟨z10, 0, none⟩) 1 1 ([i6_ ((sg 0).ty), i6_ ((sg 0).flags), u6_ ((sg 0).off), u6_ ((sg 0).vaddr), u6_ ((sg 0).paddr), u6_ ((sg 0).fsz), u6_ ((sg 0).memsz), u6_ ((sg 0).align)]) rfl rfl (by omega) (HM.rowAt (i := 0) rfl) (one_cells rfl) (by unfold maxLen; omega) (by omega) ?_
      intro a w3 g1 cap1 cur1 HM2 htk1 hsz1 hnc1 hcm1 hbel HF2; clear HF HM hbel
      have HM : Mm [pq] w1 w3 [(g1, .cells cur1 73 (0, 0)), progs_any_B1 z10 sg, progs_any_B0 pq sg sq] := HM2
      have HF := HF2.sub [(19, sl_ pg phnumN phnumN), (20, i6_ phnumN), (21, iI_ 0), (69, sl_ g1 1 cap1)] (by kernel_rfl); clear HM2 HF2
      replace htk1 : cur1.toList.take (1 * 8) = (List.range 1).flatMap (progRes sg) := htk1.trans (rfl)
      refine only_end (HM.told [2] rfl) ?_
      refine plan_sym HF (HM.told [2] rfl) 1 [] [(6, sl_ g1 1 cap1), (19, sl_ pg phnumN phnumN), (20, i6_ phnumN), (21, iI_ 0)] (by kernel_rfl) ?_
      clear HF; intro a HF
      refine plan_end ?_
      repeat (first | refine then_norm ?_ | refine inb_norm ?_)
      refine wp_region_lit ?_
      refine wp_pure HF HM rfl 2 [] [(6, sl_ g1 1 cap1), (19, sl_ pg phnumN phnumN), (20, i6_ phnumN), (21, iI_ 1)] (by kernel_rfl) ?_
      clear HF; intro a HF
      refine wpList_nil ?_
      repeat (first | refine then_norm ?_ | refine inb_norm ?_)
      replace HM : Mm [] w1 w3 [(g1, .cells cur1 73 (0, 0)), progs_any_B1 z10 sg] := HM.hideOld 2 rfl q4
      exact KR _ _ (Or.inr <| ⟨g1, cap1, cur1, htk1, hsz1, hnc1, hcm1, (HM.pick [0] [(g1, .cells cur1 73 (0, 0))] rfl (by decide)), HF.sub [(6, sl_ g1 1 cap1), (19, sl_ pg phnumN phnumN), (20, i6_ phnumN), (21, iI_ 1)] (by kernel_rfl)⟩)
    · obtain ⟨og, oc, ok, otk, osz, onc, ocm, HM, HF⟩ := hI
      have hx1 := H.v1 i hi; have hx2 : (sg i).flags < 4294967296 := by rw [← (H.seg i hi).flags]; exact num_lt _ _ _ 4
      refine wp_seq (wp_region_lit ?_)
      refine wp_pure HF HM rfl 1 [] [(6, sl_ og i oc), (19, sl_ pg phnumN phnumN), (20, i6_ phnumN), (21, i6_ i), (22, .bool (decide (((i : Nat) : Int) < ((phnumN : Nat) : Int))))] (by kernel_rfl) ?_
      clear HF; intro a HF
      refine nil_then ?_
      refine wp_seq ?_
      rw [show decide (((i : Nat) : Int) < ((phnumN : Nat) : Int)) = true from dec_t (by omega)] at HF
      refine wp_condT HF rfl ?_
      refine wp_skip ?_
      repeat (first | refine then_norm ?_ | refine inb_norm ?_)
      refine wp_seq ?_
      refine wp_block ?_
      refine wp_seq (wp_region_lit ?_)
      obtain ⟨pq, sq, q1, q2, q3, q4, q5⟩ := hF.prog i (by omega)
      refine wp_run HF (by kernel_rfl) (.pointer (some ⟨pg, i, none⟩)) (by kernel_rfl) ((run_index Tryd.underlying127 his hss rfl i rfl rfl (by omega))) ?_
      clear HF; intro a HF; replace HF := HF.sub [(6, sl_ og i oc), (19, sl_ pg phnumN phnumN), (20, i6_ phnumN), (21, i6_ i), (23, .pointer (some ⟨pg, i, none⟩))] (by kernel_rfl)
      refine wp_run HF (by kernel_rfl) (pt_ pq) (by kernel_rfl) (run_load_one rfl rfl (by kernel_rfl) ((cell_of_row w pg i _ _ _ (HM.old hF.progs)).trans q1)) ?_
      clear HF; intro a HF; replace HF := HF.sub [(6, sl_ og i oc), (19, sl_ pg phnumN phnumN), (20, i6_ phnumN), (21, i6_ i), (24, pt_ pq)] (by kernel_rfl)
      refine wp_pure HF HM rfl 1 [] [(6, sl_ og i oc), (8, pt_ pq), (19, sl_ pg phnumN phnumN), (20, i6_ phnumN), (21, i6_ i)] (by kernel_rfl) ?_
      clear HF; intro a HF
      replace HM : Mm [pq] w1 w [progs_any_B2 pq sg i sq, (og, .cells ok 73 (0, 0))] := HM.tellOld q4 (by simp)
      refine nil_then ?_
      refine reg_plan1 HM (by kernel_rfl) [progs_any_B2 pq sg i sq] [(0, false), (1, false), (2, false), (3, false), (4, false), (5, false), (6, false), (7, false), (8, false), (9, false), (10, false), (11, false), (12, false), (13, false), (14, false), (15, false), (16, false), (17, false), (18, false), (19, false), (20, false), (21, false), (22, false), (23, false), (24, false), (25, false), (26, false), (27, false), (28, false), (29, false), (30, false), (31, false), (32, false), (33, false), (34, false), (35, false), (36, false), (37, false), (38, false), (39, false), (40, false), (41, false), (42, false), (43, true), (44, true), (45, false)] (by kernel_rfl) ?_
      clear HM; intro w4 HM
      refine plan_sym HF (HM.told [0] rfl) 12 [[0], [0]] [(8, pt_ pq), (19, sl_ pg phnumN phnumN), (20, i6_ phnumN), (21, i6_ i), (25, sl_ og i oc), (30, i6_ ((sg i).ty)), (36, iI_ (IntKind.i64.wrap ((((sg i).flags) : Nat) : Int)))] (by kernel_rfl) ?_
      clear HF; intro a HF
      rw [show IntKind.i64.wrap ((((sg i).flags) : Nat) : Int) = ((((sg i).flags) : Nat) : Int) from IntWalk.i64_in _ (by omega)] at HF
      refine plan_sym HF (HM.told [0] rfl) 31 [[0], [0], [0], [0], [0], [0]] [(19, sl_ pg phnumN phnumN), (20, i6_ phnumN), (21, i6_ i), (25, sl_ og i oc), (67, .agg #[i6_ ((sg i).ty), i6_ ((sg i).flags), u6_ ((sg i).off), u6_ ((sg i).vaddr), u6_ ((sg i).paddr), u6_ ((sg i).fsz), u6_ ((sg i).memsz), u6_ ((sg i).align)])] (by kernel_rfl) ?_
      clear HF; intro a HF
      refine plan_force rfl ?_
      obtain ⟨z14, hz14⟩ : ∃ z, w4.heap.size = z := ⟨_, rfl⟩
      refine wp_sym HF HM hz14 1 [] [(19, sl_ pg phnumN phnumN), (20, i6_ phnumN), (21, i6_ i), (25, sl_ og i oc), (68, sl_ z14 1 1)] [progs_any_B3 z14 sg i, progs_any_B2 pq sg i sq, (og, .cells ok 73 (0, 0))] (by kernel_rfl) ?_
      clear HF HM hz14; intro a w HF HM
      refine only_end (HM.told [1] rfl) ?_
      refine plan_force rfl ?_
      refine wp_append_told HF HM rfl _ _ 69 69 rfl rfl 73 (z := .agg #[iI_ 0, iI_ 0, iL_ 0, iL_ 0, iL_ 0, iL_ 0, iL_ 0, iL_ 0]) (size := 8) (bytes := 64) Tryd.underlying69 (by kernel_rfl) rfl (by decide) 2 og i oc ok rfl rfl onc ocm osz ((List.range i).flatMap (progRes sg)) otk (sl_ z14 1 1) 1 [i6_ ((sg i).ty), i6_ ((sg i).flags), u6_ ((sg i).off), u6_ ((sg i).vaddr), u6_ ((sg i).paddr), u6_ ((sg i).fsz), u6_ ((sg i).memsz), u6_ ((sg i).align)] rfl (src_row Tryd.underlying69 rfl (by decide) (HM.rowAt (i := 0) rfl) (one_cells rfl)) (by unfold maxLen; omega) (by omega) ?_
      intro a w5 g2 cap2 cur2 HM2 htk2 hsz2 hnc2 hcm2 HF2; clear HF HM
      replace htk2 : cur2.toList.take ((i + 1) * 8) = (List.range (i + 1)).flatMap (progRes sg) := htk2.trans (by rw [List.range_succ, List.flatMap_append, List.flatMap_cons, List.flatMap_nil, List.append_nil]; rfl)
      have HM : Mm [pq] w1 w5 [progs_any_B3 z14 sg i, progs_any_B2 pq sg i sq, (g2, .cells cur2 73 (0, 0))] := HM2
      have HF := HF2.sub [(19, sl_ pg phnumN phnumN), (20, i6_ phnumN), (21, i6_ i), (69, sl_ g2 (i + 1) cap2)] (by kernel_rfl); clear HM2 HF2
      refine only_end (HM.told [1] rfl) ?_
      refine plan_sym HF (HM.told [1] rfl) 1 [] [(6, sl_ g2 (i + 1) cap2), (19, sl_ pg phnumN phnumN), (20, i6_ phnumN), (21, i6_ i)] (by kernel_rfl) ?_
      clear HF; intro a HF
      refine plan_end ?_
      repeat (first | refine then_norm ?_ | refine inb_norm ?_)
      refine wp_region_lit ?_
      refine wp_pure HF HM rfl 1 [] [(6, sl_ g2 (i + 1) cap2), (19, sl_ pg phnumN phnumN), (20, i6_ phnumN), (70, iI_ (IntKind.i64.wrap (((i : Nat) : Int) + 1)))] (by kernel_rfl) ?_
      clear HF; intro a HF
      rw [show IntKind.i64.wrap (((i : Nat) : Int) + 1) = (((i + 1) : Nat) : Int) from (IntWalk.i64_in _ (by omega)).trans (by omega)] at HF
      refine wp_pure HF HM rfl 1 [] [(6, sl_ g2 (i + 1) cap2), (19, sl_ pg phnumN phnumN), (20, i6_ phnumN), (21, i6_ (i + 1))] (by kernel_rfl) ?_
      clear HF; intro a HF
      refine wpList_nil ?_
      repeat (first | refine then_norm ?_ | refine inb_norm ?_)
      replace HM : Mm [] w1 w5 [progs_any_B3 z14 sg i, (g2, .cells cur2 73 (0, 0))] := HM.hideOld 1 rfl q4
      exact KR _ _ (Or.inr <| ⟨g2, cap2, cur2, htk2, hsz2, hnc2, hcm2, (HM.pick [1] [(g2, .cells cur2 73 (0, 0))] rfl (by decide)), HF.sub [(6, sl_ g2 (i + 1) cap2), (19, sl_ pg phnumN phnumN), (20, i6_ phnumN), (21, i6_ (i + 1))] (by kernel_rfl)⟩)
  · intro a w KX hI
    rcases hI with hI | hI
    · obtain ⟨h0, HM, HF⟩ := hI
      refine wp_seq (wp_region_lit ?_)
      refine wp_pure HF HM rfl 1 [] [(6, nl_), (19, sl_ pg phnumN phnumN), (20, i6_ phnumN), (21, i6_ phnumN), (22, .bool (decide (((phnumN : Nat) : Int) < ((phnumN : Nat) : Int))))] (by kernel_rfl) ?_
      clear HF; intro a HF
      refine nil_then ?_
      refine wp_seq ?_
      rw [show decide (((phnumN : Nat) : Int) < ((phnumN : Nat) : Int)) = false from dec_f (by omega)] at HF
      refine wp_condF HF rfl ?_
      refine wp_exit ?_
      repeat (first | refine then_exit ?_ | refine inb_exit_other rfl ?_)
      refine inb_exit ?_
      repeat (first | refine then_norm ?_ | refine inb_norm ?_)
      refine wp_seq (wp_region_lit ?_)
      refine wp_pure HF HM rfl 3 [] [(2, nl_), (3, .bool true)] (by kernel_rfl) ?_
      clear HF; intro a HF
      refine nil_then ?_
      refine wp_ret ?_
      repeat (first | refine then_ret ?_ | refine inb_ret ?_)
      exact ret_two HF rfl rfl rfl ⟨(hb0.trans (HM.below.mono hb0.size)), .inl ⟨h0, rfl⟩⟩
    · obtain ⟨og, oc, ok, otk, osz, onc, ocm, HM, HF⟩ := hI
      refine wp_seq (wp_region_lit ?_)
      refine wp_pure HF HM rfl 1 [] [(6, sl_ og phnumN oc), (19, sl_ pg phnumN phnumN), (20, i6_ phnumN), (21, i6_ phnumN), (22, .bool (decide (((phnumN : Nat) : Int) < ((phnumN : Nat) : Int))))] (by kernel_rfl) ?_
      clear HF; intro a HF
      refine nil_then ?_
      refine wp_seq ?_
      rw [show decide (((phnumN : Nat) : Int) < ((phnumN : Nat) : Int)) = false from dec_f (by omega)] at HF
      refine wp_condF HF rfl ?_
      refine wp_exit ?_
      repeat (first | refine then_exit ?_ | refine inb_exit_other rfl ?_)
      refine inb_exit ?_
      repeat (first | refine then_norm ?_ | refine inb_norm ?_)
      refine wp_seq (wp_region_lit ?_)
      refine wp_pure HF HM rfl 3 [] [(2, sl_ og phnumN oc), (3, .bool true)] (by kernel_rfl) ?_
      clear HF; intro a HF
      refine nil_then ?_
      refine wp_ret ?_
      repeat (first | refine then_ret ?_ | refine inb_ret ?_)
      exact ret_two HF rfl rfl rfl ⟨(hb0.trans (HM.below.mono hb0.size)), .inr ⟨og, oc, ok, rfl, ⟨Nat.le_trans hb0.size (HM.ge (i := 0) rfl), HM.get (i := 0) rfl, otk, osz, onc, ocm⟩⟩⟩

end Go.Proofs.YtdgehpocmfjbiaaDoor
