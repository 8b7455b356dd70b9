/- impl.Sections on a good file. -/
import Derived.Test.YtdgehpocmfjbiaaDoorPf
import Derived.Test.YtdgehpocmfjbiaaDoorPd
set_option linter.unusedVariables false
set_option linter.unusedSimpArgs false
namespace Go.Proofs.YtdgehpocmfjbiaaDoor
open Go.RowKit
def secRes (sc : Nat → SecV) (nb : Nat → List UInt8) (j : Nat) : List Value := [.string (⟨(nb j).toArray⟩), i6_ ((sc j).ty), i6_ ((sc j).flags), u6_ ((sc j).addr), u6_ ((sc j).off), u6_ ((sc j).fsz), i6_ ((sc j).link), i6_ ((sc j).info), u6_ ((sc j).align), u6_ ((sc j).ent), u6_ ((sc j).fsz)]

abbrev sections_any_B0 := fun pq (nb : Nat → List UInt8) (sc : Nat → SecV) sq => ((pq, .cells #[.string (⟨(nb 0).toArray⟩), u3_ ((sc 0).ty), u3_ ((sc 0).flags), u6_ ((sc 0).addr), u6_ ((sc 0).off), u6_ ((sc 0).fsz), u3_ ((sc 0).link), u3_ ((sc 0).info), u6_ ((sc 0).align), u6_ ((sc 0).ent), u6_ ((sc 0).fsz), .iface 144 (pt_ sq), pt_ sq, iI_ 0, iI_ 0] 153 (0, 0)) : Nat × Obj)
abbrev sections_any_S1 := fun pq sg_ (shnumN : Nat) (nb : Nat → List UInt8) => ([(8, pt_ pq), (19, sl_ sg_ shnumN shnumN), (20, i6_ shnumN), (21, iI_ 0), (25, nl_), (30, .string (⟨(nb 0).toArray⟩))] : Slots)
abbrev sections_any_B2 := fun z10 (nb : Nat → List UInt8) (sc : Nat → SecV) => ((z10, .cells #[.string (⟨(nb 0).toArray⟩), i6_ ((sc 0).ty), i6_ ((sc 0).flags), u6_ ((sc 0).addr), u6_ ((sc 0).off), u6_ ((sc 0).fsz), i6_ ((sc 0).link), i6_ ((sc 0).info), u6_ ((sc 0).align), u6_ ((sc 0).ent), u6_ ((sc 0).fsz)] 64 (0, 0)) : Nat × Obj)
abbrev sections_any_B3 := fun pq (nb : Nat → List UInt8) i (sc : Nat → SecV) sq => ((pq, .cells #[.string (⟨(nb i).toArray⟩), u3_ ((sc i).ty), u3_ ((sc i).flags), u6_ ((sc i).addr), u6_ ((sc i).off), u6_ ((sc i).fsz), u3_ ((sc i).link), u3_ ((sc i).info), u6_ ((sc i).align), u6_ ((sc i).ent), u6_ ((sc i).fsz), .iface 144 (pt_ sq), pt_ sq, iI_ 0, iI_ 0] 153 (0, 0)) : Nat × Obj)
abbrev sections_any_S4 := fun pq sg_ (shnumN : Nat) i og oc (nb : Nat → List UInt8) => ([(8, pt_ pq), (19, sl_ sg_ shnumN shnumN), (20, i6_ shnumN), (21, i6_ i), (25, sl_ og i oc), (30, .string (⟨(nb i).toArray⟩))] : Slots)
abbrev sections_any_B5 := fun z14 (nb : Nat → List UInt8) i (sc : Nat → SecV) => ((z14, .cells #[.string (⟨(nb i).toArray⟩), i6_ ((sc i).ty), i6_ ((sc i).flags), u6_ ((sc i).addr), u6_ ((sc i).off), u6_ ((sc i).fsz), i6_ ((sc i).link), i6_ ((sc i).info), u6_ ((sc i).align), u6_ ((sc i).ent), u6_ ((sc i).fsz)] 64 (0, 0)) : Nat × Obj)
set_option maxRecDepth 100000 in
set_option maxHeartbeats 1000000 in
theorem sections_any (l : List UInt8) (A : Option Addr) (n c : Nat) (hl : n = l.length) (hnc : n ≤ c) (wide big : Bool) (abi abiv tyN machN entryN phoffN phnumN shoffN shnumN : Nat) (sg : Nat → SegV) (sc : Nat → SecV) (nb : Nat → List UInt8) (H : GoodFile l n wide big abi abiv tyN machN entryN phoffN phnumN shoffN shnumN sg sc nb) (h47 : n ≤ 140737488355328) (w0 : World) (hr : Row w0 A (l.map Bv)) : Calls Tryd.prog 35 #[.slice A n c] w0 fun e w' => ∃ g cap cur, e = .returned (.tuple #[sl_ g shnumN cap, .bool true]) ∧ Below w0.heap.size w0 w' ∧ Own w0.heap.size w' 64 11 g shnumN cap cur ((List.range shnumN).flatMap (secRes sc nb)) := by
  obtain ⟨i0, his, hss⟩ := size_ss
  have hb7 := H.b7; have hb6 := H.b6; have hc3 := H.c3
  obtain ⟨w, hw⟩ : ∃ w, w0 = w := ⟨_, rfl⟩
  have HM : Mm [] w0 w [] := hw ▸ Mm.start w0
  conv => arg 4; rw [hw]
  clear hw
  refine calls_start Tryd.func35 rfl Tryd.ntmps35 [(0, .slice A n c)] (by kernel_rfl) (Nat.le_of_ble_eq_true rfl) ?_
  intro a HF
  refine wp_seq (wp_region_lit ?_)
  refine wp_pure HF HM rfl 2 [] [(0, .slice A n c)] (by kernel_rfl) ?_
  clear HF; intro a HF
  refine nil_then ?_
  refine wp_seq (wp_region_lit ?_)
  refine wp_pure HF HM rfl 1 [] [(10, .slice A n c)] (by kernel_rfl) ?_
  clear HF; intro a HF
  refine wp_call HF (by kernel_rfl) 55 #[.slice A n c] (by kernel_rfl) (fun w => by kernel_rfl) (Calls.mono (open_any l A n c hl hnc wide big abi abiv tyN machN entryN phoffN phnumN shoffN shnumN sg sc nb H h47 w (HM.row hr)) ?_)
  rintro _ w1 ⟨bg, bcap, z, fb, pg, sg_, cur, scur, rfl, hb0, hnc2, hcap, hg0, hz0, hrow, hF⟩
  replace hb0 := (HM.call hb0).below; clear HM
  have HM : Mm [] w1 w1 [] := Mm.start w1
  refine ⟨_, rfl, ?_⟩; clear HF; intro a HF
  replace HF := HF.sub [(11, .tuple #[pt_ fb, .bool true])] (by kernel_rfl)
  refine wp_pure HF HM rfl 5 [] [(4, pt_ fb), (5, .bool true)] (by kernel_rfl) ?_
  clear HF; intro a HF
  refine nil_then ?_
  refine wp_seq ?_
  refine wp_seq (wp_region_lit ?_)
  refine wp_pure HF HM rfl 2 [] [(4, pt_ fb), (15, .bool false)] (by kernel_rfl) ?_
  clear HF; intro a HF
  refine nil_then ?_
  refine wp_condF HF rfl ?_
  refine wp_skip ?_
  repeat (first | refine then_norm ?_ | refine inb_norm ?_)
  refine wp_seq (wp_region_lit ?_)
  refine wp_pure HF HM rfl 1 [] [(4, pt_ fb), (6, nl_)] (by kernel_rfl) ?_
  clear HF; intro a HF
  refine nil_then ?_
  refine wp_seq ?_
  refine wp_seq (wp_region_lit ?_)
  refine wp_pure HF HM rfl 3 [] [(6, nl_), (18, .pointer (some ⟨fb, 9, none⟩))] (by kernel_rfl) ?_
  clear HF; intro a HF
  refine wp_run HF (by kernel_rfl) (sl_ sg_ shnumN shnumN) (by kernel_rfl) (run_load_one rfl rfl (by kernel_rfl) ((cell_of_row w1 fb 9 _ _ _ (HM.old hF.file)).trans rfl)) ?_
  clear HF; intro a HF; replace HF := HF.sub [(6, nl_), (19, sl_ sg_ shnumN shnumN)] (by kernel_rfl)
  refine wp_pure HF HM rfl 2 [] [(6, nl_), (19, sl_ sg_ shnumN shnumN), (20, i6_ shnumN), (21, iI_ 0)] (by kernel_rfl) ?_
  clear HF; intro a HF
  refine nil_then ?_
  refine wp_block ?_
  refine loop_ind (shnumN) (fun i a w => ((i = 0) ∧ Mm [] w1 w [] ∧ Fr 90 a [(6, nl_), (19, sl_ sg_ shnumN shnumN), (20, i6_ shnumN), (21, i6_ i)]) ∨ (∃ og : Nat, ∃ oc : Nat, ∃ ok : Array Value, (ok.toList.take (i * 11) = (List.range i).flatMap (secRes sc nb)) ∧ (ok.size = oc * 11) ∧ (i ≤ oc) ∧ (oc ≤ maxLen) ∧ Mm [] w1 w [(og, .cells ok 64 (0, 0))] ∧ Fr 90 a [(6, sl_ og i oc), (19, sl_ sg_ shnumN shnumN), (20, i6_ shnumN), (21, i6_ i)])) ?_ ?_ ?_
  · exact Or.inl <| ⟨rfl, HM, HF.sub [(6, nl_), (19, sl_ sg_ shnumN shnumN), (20, i6_ shnumN), (21, iI_ 0)] (by kernel_rfl)⟩
  · intro i a w KX hi hI KR
    rcases hI with hI | hI
    · obtain ⟨h0, HM, HF⟩ := hI
      have hx1 := (H.bd i hi).v2; have hx2 := (H.bd i hi).v3; have hx3 : (sc i).link < 4294967296 := by rw [← (H.sec i hi).link]; exact num_lt _ _ _ 4
      have hx4 : (sc i).info < 4294967296 := by rw [← (H.sec i hi).info]; exact num_lt _ _ _ 4
      subst h0
      refine wp_seq (wp_region_lit ?_)
      refine wp_pure HF HM rfl 1 [] [(6, nl_), (19, sl_ sg_ shnumN shnumN), (20, i6_ shnumN), (21, iI_ 0), (22, .bool (decide (0 < ((shnumN : Nat) : Int))))] (by kernel_rfl) ?_
      clear HF; intro a HF
      refine nil_then ?_
      refine wp_seq ?_
      rw [show decide (0 < ((shnumN : Nat) : Int)) = true from dec_t (by omega)] at HF
      refine wp_condT HF rfl ?_
      refine wp_skip ?_
      repeat (first | refine then_norm ?_ | refine inb_norm ?_)
      refine wp_seq ?_
      refine wp_block ?_
      refine wp_seq (wp_region_lit ?_)
      obtain ⟨pq, sq, q1, q2, q3, q4, q5⟩ := hF.sec 0 (by omega)
      refine wp_run HF (by kernel_rfl) (pt_ sg_) (by kernel_rfl) ((run_index Tryd.underlying126 his hss rfl 0 rfl rfl (by omega))) ?_
      clear HF; intro a HF; replace HF := HF.sub [(6, nl_), (19, sl_ sg_ shnumN shnumN), (20, i6_ shnumN), (21, iI_ 0), (23, pt_ sg_)] (by kernel_rfl)
      refine wp_run HF (by kernel_rfl) (pt_ pq) (by kernel_rfl) (run_load_one rfl rfl (by kernel_rfl) ((cell_of_row w sg_ 0 _ _ _ (HM.old hF.secs)).trans q1)) ?_
      clear HF; intro a HF; replace HF := HF.sub [(6, nl_), (19, sl_ sg_ shnumN shnumN), (20, i6_ shnumN), (21, iI_ 0), (24, pt_ pq)] (by kernel_rfl)
      refine wp_pure HF HM rfl 1 [] [(6, nl_), (8, pt_ pq), (19, sl_ sg_ shnumN shnumN), (20, i6_ shnumN), (21, iI_ 0)] (by kernel_rfl) ?_
      clear HF; intro a HF
      replace HM : Mm [pq] w1 w [sections_any_B0 pq nb sc sq] := HM.tellOld q4 (by simp)
      refine nil_then ?_
      refine reg_plan1 HM (by kernel_rfl) [sections_any_B0 pq nb sc sq] [(0, false), (1, false), (2, false), (3, false), (4, false), (5, false), (6, false), (7, false), (8, false), (9, false), (10, false), (11, false), (12, false), (13, false), (14, false), (15, false), (16, false), (17, false), (18, false), (19, false), (20, false), (21, false), (22, false), (23, false), (24, false), (25, false), (26, false), (27, false), (28, false), (29, false), (30, false), (31, false), (32, false), (33, false), (34, false), (35, false), (36, false), (37, false), (38, false), (39, false), (40, false), (41, false), (42, false), (43, false), (44, false), (45, false), (46, false), (47, false), (48, false), (49, false), (50, false), (51, false), (52, false), (53, false), (54, false), (55, false), (56, false), (57, false), (58, false), (59, false), (60, false), (61, true), (62, true), (63, false)] (by kernel_rfl) ?_
      clear HM; intro w2 HM
      refine plan_sym HF (HM.told [0] rfl) 12 [[0], [0]] ((sections_any_S1 pq sg_ shnumN nb) ++ [(36, iI_ (IntKind.i64.wrap ((((sc 0).ty) : Nat) : Int)))]) (by kernel_rfl) ?_
      clear HF; intro a HF
      rw [show IntKind.i64.wrap ((((sc 0).ty) : Nat) : Int) = ((((sc 0).ty) : Nat) : Int) from IntWalk.i64_in _ (by omega)] at HF
      refine plan_sym HF (HM.told [0] rfl) 6 [[0]] ((sections_any_S1 pq sg_ shnumN nb) ++ [(36, i6_ ((sc 0).ty)), (42, iI_ (IntKind.i64.wrap ((((sc 0).flags) : Nat) : Int)))]) (by kernel_rfl) ?_
      clear HF; intro a HF
      rw [show IntKind.i64.wrap ((((sc 0).flags) : Nat) : Int) = ((((sc 0).flags) : Nat) : Int) from IntWalk.i64_in _ (by omega)] at HF
      refine plan_sym HF (HM.told [0] rfl) 21 [[0], [0], [0], [0]] ((sections_any_S1 pq sg_ shnumN nb) ++ [(36, i6_ ((sc 0).ty)), (42, i6_ ((sc 0).flags)), (47, u6_ ((sc 0).addr)), (52, u6_ ((sc 0).off)), (57, u6_ ((sc 0).fsz)), (63, iI_ (IntKind.i64.wrap ((((sc 0).link) : Nat) : Int)))]) (by kernel_rfl) ?_
      clear HF; intro a HF
      rw [show IntKind.i64.wrap ((((sc 0).link) : Nat) : Int) = ((((sc 0).link) : Nat) : Int) from IntWalk.i64_in _ (by omega)] at HF
      refine plan_sym HF (HM.told [0] rfl) 6 [[0]] ((sections_any_S1 pq sg_ shnumN nb) ++ [(36, i6_ ((sc 0).ty)), (42, i6_ ((sc 0).flags)), (47, u6_ ((sc 0).addr)), (52, u6_ ((sc 0).off)), (57, u6_ ((sc 0).fsz)), (63, i6_ ((sc 0).link)), (69, iI_ (IntKind.i64.wrap ((((sc 0).info) : Nat) : Int)))]) (by kernel_rfl) ?_
      clear HF; intro a HF
      rw [show IntKind.i64.wrap ((((sc 0).info) : Nat) : Int) = ((((sc 0).info) : Nat) : Int) from IntWalk.i64_in _ (by omega)] at HF
      refine plan_sym HF (HM.told [0] rfl) 16 [[0], [0], [0]] [(19, sl_ sg_ shnumN shnumN), (20, i6_ shnumN), (21, iI_ 0), (25, nl_), (85, .agg #[.string (⟨(nb 0).toArray⟩), i6_ ((sc 0).ty), i6_ ((sc 0).flags), u6_ ((sc 0).addr), u6_ ((sc 0).off), u6_ ((sc 0).fsz), i6_ ((sc 0).link), i6_ ((sc 0).info), u6_ ((sc 0).align), u6_ ((sc 0).ent), u6_ ((sc 0).fsz)])] (by kernel_rfl) ?_
      clear HF; intro a HF
      refine plan_force rfl ?_
      obtain ⟨z10, hz10⟩ : ∃ z, w2.heap.size = z := ⟨_, rfl⟩
      refine wp_sym HF HM hz10 1 [] [(19, sl_ sg_ shnumN shnumN), (20, i6_ shnumN), (21, iI_ 0), (25, nl_), (86, sl_ z10 1 1)] [sections_any_B2 z10 nb sc, sections_any_B0 pq nb sc sq] (by kernel_rfl) ?_
      clear HF HM hz10; intro a w HF HM
      refine only_end (HM.told [1] rfl) ?_
      refine plan_force rfl ?_
      refine wp_append_new HF HM rfl _ _ 60 rfl rfl 64 (z := .agg #[.string (⟨#[]⟩ : ByteArray), iI_ 0, iI_ 0, iL_ 0, iL_ 0, iL_ 0, iI_ 0, iI_ 0, iL_ 0, iL_ 0, iL_ 0]) (size := 11) (bytes := 96) Tryd.underlying60 (by kernel_rfl) rfl (by decide) rfl (some ⟨z10, 0, none⟩) 1 1 ([.string (⟨(nb 0).toArray⟩), i6_ ((sc 0).ty), i6_ ((sc 0).flags), u6_ ((sc 0).addr), u6_ ((sc 0).off), u6_ ((sc 0).fsz), i6_ ((sc 0).link), i6_ ((sc 0).info), u6_ ((sc 0).align), u6_ ((sc 0).ent), u6_ ((sc 0).fsz)]) rfl rfl (by omega) (HM.rowAt (i := 0) rfl) (one_cells rfl) (by unfold maxLen; omega) (by omega) ?_
      intro a w3 g1 cap1 cur1 HM2 htk1 hsz1 hnc1 hcm1 hbel HF2; clear HF HM hbel
      have HM : Mm [pq] w1 w3 [(g1, .cells cur1 64 (0, 0)), sections_any_B2 z10 nb sc, sections_any_B0 pq nb sc sq] := HM2
      have HF := HF2.sub [(19, sl_ sg_ shnumN shnumN), (20, i6_ shnumN), (21, iI_ 0), (87, sl_ g1 1 cap1)] (by kernel_rfl); clear HM2 HF2
      replace htk1 : cur1.toList.take (1 * 11) = (List.range 1).flatMap (secRes sc nb) := htk1.trans (rfl)
      refine only_end (HM.told [2] rfl) ?_
      refine plan_sym HF (HM.told [2] rfl) 1 [] [(6, sl_ g1 1 cap1), (19, sl_ sg_ shnumN shnumN), (20, i6_ shnumN), (21, iI_ 0)] (by kernel_rfl) ?_
      clear HF; intro a HF
      refine plan_end ?_
      repeat (first | refine then_norm ?_ | refine inb_norm ?_)
      refine wp_region_lit ?_
      refine wp_pure HF HM rfl 2 [] [(6, sl_ g1 1 cap1), (19, sl_ sg_ shnumN shnumN), (20, i6_ shnumN), (21, iI_ 1)] (by kernel_rfl) ?_
      clear HF; intro a HF
      refine wpList_nil ?_
      repeat (first | refine then_norm ?_ | refine inb_norm ?_)
      replace HM : Mm [] w1 w3 [(g1, .cells cur1 64 (0, 0)), sections_any_B2 z10 nb sc] := HM.hideOld 2 rfl q4
      exact KR _ _ (Or.inr <| ⟨g1, cap1, cur1, htk1, hsz1, hnc1, hcm1, (HM.pick [0] [(g1, .cells cur1 64 (0, 0))] rfl (by decide)), HF.sub [(6, sl_ g1 1 cap1), (19, sl_ sg_ shnumN shnumN), (20, i6_ shnumN), (21, iI_ 1)] (by kernel_rfl)⟩)
    · obtain ⟨og, oc, ok, otk, osz, onc, ocm, HM, HF⟩ := hI
      have hx1 := (H.bd i hi).v2; have hx2 := (H.bd i hi).v3; have hx3 : (sc i).link < 4294967296 := by rw [← (H.sec i hi).link]; exact num_lt _ _ _ 4
      have hx4 : (sc i).info < 4294967296 := by rw [← (H.sec i hi).info]; exact num_lt _ _ _ 4
      refine wp_seq (wp_region_lit ?_)
      refine wp_pure HF HM rfl 1 [] [(6, sl_ og i oc), (19, sl_ sg_ shnumN shnumN), (20, i6_ shnumN), (21, i6_ i), (22, .bool (decide (((i : Nat) : Int) < ((shnumN : Nat) : Int))))] (by kernel_rfl) ?_
      clear HF; intro a HF
      refine nil_then ?_
      refine wp_seq ?_
      rw [show decide (((i : Nat) : Int) < ((shnumN : Nat) : Int)) = true from dec_t (by omega)] at HF
      refine wp_condT HF rfl ?_
      refine wp_skip ?_
      repeat (first | refine then_norm ?_ | refine inb_norm ?_)
      refine wp_seq ?_
      refine wp_block ?_
      refine wp_seq (wp_region_lit ?_)
      obtain ⟨pq, sq, q1, q2, q3, q4, q5⟩ := hF.sec i (by omega)
      refine wp_run HF (by kernel_rfl) (.pointer (some ⟨sg_, i, none⟩)) (by kernel_rfl) ((run_index Tryd.underlying126 his hss rfl i rfl rfl (by omega))) ?_
      clear HF; intro a HF; replace HF := HF.sub [(6, sl_ og i oc), (19, sl_ sg_ shnumN shnumN), (20, i6_ shnumN), (21, i6_ i), (23, .pointer (some ⟨sg_, i, none⟩))] (by kernel_rfl)
      refine wp_run HF (by kernel_rfl) (pt_ pq) (by kernel_rfl) (run_load_one rfl rfl (by kernel_rfl) ((cell_of_row w sg_ i _ _ _ (HM.old hF.secs)).trans q1)) ?_
      clear HF; intro a HF; replace HF := HF.sub [(6, sl_ og i oc), (19, sl_ sg_ shnumN shnumN), (20, i6_ shnumN), (21, i6_ i), (24, pt_ pq)] (by kernel_rfl)
      refine wp_pure HF HM rfl 1 [] [(6, sl_ og i oc), (8, pt_ pq), (19, sl_ sg_ shnumN shnumN), (20, i6_ shnumN), (21, i6_ i)] (by kernel_rfl) ?_
      clear HF; intro a HF
      replace HM : Mm [pq] w1 w [sections_any_B3 pq nb i sc sq, (og, .cells ok 64 (0, 0))] := HM.tellOld q4 (by simp)
      refine nil_then ?_
      refine reg_plan1 HM (by kernel_rfl) [sections_any_B3 pq nb i sc sq] [(0, false), (1, false), (2, false), (3, false), (4, false), (5, false), (6, false), (7, false), (8, false), (9, false), (10, false), (11, false), (12, false), (13, false), (14, false), (15, false), (16, false), (17, false), (18, false), (19, false), (20, false), (21, false), (22, false), (23, false), (24, false), (25, false), (26, false), (27, false), (28, false), (29, false), (30, false), (31, false), (32, false), (33, false), (34, false), (35, false), (36, false), (37, false), (38, false), (39, false), (40, false), (41, false), (42, false), (43, false), (44, false), (45, false), (46, false), (47, false), (48, false), (49, false), (50, false), (51, false), (52, false), (53, false), (54, false), (55, false), (56, false), (57, false), (58, false), (59, false), (60, false), (61, true), (62, true), (63, false)] (by kernel_rfl) ?_
      clear HM; intro w4 HM
      refine plan_sym HF (HM.told [0] rfl) 12 [[0], [0]] ((sections_any_S4 pq sg_ shnumN i og oc nb) ++ [(36, iI_ (IntKind.i64.wrap ((((sc i).ty) : Nat) : Int)))]) (by kernel_rfl) ?_
      clear HF; intro a HF
      rw [show IntKind.i64.wrap ((((sc i).ty) : Nat) : Int) = ((((sc i).ty) : Nat) : Int) from IntWalk.i64_in _ (by omega)] at HF
      refine plan_sym HF (HM.told [0] rfl) 6 [[0]] ((sections_any_S4 pq sg_ shnumN i og oc nb) ++ [(36, i6_ ((sc i).ty)), (42, iI_ (IntKind.i64.wrap ((((sc i).flags) : Nat) : Int)))]) (by kernel_rfl) ?_
      clear HF; intro a HF
      rw [show IntKind.i64.wrap ((((sc i).flags) : Nat) : Int) = ((((sc i).flags) : Nat) : Int) from IntWalk.i64_in _ (by omega)] at HF
      refine plan_sym HF (HM.told [0] rfl) 21 [[0], [0], [0], [0]] ((sections_any_S4 pq sg_ shnumN i og oc nb) ++ [(36, i6_ ((sc i).ty)), (42, i6_ ((sc i).flags)), (47, u6_ ((sc i).addr)), (52, u6_ ((sc i).off)), (57, u6_ ((sc i).fsz)), (63, iI_ (IntKind.i64.wrap ((((sc i).link) : Nat) : Int)))]) (by kernel_rfl) ?_
      clear HF; intro a HF
      rw [show IntKind.i64.wrap ((((sc i).link) : Nat) : Int) = ((((sc i).link) : Nat) : Int) from IntWalk.i64_in _ (by omega)] at HF
      refine plan_sym HF (HM.told [0] rfl) 6 [[0]] ((sections_any_S4 pq sg_ shnumN i og oc nb) ++ [(36, i6_ ((sc i).ty)), (42, i6_ ((sc i).flags)), (47, u6_ ((sc i).addr)), (52, u6_ ((sc i).off)), (57, u6_ ((sc i).fsz)), (63, i6_ ((sc i).link)), (69, iI_ (IntKind.i64.wrap ((((sc i).info) : Nat) : Int)))]) (by kernel_rfl) ?_
      clear HF; intro a HF
      rw [show IntKind.i64.wrap ((((sc i).info) : Nat) : Int) = ((((sc i).info) : Nat) : Int) from IntWalk.i64_in _ (by omega)] at HF
      refine plan_sym HF (HM.told [0] rfl) 16 [[0], [0], [0]] [(19, sl_ sg_ shnumN shnumN), (20, i6_ shnumN), (21, i6_ i), (25, sl_ og i oc), (85, .agg #[.string (⟨(nb i).toArray⟩), i6_ ((sc i).ty), i6_ ((sc i).flags), u6_ ((sc i).addr), u6_ ((sc i).off), u6_ ((sc i).fsz), i6_ ((sc i).link), i6_ ((sc i).info), u6_ ((sc i).align), u6_ ((sc i).ent), u6_ ((sc i).fsz)])] (by kernel_rfl) ?_
      clear HF; intro a HF
      refine plan_force rfl ?_
      obtain ⟨z14, hz14⟩ : ∃ z, w4.heap.size = z := ⟨_, rfl⟩
      refine wp_sym HF HM hz14 1 [] [(19, sl_ sg_ shnumN shnumN), (20, i6_ shnumN), (21, i6_ i), (25, sl_ og i oc), (86, sl_ z14 1 1)] [sections_any_B5 z14 nb i sc, sections_any_B3 pq nb i sc sq, (og, .cells ok 64 (0, 0))] (by kernel_rfl) ?_
      clear HF HM hz14; intro a w HF HM
      refine only_end (HM.told [1] rfl) ?_
      refine plan_force rfl ?_
      refine wp_append_told HF HM rfl _ _ 60 60 rfl rfl 64 (z := .agg #[.string (⟨#[]⟩ : ByteArray), iI_ 0, iI_ 0, iL_ 0, iL_ 0, iL_ 0, iI_ 0, iI_ 0, iL_ 0, iL_ 0, iL_ 0]) (size := 11) (bytes := 96) Tryd.underlying60 (by kernel_rfl) rfl (by decide) 2 og i oc ok rfl rfl onc ocm osz ((List.range i).flatMap (secRes sc nb)) otk (sl_ z14 1 1) 1 [.string (⟨(nb i).toArray⟩), i6_ ((sc i).ty), i6_ ((sc i).flags), u6_ ((sc i).addr), u6_ ((sc i).off), u6_ ((sc i).fsz), i6_ ((sc i).link), i6_ ((sc i).info), u6_ ((sc i).align), u6_ ((sc i).ent), u6_ ((sc i).fsz)] rfl (src_row Tryd.underlying60 rfl (by decide) (HM.rowAt (i := 0) rfl) (one_cells rfl)) (by unfold maxLen; omega) (by omega) ?_
      intro a w5 g2 cap2 cur2 HM2 htk2 hsz2 hnc2 hcm2 HF2; clear HF HM
      replace htk2 : cur2.toList.take ((i + 1) * 11) = (List.range (i + 1)).flatMap (secRes sc nb) := htk2.trans (by rw [List.range_succ, List.flatMap_append, List.flatMap_cons, List.flatMap_nil, List.append_nil]; rfl)
      have HM : Mm [pq] w1 w5 [sections_any_B5 z14 nb i sc, sections_any_B3 pq nb i sc sq, (g2, .cells cur2 64 (0, 0))] := HM2
      have HF := HF2.sub [(19, sl_ sg_ shnumN shnumN), (20, i6_ shnumN), (21, i6_ i), (87, sl_ g2 (i + 1) cap2)] (by kernel_rfl); clear HM2 HF2
      refine only_end (HM.told [1] rfl) ?_
      refine plan_sym HF (HM.told [1] rfl) 1 [] [(6, sl_ g2 (i + 1) cap2), (19, sl_ sg_ shnumN shnumN), (20, i6_ shnumN), (21, i6_ i)] (by kernel_rfl) ?_
      clear HF; intro a HF
      refine plan_end ?_
      repeat (first | refine then_norm ?_ | refine inb_norm ?_)
      refine wp_region_lit ?_
      refine wp_pure HF HM rfl 1 [] [(6, sl_ g2 (i + 1) cap2), (19, sl_ sg_ shnumN shnumN), (20, i6_ shnumN), (88, iI_ (IntKind.i64.wrap (((i : Nat) : Int) + 1)))] (by kernel_rfl) ?_
      clear HF; intro a HF
      rw [show IntKind.i64.wrap (((i : Nat) : Int) + 1) = (((i + 1) : Nat) : Int) from (IntWalk.i64_in _ (by omega)).trans (by omega)] at HF
      refine wp_pure HF HM rfl 1 [] [(6, sl_ g2 (i + 1) cap2), (19, sl_ sg_ shnumN shnumN), (20, i6_ shnumN), (21, i6_ (i + 1))] (by kernel_rfl) ?_
      clear HF; intro a HF
      refine wpList_nil ?_
      repeat (first | refine then_norm ?_ | refine inb_norm ?_)
      replace HM : Mm [] w1 w5 [sections_any_B5 z14 nb i sc, (g2, .cells cur2 64 (0, 0))] := HM.hideOld 1 rfl q4
      exact KR _ _ (Or.inr <| ⟨g2, cap2, cur2, htk2, hsz2, hnc2, hcm2, (HM.pick [1] [(g2, .cells cur2 64 (0, 0))] rfl (by decide)), HF.sub [(6, sl_ g2 (i + 1) cap2), (19, sl_ sg_ shnumN shnumN), (20, i6_ shnumN), (21, i6_ (i + 1))] (by kernel_rfl)⟩)
  · intro a w KX hI
    rcases hI with hI | hI
    · obtain ⟨h0, HM, HF⟩ := hI
      refine wp_seq (wp_region_lit ?_)
      refine wp_pure HF HM rfl 1 [] [(6, nl_), (19, sl_ sg_ shnumN shnumN), (20, i6_ shnumN), (21, i6_ shnumN), (22, .bool (decide (((shnumN : Nat) : Int) < ((shnumN : Nat) : Int))))] (by kernel_rfl) ?_
      clear HF; intro a HF
      refine nil_then ?_
      refine wp_seq ?_
      rw [show decide (((shnumN : Nat) : Int) < ((shnumN : Nat) : Int)) = false from dec_f (by omega)] at HF
      refine wp_condF HF rfl ?_
      refine wp_exit ?_
      repeat (first | refine then_exit ?_ | refine inb_exit_other rfl ?_)
      refine inb_exit ?_
      repeat (first | refine then_norm ?_ | refine inb_norm ?_)
      refine wp_seq (wp_region_lit ?_)
      refine wp_pure HF HM rfl 3 [] [(2, nl_), (3, .bool true)] (by kernel_rfl) ?_
      clear HF; intro a HF
      refine nil_then ?_
      refine wp_ret ?_
      repeat (first | refine then_ret ?_ | refine inb_ret ?_)
      exact absurd h0 (by omega)
    · obtain ⟨og, oc, ok, otk, osz, onc, ocm, HM, HF⟩ := hI
      refine wp_seq (wp_region_lit ?_)
      refine wp_pure HF HM rfl 1 [] [(6, sl_ og shnumN oc), (19, sl_ sg_ shnumN shnumN), (20, i6_ shnumN), (21, i6_ shnumN), (22, .bool (decide (((shnumN : Nat) : Int) < ((shnumN : Nat) : Int))))] (by kernel_rfl) ?_
      clear HF; intro a HF
      refine nil_then ?_
      refine wp_seq ?_
      rw [show decide (((shnumN : Nat) : Int) < ((shnumN : Nat) : Int)) = false from dec_f (by omega)] at HF
      refine wp_condF HF rfl ?_
      refine wp_exit ?_
      repeat (first | refine then_exit ?_ | refine inb_exit_other rfl ?_)
      refine inb_exit ?_
      repeat (first | refine then_norm ?_ | refine inb_norm ?_)
      refine wp_seq (wp_region_lit ?_)
      refine wp_pure HF HM rfl 3 [] [(2, sl_ og shnumN oc), (3, .bool true)] (by kernel_rfl) ?_
      clear HF; intro a HF
      refine nil_then ?_
      refine wp_ret ?_
      repeat (first | refine then_ret ?_ | refine inb_ret ?_)
      exact ret_two HF rfl rfl rfl ⟨og, oc, ok, rfl, (hb0.trans (HM.below.mono hb0.size)), ⟨Nat.le_trans hb0.size (HM.ge (i := 0) rfl), HM.get (i := 0) rfl, otk, osz, onc, ocm⟩⟩

end Go.Proofs.YtdgehpocmfjbiaaDoor
