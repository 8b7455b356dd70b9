/- Proved: the statement of FnSectionRow, at every argument. No condition. -/
import Derived.Test.YtlgigipjgahecaaAgg
import Derived.Test.YtlgigipjgahecaaSecLaw
import Derived.Lib.SmallJoins
namespace Go.Proofs.Ytlgigipjgahecaa.fnSectionRow
open Go.ChangeShapes Go.WideShapes Go.ChangeAt Go.RowKit Go.Deep
open Go.ChangeMaps (open_string shut_string)
set_option linter.unusedVariables false

theorem agg7_of {cs : Array Value} (h : cs.size = 7) : ∃ a b c d e f g, cs = #[a, b, c, d, e, f, g] := by
  obtain ⟨l⟩ := cs
  match l, h with
  | [a, b, c, d, e, f, g], _ => exact ⟨a, b, c, d, e, f, g, rfl⟩
theorem agg10_of {cs : Array Value} (h : cs.size = 10) : ∃ a b c d e f g i j k, cs = #[a, b, c, d, e, f, g, i, j, k] := by
  obtain ⟨l⟩ := cs
  match l, h with
  | [a, b, c, d, e, f, g, i, j, k], _ => exact ⟨a, b, c, d, e, f, g, i, j, k, rfl⟩

theorem own : ownKnob Try.prog.godebug = none := by kernel_rfl
theorem laidOut : laidOutB Try.prog = true := by kernel_rfl

set_option maxRecDepth 100000 in
theorem lifted (os : Os) (started : os.Started) (H : Type) (enc : TypeId × Value → H) :
    ReturnsInHanded {} Try.checked os 13 .any (Rows.fnSectionRowSpec.pre6 enc Try.prog Try.f13 Rows.fnSectionRowRow.domain false) (Rows.fnSectionRowSpec.post enc Try.prog Try.f13 false true false false) := by
  refine returnsInHanded_of_change (C := Try.checked) own started (by kernel_rfl) Try.func13
    (ChangeSpec.witness6 (enc := enc) (C := Try.checked) false ⟨#[], #[.bool false, .bool false, .agg #[.string ⟨#[]⟩, .int .u32 0, .int .u32 0, .int .u64 0, .int .u32 0, .int .u32 0, .int .u64 0, .int .u64 0, .int .u64 0, .slice none 0 0], .int .u32 0, .int .u32 0], []⟩ 8 (by kernel_rfl) (by kernel_rfl) (by kernel_rfl) (by kernel_rfl)) ?_
  intro W base args ds gs before hval0 hW hcnd _
  have hval : ∀ (j : Nat) t v, Try.f13.params[j]? = some t → args[j]? = some v → Value.okWide Try.prog W .any base t v := hval0
  have hW' := hW
  obtain ⟨p, q, hA0, hV, rfl, hfz, hnd⟩ := hW
  have hA : DataW.TrodAll enc Try.prog W 0 (fun _ => true) true Try.f13.params.toList args.toList ds p := hA0
  rw [Try.params13] at hA hval
  obtain ⟨v0, vs0, d0, ds0, p0, q0, hargs, rfl, rfl, h0, r0⟩ := trodAll_cons hA
  obtain ⟨v1, vs1, d1, ds1, p1, q1, rfl, rfl, rfl, h1, r1⟩ := trodAll_cons r0
  obtain ⟨v2, vs2, d2, ds2, p2, q2, rfl, rfl, rfl, h2, r2⟩ := trodAll_cons r1
  obtain ⟨v3, vs3, d3, ds3, p3, q3, rfl, rfl, rfl, h3, r3⟩ := trodAll_cons r2
  obtain ⟨v4, vs4, d4, ds4, p4, q4, rfl, rfl, rfl, h4, r4⟩ := trodAll_cons r3
  obtain ⟨rfl, rfl, rfl⟩ := trodAll_nil r4
  obtain rfl : args = #[v0, v1, v2, v3, v4] := by cases args; simp_all
  obtain ⟨rfl, rfl⟩ := trodVars_none hV
  have k0 := h0
  have lt0 : ∀ x ∈ p0, x.block < W.heap.size := by obtain ⟨m, hm⟩ := k0; exact DataW.trod_lt m _ _ _ hm
  have k1 := h1
  have lt1 : ∀ x ∈ p1, x.block < W.heap.size := by obtain ⟨m, hm⟩ := k1; exact DataW.trod_lt m _ _ _ hm
  have k2 := h2
  have lt2 : ∀ x ∈ p2, x.block < W.heap.size := by obtain ⟨m, hm⟩ := k2; exact DataW.trod_lt m _ _ _ hm
  have k3 := h3
  have lt3 : ∀ x ∈ p3, x.block < W.heap.size := by obtain ⟨m, hm⟩ := k3; exact DataW.trod_lt m _ _ _ hm
  have k4 := h4
  have lt4 : ∀ x ∈ p4, x.block < W.heap.size := by obtain ⟨m, hm⟩ := k4; exact DataW.trod_lt m _ _ _ hm
  obtain ⟨a0, rfl, -, -⟩ := open_bool Try.underlying4 (hval 0 4 v0 rfl rfl) h0
  obtain ⟨a1, rfl, -, -⟩ := open_bool Try.underlying4 (hval 1 4 v1 rfl rfl) h1
  obtain ⟨cs2, n2, rfl, hs2, hf2⟩ := open_fields Try.underlying62 (by kernel_rfl) (by kernel_rfl) (hval 2 62 v2 rfl rfl) h2
  obtain ⟨c2_0, c2_1, c2_2, c2_3, c2_4, c2_5, c2_6, c2_7, c2_8, c2_9, rfl⟩ := agg10_of hs2
  obtain ⟨u2_0, y2_0, e2_0, t2_0⟩ := hf2 0 _ rfl
  obtain rfl : c2_0 = u2_0 := by simpa using e2_0
  obtain ⟨a2_0, x2_0, -, z2_0⟩ := DataW.trod_string Try.underlying9 t2_0
  obtain rfl : c2_0 = _ := by simpa using x2_0
  obtain ⟨u2_1, y2_1, e2_1, t2_1⟩ := hf2 1 _ rfl
  obtain rfl : c2_1 = u2_1 := by simpa using e2_1
  obtain ⟨a2_1, x2_1, -, z2_1⟩ := DataW.trod_int Try.underlying24 t2_1
  obtain rfl : c2_1 = _ := by simpa using x2_1
  have b2_1 := bounds_u32 z2_1
  obtain ⟨m2_1, rfl⟩ := Int.eq_ofNat_of_zero_le b2_1.1
  obtain ⟨u2_2, y2_2, e2_2, t2_2⟩ := hf2 2 _ rfl
  obtain rfl : c2_2 = u2_2 := by simpa using e2_2
  obtain ⟨a2_2, x2_2, -, z2_2⟩ := DataW.trod_int Try.underlying24 t2_2
  obtain rfl : c2_2 = _ := by simpa using x2_2
  have b2_2 := bounds_u32 z2_2
  obtain ⟨m2_2, rfl⟩ := Int.eq_ofNat_of_zero_le b2_2.1
  obtain ⟨u2_3, y2_3, e2_3, t2_3⟩ := hf2 3 _ rfl
  obtain rfl : c2_3 = u2_3 := by simpa using e2_3
  obtain ⟨a2_3, x2_3, -, z2_3⟩ := DataW.trod_int Try.underlying30 t2_3
  obtain rfl : c2_3 = _ := by simpa using x2_3
  have b2_3 := bounds_u64 z2_3
  obtain ⟨m2_3, rfl⟩ := Int.eq_ofNat_of_zero_le b2_3.1
  obtain ⟨u2_4, y2_4, e2_4, t2_4⟩ := hf2 4 _ rfl
  obtain rfl : c2_4 = u2_4 := by simpa using e2_4
  obtain ⟨a2_4, x2_4, -, z2_4⟩ := DataW.trod_int Try.underlying24 t2_4
  obtain rfl : c2_4 = _ := by simpa using x2_4
  have b2_4 := bounds_u32 z2_4
  obtain ⟨m2_4, rfl⟩ := Int.eq_ofNat_of_zero_le b2_4.1
  obtain ⟨u2_5, y2_5, e2_5, t2_5⟩ := hf2 5 _ rfl
  obtain rfl : c2_5 = u2_5 := by simpa using e2_5
  obtain ⟨a2_5, x2_5, -, z2_5⟩ := DataW.trod_int Try.underlying24 t2_5
  obtain rfl : c2_5 = _ := by simpa using x2_5
  have b2_5 := bounds_u32 z2_5
  obtain ⟨m2_5, rfl⟩ := Int.eq_ofNat_of_zero_le b2_5.1
  obtain ⟨u2_6, y2_6, e2_6, t2_6⟩ := hf2 6 _ rfl
  obtain rfl : c2_6 = u2_6 := by simpa using e2_6
  obtain ⟨a2_6, x2_6, -, z2_6⟩ := DataW.trod_int Try.underlying30 t2_6
  obtain rfl : c2_6 = _ := by simpa using x2_6
  have b2_6 := bounds_u64 z2_6
  obtain ⟨m2_6, rfl⟩ := Int.eq_ofNat_of_zero_le b2_6.1
  obtain ⟨u2_7, y2_7, e2_7, t2_7⟩ := hf2 7 _ rfl
  obtain rfl : c2_7 = u2_7 := by simpa using e2_7
  obtain ⟨a2_7, x2_7, -, z2_7⟩ := DataW.trod_int Try.underlying30 t2_7
  obtain rfl : c2_7 = _ := by simpa using x2_7
  have b2_7 := bounds_u64 z2_7
  obtain ⟨m2_7, rfl⟩ := Int.eq_ofNat_of_zero_le b2_7.1
  obtain ⟨u2_8, y2_8, e2_8, t2_8⟩ := hf2 8 _ rfl
  obtain rfl : c2_8 = u2_8 := by simpa using e2_8
  obtain ⟨a2_8, x2_8, -, z2_8⟩ := DataW.trod_int Try.underlying30 t2_8
  obtain rfl : c2_8 = _ := by simpa using x2_8
  have b2_8 := bounds_u64 z2_8
  obtain ⟨m2_8, rfl⟩ := Int.eq_ofNat_of_zero_le b2_8.1
  obtain ⟨u2_9, y2_9, e2_9, t2_9⟩ := hf2 9 _ rfl
  obtain rfl : c2_9 = u2_9 := by simpa using e2_9
  obtain ⟨A2_9, l2_9, q2_9, x2_9⟩ := Go.Joins.slice_form Try.underlying36 t2_9
  obtain rfl : c2_9 = _ := by simpa using x2_9
  obtain ⟨a3, rfl, -, -, z3⟩ := open_int Try.underlying24 (hval 3 24 v3 rfl rfl) h3
  have b3 := bounds_u32 z3
  obtain ⟨m3, rfl⟩ := Int.eq_ofNat_of_zero_le b3.1
  obtain ⟨a4, rfl, -, -, z4⟩ := open_int Try.underlying24 (hval 4 24 v4 rfl rfl) h4
  have b4 := bounds_u32 z4
  obtain ⟨m4, rfl⟩ := Int.eq_ofNat_of_zero_le b4.1
  clear hA0 hval0
  refine (walk_sec a0 a1 a2_0 m2_1 m2_2 m2_3 m2_4 m2_5 m2_6 m2_7 m2_8 A2_9 l2_9 q2_9 m3 m4 (by omega) (by omega) (by omega) (by omega) (by omega) (by omega) (by omega) (by omega) (by omega) (by omega) W).mono fun e W' ⟨he, bel⟩ => ?_
  subst he
  exact ⟨_, rfl, _, _, _, [], _, [], hW', trodAll_mk1 (shut_bool Try.underlying4 _), (trodAll_cons_mk (Below.trod laidOut (by kernel_rfl) (of_decide_eq_true (by kernel_rfl)) k0 bel lt0) (trodAll_cons_mk (Below.trod laidOut (by kernel_rfl) (of_decide_eq_true (by kernel_rfl)) k1 bel lt1) (trodAll_cons_mk (Below.trod laidOut (by kernel_rfl) (of_decide_eq_true (by kernel_rfl)) k2 bel lt2) (trodAll_cons_mk (Below.trod laidOut (by kernel_rfl) (of_decide_eq_true (by kernel_rfl)) k3 bel lt3) (trodAll_cons_mk (Below.trod laidOut (by kernel_rfl) (of_decide_eq_true (by kernel_rfl)) k4 bel lt4) trodAll_mk0))))), rfl, bel.frame _, fun h => by cases h⟩

theorem over : Rows.fnSectionRowRow.holds Try.pinned (OpenSpec.ofChange Rows.fnSectionRowSpec) :=
  OpenClaim.holds_of_wide 13 Try.f13 rfl rfl rfl rfl rfl rfl rfl ⟨rfl, rfl, rfl, rfl, rfl⟩ rfl rfl rfl rfl rfl (by kernel_rfl) Try.func13 (by kernel_rfl)
    (of_decide_eq_true (by kernel_rfl)) (by unfold Func.isWrapper; first | (rw [if_pos (by decide +kernel)]; kernel_rfl) | (rw [if_neg (by decide +kernel)]; exact ⟨rfl, rfl⟩))
    (fun os started H enc _ => lifted os started H enc)

theorem proved : Rows.FnSectionRowSaid := over
#print axioms proved
end Go.Proofs.Ytlgigipjgahecaa.fnSectionRow
