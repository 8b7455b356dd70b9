/- Proved: the statement of FnSymbolRow64, at every argument. No condition. -/
import Derived.Test.YtlgigipjgahecaaAgg
import Derived.Test.YtlgigipjgahecaaLaw64
namespace Go.Proofs.Ytlgigipjgahecaa.fnSymbolRow64
open Go.ChangeShapes Go.WideShapes Go.ChangeAt Go.RowKit Go.Deep
open Go.ChangeMaps (open_string shut_string)
set_option linter.unusedVariables false

theorem own : ownKnob Try.prog.godebug = none := by kernel_rfl
theorem laidOut : laidOutB Try.prog = true := by kernel_rfl

set_option maxRecDepth 100000 in
theorem lifted (os : Os) (started : os.Started) (H : Type) (enc : TypeId × Value → H) :
    ReturnsInHanded {} Try.checked os 11 .any (Rows.fnSymbolRow64Spec.pre6 enc Try.prog Try.f11 Rows.fnSymbolRow64Row.domain false) (Rows.fnSymbolRow64Spec.post enc Try.prog Try.f11 false true false false) := by
  refine returnsInHanded_of_change (C := Try.checked) own started (by kernel_rfl) Try.func11
    (ChangeSpec.witness6 (enc := enc) (C := Try.checked) false ⟨#[], #[.bool false, .agg #[.string ⟨#[]⟩, .int .u8 0, .int .u8 0, .int .i64 0, .int .u64 0, .int .u64 0], .int .u32 0], []⟩ 8 (by kernel_rfl) (by kernel_rfl) (by kernel_rfl) (by kernel_rfl)) ?_
  intro W base args ds gs before hval0 hW hcnd _
  have hval : ∀ (j : Nat) t v, Try.f11.params[j]? = some t → args[j]? = some v → Value.okWide Try.prog W .any base t v := hval0
  have hW' := hW
  obtain ⟨p, q, hA0, hV, rfl, hfz, hnd⟩ := hW
  have hA : DataW.TrodAll enc Try.prog W 0 (fun _ => true) true Try.f11.params.toList args.toList ds p := hA0
  rw [Try.params11] at hA hval
  obtain ⟨v0, vs0, d0, ds0, p0, q0, hargs, rfl, rfl, h0, r0⟩ := trodAll_cons hA
  obtain ⟨v1, vs1, d1, ds1, p1, q1, rfl, rfl, rfl, h1, r1⟩ := trodAll_cons r0
  obtain ⟨v2, vs2, d2, ds2, p2, q2, rfl, rfl, rfl, h2, r2⟩ := trodAll_cons r1
  obtain ⟨rfl, rfl, rfl⟩ := trodAll_nil r2
  obtain rfl : args = #[v0, v1, v2] := by cases args; simp_all
  obtain ⟨rfl, rfl⟩ := trodVars_none hV
  have k0 := h0
  have lt0 : ∀ x ∈ p0, x.block < W.heap.size := by obtain ⟨m, hm⟩ := k0; exact DataW.trod_lt m _ _ _ hm
  have k1 := h1
  have lt1 : ∀ x ∈ p1, x.block < W.heap.size := by obtain ⟨m, hm⟩ := k1; exact DataW.trod_lt m _ _ _ hm
  have k2 := h2
  have lt2 : ∀ x ∈ p2, x.block < W.heap.size := by obtain ⟨m, hm⟩ := k2; exact DataW.trod_lt m _ _ _ hm
  obtain ⟨a0, rfl, -, -⟩ := open_bool Try.underlying4 (hval 0 4 v0 rfl rfl) h0
  obtain ⟨cs1, n1, rfl, hs1, hf1⟩ := open_fields Try.underlying41 (by kernel_rfl) (by kernel_rfl) (hval 1 41 v1 rfl rfl) h1
  obtain ⟨c1_0, c1_1, c1_2, c1_3, c1_4, c1_5, rfl⟩ := agg6_of hs1
  obtain ⟨u1_0, y1_0, e1_0, t1_0⟩ := hf1 0 _ rfl
  obtain rfl : c1_0 = u1_0 := by simpa using e1_0
  obtain ⟨a1_0, x1_0, -, z1_0⟩ := DataW.trod_string Try.underlying9 t1_0
  obtain rfl : c1_0 = _ := by simpa using x1_0
  obtain ⟨u1_1, y1_1, e1_1, t1_1⟩ := hf1 1 _ rfl
  obtain rfl : c1_1 = u1_1 := by simpa using e1_1
  obtain ⟨a1_1, x1_1, -, z1_1⟩ := DataW.trod_int Try.underlying5 t1_1
  obtain rfl : c1_1 = _ := by simpa using x1_1
  have b1_1 := bounds_u8 z1_1
  obtain ⟨m1_1, rfl⟩ := Int.eq_ofNat_of_zero_le b1_1.1
  obtain ⟨u1_2, y1_2, e1_2, t1_2⟩ := hf1 2 _ rfl
  obtain rfl : c1_2 = u1_2 := by simpa using e1_2
  obtain ⟨a1_2, x1_2, -, z1_2⟩ := DataW.trod_int Try.underlying5 t1_2
  obtain rfl : c1_2 = _ := by simpa using x1_2
  have b1_2 := bounds_u8 z1_2
  obtain ⟨m1_2, rfl⟩ := Int.eq_ofNat_of_zero_le b1_2.1
  obtain ⟨u1_3, y1_3, e1_3, t1_3⟩ := hf1 3 _ rfl
  obtain rfl : c1_3 = u1_3 := by simpa using e1_3
  obtain ⟨a1_3, x1_3, -, z1_3⟩ := DataW.trod_int Try.underlying3 t1_3
  obtain rfl : c1_3 = _ := by simpa using x1_3
  have b1_3 := bounds_i64 z1_3
  obtain ⟨u1_4, y1_4, e1_4, t1_4⟩ := hf1 4 _ rfl
  obtain rfl : c1_4 = u1_4 := by simpa using e1_4
  obtain ⟨a1_4, x1_4, -, z1_4⟩ := DataW.trod_int Try.underlying30 t1_4
  obtain rfl : c1_4 = _ := by simpa using x1_4
  have b1_4 := bounds_u64 z1_4
  obtain ⟨m1_4, rfl⟩ := Int.eq_ofNat_of_zero_le b1_4.1
  obtain ⟨u1_5, y1_5, e1_5, t1_5⟩ := hf1 5 _ rfl
  obtain rfl : c1_5 = u1_5 := by simpa using e1_5
  obtain ⟨a1_5, x1_5, -, z1_5⟩ := DataW.trod_int Try.underlying30 t1_5
  obtain rfl : c1_5 = _ := by simpa using x1_5
  have b1_5 := bounds_u64 z1_5
  obtain ⟨m1_5, rfl⟩ := Int.eq_ofNat_of_zero_le b1_5.1
  obtain ⟨a2, rfl, -, -, z2⟩ := open_int Try.underlying24 (hval 2 24 v2 rfl rfl) h2
  have b2 := bounds_u32 z2
  obtain ⟨m2, rfl⟩ := Int.eq_ofNat_of_zero_le b2.1
  clear hA0 hval0
  refine (walk_sym64 a0 a1_0 m1_1 m1_2 a1_3 m1_4 m1_5 m2 (by omega) (by omega) (by omega) (by omega) (by omega) (by omega) (by omega) W).mono fun e W' ⟨he, bel⟩ => ?_
  subst he
  exact ⟨_, rfl, _, _, _, [], _, [], hW', trodAll_mk1 (shut_bool Try.underlying4 _), (trodAll_cons_mk (Below.trod laidOut (by kernel_rfl) (of_decide_eq_true (by kernel_rfl)) k0 bel lt0) (trodAll_cons_mk (Below.trod laidOut (by kernel_rfl) (of_decide_eq_true (by kernel_rfl)) k1 bel lt1) (trodAll_cons_mk (Below.trod laidOut (by kernel_rfl) (of_decide_eq_true (by kernel_rfl)) k2 bel lt2) trodAll_mk0))), rfl, bel.frame _, fun h => by cases h⟩

theorem over : Rows.fnSymbolRow64Row.holds Try.pinned (OpenSpec.ofChange Rows.fnSymbolRow64Spec) :=
  OpenClaim.holds_of_wide 11 Try.f11 rfl rfl rfl rfl rfl rfl rfl ⟨rfl, rfl, rfl, rfl, rfl⟩ rfl rfl rfl rfl rfl (by kernel_rfl) Try.func11 (by kernel_rfl)
    (of_decide_eq_true (by kernel_rfl)) (by unfold Func.isWrapper; first | (rw [if_pos (by decide +kernel)]; kernel_rfl) | (rw [if_neg (by decide +kernel)]; exact ⟨rfl, rfl⟩))
    (fun os started H enc _ => lifted os started H enc)

theorem proved : Rows.FnSymbolRow64Said := over
#print axioms proved
end Go.Proofs.Ytlgigipjgahecaa.fnSymbolRow64
