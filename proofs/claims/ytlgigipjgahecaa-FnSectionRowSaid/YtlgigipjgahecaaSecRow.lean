/- The contracts of spec.Size and spec.SectionRow: a section header, laid out. -/
import Derived.Test.YtlgigipjgahecaaRowWords
namespace Go.Proofs.Ytlgigipjgahecaa
open Go.RowKit
set_option linter.unusedVariables false
set_option linter.unusedSimpArgs false

def sizeB (ty size n : Nat) : Nat := if ty = 8 then size else n
set_option maxRecDepth 100000 in
set_option maxHeartbeats 1000000 in
theorem size_any (nm : ByteArray) (ty flags addr link info align ent size n c : Nat) (A : Option Addr) (h4 : n ≤ 4294967295) (w : World) :
    Calls Try.prog 36 #[.agg #[.string nm, .int .u32 ty, .int .u32 flags, .int .u64 addr, .int .u32 link, .int .u32 info, .int .u64 align, .int .u64 ent, .int .u64 size, .slice A n c]] w fun e w' => e = .returned (.int .u64 (sizeB ty size n)) ∧ Below w.heap.size w w' := by
  by_cases h : ty = 8
  · subst h
    have e : sizeB 8 size n = size := if_pos rfl
    rw [e]
    clear e
    go_enter Try.func36, Try.ntmps36
    go_wp2
    go_ret
    exact ⟨rfl, (Below.refl _ _).alloc (Nat.le_refl _) _⟩
  · have e : sizeB ty size n = n := if_neg h
    rw [e]
    clear e
    have hb : ((ty : Int) == 8) = false := by rw [beq_eq_false_iff_ne]; omega
    go_enter Try.func36, Try.ntmps36
    go_wp2
    go_ret
    exact ⟨rfl, (Below.refl _ _).alloc (Nat.le_refl _) _⟩

def secB (wide big : Bool) (name ty flags addr offset size link info align ent : Nat) : List UInt8 :=
  fixedB name (szOf wide 4) big ++ fixedB ty (szOf wide 4) big ++ fixedB flags (szOf wide 0) big ++ fixedB addr (szOf wide 0) big ++ fixedB offset (szOf wide 0) big ++ fixedB size (szOf wide 0) big ++ fixedB link (szOf wide 4) big ++ fixedB info (szOf wide 4) big ++ fixedB align (szOf wide 0) big ++ fixedB ent (szOf wide 0) big

set_option maxRecDepth 100000 in
set_option maxHeartbeats 2000000 in
theorem sectionRow_any (wide big : Bool) (x2 x3 x4 x5 x6 x7 x8 : Value) (name : Nat) (nm : ByteArray) (ty flags addr link info align ent size n c offset : Nat) (A : Option Addr) (h0 : name ≤ 4294967295) (h1 : ty ≤ 4294967295) (h2 : flags ≤ 4294967295) (h3 : offset ≤ 4294967295) (h4 : n ≤ 4294967295) (h5 : link ≤ 4294967295) (h6 : info ≤ 4294967295) (w : World) :
    Calls Try.prog 35 #[.agg #[.bool wide, .bool big, x2, x3, x4, x5, x6, x7, x8], .int .i64 name, .agg #[.string nm, .int .u32 ty, .int .u32 flags, .int .u64 addr, .int .u32 link, .int .u32 info, .int .u64 align, .int .u64 ent, .int .u64 size, .slice A n c], .int .i64 offset] w
      fun e w' => ∃ v, e = .returned v ∧ w'.ownsRow w.heap.size 5 1 v (secB wide big name ty flags addr offset (sizeB ty size n) link info align ent).length ((secB wide big name ty flags addr offset (sizeB ty size n) link info align ent).map Bv) ∧ Below w.heap.size w w' := by
  obtain ⟨hX, hS, hR, hB⟩ := start3 w (.cells #[.bool wide, .bool big, x2, x3, x4, x5, x6, x7, x8] 46) (.cells #[.string nm, .int .u32 ty, .int .u32 flags, .int .u64 addr, .int .u32 link, .int .u32 info, .int .u64 align, .int .u64 ent, .int .u64 size, .slice A n c] 62) wide big
  have HX0 := Lib.hid hX
  have HS0 := Lib.hid hS
  have HR0 := Lib.hid hR
  have HB0 := Lib.hid hB
  obtain ⟨x00, x01⟩ := cells2 HX0.out
  obtain ⟨s0_0, s0_1, s0_2, s0_3, s0_4, s0_5, s0_6, s0_7, s0_8, s0_9⟩ := cells10 HS0.out
  clear hX hS hR hB
  go_enter Try.func35, Try.ntmps35
  go_wp2_with fail
  refine (put_any (w.heap.size + 1 + 1) name 4 big wide _ (by omega) (by have := szOf_le wide 0 (by omega); have := szOf_le wide 4 (by omega); simp [fixedB_length] <;> omega) _ HR0.out).mono ?_
  rintro e w1 ⟨rfl, hr1, hb1⟩
  have HR1 := Lib.hid hr1
  have HX1 := Lib.hid (obj_below HX0.out hb1 (by omega))
  have HS1 := Lib.hid (obj_below HS0.out hb1 (by omega))
  have HB1 := Lib.hid (HB0.out.trans (hb1.mono (by omega)))
  clear hr1 hb1 HR0 HX0 HS0 HB0
  obtain ⟨x10, x11⟩ := cells2 HX1.out
  obtain ⟨s1_0, s1_1, s1_2, s1_3, s1_4, s1_5, s1_6, s1_7, s1_8, s1_9⟩ := cells10 HS1.out
  go_wp2_with fail
  refine (put_any (w.heap.size + 1 + 1) ty 4 big wide _ (by omega) (by have := szOf_le wide 0 (by omega); have := szOf_le wide 4 (by omega); simp [fixedB_length] <;> omega) _ HR1.out).mono ?_
  rintro e w2 ⟨rfl, hr2, hb2⟩
  have HR2 := Lib.hid hr2
  have HX2 := Lib.hid (obj_below HX1.out hb2 (by omega))
  have HS2 := Lib.hid (obj_below HS1.out hb2 (by omega))
  have HB2 := Lib.hid (HB1.out.trans (hb2.mono (by omega)))
  clear hr2 hb2 HR1 HX1 HS1 HB1
  obtain ⟨x20, x21⟩ := cells2 HX2.out
  obtain ⟨s2_0, s2_1, s2_2, s2_3, s2_4, s2_5, s2_6, s2_7, s2_8, s2_9⟩ := cells10 HS2.out
  go_wp2_with fail
  refine (put_any (w.heap.size + 1 + 1) flags 0 big wide _ (by omega) (by have := szOf_le wide 0 (by omega); have := szOf_le wide 4 (by omega); simp [fixedB_length] <;> omega) _ HR2.out).mono ?_
  rintro e w3 ⟨rfl, hr3, hb3⟩
  have HR3 := Lib.hid hr3
  have HX3 := Lib.hid (obj_below HX2.out hb3 (by omega))
  have HS3 := Lib.hid (obj_below HS2.out hb3 (by omega))
  have HB3 := Lib.hid (HB2.out.trans (hb3.mono (by omega)))
  clear hr3 hb3 HR2 HX2 HS2 HB2
  obtain ⟨x30, x31⟩ := cells2 HX3.out
  obtain ⟨s3_0, s3_1, s3_2, s3_3, s3_4, s3_5, s3_6, s3_7, s3_8, s3_9⟩ := cells10 HS3.out
  go_wp2_with fail
  refine (put_any (w.heap.size + 1 + 1) addr 0 big wide _ (by omega) (by have := szOf_le wide 0 (by omega); have := szOf_le wide 4 (by omega); simp [fixedB_length] <;> omega) _ HR3.out).mono ?_
  rintro e w4 ⟨rfl, hr4, hb4⟩
  have HR4 := Lib.hid hr4
  have HX4 := Lib.hid (obj_below HX3.out hb4 (by omega))
  have HS4 := Lib.hid (obj_below HS3.out hb4 (by omega))
  have HB4 := Lib.hid (HB3.out.trans (hb4.mono (by omega)))
  clear hr4 hb4 HR3 HX3 HS3 HB3
  obtain ⟨x40, x41⟩ := cells2 HX4.out
  obtain ⟨s4_0, s4_1, s4_2, s4_3, s4_4, s4_5, s4_6, s4_7, s4_8, s4_9⟩ := cells10 HS4.out
  go_wp2_with fail
  refine (put_any (w.heap.size + 1 + 1) offset 0 big wide _ (by omega) (by have := szOf_le wide 0 (by omega); have := szOf_le wide 4 (by omega); simp [fixedB_length] <;> omega) _ HR4.out).mono ?_
  rintro e w5 ⟨rfl, hr5, hb5⟩
  have HR5 := Lib.hid hr5
  have HX5 := Lib.hid (obj_below HX4.out hb5 (by omega))
  have HS5 := Lib.hid (obj_below HS4.out hb5 (by omega))
  have HB5 := Lib.hid (HB4.out.trans (hb5.mono (by omega)))
  clear hr5 hb5 HR4 HX4 HS4 HB4
  obtain ⟨x50, x51⟩ := cells2 HX5.out
  obtain ⟨s5_0, s5_1, s5_2, s5_3, s5_4, s5_5, s5_6, s5_7, s5_8, s5_9⟩ := cells10 HS5.out
  go_wp2_with fail
  refine (size_any nm ty flags addr link info align ent size n c A h4 _).mono ?_
  rintro e wz ⟨rfl, hbz⟩
  obtain ⟨z, hz⟩ : ∃ z, sizeB ty size n = z := ⟨_, rfl⟩
  rw [hz]
  have HZ := Lib.hid hz
  have HR5z := Lib.hid (HR5.out.below hbz)
  have HX5z := Lib.hid (obj_below HX5.out hbz (obj_lt HX5.out))
  have HS5z := Lib.hid (obj_below HS5.out hbz (obj_lt HS5.out))
  have HB5z := Lib.hid (HB5.out.trans (hbz.mono HB5.out.size))
  clear hz hbz HR5 HX5 HS5 HB5
  go_wp2_with fail
  refine (put_any (w.heap.size + 1 + 1) z 0 big wide _ (by omega) (by have := szOf_le wide 0 (by omega); have := szOf_le wide 4 (by omega); simp [fixedB_length] <;> omega) _ HR5z.out).mono ?_
  rintro e w6 ⟨rfl, hr6, hb6⟩
  have HR6 := Lib.hid hr6
  have HX6 := Lib.hid (obj_below HX5z.out hb6 (by omega))
  have HS6 := Lib.hid (obj_below HS5z.out hb6 (by omega))
  have HB6 := Lib.hid (HB5z.out.trans (hb6.mono (by omega)))
  clear hr6 hb6 HR5z HX5z HS5z HB5z
  obtain ⟨x60, x61⟩ := cells2 HX6.out
  obtain ⟨s6_0, s6_1, s6_2, s6_3, s6_4, s6_5, s6_6, s6_7, s6_8, s6_9⟩ := cells10 HS6.out
  go_wp2_with fail
  refine (put_any (w.heap.size + 1 + 1) link 4 big wide _ (by omega) (by have := szOf_le wide 0 (by omega); have := szOf_le wide 4 (by omega); simp [fixedB_length] <;> omega) _ HR6.out).mono ?_
  rintro e w7 ⟨rfl, hr7, hb7⟩
  have HR7 := Lib.hid hr7
  have HX7 := Lib.hid (obj_below HX6.out hb7 (by omega))
  have HS7 := Lib.hid (obj_below HS6.out hb7 (by omega))
  have HB7 := Lib.hid (HB6.out.trans (hb7.mono (by omega)))
  clear hr7 hb7 HR6 HX6 HS6 HB6
  obtain ⟨x70, x71⟩ := cells2 HX7.out
  obtain ⟨s7_0, s7_1, s7_2, s7_3, s7_4, s7_5, s7_6, s7_7, s7_8, s7_9⟩ := cells10 HS7.out
  go_wp2_with fail
  refine (put_any (w.heap.size + 1 + 1) info 4 big wide _ (by omega) (by have := szOf_le wide 0 (by omega); have := szOf_le wide 4 (by omega); simp [fixedB_length] <;> omega) _ HR7.out).mono ?_
  rintro e w8 ⟨rfl, hr8, hb8⟩
  have HR8 := Lib.hid hr8
  have HX8 := Lib.hid (obj_below HX7.out hb8 (by omega))
  have HS8 := Lib.hid (obj_below HS7.out hb8 (by omega))
  have HB8 := Lib.hid (HB7.out.trans (hb8.mono (by omega)))
  clear hr8 hb8 HR7 HX7 HS7 HB7
  obtain ⟨x80, x81⟩ := cells2 HX8.out
  obtain ⟨s8_0, s8_1, s8_2, s8_3, s8_4, s8_5, s8_6, s8_7, s8_8, s8_9⟩ := cells10 HS8.out
  go_wp2_with fail
  refine (put_any (w.heap.size + 1 + 1) align 0 big wide _ (by omega) (by have := szOf_le wide 0 (by omega); have := szOf_le wide 4 (by omega); simp [fixedB_length] <;> omega) _ HR8.out).mono ?_
  rintro e w9 ⟨rfl, hr9, hb9⟩
  have HR9 := Lib.hid hr9
  have HX9 := Lib.hid (obj_below HX8.out hb9 (by omega))
  have HS9 := Lib.hid (obj_below HS8.out hb9 (by omega))
  have HB9 := Lib.hid (HB8.out.trans (hb9.mono (by omega)))
  clear hr9 hb9 HR8 HX8 HS8 HB8
  obtain ⟨x90, x91⟩ := cells2 HX9.out
  obtain ⟨s9_0, s9_1, s9_2, s9_3, s9_4, s9_5, s9_6, s9_7, s9_8, s9_9⟩ := cells10 HS9.out
  go_wp2_with fail
  refine (put_any (w.heap.size + 1 + 1) ent 0 big wide _ (by omega) (by have := szOf_le wide 0 (by omega); have := szOf_le wide 4 (by omega); simp [fixedB_length] <;> omega) _ HR9.out).mono ?_
  rintro e w10 ⟨rfl, hr10, hb10⟩
  have HR10 := Lib.hid hr10
  have HX10 := Lib.hid (obj_below HX9.out hb10 (by omega))
  have HS10 := Lib.hid (obj_below HS9.out hb10 (by omega))
  have HB10 := Lib.hid (HB9.out.trans (hb10.mono (by omega)))
  clear hr10 hb10 HR9 HX9 HS9 HB9
  obtain ⟨x100, x101⟩ := cells2 HX10.out
  obtain ⟨s10_0, s10_1, s10_2, s10_3, s10_4, s10_5, s10_6, s10_7, s10_8, s10_9⟩ := cells10 HS10.out
  obtain ⟨v, hv, hown⟩ := rowObj_end (w := w) HR10.out (by omega)
  have HE := Lib.hid hown
  clear hown
  go_wp2
  go_ret
  refine ⟨v, rfl, ?_, HB10.out⟩
  rw [HZ.out]
  simpa [secB] using HE.out
end Go.Proofs.Ytlgigipjgahecaa
