/- The contract of spec.SegmentRow: a program header, laid out. -/
import Derived.Test.YtlgigipjgahecaaRowWords
namespace Go.Proofs.Ytlgigipjgahecaa
open Go.RowKit
set_option linter.unusedVariables false
set_option linter.unusedSimpArgs false

def segB (wide big : Bool) (ty flags vaddr paddr memsz align n offset : Nat) : List UInt8 :=
  if wide then fixedB ty (szOf true 4) big ++ fixedB flags (szOf true 4) big ++ fixedB offset (szOf true 0) big ++ fixedB vaddr (szOf true 0) big ++ fixedB paddr (szOf true 0) big ++ fixedB n (szOf true 0) big ++ fixedB memsz (szOf true 0) big ++ fixedB align (szOf true 0) big
  else fixedB ty (szOf false 4) big ++ fixedB offset (szOf false 0) big ++ fixedB vaddr (szOf false 0) big ++ fixedB paddr (szOf false 0) big ++ fixedB n (szOf false 0) big ++ fixedB memsz (szOf false 0) big ++ fixedB flags (szOf false 4) big ++ fixedB align (szOf false 0) big

set_option maxRecDepth 100000 in
set_option maxHeartbeats 2000000 in
theorem segmentRow_wide (big : Bool) (x2 x3 x4 x5 x6 x7 x8 : Value) (ty flags vaddr paddr memsz align n c offset : Nat) (A : Option Addr) (h1 : ty ≤ 4294967295) (h2 : flags ≤ 4294967295) (h3 : offset ≤ 4294967295) (h4 : n ≤ 4294967295) (w : World) :
    Calls Try.prog 32 #[.agg #[.bool true, .bool big, x2, x3, x4, x5, x6, x7, x8], .agg #[.int .u32 ty, .int .u32 flags, .int .u64 vaddr, .int .u64 paddr, .int .u64 memsz, .int .u64 align, .slice A n c], .int .i64 offset] w
      fun e w' => ∃ v, e = .returned v ∧ w'.ownsRow w.heap.size 5 1 v (segB true big ty flags vaddr paddr memsz align n offset).length ((segB true big ty flags vaddr paddr memsz align n offset).map Bv) ∧ Below w.heap.size w w' := by
  obtain ⟨hX, hS, hR, hB⟩ := start3 w (.cells #[.bool true, .bool big, x2, x3, x4, x5, x6, x7, x8] 46) (.cells #[.int .u32 ty, .int .u32 flags, .int .u64 vaddr, .int .u64 paddr, .int .u64 memsz, .int .u64 align, .slice A n c] 53) true big
  have HX0 := Lib.hid hX
  have HS0 := Lib.hid hS
  have HR0 := Lib.hid hR
  have HB0 := Lib.hid hB
  obtain ⟨x00, x01⟩ := cells2 HX0.out
  obtain ⟨s0_0, s0_1, s0_2, s0_3, s0_4, s0_5, s0_6⟩ := cells7 HS0.out
  clear hX hS hR hB
  go_enter Try.func32, Try.ntmps32
  go_wp2_with fail
  refine (put_any (w.heap.size + 1 + 1) ty 4 big true _ (by omega) (by have := szOf_le true 0 (by omega); have := szOf_le true 4 (by omega); simp [fixedB_length] <;> omega) _ HR0.out).mono ?_
  rintro e w1 ⟨rfl, hr1, hb1⟩
  have HR1 := Lib.hid hr1
  have HX1 := Lib.hid (obj_below HX0.out hb1 (by omega))
  have HS1 := Lib.hid (obj_below HS0.out hb1 (by omega))
  have HB1 := Lib.hid (HB0.out.trans (hb1.mono (by omega)))
  clear hr1 hb1 HR0 HX0 HS0 HB0
  obtain ⟨x10, x11⟩ := cells2 HX1.out
  obtain ⟨s1_0, s1_1, s1_2, s1_3, s1_4, s1_5, s1_6⟩ := cells7 HS1.out
  go_wp2_with fail
  refine (put_any (w.heap.size + 1 + 1) flags 4 big true _ (by omega) (by have := szOf_le true 0 (by omega); have := szOf_le true 4 (by omega); simp [fixedB_length] <;> omega) _ HR1.out).mono ?_
  rintro e w2 ⟨rfl, hr2, hb2⟩
  have HR2 := Lib.hid hr2
  have HX2 := Lib.hid (obj_below HX1.out hb2 (by omega))
  have HS2 := Lib.hid (obj_below HS1.out hb2 (by omega))
  have HB2 := Lib.hid (HB1.out.trans (hb2.mono (by omega)))
  clear hr2 hb2 HR1 HX1 HS1 HB1
  obtain ⟨x20, x21⟩ := cells2 HX2.out
  obtain ⟨s2_0, s2_1, s2_2, s2_3, s2_4, s2_5, s2_6⟩ := cells7 HS2.out
  go_wp2_with fail
  refine (put_any (w.heap.size + 1 + 1) offset 0 big true _ (by omega) (by have := szOf_le true 0 (by omega); have := szOf_le true 4 (by omega); simp [fixedB_length] <;> omega) _ HR2.out).mono ?_
  rintro e w3 ⟨rfl, hr3, hb3⟩
  have HR3 := Lib.hid hr3
  have HX3 := Lib.hid (obj_below HX2.out hb3 (by omega))
  have HS3 := Lib.hid (obj_below HS2.out hb3 (by omega))
  have HB3 := Lib.hid (HB2.out.trans (hb3.mono (by omega)))
  clear hr3 hb3 HR2 HX2 HS2 HB2
  obtain ⟨x30, x31⟩ := cells2 HX3.out
  obtain ⟨s3_0, s3_1, s3_2, s3_3, s3_4, s3_5, s3_6⟩ := cells7 HS3.out
  go_wp2_with fail
  refine (put_any (w.heap.size + 1 + 1) vaddr 0 big true _ (by omega) (by have := szOf_le true 0 (by omega); have := szOf_le true 4 (by omega); simp [fixedB_length] <;> omega) _ HR3.out).mono ?_
  rintro e w4 ⟨rfl, hr4, hb4⟩
  have HR4 := Lib.hid hr4
  have HX4 := Lib.hid (obj_below HX3.out hb4 (by omega))
  have HS4 := Lib.hid (obj_below HS3.out hb4 (by omega))
  have HB4 := Lib.hid (HB3.out.trans (hb4.mono (by omega)))
  clear hr4 hb4 HR3 HX3 HS3 HB3
  obtain ⟨x40, x41⟩ := cells2 HX4.out
  obtain ⟨s4_0, s4_1, s4_2, s4_3, s4_4, s4_5, s4_6⟩ := cells7 HS4.out
  go_wp2_with fail
  refine (put_any (w.heap.size + 1 + 1) paddr 0 big true _ (by omega) (by have := szOf_le true 0 (by omega); have := szOf_le true 4 (by omega); simp [fixedB_length] <;> omega) _ HR4.out).mono ?_
  rintro e w5 ⟨rfl, hr5, hb5⟩
  have HR5 := Lib.hid hr5
  have HX5 := Lib.hid (obj_below HX4.out hb5 (by omega))
  have HS5 := Lib.hid (obj_below HS4.out hb5 (by omega))
  have HB5 := Lib.hid (HB4.out.trans (hb5.mono (by omega)))
  clear hr5 hb5 HR4 HX4 HS4 HB4
  obtain ⟨x50, x51⟩ := cells2 HX5.out
  obtain ⟨s5_0, s5_1, s5_2, s5_3, s5_4, s5_5, s5_6⟩ := cells7 HS5.out
  go_wp2_with fail
  refine (put_any (w.heap.size + 1 + 1) n 0 big true _ (by omega) (by have := szOf_le true 0 (by omega); have := szOf_le true 4 (by omega); simp [fixedB_length] <;> omega) _ HR5.out).mono ?_
  rintro e w6 ⟨rfl, hr6, hb6⟩
  have HR6 := Lib.hid hr6
  have HX6 := Lib.hid (obj_below HX5.out hb6 (by omega))
  have HS6 := Lib.hid (obj_below HS5.out hb6 (by omega))
  have HB6 := Lib.hid (HB5.out.trans (hb6.mono (by omega)))
  clear hr6 hb6 HR5 HX5 HS5 HB5
  obtain ⟨x60, x61⟩ := cells2 HX6.out
  obtain ⟨s6_0, s6_1, s6_2, s6_3, s6_4, s6_5, s6_6⟩ := cells7 HS6.out
  go_wp2_with fail
  refine (put_any (w.heap.size + 1 + 1) memsz 0 big true _ (by omega) (by have := szOf_le true 0 (by omega); have := szOf_le true 4 (by omega); simp [fixedB_length] <;> omega) _ HR6.out).mono ?_
  rintro e w7 ⟨rfl, hr7, hb7⟩
  have HR7 := Lib.hid hr7
  have HX7 := Lib.hid (obj_below HX6.out hb7 (by omega))
  have HS7 := Lib.hid (obj_below HS6.out hb7 (by omega))
  have HB7 := Lib.hid (HB6.out.trans (hb7.mono (by omega)))
  clear hr7 hb7 HR6 HX6 HS6 HB6
  obtain ⟨x70, x71⟩ := cells2 HX7.out
  obtain ⟨s7_0, s7_1, s7_2, s7_3, s7_4, s7_5, s7_6⟩ := cells7 HS7.out
  go_wp2_with fail
  refine (put_any (w.heap.size + 1 + 1) align 0 big true _ (by omega) (by have := szOf_le true 0 (by omega); have := szOf_le true 4 (by omega); simp [fixedB_length] <;> omega) _ HR7.out).mono ?_
  rintro e w8 ⟨rfl, hr8, hb8⟩
  have HR8 := Lib.hid hr8
  have HX8 := Lib.hid (obj_below HX7.out hb8 (by omega))
  have HS8 := Lib.hid (obj_below HS7.out hb8 (by omega))
  have HB8 := Lib.hid (HB7.out.trans (hb8.mono (by omega)))
  clear hr8 hb8 HR7 HX7 HS7 HB7
  obtain ⟨x80, x81⟩ := cells2 HX8.out
  obtain ⟨s8_0, s8_1, s8_2, s8_3, s8_4, s8_5, s8_6⟩ := cells7 HS8.out
  obtain ⟨v, hv, hown⟩ := rowObj_end (w := w) HR8.out (by omega)
  have HE := Lib.hid hown
  clear hown
  go_wp2
  go_ret
  refine ⟨v, rfl, ?_, HB8.out⟩
  simpa [segB] using HE.out

set_option maxRecDepth 100000 in
set_option maxHeartbeats 2000000 in
theorem segmentRow_thin (big : Bool) (x2 x3 x4 x5 x6 x7 x8 : Value) (ty flags vaddr paddr memsz align n c offset : Nat) (A : Option Addr) (h1 : ty ≤ 4294967295) (h2 : flags ≤ 4294967295) (h3 : offset ≤ 4294967295) (h4 : n ≤ 4294967295) (w : World) :
    Calls Try.prog 32 #[.agg #[.bool false, .bool big, x2, x3, x4, x5, x6, x7, x8], .agg #[.int .u32 ty, .int .u32 flags, .int .u64 vaddr, .int .u64 paddr, .int .u64 memsz, .int .u64 align, .slice A n c], .int .i64 offset] w
      fun e w' => ∃ v, e = .returned v ∧ w'.ownsRow w.heap.size 5 1 v (segB false big ty flags vaddr paddr memsz align n offset).length ((segB false big ty flags vaddr paddr memsz align n offset).map Bv) ∧ Below w.heap.size w w' := by
  obtain ⟨hX, hS, hR, hB⟩ := start3 w (.cells #[.bool false, .bool big, x2, x3, x4, x5, x6, x7, x8] 46) (.cells #[.int .u32 ty, .int .u32 flags, .int .u64 vaddr, .int .u64 paddr, .int .u64 memsz, .int .u64 align, .slice A n c] 53) false big
  have HX0 := Lib.hid hX
  have HS0 := Lib.hid hS
  have HR0 := Lib.hid hR
  have HB0 := Lib.hid hB
  obtain ⟨x00, x01⟩ := cells2 HX0.out
  obtain ⟨s0_0, s0_1, s0_2, s0_3, s0_4, s0_5, s0_6⟩ := cells7 HS0.out
  clear hX hS hR hB
  go_enter Try.func32, Try.ntmps32
  go_wp2_with fail
  refine (put_any (w.heap.size + 1 + 1) ty 4 big false _ (by omega) (by have := szOf_le false 0 (by omega); have := szOf_le false 4 (by omega); simp [fixedB_length] <;> omega) _ HR0.out).mono ?_
  rintro e w1 ⟨rfl, hr1, hb1⟩
  have HR1 := Lib.hid hr1
  have HX1 := Lib.hid (obj_below HX0.out hb1 (by omega))
  have HS1 := Lib.hid (obj_below HS0.out hb1 (by omega))
  have HB1 := Lib.hid (HB0.out.trans (hb1.mono (by omega)))
  clear hr1 hb1 HR0 HX0 HS0 HB0
  obtain ⟨x10, x11⟩ := cells2 HX1.out
  obtain ⟨s1_0, s1_1, s1_2, s1_3, s1_4, s1_5, s1_6⟩ := cells7 HS1.out
  go_wp2_with fail
  refine (put_any (w.heap.size + 1 + 1) offset 0 big false _ (by omega) (by have := szOf_le false 0 (by omega); have := szOf_le false 4 (by omega); simp [fixedB_length] <;> omega) _ HR1.out).mono ?_
  rintro e w2 ⟨rfl, hr2, hb2⟩
  have HR2 := Lib.hid hr2
  have HX2 := Lib.hid (obj_below HX1.out hb2 (by omega))
  have HS2 := Lib.hid (obj_below HS1.out hb2 (by omega))
  have HB2 := Lib.hid (HB1.out.trans (hb2.mono (by omega)))
  clear hr2 hb2 HR1 HX1 HS1 HB1
  obtain ⟨x20, x21⟩ := cells2 HX2.out
  obtain ⟨s2_0, s2_1, s2_2, s2_3, s2_4, s2_5, s2_6⟩ := cells7 HS2.out
  go_wp2_with fail
  refine (put_any (w.heap.size + 1 + 1) vaddr 0 big false _ (by omega) (by have := szOf_le false 0 (by omega); have := szOf_le false 4 (by omega); simp [fixedB_length] <;> omega) _ HR2.out).mono ?_
  rintro e w3 ⟨rfl, hr3, hb3⟩
  have HR3 := Lib.hid hr3
  have HX3 := Lib.hid (obj_below HX2.out hb3 (by omega))
  have HS3 := Lib.hid (obj_below HS2.out hb3 (by omega))
  have HB3 := Lib.hid (HB2.out.trans (hb3.mono (by omega)))
  clear hr3 hb3 HR2 HX2 HS2 HB2
  obtain ⟨x30, x31⟩ := cells2 HX3.out
  obtain ⟨s3_0, s3_1, s3_2, s3_3, s3_4, s3_5, s3_6⟩ := cells7 HS3.out
  go_wp2_with fail
  refine (put_any (w.heap.size + 1 + 1) paddr 0 big false _ (by omega) (by have := szOf_le false 0 (by omega); have := szOf_le false 4 (by omega); simp [fixedB_length] <;> omega) _ HR3.out).mono ?_
  rintro e w4 ⟨rfl, hr4, hb4⟩
  have HR4 := Lib.hid hr4
  have HX4 := Lib.hid (obj_below HX3.out hb4 (by omega))
  have HS4 := Lib.hid (obj_below HS3.out hb4 (by omega))
  have HB4 := Lib.hid (HB3.out.trans (hb4.mono (by omega)))
  clear hr4 hb4 HR3 HX3 HS3 HB3
  obtain ⟨x40, x41⟩ := cells2 HX4.out
  obtain ⟨s4_0, s4_1, s4_2, s4_3, s4_4, s4_5, s4_6⟩ := cells7 HS4.out
  go_wp2_with fail
  refine (put_any (w.heap.size + 1 + 1) n 0 big false _ (by omega) (by have := szOf_le false 0 (by omega); have := szOf_le false 4 (by omega); simp [fixedB_length] <;> omega) _ HR4.out).mono ?_
  rintro e w5 ⟨rfl, hr5, hb5⟩
  have HR5 := Lib.hid hr5
  have HX5 := Lib.hid (obj_below HX4.out hb5 (by omega))
  have HS5 := Lib.hid (obj_below HS4.out hb5 (by omega))
  have HB5 := Lib.hid (HB4.out.trans (hb5.mono (by omega)))
  clear hr5 hb5 HR4 HX4 HS4 HB4
  obtain ⟨x50, x51⟩ := cells2 HX5.out
  obtain ⟨s5_0, s5_1, s5_2, s5_3, s5_4, s5_5, s5_6⟩ := cells7 HS5.out
  go_wp2_with fail
  refine (put_any (w.heap.size + 1 + 1) memsz 0 big false _ (by omega) (by have := szOf_le false 0 (by omega); have := szOf_le false 4 (by omega); simp [fixedB_length] <;> omega) _ HR5.out).mono ?_
  rintro e w6 ⟨rfl, hr6, hb6⟩
  have HR6 := Lib.hid hr6
  have HX6 := Lib.hid (obj_below HX5.out hb6 (by omega))
  have HS6 := Lib.hid (obj_below HS5.out hb6 (by omega))
  have HB6 := Lib.hid (HB5.out.trans (hb6.mono (by omega)))
  clear hr6 hb6 HR5 HX5 HS5 HB5
  obtain ⟨x60, x61⟩ := cells2 HX6.out
  obtain ⟨s6_0, s6_1, s6_2, s6_3, s6_4, s6_5, s6_6⟩ := cells7 HS6.out
  go_wp2_with fail
  refine (put_any (w.heap.size + 1 + 1) flags 4 big false _ (by omega) (by have := szOf_le false 0 (by omega); have := szOf_le false 4 (by omega); simp [fixedB_length] <;> omega) _ HR6.out).mono ?_
  rintro e w7 ⟨rfl, hr7, hb7⟩
  have HR7 := Lib.hid hr7
  have HX7 := Lib.hid (obj_below HX6.out hb7 (by omega))
  have HS7 := Lib.hid (obj_below HS6.out hb7 (by omega))
  have HB7 := Lib.hid (HB6.out.trans (hb7.mono (by omega)))
  clear hr7 hb7 HR6 HX6 HS6 HB6
  obtain ⟨x70, x71⟩ := cells2 HX7.out
  obtain ⟨s7_0, s7_1, s7_2, s7_3, s7_4, s7_5, s7_6⟩ := cells7 HS7.out
  go_wp2_with fail
  refine (put_any (w.heap.size + 1 + 1) align 0 big false _ (by omega) (by have := szOf_le false 0 (by omega); have := szOf_le false 4 (by omega); simp [fixedB_length] <;> omega) _ HR7.out).mono ?_
  rintro e w8 ⟨rfl, hr8, hb8⟩
  have HR8 := Lib.hid hr8
  have HX8 := Lib.hid (obj_below HX7.out hb8 (by omega))
  have HS8 := Lib.hid (obj_below HS7.out hb8 (by omega))
  have HB8 := Lib.hid (HB7.out.trans (hb8.mono (by omega)))
  clear hr8 hb8 HR7 HX7 HS7 HB7
  obtain ⟨x80, x81⟩ := cells2 HX8.out
  obtain ⟨s8_0, s8_1, s8_2, s8_3, s8_4, s8_5, s8_6⟩ := cells7 HS8.out
  obtain ⟨v, hv, hown⟩ := rowObj_end (w := w) HR8.out (by omega)
  have HE := Lib.hid hown
  clear hown
  go_wp2
  go_ret
  refine ⟨v, rfl, ?_, HB8.out⟩
  simpa [segB] using HE.out
end Go.Proofs.Ytlgigipjgahecaa
