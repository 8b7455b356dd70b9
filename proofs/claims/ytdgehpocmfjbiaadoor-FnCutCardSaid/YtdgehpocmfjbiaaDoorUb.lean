/- The contract of spec.Fits. · The contract of spec.SegmentRow: a program header, laid out. · The contracts of spec.Size and spec.SectionRow: a section  -/
import Derived.Test.YtdgehpocmfjbiaaDoorUa
import Derived.OrdersHeld
import Derived.Deep.RegionHeld3
import Derived.LoopN
import Derived.Deep.OwnRows
set_option linter.unusedVariables false
set_option linter.unusedSimpArgs false
set_option maxRecDepth 100000
set_option maxHeartbeats 2000000
namespace Go.Proofs.YtdgehpocmfjbiaaDoor
open Go.RowKit
attribute [local go_sem ↓] Go.wp_at_zero Go.wp_at_succ

def lV (wide : Bool) (l : List Nat) : Bool := wide || l.all fun n => decide (n < 4294967296)
theorem fits_any (wide : Bool) (x1 x2 x3 x4 x5 x6 x7 x8 : Value) (l : List Nat) (A : Option Addr) (n c : Nat) (hn : n = l.length) (hb : n ≤ 4294967296) (w : World) (hr : Row w A (l.map fun (n : Nat) => Value.int .u64 (n : Int))) :
  Calls Tryd.prog 52 #[.agg #[.bool wide, x1, x2, x3, x4, x5, x6, x7, x8], .slice A n c] w fun e w' => e = .returned (.bool (lV wide l)) ∧ Below w.heap.size w w' := by
 have HN := Lib.hid hn
 clear hn
 have hw1 : Row (w.alloc (.cells #[.bool wide, x1, x2, x3, x4, x5, x6, x7, x8] 26)) A (l.map fun (n : Nat) => Value.int .u64 (n : Int)) := hr.below ((Below.refl _ _).alloc (Nat.le_refl _) _)
 have HR := Lib.hid hw1
 clear hw1 hr
 go_enter Tryd.func52, Tryd.ntmps52
 go_wp2
 go_loop [6, 9] (fun v i => ∃ k : Nat, k ≤ n ∧ i = .int .i64 k ∧ Hid (lV wide (l.take k) = true)) (fun _ i => n - (intOf i).toNat)
 case atStart => exact ⟨0, Nat.zero_le _, rfl, Lib.hid (by simp [lV])⟩
 case round =>
  obtain ⟨k, hk, rfl, HK⟩ := hrel
  by_cases hlt : k < n
  ·obtain ⟨b, off, rfl, hcell⟩ := HR.out.at_ (i := k) (by rw [List.length_map]; have := HN.out; omega)
   obtain ⟨m, hm⟩ : ∃ m, l[k]'(by have := HN.out; omega) = m := ⟨_, rfl⟩
   rw [List.getElem_map, hm] at hcell
   have hs : lV wide (l.take (k + 1)) = (lV wide (l.take k) && (wide || decide (m < 4294967296))) := by
    rw [List.take_succ_eq_append_getElem (by have := HN.out; omega), hm]
    unfold lV
    cases wide <;> simp
   have hf : (wide || decide (m < 4294967296)) = false → lV wide l = false := fun h => by
    unfold lV
    have hw : wide = false := by cases wide <;> simp_all
    subst hw
    simp only [Bool.false_or, decide_eq_false_iff_not] at h ⊢
    rw [List.all_eq_false]
    exact ⟨m, by rw [← hm]; exact List.getElem_mem _, by simpa using h⟩
   have HM := Lib.hid hm
   have HS := Lib.hid hs
   have HF := Lib.hid hf
   clear hm hs hf
   cases wide with
   | true =>
    have HK2 : Hid (lV true (l.take (k + 1)) = true) := Lib.hid (by rw [HS.out, HK.out]; rfl)
    go_wp2
    go_round
    case rel => exact ⟨k + 1, by omega, by go_num, HK2⟩
    case measure => simp [intOf]; omega
   | false =>
    by_cases hm2 : m < 4294967296
    ·have HK2 : Hid (lV false (l.take (k + 1)) = true) := Lib.hid (by rw [HS.out, HK.out]; simpa using hm2)
     have hm3 : decide ((4294967296 : Int) ≤ (m : Int)) = false := by rw [decide_eq_false_iff_not]; omega
     clear hm2
     go_wp2
     go_round
     case rel => exact ⟨k + 1, by omega, by go_num, HK2⟩
     case measure => simp [intOf]; omega
    ·have HE : Hid (lV false l = false) := Lib.hid (HF.out (by simpa using hm2))
     have hm3 : (4294967296 : Int) ≤ (m : Int) := by omega
     clear hm2
     go_wp2
     go_ret
     exact ⟨by rw [HE.out]; rfl, (Below.refl _ _).alloc (Nat.le_refl _) _⟩
  ·have HE : Hid (lV wide l = true) := Lib.hid (by
    have := HK.out
    rw [List.take_of_length_le (by have := HN.out; omega)] at this
    exact this)
   go_wp2
   go_ret
   exact ⟨by rw [HE.out]; rfl, (Below.refl _ _).alloc (Nat.le_refl _) _⟩
end Go.Proofs.YtdgehpocmfjbiaaDoor
namespace Go.Proofs.YtdgehpocmfjbiaaDoor
open Go.RowKit
set_option linter.unusedSimpArgs false

def qI (wide big : Bool) (ty flags bJ bK bP align n offset : Nat) : List UInt8 :=
 if wide then dS ty (jT true 4) big ++ dS flags (jT true 4) big ++ dS offset (jT true 0) big ++ dS bJ (jT true 0) big ++ dS bK (jT true 0) big ++ dS n (jT true 0) big ++ dS bP (jT true 0) big ++ dS align (jT true 0) big
 else dS ty (jT false 4) big ++ dS offset (jT false 0) big ++ dS bJ (jT false 0) big ++ dS bK (jT false 0) big ++ dS n (jT false 0) big ++ dS bP (jT false 0) big ++ dS flags (jT false 4) big ++ dS align (jT false 0) big

theorem DX (big : Bool) (x2 x3 x4 x5 x6 x7 x8 : Value) (ty flags bJ bK bP align n c offset : Nat) (A : Option Addr) (h1 : ty ≤ 4294967295) (h2 : flags ≤ 4294967295) (h3 : offset ≤ 4294967295) (h4 : n ≤ 4294967295) (w : World) :
  Calls Tryd.prog 67 #[.agg #[.bool true, .bool big, x2, x3, x4, x5, x6, x7, x8], .agg #[.int .u32 ty, .int .u32 flags, .int .u64 bJ, .int .u64 bK, .int .u64 bP, .int .u64 align, .slice A n c], .int .i64 offset] w
   fun e w' => ∃ v, e = .returned v ∧ w'.ownsRow w.heap.size 5 1 v (qI true big ty flags bJ bK bP align n offset).length ((qI true big ty flags bJ bK bP align n offset).map Bv) ∧ Below w.heap.size w w' := by
 obtain ⟨hX, hS, hR, hB⟩ := start3 w (.cells #[.bool true, .bool big, x2, x3, x4, x5, x6, x7, x8] 26) (.cells #[.int .u32 ty, .int .u32 flags, .int .u64 bJ, .int .u64 bK, .int .u64 bP, .int .u64 align, .slice A n c] 57) true big
 have HX0 := Lib.hid hX
 have Cm := Lib.hid hS
 have HR0 := Lib.hid hR
 have HB0 := Lib.hid hB
 obtain ⟨x00, x01⟩ := cells2 HX0.out
 obtain ⟨s0_0, s0_1, s0_2, s0_3, s0_4, s0_5, s0_6⟩ := mD Cm.out
 clear hX hS hR hB
 go_enter Tryd.func67, Tryd.ntmps67
 go_wp2_with fail
 refine (put_any (w.heap.size + 1 + 1) ty 4 big true _ (by omega) (by have := bQ true 0 (by omega); have := bQ true 4 (by omega); simp [bM] <;> omega) _ HR0.out).mono ?_
 rintro e w1 ⟨rfl, hr1, hb1⟩
 have HR1 := Lib.hid hr1
 have B_ := Lib.hid (bY HX0.out hb1 (by omega))
 have Cj := Lib.hid (bY Cm.out hb1 (by omega))
 have HB1 := Lib.hid (HB0.out.trans (hb1.mono (by omega)))
 clear hr1 hb1 HR0 HX0 Cm HB0
 obtain ⟨x10, x11⟩ := cells2 B_.out
 obtain ⟨s1_0, s1_1, s1_2, s1_3, s1_4, s1_5, s1_6⟩ := mD Cj.out
 go_wp2_with fail
 refine (put_any (w.heap.size + 1 + 1) flags 4 big true _ (by omega) (by have := bQ true 0 (by omega); have := bQ true 4 (by omega); simp [bM] <;> omega) _ HR1.out).mono ?_
 rintro e w2 ⟨rfl, hr2, hb2⟩
 have HR2 := Lib.hid hr2
 have BZ := Lib.hid (bY B_.out hb2 (by omega))
 have HS2 := Lib.hid (bY Cj.out hb2 (by omega))
 have HB2 := Lib.hid (HB1.out.trans (hb2.mono (by omega)))
 clear hr2 hb2 HR1 B_ Cj HB1
 obtain ⟨x20, x21⟩ := cells2 BZ.out
 obtain ⟨s2_0, s2_1, s2_2, s2_3, s2_4, s2_5, s2_6⟩ := mD HS2.out
 go_wp2_with fail
 refine (put_any (w.heap.size + 1 + 1) offset 0 big true _ (by omega) (by have := bQ true 0 (by omega); have := bQ true 4 (by omega); simp [bM] <;> omega) _ HR2.out).mono ?_
 rintro e w3 ⟨rfl, hr3, hb3⟩
 have HR3 := Lib.hid hr3
 have BX := Lib.hid (bY BZ.out hb3 (by omega))
 have Ci := Lib.hid (bY HS2.out hb3 (by omega))
 have HB3 := Lib.hid (HB2.out.trans (hb3.mono (by omega)))
 clear hr3 hb3 HR2 BZ HS2 HB2
 obtain ⟨x30, x31⟩ := cells2 BX.out
 obtain ⟨s3_0, s3_1, s3_2, s3_3, s3_4, s3_5, s3_6⟩ := mD Ci.out
 go_wp2_with fail
 refine (put_any (w.heap.size + 1 + 1) bJ 0 big true _ (by omega) (by have := bQ true 0 (by omega); have := bQ true 4 (by omega); simp [bM] <;> omega) _ HR3.out).mono ?_
 rintro e w4 ⟨rfl, hr4, hb4⟩
 have HR4 := Lib.hid hr4
 have BU := Lib.hid (bY BX.out hb4 (by omega))
 have Ce := Lib.hid (bY Ci.out hb4 (by omega))
 have HB4 := Lib.hid (HB3.out.trans (hb4.mono (by omega)))
 clear hr4 hb4 HR3 BX Ci HB3
 obtain ⟨x40, x41⟩ := cells2 BU.out
 obtain ⟨s4_0, s4_1, s4_2, s4_3, s4_4, s4_5, s4_6⟩ := mD Ce.out
 go_wp2_with fail
 refine (put_any (w.heap.size + 1 + 1) bK 0 big true _ (by omega) (by have := bQ true 0 (by omega); have := bQ true 4 (by omega); simp [bM] <;> omega) _ HR4.out).mono ?_
 rintro e w5 ⟨rfl, FM, hb5⟩
 have FY := Lib.hid FM
 have AB := Lib.hid (bY BU.out hb5 (by omega))
 have AL := Lib.hid (bY Ce.out hb5 (by omega))
 have EG := Lib.hid (HB4.out.trans (hb5.mono (by omega)))
 clear FM hb5 HR4 BU Ce HB4
 obtain ⟨x50, x51⟩ := cells2 AB.out
 obtain ⟨s5_0, s5_1, s5_2, s5_3, s5_4, s5_5, s5_6⟩ := mD AL.out
 go_wp2_with fail
 refine (put_any (w.heap.size + 1 + 1) n 0 big true _ (by omega) (by have := bQ true 0 (by omega); have := bQ true 4 (by omega); simp [bM] <;> omega) _ FY.out).mono ?_
 rintro e w6 ⟨rfl, FK, hb6⟩
 have FX := Lib.hid FK
 have BR := Lib.hid (bY AB.out hb6 (by omega))
 have Cc := Lib.hid (bY AL.out hb6 (by omega))
 have F5 := Lib.hid (EG.out.trans (hb6.mono (by omega)))
 clear FK hb6 FY AB AL EG
 obtain ⟨x60, x61⟩ := cells2 BR.out
 obtain ⟨s6_0, s6_1, s6_2, s6_3, s6_4, s6_5, s6_6⟩ := mD Cc.out
 go_wp2_with fail
 refine (put_any (w.heap.size + 1 + 1) bP 0 big true _ (by omega) (by have := bQ true 0 (by omega); have := bQ true 4 (by omega); simp [bM] <;> omega) _ FX.out).mono ?_
 rintro e w7 ⟨rfl, FI, hb7⟩
 have FW := Lib.hid FI
 have BQ := Lib.hid (bY BR.out hb7 (by omega))
 have Cb := Lib.hid (bY Cc.out hb7 (by omega))
 have FZ := Lib.hid (F5.out.trans (hb7.mono (by omega)))
 clear FI hb7 FX BR Cc F5
 obtain ⟨x70, x71⟩ := cells2 BQ.out
 obtain ⟨s7_0, s7_1, s7_2, s7_3, s7_4, s7_5, s7_6⟩ := mD Cb.out
 go_wp2_with fail
 refine (put_any (w.heap.size + 1 + 1) align 0 big true _ (by omega) (by have := bQ true 0 (by omega); have := bQ true 4 (by omega); simp [bM] <;> omega) _ FW.out).mono ?_
 rintro e w8 ⟨rfl, FH, hb8⟩
 have JI := Lib.hid FH
 have Iw := Lib.hid (bY BQ.out hb8 (by omega))
 have Iy := Lib.hid (bY Cb.out hb8 (by omega))
 have JJ := Lib.hid (FZ.out.trans (hb8.mono (by omega)))
 clear FH hb8 FW BQ Cb FZ
 obtain ⟨x80, x81⟩ := cells2 Iw.out
 obtain ⟨s8_0, s8_1, s8_2, s8_3, s8_4, s8_5, s8_6⟩ := mD Iy.out
 obtain ⟨v, hv, hown⟩ := zq (w := w) JI.out (by omega)
 have HE := Lib.hid hown
 clear hown
 go_wp2
 go_ret
 refine ⟨v, rfl, ?_, JJ.out⟩
 simpa [qI] using HE.out

theorem DY (big : Bool) (x2 x3 x4 x5 x6 x7 x8 : Value) (ty flags bJ bK bP align n c offset : Nat) (A : Option Addr) (h1 : ty ≤ 4294967295) (h2 : flags ≤ 4294967295) (h3 : offset ≤ 4294967295) (h4 : n ≤ 4294967295) (w : World) :
  Calls Tryd.prog 67 #[.agg #[.bool false, .bool big, x2, x3, x4, x5, x6, x7, x8], .agg #[.int .u32 ty, .int .u32 flags, .int .u64 bJ, .int .u64 bK, .int .u64 bP, .int .u64 align, .slice A n c], .int .i64 offset] w
   fun e w' => ∃ v, e = .returned v ∧ w'.ownsRow w.heap.size 5 1 v (qI false big ty flags bJ bK bP align n offset).length ((qI false big ty flags bJ bK bP align n offset).map Bv) ∧ Below w.heap.size w w' := by
 obtain ⟨hX, hS, hR, hB⟩ := start3 w (.cells #[.bool false, .bool big, x2, x3, x4, x5, x6, x7, x8] 26) (.cells #[.int .u32 ty, .int .u32 flags, .int .u64 bJ, .int .u64 bK, .int .u64 bP, .int .u64 align, .slice A n c] 57) false big
 have HX0 := Lib.hid hX
 have Cm := Lib.hid hS
 have HR0 := Lib.hid hR
 have HB0 := Lib.hid hB
 obtain ⟨x00, x01⟩ := cells2 HX0.out
 obtain ⟨s0_0, s0_1, s0_2, s0_3, s0_4, s0_5, s0_6⟩ := mD Cm.out
 clear hX hS hR hB
 go_enter Tryd.func67, Tryd.ntmps67
 go_wp2_with fail
 refine (put_any (w.heap.size + 1 + 1) ty 4 big false _ (by omega) (by have := bQ false 0 (by omega); have := bQ false 4 (by omega); simp [bM] <;> omega) _ HR0.out).mono ?_
 rintro e w1 ⟨rfl, hr1, hb1⟩
 have HR1 := Lib.hid hr1
 have B_ := Lib.hid (bY HX0.out hb1 (by omega))
 have Cj := Lib.hid (bY Cm.out hb1 (by omega))
 have HB1 := Lib.hid (HB0.out.trans (hb1.mono (by omega)))
 clear hr1 hb1 HR0 HX0 Cm HB0
 obtain ⟨x10, x11⟩ := cells2 B_.out
 obtain ⟨s1_0, s1_1, s1_2, s1_3, s1_4, s1_5, s1_6⟩ := mD Cj.out
 go_wp2_with fail
 refine (put_any (w.heap.size + 1 + 1) offset 0 big false _ (by omega) (by have := bQ false 0 (by omega); have := bQ false 4 (by omega); simp [bM] <;> omega) _ HR1.out).mono ?_
 rintro e w2 ⟨rfl, hr2, hb2⟩
 have HR2 := Lib.hid hr2
 have BZ := Lib.hid (bY B_.out hb2 (by omega))
 have HS2 := Lib.hid (bY Cj.out hb2 (by omega))
 have HB2 := Lib.hid (HB1.out.trans (hb2.mono (by omega)))
 clear hr2 hb2 HR1 B_ Cj HB1
 obtain ⟨x20, x21⟩ := cells2 BZ.out
 obtain ⟨s2_0, s2_1, s2_2, s2_3, s2_4, s2_5, s2_6⟩ := mD HS2.out
 go_wp2_with fail
 refine (put_any (w.heap.size + 1 + 1) bJ 0 big false _ (by omega) (by have := bQ false 0 (by omega); have := bQ false 4 (by omega); simp [bM] <;> omega) _ HR2.out).mono ?_
 rintro e w3 ⟨rfl, hr3, hb3⟩
 have HR3 := Lib.hid hr3
 have BX := Lib.hid (bY BZ.out hb3 (by omega))
 have Ci := Lib.hid (bY HS2.out hb3 (by omega))
 have HB3 := Lib.hid (HB2.out.trans (hb3.mono (by omega)))
 clear hr3 hb3 HR2 BZ HS2 HB2
 obtain ⟨x30, x31⟩ := cells2 BX.out
 obtain ⟨s3_0, s3_1, s3_2, s3_3, s3_4, s3_5, s3_6⟩ := mD Ci.out
 go_wp2_with fail
 refine (put_any (w.heap.size + 1 + 1) bK 0 big false _ (by omega) (by have := bQ false 0 (by omega); have := bQ false 4 (by omega); simp [bM] <;> omega) _ HR3.out).mono ?_
 rintro e w4 ⟨rfl, hr4, hb4⟩
 have HR4 := Lib.hid hr4
 have BU := Lib.hid (bY BX.out hb4 (by omega))
 have Ce := Lib.hid (bY Ci.out hb4 (by omega))
 have HB4 := Lib.hid (HB3.out.trans (hb4.mono (by omega)))
 clear hr4 hb4 HR3 BX Ci HB3
 obtain ⟨x40, x41⟩ := cells2 BU.out
 obtain ⟨s4_0, s4_1, s4_2, s4_3, s4_4, s4_5, s4_6⟩ := mD Ce.out
 go_wp2_with fail
 refine (put_any (w.heap.size + 1 + 1) n 0 big false _ (by omega) (by have := bQ false 0 (by omega); have := bQ false 4 (by omega); simp [bM] <;> omega) _ HR4.out).mono ?_
 rintro e w5 ⟨rfl, FM, hb5⟩
 have FY := Lib.hid FM
 have AB := Lib.hid (bY BU.out hb5 (by omega))
 have AL := Lib.hid (bY Ce.out hb5 (by omega))
 have EG := Lib.hid (HB4.out.trans (hb5.mono (by omega)))
 clear FM hb5 HR4 BU Ce HB4
 obtain ⟨x50, x51⟩ := cells2 AB.out
 obtain ⟨s5_0, s5_1, s5_2, s5_3, s5_4, s5_5, s5_6⟩ := mD AL.out
 go_wp2_with fail
 refine (put_any (w.heap.size + 1 + 1) bP 0 big false _ (by omega) (by have := bQ false 0 (by omega); have := bQ false 4 (by omega); simp [bM] <;> omega) _ FY.out).mono ?_
 rintro e w6 ⟨rfl, FK, hb6⟩
 have FX := Lib.hid FK
 have BR := Lib.hid (bY AB.out hb6 (by omega))
 have Cc := Lib.hid (bY AL.out hb6 (by omega))
 have F5 := Lib.hid (EG.out.trans (hb6.mono (by omega)))
 clear FK hb6 FY AB AL EG
 obtain ⟨x60, x61⟩ := cells2 BR.out
 obtain ⟨s6_0, s6_1, s6_2, s6_3, s6_4, s6_5, s6_6⟩ := mD Cc.out
 go_wp2_with fail
 refine (put_any (w.heap.size + 1 + 1) flags 4 big false _ (by omega) (by have := bQ false 0 (by omega); have := bQ false 4 (by omega); simp [bM] <;> omega) _ FX.out).mono ?_
 rintro e w7 ⟨rfl, FI, hb7⟩
 have FW := Lib.hid FI
 have BQ := Lib.hid (bY BR.out hb7 (by omega))
 have Cb := Lib.hid (bY Cc.out hb7 (by omega))
 have FZ := Lib.hid (F5.out.trans (hb7.mono (by omega)))
 clear FI hb7 FX BR Cc F5
 obtain ⟨x70, x71⟩ := cells2 BQ.out
 obtain ⟨s7_0, s7_1, s7_2, s7_3, s7_4, s7_5, s7_6⟩ := mD Cb.out
 go_wp2_with fail
 refine (put_any (w.heap.size + 1 + 1) align 0 big false _ (by omega) (by have := bQ false 0 (by omega); have := bQ false 4 (by omega); simp [bM] <;> omega) _ FW.out).mono ?_
 rintro e w8 ⟨rfl, FH, hb8⟩
 have JI := Lib.hid FH
 have Iw := Lib.hid (bY BQ.out hb8 (by omega))
 have Iy := Lib.hid (bY Cb.out hb8 (by omega))
 have JJ := Lib.hid (FZ.out.trans (hb8.mono (by omega)))
 clear FH hb8 FW BQ Cb FZ
 obtain ⟨x80, x81⟩ := cells2 Iw.out
 obtain ⟨s8_0, s8_1, s8_2, s8_3, s8_4, s8_5, s8_6⟩ := mD Iy.out
 obtain ⟨v, hv, hown⟩ := zq (w := w) JI.out (by omega)
 have HE := Lib.hid hown
 clear hown
 go_wp2
 go_ret
 refine ⟨v, rfl, ?_, JJ.out⟩
 simpa [qI] using HE.out
end Go.Proofs.YtdgehpocmfjbiaaDoor
namespace Go.Proofs.YtdgehpocmfjbiaaDoor
open Go.RowKit
set_option linter.unusedSimpArgs false

def qF (ty size n : Nat) : Nat := if ty = 8 then size else n
theorem size_any (nm : ByteArray) (ty flags addr link info align ent size n c : Nat) (A : Option Addr) (h4 : n ≤ 4294967295) (w : World) :
  Calls Tryd.prog 39 #[.agg #[.string nm, .int .u32 ty, .int .u32 flags, .int .u64 addr, .int .u32 link, .int .u32 info, .int .u64 align, .int .u64 ent, .int .u64 size, .slice A n c]] w fun e w' => e = .returned (.int .u64 (qF ty size n)) ∧ Below w.heap.size w w' := by
 by_cases h : ty = 8
 ·subst h
  have e : qF 8 size n = size := if_pos rfl
  rw [e]
  clear e
  go_enter Tryd.func39, Tryd.ntmps39
  go_wp2
  go_ret
  exact ⟨rfl, (Below.refl _ _).alloc (Nat.le_refl _) _⟩
 ·have e : qF ty size n = n := if_neg h
  rw [e]
  clear e
  have hb : ((ty : Int) == 8) = false := by rw [beq_eq_false_iff_ne]; omega
  go_enter Tryd.func39, Tryd.ntmps39
  go_wp2
  go_ret
  exact ⟨rfl, (Below.refl _ _).alloc (Nat.le_refl _) _⟩

def sU (wide big : Bool) (name ty flags addr offset size link info align ent : Nat) : List UInt8 :=
 dS name (jT wide 4) big ++ dS ty (jT wide 4) big ++ dS flags (jT wide 0) big ++ dS addr (jT wide 0) big ++ dS offset (jT wide 0) big ++ dS size (jT wide 0) big ++ dS link (jT wide 4) big ++ dS info (jT wide 4) big ++ dS align (jT wide 0) big ++ dS ent (jT wide 0) big

theorem EJ (wide big : Bool) (x2 x3 x4 x5 x6 x7 x8 : Value) (name : Nat) (nm : ByteArray) (ty flags addr link info align ent size n c offset : Nat) (A : Option Addr) (h0 : name ≤ 4294967295) (h1 : ty ≤ 4294967295) (h2 : flags ≤ 4294967295) (h3 : offset ≤ 4294967295) (h4 : n ≤ 4294967295) (h5 : link ≤ 4294967295) (h6 : info ≤ 4294967295) (w : World) :
  Calls Tryd.prog 68 #[.agg #[.bool wide, .bool big, x2, x3, x4, x5, x6, x7, x8], .int .i64 name, .agg #[.string nm, .int .u32 ty, .int .u32 flags, .int .u64 addr, .int .u32 link, .int .u32 info, .int .u64 align, .int .u64 ent, .int .u64 size, .slice A n c], .int .i64 offset] w
   fun e w' => ∃ v, e = .returned v ∧ w'.ownsRow w.heap.size 5 1 v (sU wide big name ty flags addr offset (qF ty size n) link info align ent).length ((sU wide big name ty flags addr offset (qF ty size n) link info align ent).map Bv) ∧ Below w.heap.size w w' := by
 obtain ⟨hX, hS, hR, hB⟩ := start3 w (.cells #[.bool wide, .bool big, x2, x3, x4, x5, x6, x7, x8] 26) (.cells #[.string nm, .int .u32 ty, .int .u32 flags, .int .u64 addr, .int .u32 link, .int .u32 info, .int .u64 align, .int .u64 ent, .int .u64 size, .slice A n c] 46) wide big
 have HX0 := Lib.hid hX
 have Cm := Lib.hid hS
 have HR0 := Lib.hid hR
 have HB0 := Lib.hid hB
 obtain ⟨x00, x01⟩ := cells2 HX0.out
 obtain ⟨s0_0, s0_1, s0_2, s0_3, s0_4, s0_5, s0_6, s0_7, s0_8, s0_9⟩ := o8 Cm.out
 clear hX hS hR hB
 go_enter Tryd.func68, Tryd.ntmps68
 go_wp2_with fail
 refine (put_any (w.heap.size + 1 + 1) name 4 big wide _ (by omega) (by have := bQ wide 0 (by omega); have := bQ wide 4 (by omega); simp [bM] <;> omega) _ HR0.out).mono ?_
 rintro e w1 ⟨rfl, hr1, hb1⟩
 have HR1 := Lib.hid hr1
 have B_ := Lib.hid (bY HX0.out hb1 (by omega))
 have Cj := Lib.hid (bY Cm.out hb1 (by omega))
 have HB1 := Lib.hid (HB0.out.trans (hb1.mono (by omega)))
 clear hr1 hb1 HR0 HX0 Cm HB0
 obtain ⟨x10, x11⟩ := cells2 B_.out
 obtain ⟨s1_0, s1_1, s1_2, s1_3, s1_4, s1_5, s1_6, s1_7, s1_8, s1_9⟩ := o8 Cj.out
 go_wp2_with fail
 refine (put_any (w.heap.size + 1 + 1) ty 4 big wide _ (by omega) (by have := bQ wide 0 (by omega); have := bQ wide 4 (by omega); simp [bM] <;> omega) _ HR1.out).mono ?_
 rintro e w2 ⟨rfl, hr2, hb2⟩
 have HR2 := Lib.hid hr2
 have BZ := Lib.hid (bY B_.out hb2 (by omega))
 have HS2 := Lib.hid (bY Cj.out hb2 (by omega))
 have HB2 := Lib.hid (HB1.out.trans (hb2.mono (by omega)))
 clear hr2 hb2 HR1 B_ Cj HB1
 obtain ⟨x20, x21⟩ := cells2 BZ.out
 obtain ⟨s2_0, s2_1, s2_2, s2_3, s2_4, s2_5, s2_6, s2_7, s2_8, s2_9⟩ := o8 HS2.out
 go_wp2_with fail
 refine (put_any (w.heap.size + 1 + 1) flags 0 big wide _ (by omega) (by have := bQ wide 0 (by omega); have := bQ wide 4 (by omega); simp [bM] <;> omega) _ HR2.out).mono ?_
 rintro e w3 ⟨rfl, hr3, hb3⟩
 have HR3 := Lib.hid hr3
 have BX := Lib.hid (bY BZ.out hb3 (by omega))
 have Ci := Lib.hid (bY HS2.out hb3 (by omega))
 have HB3 := Lib.hid (HB2.out.trans (hb3.mono (by omega)))
 clear hr3 hb3 HR2 BZ HS2 HB2
 obtain ⟨x30, x31⟩ := cells2 BX.out
 obtain ⟨s3_0, s3_1, s3_2, s3_3, s3_4, s3_5, s3_6, s3_7, s3_8, s3_9⟩ := o8 Ci.out
 go_wp2_with fail
 refine (put_any (w.heap.size + 1 + 1) addr 0 big wide _ (by omega) (by have := bQ wide 0 (by omega); have := bQ wide 4 (by omega); simp [bM] <;> omega) _ HR3.out).mono ?_
 rintro e w4 ⟨rfl, hr4, hb4⟩
 have HR4 := Lib.hid hr4
 have BU := Lib.hid (bY BX.out hb4 (by omega))
 have Ce := Lib.hid (bY Ci.out hb4 (by omega))
 have HB4 := Lib.hid (HB3.out.trans (hb4.mono (by omega)))
 clear hr4 hb4 HR3 BX Ci HB3
 obtain ⟨x40, x41⟩ := cells2 BU.out
 obtain ⟨s4_0, s4_1, s4_2, s4_3, s4_4, s4_5, s4_6, s4_7, s4_8, s4_9⟩ := o8 Ce.out
 go_wp2_with fail
 refine (put_any (w.heap.size + 1 + 1) offset 0 big wide _ (by omega) (by have := bQ wide 0 (by omega); have := bQ wide 4 (by omega); simp [bM] <;> omega) _ HR4.out).mono ?_
 rintro e w5 ⟨rfl, FM, hb5⟩
 have FY := Lib.hid FM
 have AB := Lib.hid (bY BU.out hb5 (by omega))
 have AL := Lib.hid (bY Ce.out hb5 (by omega))
 have EG := Lib.hid (HB4.out.trans (hb5.mono (by omega)))
 clear FM hb5 HR4 BU Ce HB4
 obtain ⟨x50, x51⟩ := cells2 AB.out
 obtain ⟨s5_0, s5_1, s5_2, s5_3, s5_4, s5_5, s5_6, s5_7, s5_8, s5_9⟩ := o8 AL.out
 go_wp2_with fail
 refine (size_any nm ty flags addr link info align ent size n c A h4 _).mono ?_
 rintro e wz ⟨rfl, hbz⟩
 obtain ⟨z, hz⟩ : ∃ z, qF ty size n = z := ⟨_, rfl⟩
 rw [hz]
 have HZ := Lib.hid hz
 have HR5z := Lib.hid (FY.out.below hbz)
 have HX5z := Lib.hid (bY AB.out hbz (uX AB.out))
 have HS5z := Lib.hid (bY AL.out hbz (uX AL.out))
 have HB5z := Lib.hid (EG.out.trans (hbz.mono EG.out.size))
 clear hz hbz FY AB AL EG
 go_wp2_with fail
 refine (put_any (w.heap.size + 1 + 1) z 0 big wide _ (by omega) (by have := bQ wide 0 (by omega); have := bQ wide 4 (by omega); simp [bM] <;> omega) _ HR5z.out).mono ?_
 rintro e w6 ⟨rfl, FK, hb6⟩
 have FX := Lib.hid FK
 have BR := Lib.hid (bY HX5z.out hb6 (by omega))
 have Cc := Lib.hid (bY HS5z.out hb6 (by omega))
 have F5 := Lib.hid (HB5z.out.trans (hb6.mono (by omega)))
 clear FK hb6 HR5z HX5z HS5z HB5z
 obtain ⟨x60, x61⟩ := cells2 BR.out
 obtain ⟨s6_0, s6_1, s6_2, s6_3, s6_4, s6_5, s6_6, s6_7, s6_8, s6_9⟩ := o8 Cc.out
 go_wp2_with fail
 refine (put_any (w.heap.size + 1 + 1) link 4 big wide _ (by omega) (by have := bQ wide 0 (by omega); have := bQ wide 4 (by omega); simp [bM] <;> omega) _ FX.out).mono ?_
 rintro e w7 ⟨rfl, FI, hb7⟩
 have FW := Lib.hid FI
 have BQ := Lib.hid (bY BR.out hb7 (by omega))
 have Cb := Lib.hid (bY Cc.out hb7 (by omega))
 have FZ := Lib.hid (F5.out.trans (hb7.mono (by omega)))
 clear FI hb7 FX BR Cc F5
 obtain ⟨x70, x71⟩ := cells2 BQ.out
 obtain ⟨s7_0, s7_1, s7_2, s7_3, s7_4, s7_5, s7_6, s7_7, s7_8, s7_9⟩ := o8 Cb.out
 go_wp2_with fail
 refine (put_any (w.heap.size + 1 + 1) info 4 big wide _ (by omega) (by have := bQ wide 0 (by omega); have := bQ wide 4 (by omega); simp [bM] <;> omega) _ FW.out).mono ?_
 rintro e w8 ⟨rfl, FH, hb8⟩
 have JI := Lib.hid FH
 have Iw := Lib.hid (bY BQ.out hb8 (by omega))
 have Iy := Lib.hid (bY Cb.out hb8 (by omega))
 have JJ := Lib.hid (FZ.out.trans (hb8.mono (by omega)))
 clear FH hb8 FW BQ Cb FZ
 obtain ⟨x80, x81⟩ := cells2 Iw.out
 obtain ⟨s8_0, s8_1, s8_2, s8_3, s8_4, s8_5, s8_6, s8_7, s8_8, s8_9⟩ := o8 Iy.out
 go_wp2_with fail
 refine (put_any (w.heap.size + 1 + 1) align 0 big wide _ (by omega) (by have := bQ wide 0 (by omega); have := bQ wide 4 (by omega); simp [bM] <;> omega) _ JI.out).mono ?_
 rintro e w9 ⟨rfl, hr9, hb9⟩
 have HR9 := Lib.hid hr9
 have HX9 := Lib.hid (bY Iw.out hb9 (by omega))
 have HS9 := Lib.hid (bY Iy.out hb9 (by omega))
 have HB9 := Lib.hid (JJ.out.trans (hb9.mono (by omega)))
 clear hr9 hb9 JI Iw Iy JJ
 obtain ⟨x90, x91⟩ := cells2 HX9.out
 obtain ⟨s9_0, s9_1, s9_2, s9_3, s9_4, s9_5, s9_6, s9_7, s9_8, s9_9⟩ := o8 HS9.out
 go_wp2_with fail
 refine (put_any (w.heap.size + 1 + 1) ent 0 big wide _ (by omega) (by have := bQ wide 0 (by omega); have := bQ wide 4 (by omega); simp [bM] <;> omega) _ HR9.out).mono ?_
 rintro e w10 ⟨rfl, hr10, KF⟩
 have HR10 := Lib.hid hr10
 have HX10 := Lib.hid (bY HX9.out KF (by omega))
 have HS10 := Lib.hid (bY HS9.out KF (by omega))
 have HB10 := Lib.hid (HB9.out.trans (KF.mono (by omega)))
 clear hr10 KF HR9 HX9 HS9 HB9
 obtain ⟨x100, x101⟩ := cells2 HX10.out
 obtain ⟨s10_0, s10_1, s10_2, s10_3, s10_4, s10_5, s10_6, s10_7, s10_8, s10_9⟩ := o8 HS10.out
 obtain ⟨v, hv, hown⟩ := zq (w := w) HR10.out (by omega)
 have HE := Lib.hid hown
 clear hown
 go_wp2
 go_ret
 refine ⟨v, rfl, ?_, HB10.out⟩
 rw [HZ.out]
 simpa [sU] using HE.out
end Go.Proofs.YtdgehpocmfjbiaaDoor
namespace Go.Proofs.YtdgehpocmfjbiaaDoor
open Go.RowKit
set_option linter.unusedSimpArgs false
attribute [local go_sem ↓] Go.wp_at_zero Go.wp_at_succ

end Go.Proofs.YtdgehpocmfjbiaaDoor
namespace Go.Proofs.YtdgehpocmfjbiaaDoor
open Go.RowKit

theorem Na (a b c : List UInt8) (n k : Nat) (hn : a.length = n) (hk : b.length = k) : ((a ++ (b ++ c)).drop n).take k = b := by
 rw [List.drop_left' hn, List.take_left' hk]
theorem J8 (n k : Nat) (big : Bool) (h : n < 256 ^ k) : jO big (dS n k big) = n := by rw [I5, Nat.mod_eq_of_lt h]

section
variable (big : Bool) (name info other sec value size : Nat)
end
end Go.Proofs.YtdgehpocmfjbiaaDoor
namespace Go.Proofs.YtdgehpocmfjbiaaDoor
open Go.RowKit

structure Seg where
 ty : Nat
 flags : Nat
 bJ : Nat
 bK : Nat
 bP : Nat
 align : Nat
 data : List UInt8

structure Part where
 name : List UInt8
 ty : Nat
 flags : Nat
 addr : Nat
 link : Nat
 info : Nat
 align : Nat
 ent : Nat
 size : Nat
 data : List UInt8

structure dG where
 wide : Bool
 big : Bool
 abi : Nat
 aC : Nat
 ty : Nat
 machine : Nat
 entry : Nat
 cZ : List Seg
 parts : List Part

/-- names, each with a zero behind it, behind a zero -/
def dn (l : List (List UInt8)) : List UInt8 := 0 :: l.flatMap (· ++ [0])
/-- where name i begins -/
def nameAt (l : List (List UInt8)) (i : Nat) : Nat := (dn (l.take i)).length
theorem Ja (l : List (List UInt8)) (s : List UInt8) : dn (l ++ [s]) = dn l ++ s ++ [0] := by simp [dn]
theorem I_ (l : List (List UInt8)) (i : Nat) (h : i < l.length) : dn (l.take (i + 1)) = dn (l.take i) ++ l[i] ++ [0] := by
 rw [List.take_succ_eq_append_getElem h, Ja]
theorem wX (l : List (List UInt8)) (i : Nat) (h : i < l.length) : ∃ r, dn l = dn (l.take i) ++ (l[i] ++ 0 :: r) := by
 refine ⟨(l.drop (i + 1)).flatMap (· ++ [0]), ?_⟩
 have e : l = l.take i ++ (l[i] :: l.drop (i + 1)) := by rw [← List.drop_eq_getElem_cons h, List.take_append_drop]
 have : dn l = dn (l.take i ++ (l[i] :: l.drop (i + 1))) := by rw [← e]
 rw [this]
 unfold dn
 rw [List.flatMap_append, List.flatMap_cons, List.append_assoc, List.cons_append]
 rfl
/-- a name is read at its place -/
theorem Ku (l : List (List UInt8)) (i : Nat) (h : i < l.length) (h0 : 0 ∉ l[i]) : mg (dn l) (nameAt l i) = some l[i] := by
 obtain ⟨r, e⟩ := wX l i h
 unfold mg nameAt
 rw [e, List.drop_left, Ip _ _ h0]
theorem L6 (l : List (List UInt8)) (i : Nat) (h : i < l.length) : nameAt l i < (dn l).length := by
 obtain ⟨r, e⟩ := wX l i h
 unfold nameAt
 rw [e]
 simp only [List.length_append, List.length_cons]
 omega

def uK : Part := ⟨[], 0, 0, 0, 0, 0, 0, 0, 0, []⟩
/-- '.OJ -/
def vI : List UInt8 := [46, 115, 104, 115, 116, 114, 116, 97, 98]
def dG.firsts (x : dG) : List Part := uK :: x.parts
def dG.names (x : dG) : List (List UInt8) := x.firsts.map (·.name) ++ [vI]
def dG.CJ (x : dG) : Part := ⟨vI, 3, 0, 0, 0, 0, 1, 0, 0, dn x.names⟩
/-- the sections of a file -/
def dG.all (x : dG) : List Part := x.firsts ++ [x.CJ]
def lW (p : Part) : List UInt8 := if p.ty = 8 then [] else p.data
def rX (p : Part) : Nat := qF p.ty p.size p.data.length
def fB (wide : Bool) : Nat := if wide then 64 else 52
def gI (wide : Bool) : Nat := if wide then 56 else 32
def gQ (wide : Bool) : Nat := if wide then 64 else 40
def dG.at0 (x : dG) : Nat := fB x.wide + gI x.wide * x.cZ.length
def dG.kY (x : dG) : List UInt8 := x.cZ.flatMap (·.data)
def dG.lX (x : dG) : List UInt8 := x.all.flatMap lW
def dG.jI (x : dG) (i : Nat) : Nat := x.at0 + ((x.cZ.take i).flatMap (·.data)).length
def dG.iL (x : dG) (i : Nat) : Nat := if i = 0 then 0 else x.at0 + x.kY.length + ((x.all.take i).flatMap lW).length
def dG.kJ (x : dG) : Nat := x.at0 + (x.kY ++ x.lX).length
/-- where a section's name begins (that of the none section: 0) -/
def dG.jS (x : dG) (i : Nat) : Nat := if i = 0 then 0 else nameAt x.names i
def dG.n_ (x : dG) (i : Nat) (s : Seg) : List UInt8 := qI x.wide x.big s.ty s.flags s.bJ s.bK s.bP s.align s.data.length (x.jI i)
def dG.mO (x : dG) (i : Nat) (p : Part) : List UInt8 := sU x.wide x.big (x.jS i) p.ty p.flags p.addr (x.iL i) (rX p) p.link p.info p.align p.ent
/-- rows, laid behind each other, each with its number -/
def dQ {α : Type} (f : Nat → α → List UInt8) : Nat → List α → List UInt8
 | _, [] => []
 | i, a :: l => f i a ++ dQ f (i + 1) l
theorem sV {α : Type} (f : Nat → α → List UInt8) : ∀ (i : Nat) (a b : List α), dQ f i (a ++ b) = dQ f i a ++ dQ f (i + a.length) b
 | i, [], b => by simp [dQ]
 | i, x :: a, b => by
  simp only [List.cons_append, dQ, sV f (i + 1) a b, List.append_assoc, List.length_cons]
  rw [show i + 1 + a.length = i + (a.length + 1) by omega]
theorem Ar {α : Type} (f : Nat → α → List UInt8) (l : List α) (i : Nat) (h : i < l.length) : dQ f 0 (l.take (i + 1)) = dQ f 0 (l.take i) ++ f i l[i] := by
 rw [List.take_succ_eq_append_getElem h, sV]
 have : 0 + (l.take i).length = i := by simp; omega
 rw [this]
 simp [dQ]
theorem lD {α : Type} (f : Nat → α → List UInt8) (k : Nat) : ∀ (l : List α) (i : Nat), (∀ j a, a ∈ l → (f j a).length = k) → (dQ f i l).length = l.length * k
 | [], i, _ => by simp [dQ]
 | x :: l, i, h => by
  simp only [dQ, List.length_append, List.length_cons]
  rw [h i x (by simp), lD f k l (i + 1) fun j a ha => h j a (by simp [ha]), Nat.succ_mul, Nat.add_comm]
/-- row i, out of rows of one length -/
theorem Au {α : Type} (f : Nat → α → List UInt8) (k : Nat) (l : List α) (h : ∀ j a, a ∈ l → (f j a).length = k) (i : Nat) (hi : i < l.length) : ∃ r, (dQ f 0 l).drop (i * k) = f i l[i] ++ r := by
 have e : l = l.take i ++ (l[i] :: l.drop (i + 1)) := by rw [← List.drop_eq_getElem_cons hi, List.take_append_drop]
 have h1 : dQ f 0 l = dQ f 0 (l.take i) ++ (f i l[i] ++ dQ f (i + 1) (l.drop (i + 1))) := by
  have : dQ f 0 l = dQ f 0 (l.take i ++ (l[i] :: l.drop (i + 1))) := by rw [← e]
  rw [this, sV]
  have : 0 + (l.take i).length = i := by simp; omega
  rw [this]
  rfl
 have h2 : (dQ f 0 (l.take i)).length = i * k := by
  rw [lD f k _ 0 fun j a ha => h j a (List.mem_of_mem_take ha)]
  congr 1
  simp; omega
 exact ⟨_, by rw [h1, List.drop_left' h2]⟩

def headB (wide big : Bool) (abi aC ty machine entry n at_ m from_ : Nat) : List UInt8 :=
 [127, 69, 76, 70, if wide then 2 else 1, if big then 2 else 1, 1, UInt8.ofNat abi, UInt8.ofNat aC] ++ List.replicate 7 0 ++
 dS ty 2 big ++ dS machine 2 big ++ dS 1 4 big ++ dS entry (jT wide 0) big ++ dS at_ (jT wide 0) big ++ dS from_ (jT wide 0) big ++ dS 0 4 big ++
 dS (fB wide) 2 big ++ dS (gI wide) 2 big ++ dS n 2 big ++ dS (gQ wide) 2 big ++ dS m 2 big ++ dS (m - 1) 2 big
def dG.head (x : dG) : List UInt8 := headB x.wide x.big x.abi x.aC x.ty x.machine x.entry x.cZ.length (fB x.wide) x.all.length x.kJ
/-- the bytes of a file -/
def dG.file (x : dG) : List UInt8 := x.head ++ dQ x.n_ 0 x.cZ ++ (x.kY ++ x.lX) ++ dQ x.mO 0 x.all

theorem qO (wide big : Bool) (abi aC ty machine entry n at_ m from_ : Nat) : (headB wide big abi aC ty machine entry n at_ m from_).length = fB wide := by
 cases wide <;> simp [headB, bM, jT, fB]
theorem qw (wide big : Bool) (ty flags bJ bK bP align n offset : Nat) : (qI wide big ty flags bJ bK bP align n offset).length = gI wide := by
 cases wide <;> simp [qI, bM, jT, gI]
theorem qx (wide big : Bool) (name ty flags addr offset size link info align ent : Nat) : (sU wide big name ty flags addr offset size link info align ent).length = gQ wide := by
 cases wide <;> simp [sU, bM, jT, gQ]
theorem dG.qW (x : dG) : (dQ x.n_ 0 x.cZ).length = gI x.wide * x.cZ.length := by
 rw [lD x.n_ (gI x.wide) _ _ fun j a _ => qw .., Nat.mul_comm]
theorem dG.yK (x : dG) : (dQ x.mO 0 x.all).length = x.all.length * gQ x.wide :=
 lD x.mO (gQ x.wide) _ _ fun j a _ => qx ..
theorem dG.yF (x : dG) : x.file.length = x.kJ + x.all.length * gQ x.wide := by
 unfold dG.file dG.kJ dG.at0
 simp only [List.length_append, dG.qW, dG.yK]
 rw [show x.head.length = fB x.wide from qO ..]
theorem dG.MB (x : dG) : x.file.drop (fB x.wide) = dQ x.n_ 0 x.cZ ++ ((x.kY ++ x.lX) ++ dQ x.mO 0 x.all) := by
 have e : x.file = x.head ++ (dQ x.n_ 0 x.cZ ++ ((x.kY ++ x.lX) ++ dQ x.mO 0 x.all)) := by simp [dG.file]
 rw [e, List.drop_left' (show x.head.length = fB x.wide from qO ..)]
theorem dG.Nv (x : dG) : x.file.drop x.at0 = (x.kY ++ x.lX) ++ dQ x.mO 0 x.all := by
 have e : x.file = (x.head ++ dQ x.n_ 0 x.cZ) ++ ((x.kY ++ x.lX) ++ dQ x.mO 0 x.all) := by simp [dG.file]
 rw [e, List.drop_left']
 rw [List.length_append, dG.qW]
 exact congrArg (· + _) (qO ..)
theorem dG.KL (x : dG) : x.file.drop x.kJ = dQ x.mO 0 x.all := by
 have e : x.file = (x.head ++ dQ x.n_ 0 x.cZ ++ (x.kY ++ x.lX)) ++ dQ x.mO 0 x.all := by simp [dG.file]
 rw [e, List.drop_left']
 unfold dG.kJ dG.at0
 rw [List.length_append, List.length_append, dG.qW]
 exact congrArg (· + _ + _) (qO ..)
theorem dG.K_ (x : dG) : ∃ r, x.file = x.head ++ r := ⟨_, by unfold dG.file; rw [List.append_assoc, List.append_assoc]⟩

theorem Og {α : Type} (f : α → List UInt8) (l : List α) (i : Nat) (h : i < l.length) : ∃ r, (l.flatMap f).drop ((l.take i).flatMap f).length = f l[i] ++ r := by
 have e : l = l.take i ++ (l[i] :: l.drop (i + 1)) := by rw [← List.drop_eq_getElem_cons h, List.take_append_drop]
 have : l.flatMap f = (l.take i).flatMap f ++ (f l[i] ++ (l.drop (i + 1)).flatMap f) := by
  have : l.flatMap f = (l.take i ++ (l[i] :: l.drop (i + 1))).flatMap f := by rw [← e]
  rw [this, List.flatMap_append, List.flatMap_cons]
 exact ⟨_, by rw [this, List.drop_left]⟩
theorem yQ {α : Type} (f : α → List UInt8) (l : List α) (i : Nat) : ((l.take i).flatMap f).length ≤ (l.flatMap f).length := by
 have : l.flatMap f = (l.take i).flatMap f ++ (l.drop i).flatMap f := by rw [← List.flatMap_append, List.take_append_drop]
 rw [this]; simp
/-- the bytes of section i -/
theorem dG.Oq (x : dG) (i : Nat) (hi : 0 < i) (h : i < x.all.length) : ∃ r, x.file.drop (x.iL i) = lW x.all[i] ++ r := by
 obtain ⟨r, e⟩ := Og lW x.all i h
 have h1 : x.lX.drop ((x.all.take i).flatMap lW).length = lW x.all[i] ++ r := e
 unfold dG.iL
 rw [if_neg (by omega), ← List.drop_drop, ← List.drop_drop, dG.Nv, List.append_assoc, List.drop_left, List.drop_append_of_le_length (show _ ≤ x.lX.length from yQ _ _ _), h1, List.append_assoc]
 exact ⟨_, rfl⟩
end Go.Proofs.YtdgehpocmfjbiaaDoor
namespace Go.Proofs.YtdgehpocmfjbiaaDoor
open Go.RowKit

/-- the number of k bytes at a place of l -/
def num (big : Bool) (l : List UInt8) (off k : Nat) : Nat := jO big ((l.drop off).take k)
theorem fF (big : Bool) (l : List UInt8) (a off k : Nat) : num big (l.drop a) off k = num big l (a + off) k := by unfold num; rw [List.drop_drop]
def fieldsB (big : Bool) (fs : List (Nat × Nat)) : List UInt8 := fs.flatMap fun f => dS f.1 f.2 big
def MX (fs : List (Nat × Nat)) (j : Nat) : Nat := ((fs.take j).map (·.2)).sum
theorem fieldsB_length (big : Bool) : ∀ fs : List (Nat × Nat), (fieldsB big fs).length = (fs.map (·.2)).sum
 | [] => rfl
 | f :: fs => by
  have := fieldsB_length big fs
  simp only [fieldsB] at this
  simp [fieldsB, bM, this]
theorem DJ (big : Bool) (fs : List (Nat × Nat)) (r : List UInt8) (j v k off : Nat) (h : fs[j]? = some (v, k)) (hv : v < 256 ^ k) (ho : off = MX fs j) : num big (fieldsB big fs ++ r) off k = v := by
 obtain ⟨hj, e⟩ := List.getElem?_eq_some_iff.1 h
 have e2 : fs = fs.take j ++ (fs[j] :: fs.drop (j + 1)) := by rw [← List.drop_eq_getElem_cons hj, List.take_append_drop]
 have e3 : fieldsB big fs ++ r = fieldsB big (fs.take j) ++ (dS v k big ++ (fieldsB big (fs.drop (j + 1)) ++ r)) := by
  have : fieldsB big fs = fieldsB big (fs.take j ++ (fs[j] :: fs.drop (j + 1))) := by rw [← e2]
  rw [this, e]
  simp [fieldsB]
 unfold num
 rw [e3, ho, Na _ _ _ _ _ (by rw [fieldsB_length]; rfl) (bM _ _ _), J8 _ _ _ hv]
theorem Ii (big : Bool) (p : List UInt8) (n : Nat) (hp : p.length = n) (fs : List (Nat × Nat)) (r : List UInt8) (j v k off : Nat) (h : fs[j]? = some (v, k)) (hv : v < 256 ^ k) (ho : off = n + MX fs j) : num big (p ++ (fieldsB big fs ++ r)) off k = v := by
 have := DJ big fs r j v k (MX fs j) h hv rfl
 rw [← this, ho]
 unfold num
 rw [← List.drop_drop, List.drop_left' hp]

def g_ (wide : Bool) : Nat := if wide then 8 else 4
def MK (wide : Bool) (ty flags bJ bK bP align n offset : Nat) : List (Nat × Nat) :=
 if wide then [(ty, 4), (flags, 4), (offset, 8), (bJ, 8), (bK, 8), (n, 8), (bP, 8), (align, 8)] else [(ty, 4), (offset, 4), (bJ, 4), (bK, 4), (n, 4), (bP, 4), (flags, 4), (align, 4)]
theorem IV (wide big : Bool) (ty flags bJ bK bP align n offset : Nat) : qI wide big ty flags bJ bK bP align n offset = fieldsB big (MK wide ty flags bJ bK bP align n offset) := by
 cases wide <;> simp [qI, MK, fieldsB, jT]
def ML (wide : Bool) (name ty flags addr offset size link info align ent : Nat) : List (Nat × Nat) :=
 [(name, 4), (ty, 4), (flags, g_ wide), (addr, g_ wide), (offset, g_ wide), (size, g_ wide), (link, 4), (info, 4), (align, g_ wide), (ent, g_ wide)]
theorem IY (wide big : Bool) (name ty flags addr offset size link info align ent : Nat) : sU wide big name ty flags addr offset size link info align ent = fieldsB big (ML wide name ty flags addr offset size link info align ent) := by
 cases wide <;> simp [sU, ML, fieldsB, jT, g_]
def Gs (wide : Bool) (ty machine entry n at_ m from_ : Nat) : List (Nat × Nat) :=
 [(ty, 2), (machine, 2), (1, 4), (entry, g_ wide), (at_, g_ wide), (from_, g_ wide), (0, 4), (fB wide, 2), (gI wide, 2), (n, 2), (gQ wide, 2), (m, 2), (m - 1, 2)]
def rU (wide big : Bool) (abi aC : Nat) : List UInt8 := [127, 69, 76, 70, if wide then 2 else 1, if big then 2 else 1, 1, UInt8.ofNat abi, UInt8.ofNat aC, 0, 0, 0, 0, 0, 0, 0]
theorem H8 (wide big : Bool) (abi aC ty machine entry n at_ m from_ : Nat) : headB wide big abi aC ty machine entry n at_ m from_ = rU wide big abi aC ++ fieldsB big (Gs wide ty machine entry n at_ m from_) := by
 cases wide <;> simp [headB, Gs, rU, fieldsB, jT, g_]

/-- what the head of a file tells -/
structure yU (l : List UInt8) (wide big : Bool) (abi aC aQ aF ay ak aj au ah : Nat) : Prop where
 len : fB wide ≤ l.length
 id : ∃ r, l = rU wide big abi aC ++ r
 ty : num big l 16 2 = aQ
 machine : num big l 18 2 = aF
 ver : num big l 20 4 = 1
 entry : num big l 24 (g_ wide) = ay
 J5 : num big l (24 + g_ wide) (g_ wide) = ak
 kJ : num big l (24 + 2 * g_ wide) (g_ wide) = au
 J7 : num big l (30 + 3 * g_ wide) 2 = gI wide
 J6 : num big l (32 + 3 * g_ wide) 2 = aj
 JX : num big l (34 + 3 * g_ wide) 2 = gQ wide
 JW : num big l (36 + 3 * g_ wide) 2 = ah
 vI : num big l (38 + 3 * g_ wide) 2 = ah - 1
theorem Oe (wide big : Bool) (abi aC ty machine entry n at_ m from_ : Nat) (r : List UInt8) (h1 : ty < 65536) (h2 : machine < 65536) (h3 : entry < 256 ^ g_ wide) (h4 : at_ < 256 ^ g_ wide) (h5 : from_ < 256 ^ g_ wide) (h6 : n < 65536) (h7 : m < 65536) :
  yU (headB wide big abi aC ty machine entry n at_ m from_ ++ r) wide big abi aC ty machine entry at_ n from_ m := by
 rw [H8, List.append_assoc]
 have k := fun j v s off h hv ho => Ii big (rU wide big abi aC) 16 rfl (Gs wide ty machine entry n at_ m from_) r j v s off h hv ho
 have p2 : (256 : Nat) ^ 2 = 65536 := rfl
 have p4 : (256 : Nat) ^ 4 = 4294967296 := rfl
 refine ⟨?_, ⟨_, rfl⟩, ?_, ?_, ?_, ?_, ?_, ?_, ?_, ?_, ?_, ?_, ?_⟩
 ·rw [List.length_append, List.length_append, fieldsB_length]
  cases wide <;> simp [rU, Gs, fB, g_] <;> omega
 ·exact k 0 _ _ _ rfl (by omega) rfl
 ·exact k 1 _ _ _ rfl (by omega) rfl
 ·exact k 2 _ _ _ rfl (by omega) rfl
 ·exact k 3 _ _ _ rfl h3 rfl
 ·exact k 4 _ _ _ rfl h4 (by cases wide <;> rfl)
 ·exact k 5 _ _ _ rfl h5 (by cases wide <;> rfl)
 ·exact k 8 _ _ _ rfl (by cases wide <;> decide) (by cases wide <;> rfl)
 ·exact k 9 _ _ _ rfl (by omega) (by cases wide <;> rfl)
 ·exact k 10 _ _ _ rfl (by cases wide <;> decide) (by cases wide <;> rfl)
 ·exact k 11 _ _ _ rfl (by omega) (by cases wide <;> rfl)
 ·exact k 12 _ _ _ rfl (by omega) (by cases wide <;> rfl)

/-- what the row of a segment tells -/
structure uG (l : List UInt8) (wide big : Bool) (ty flags bJ bK bP align n offset : Nat) : Prop where
 ty : num big l 0 4 = ty
 flags : num big l (if wide then 4 else 24) 4 = flags
 off : num big l (g_ wide) (g_ wide) = offset
 bJ : num big l (2 * g_ wide) (g_ wide) = bJ
 bK : num big l (3 * g_ wide) (g_ wide) = bK
 Md : num big l (4 * g_ wide) (g_ wide) = n
 bP : num big l (5 * g_ wide) (g_ wide) = bP
 align : num big l (if wide then 48 else 28) (g_ wide) = align
theorem Om (wide big : Bool) (ty flags bJ bK bP align n offset : Nat) (r : List UInt8) (h1 : ty < 4294967296) (h2 : flags < 4294967296) (h3 : bJ < 256 ^ g_ wide) (h4 : bK < 256 ^ g_ wide) (h5 : bP < 256 ^ g_ wide) (h6 : align < 256 ^ g_ wide) (h7 : n < 256 ^ g_ wide) (h8 : offset < 256 ^ g_ wide) :
  uG (qI wide big ty flags bJ bK bP align n offset ++ r) wide big ty flags bJ bK bP align n offset := by
 rw [IV]
 have k := fun j v s off h hv ho => DJ big (MK wide ty flags bJ bK bP align n offset) r j v s off h hv ho
 have p4 : (256 : Nat) ^ 4 = 4294967296 := rfl
 cases wide
 ·exact ⟨k 0 _ _ _ rfl (by omega) rfl, k 6 _ _ _ rfl (by omega) rfl, k 1 _ _ _ rfl h8 rfl, k 2 _ _ _ rfl h3 rfl, k 3 _ _ _ rfl h4 rfl, k 4 _ _ _ rfl h7 rfl, k 5 _ _ _ rfl h5 rfl, k 7 _ _ _ rfl h6 rfl⟩
 ·exact ⟨k 0 _ _ _ rfl (by omega) rfl, k 1 _ _ _ rfl (by omega) rfl, k 2 _ _ _ rfl h8 rfl, k 3 _ _ _ rfl h3 rfl, k 4 _ _ _ rfl h4 rfl, k 5 _ _ _ rfl h7 rfl, k 6 _ _ _ rfl h5 rfl, k 7 _ _ _ rfl h6 rfl⟩

/-- what the row of a section tells -/
structure uH (l : List UInt8) (wide big : Bool) (name ty flags addr offset size link info align ent : Nat) : Prop where
 name : num big l 0 4 = name
 ty : num big l 4 4 = ty
 flags : num big l 8 (g_ wide) = flags
 addr : num big l (8 + g_ wide) (g_ wide) = addr
 off : num big l (8 + 2 * g_ wide) (g_ wide) = offset
 size : num big l (8 + 3 * g_ wide) (g_ wide) = size
 link : num big l (8 + 4 * g_ wide) 4 = link
 info : num big l (12 + 4 * g_ wide) 4 = info
 align : num big l (16 + 4 * g_ wide) (g_ wide) = align
 ent : num big l (16 + 5 * g_ wide) (g_ wide) = ent
theorem Oo (wide big : Bool) (name ty flags addr offset size link info align ent : Nat) (r : List UInt8) (h0 : name < 4294967296) (h1 : ty < 4294967296) (h2 : flags < 4294967296) (h3 : addr < 256 ^ g_ wide) (h4 : offset < 256 ^ g_ wide) (h5 : size < 256 ^ g_ wide) (h6 : link < 4294967296) (h7 : info < 4294967296) (h8 : align < 256 ^ g_ wide) (h9 : ent < 256 ^ g_ wide) :
  uH (sU wide big name ty flags addr offset size link info align ent ++ r) wide big name ty flags addr offset size link info align ent := by
 rw [IY]
 have k := fun j v s off h hv ho => DJ big (ML wide name ty flags addr offset size link info align ent) r j v s off h hv ho
 have p4 : (256 : Nat) ^ 4 = 4294967296 := rfl
 have h2' : flags < 256 ^ g_ wide := by
  cases wide
  ·exact h2
  ·exact Nat.lt_trans h2 (by decide)
 refine ⟨k 0 _ _ _ rfl (by omega) rfl, k 1 _ _ _ rfl (by omega) rfl, k 2 _ _ _ rfl h2' rfl, k 3 _ _ _ rfl h3 ?_, k 4 _ _ _ rfl h4 ?_, k 5 _ _ _ rfl h5 ?_, k 6 _ _ _ rfl (by omega) ?_, k 7 _ _ _ rfl (by omega) ?_, k 8 _ _ _ rfl h8 ?_, k 9 _ _ _ rfl h9 ?_⟩ <;> (cases wide <;> rfl)
end Go.Proofs.YtdgehpocmfjbiaaDoor
namespace Go.Proofs.YtdgehpocmfjbiaaDoor
open Go.RowKit

theorem bZ {p : Prop} [Decidable p] (h : ¬ p) : decide p = false := by simpa using h
theorem dM {p : Prop} [Decidable p] (h : p) : decide p = true := by simpa using h

theorem take_len (l : List UInt8) (off k : Nat) (h : off + k ≤ l.length) : (((l.drop off).take k).map Bv).length = k := by simp only [List.length_map, List.length_take, List.length_drop]; omega
theorem src_of {w : World} {b o : Nat} {l : List UInt8} (hr : Row w (some ⟨b, o, none⟩) (l.map Bv)) (off k : Nat) (h : off + k ≤ l.length) :
  ∀ j v, (((l.drop off).take k).map Bv)[j]? = some v → w.cell? ((⟨b, o + off, none⟩ : Addr).add j) = some v := by
 intro j v hv
 rw [addr_add, Nat.add_assoc]
 rw [List.getElem?_map, List.getElem?_take] at hv
 split at hv
 ·rw [List.getElem?_drop] at hv
  obtain ⟨x, hx, rfl⟩ := Option.map_eq_some_iff.1 hv
  obtain ⟨b2, o2, e, hc⟩ := hr (off + j) (Bv x) (by rw [List.getElem?_map, hx]; rfl)
  injection e with e
  injection e with e1 e2
  subst e1 e2
  exact hc
 ·simp at hv

abbrev jy := fun (b : Nat) (o : Nat) (n : Nat) (c : Nat) (g : Nat) (m : Nat) (mc : Nat) (off : Nat) => ([(0, .slice (some ⟨b, o, none⟩) n c), (1, aH g m mc), (2, aA (off : Nat))] : Slots)
theorem rQ (l : List UInt8) (b o n c : Nat) (hl : n = l.length) (hnc : n ≤ c) (g : Nat) (cs : Array Value) (t : TypeId) (m mc : Nat) (hm : cs.size = m) (off : Nat) (h0 : off < n) (ho : off + m ≤ n) (w0 : World) (hr : Row w0 (some ⟨b, o, none⟩) (l.map Bv)) (hbg : b ≠ g) (hg : w0.heap[g]? = some (.cells cs t (0, 0))) :
  Calls Tryd.prog 127 #[.slice (some ⟨b, o, none⟩) n c, aH g m mc, aA (off : Nat)] w0 fun e w' => e = .returned (.tuple #[aB m, .nilIface]) ∧ Keep [g] w0 w' ∧ w'.heap[g]? = some (.cells (((l.drop off).take m).map Bv).toArray t (0, 0)) := by
 obtain ⟨i0, hi0, hs0⟩ := qV
 have hA : ∀ b' o' s', (some (⟨b, o, none⟩ : Addr)) = some ⟨b', o', s'⟩ → b' ∉ [g] := by intro b' o' s' e; injection e with e; injection e with e; subst e; simpa using hbg
 obtain ⟨w, hw⟩ : ∃ w, w0 = w := ⟨_, rfl⟩
 have HM : Mm [g] w0 w [(g, .cells cs t (0, 0))] := hw ▸ Mm.uU hg
 conv => arg 4; rw [hw]
 clear hw
 refine bV Tryd.func127 rfl Tryd.ntmps127 (jy b o n c g m mc off) (by kernel_rfl) (Nat.le_of_ble_eq_true rfl) ?_
 intro a HF
 refine bC HF HM rfl [] ((jy b o n c g m mc off) ++ [(6, aA 0), (7, .nilIface)]) [(g, .cells cs t (0, 0))] (by kernel_rfl) fun a w HF HM => ?_
 refine wp_seq ?_
 refine aW ?_
 refine aO HF HM rfl 2 [] ((jy b o n c g m mc off) ++ [(6, aA 0), (7, .nilIface), (10, .bool (decide (((off : Nat) : Int) < 0)))]) [(g, .cells cs t (0, 0))] (by kernel_rfl) fun a w HF HM => ?_
 rw [show decide (((off : Nat) : Int) < 0) = false from bZ (by omega)] at HF
 refine aO HF HM rfl 5 [] ((jy b o n c g m mc off) ++ [(6, aA 0), (7, .nilIface), (11, .bool false), (15, .bool (decide (((n : Nat) : Int) ≤ ((off : Nat) : Int))))]) [(g, .cells cs t (0, 0))] (by kernel_rfl) fun a w HF HM => ?_
 rw [show decide (((n : Nat) : Int) ≤ ((off : Nat) : Int)) = false from bZ (by omega)] at HF
 refine aO HF HM rfl 1 [] ((jy b o n c g m mc off) ++ [(6, aA 0), (7, .nilIface), (16, .bool false)]) [(g, .cells cs t (0, 0))] (by kernel_rfl) fun a w HF HM => ?_
 refine aI ?_
 refine bf HF rfl ?_
 refine wp_skip ?_
 repeat first | refine aS ?_ | refine aU ?_
 replace HF := HF.sub ((jy b o n c g m mc off) ++ [(6, aA 0), (7, .nilIface)]) (by kernel_rfl)
 refine aW ?_
 refine aO HF HM rfl 3 [] ((jy b o n c g m mc off) ++ [(6, aA 0), (7, .nilIface), (18, aH g m mc), (19, .slice (some ⟨b, o, none⟩) n c), (20, aA (off : Nat))]) [(g, .cells cs t (0, 0))] (by kernel_rfl) fun a w HF HM => ?_
 refine dP HF (by kernel_rfl) (.slice (some ⟨b, o + off, none⟩) (n - off) (c - off)) (by kernel_rfl) (zn (t := 178) Tryd.underlying178 hi0 hs0 rfl off (kk := .i64) rfl rfl (by omega) hnc (by omega) w) ?_
 clear HF; intro a HF; replace HF := HF.sub ((jy b o n c g m mc off) ++ [(6, aA 0), (7, .nilIface), (18, aH g m mc), (19, .slice (some ⟨b, o, none⟩) n c), (20, aA (off : Nat)), (21, .slice (some ⟨b, o + off, none⟩) (n - off) (c - off))]) (by kernel_rfl)
 have hsrc := src_of (HM.row hr hA) off m (by omega)
 refine Jg HF HM rfl _ _ 33 178 rfl rfl 5 Tryd.underlying33 (by rw [hi0]; exact congrArg some hs0) g m mc ⟨b, o + off, none⟩ (n - off) (c - off) rfl rfl 0 cs t rfl (((l.drop off).take m).map Bv) (by rw [take_len _ _ _ (by omega)]; exact (Nat.min_eq_right (by omega)).symm) hsrc (by simp only [List.length_map, List.length_take, List.length_drop]; omega) (qp _) fun a w HM HF => ?_
 rw [show (((l.drop off).take m).map Bv).length = m by simp only [List.length_map, List.length_take, List.length_drop]; omega] at HF HM
 simp only [List.set_cons_zero] at HM
 refine aO HF HM rfl 1 [] ((jy b o n c g m mc off) ++ [(6, aA 0), (7, .nilIface), (8, aB m)]) [(g, .cells (((l.drop off).take m).map Bv ++ cs.toList.drop m).toArray t (0, 0))] (by kernel_rfl) fun a w HF HM => ?_
 refine aI ?_
 refine wp_seq ?_
 refine aW ?_
 refine aO HF HM rfl 4 [] ((jy b o n c g m mc off) ++ [(6, aA 0), (7, .nilIface), (8, aB m), (26, .bool (decide (((m : Nat) : Int) < ((m : Nat) : Int))))]) [(g, .cells (((l.drop off).take m).map Bv ++ cs.toList.drop m).toArray t (0, 0))] (by kernel_rfl) fun a w HF HM => ?_
 rw [show decide (((m : Nat) : Int) < ((m : Nat) : Int)) = false from bZ (by omega)] at HF
 refine aI ?_
 refine bf HF rfl ?_
 refine wp_skip ?_
 repeat first | refine aS ?_ | refine aU ?_
 replace HF := HF.sub ((jy b o n c g m mc off) ++ [(6, aA 0), (7, .nilIface), (8, aB m)]) (by kernel_rfl)
 refine bC HF HM rfl [] ((jy b o n c g m mc off) ++ [(8, aB m), (6, aB m), (7, .nilIface)]) [(g, .cells (((l.drop off).take m).map Bv ++ cs.toList.drop m).toArray t (0, 0))] (by kernel_rfl) fun a w HF HM => ?_
 refine wp_ret ?_
 have hd : cs.toList.drop m = [] := List.drop_eq_nil_of_le (by simp [hm])
 rw [hd, List.append_nil] at HM
 exact h_ HF rfl rfl rfl ⟨rfl, HM.keep, HM.get (i := 0) rfl⟩

theorem pJ {P : Program} {id : Nat} {y : Code} {Q : Exit → Act → World → Prop} {a : Act} {w : World} {l : List Oper} (hm : P.follows .mixedOrders = true) (hB : Region.lexB .any l.toArray = true)
  (h : wpQuiet P l.toArray (fun w' => ∃ n, w' = w.drewN n) (fun a' => ∀ w', (∃ n, w' = w.drewN n) → y.wp P Q a' w') l a) : (Code.seq (.region id l.toArray true) y).wp P Q a w :=
 wp_seq (wp_region_quiet_lit hm hB h)
theorem D6 (A : Option Addr) (n c g : Nat) (cs : Array Value) (t : TypeId) (m mc off : Nat) (h0 : n ≤ off) (w0 : World) (hg : w0.heap[g]? = some (.cells cs t (0, 0))) (eof : Value) (uw : w0.cell? ⟨2, 0, none⟩ = some eof) (hge : 2 ≠ g) :
  Calls Tryd.prog 127 #[.slice A n c, aH g m mc, .int .i64 (off : Nat)] w0 fun e w' => ∃ k : Int, e = .returned (.tuple #[.int .i64 k, eof]) ∧ Keep [g] w0 w' ∧ ∃ cs' : Array Value, w'.heap[g]? = some (.cells cs' t (0, 0)) ∧ cs'.size = cs.size := by
 obtain ⟨w, hw⟩ : ∃ w, w0 = w := ⟨_, rfl⟩
 have HM : Mm [g] w0 w [(g, .cells cs t (0, 0))] := hw ▸ Mm.uU hg
 conv => arg 4; rw [hw]
 clear hw
 refine bV Tryd.func127 rfl Tryd.ntmps127 [(0, .slice A n c), (1, aH g m mc), (2, .int .i64 (off : Nat))] (by kernel_rfl) (Nat.le_of_ble_eq_true rfl) ?_
 intro a HF
 refine bC HF HM rfl [] [(0, .slice A n c), (1, aH g m mc), (2, .int .i64 (off : Nat)), (6, .int .i64 0), (7, .nilIface)] [(g, .cells cs t (0, 0))] (by kernel_rfl) fun a w HF HM => ?_
 refine wp_seq ?_
 refine aW ?_
 refine aO HF HM rfl 2 [] [(0, .slice A n c), (1, aH g m mc), (2, .int .i64 (off : Nat)), (6, .int .i64 0), (7, .nilIface), (10, .bool (decide (((off : Nat) : Int) < 0)))] [(g, .cells cs t (0, 0))] (by kernel_rfl) fun a w HF HM => ?_
 rw [show decide (((off : Nat) : Int) < 0) = false from bZ (by omega)] at HF
 refine aO HF HM rfl 5 [] [(0, .slice A n c), (1, aH g m mc), (2, .int .i64 (off : Nat)), (6, .int .i64 0), (7, .nilIface), (11, .bool false), (15, .bool (decide (((n : Nat) : Int) ≤ ((off : Nat) : Int))))] [(g, .cells cs t (0, 0))] (by kernel_rfl) fun a w HF HM => ?_
 rw [show decide (((n : Nat) : Int) ≤ ((off : Nat) : Int)) = true from dM (by omega)] at HF
 refine aO HF HM rfl 1 [] [(0, .slice A n c), (1, aH g m mc), (2, .int .i64 (off : Nat)), (6, .int .i64 0), (7, .nilIface), (16, .bool true)] [(g, .cells cs t (0, 0))] (by kernel_rfl) fun a w HF HM => ?_
 refine aI ?_
 refine bF HF rfl ?_
 have he : w.cell? ⟨2, 0, none⟩ = some eof := by rw [World.cell?_of_block (w := w0) (a := ⟨2, 0, none⟩) (HM.keep.block 2 (cell_lt uw) (by simpa using hge))]; exact uw
 refine pJ (by kernel_rfl) (by kernel_rfl) ?_
 refine Fj HF rfl (eof) (by kernel_rfl) (fun j => gJ (w := w.drewN j) rfl rfl (by kernel_rfl) he) fun a HF => ?_
 refine oL HF HM rfl 2 [] [(0, .slice A n c), (1, aH g m mc), (2, .int .i64 (off : Nat)), (16, .bool true), (6, .int .i64 0), (7, eof)] (by kernel_rfl) fun a HF => ?_
 refine qL ?_
 rintro _ ⟨nq, rfl⟩
 replace HM := HM.drewN nq
 refine wp_ret ?_
 repeat first | refine cu ?_ | refine dw ?_
 exact h_ HF rfl rfl rfl ⟨0, rfl, HM.keep, cs, HM.get (i := 0) rfl, rfl⟩

abbrev jw := fun (b : Nat) (o : Nat) (n : Nat) (c : Nat) (g : Nat) (m : Nat) (mc : Nat) (off : Nat) => ([(0, .slice (some ⟨b, o, none⟩) n c), (1, aH g m mc), (2, aA (off : Nat))] : Slots)
theorem I4 (l : List UInt8) (b o n c : Nat) (hl : n = l.length) (hnc : n ≤ c) (g : Nat) (cs : Array Value) (t : TypeId) (m mc : Nat) (hm : cs.size = m) (off : Nat) (h0 : off < n) (ho : n < off + m) (w0 : World) (hr : Row w0 (some ⟨b, o, none⟩) (l.map Bv)) (hbg : b ≠ g) (hg : w0.heap[g]? = some (.cells cs t (0, 0))) (eof : Value) (uw : w0.cell? ⟨2, 0, none⟩ = some eof) (hge : 2 ≠ g) :
  Calls Tryd.prog 127 #[.slice (some ⟨b, o, none⟩) n c, aH g m mc, aA (off : Nat)] w0 fun e w' => ∃ k : Int, e = .returned (.tuple #[.int .i64 k, eof]) ∧ Keep [g] w0 w' ∧ ∃ cs' : Array Value, w'.heap[g]? = some (.cells cs' t (0, 0)) ∧ cs'.size = cs.size := by
 obtain ⟨i0, hi0, hs0⟩ := qV
 have hA : ∀ b' o' s', (some (⟨b, o, none⟩ : Addr)) = some ⟨b', o', s'⟩ → b' ∉ [g] := by intro b' o' s' e; injection e with e; injection e with e; subst e; simpa using hbg
 obtain ⟨w, hw⟩ : ∃ w, w0 = w := ⟨_, rfl⟩
 have HM : Mm [g] w0 w [(g, .cells cs t (0, 0))] := hw ▸ Mm.uU hg
 conv => arg 4; rw [hw]
 clear hw
 refine bV Tryd.func127 rfl Tryd.ntmps127 (jw b o n c g m mc off) (by kernel_rfl) (Nat.le_of_ble_eq_true rfl) ?_
 intro a HF
 refine bC HF HM rfl [] ((jw b o n c g m mc off) ++ [(6, aA 0), (7, .nilIface)]) [(g, .cells cs t (0, 0))] (by kernel_rfl) fun a w HF HM => ?_
 refine wp_seq ?_
 refine aW ?_
 refine aO HF HM rfl 2 [] ((jw b o n c g m mc off) ++ [(6, aA 0), (7, .nilIface), (10, .bool (decide (((off : Nat) : Int) < 0)))]) [(g, .cells cs t (0, 0))] (by kernel_rfl) fun a w HF HM => ?_
 rw [show decide (((off : Nat) : Int) < 0) = false from bZ (by omega)] at HF
 refine aO HF HM rfl 5 [] ((jw b o n c g m mc off) ++ [(6, aA 0), (7, .nilIface), (11, .bool false), (15, .bool (decide (((n : Nat) : Int) ≤ ((off : Nat) : Int))))]) [(g, .cells cs t (0, 0))] (by kernel_rfl) fun a w HF HM => ?_
 rw [show decide (((n : Nat) : Int) ≤ ((off : Nat) : Int)) = false from bZ (by omega)] at HF
 refine aO HF HM rfl 1 [] ((jw b o n c g m mc off) ++ [(6, aA 0), (7, .nilIface), (16, .bool false)]) [(g, .cells cs t (0, 0))] (by kernel_rfl) fun a w HF HM => ?_
 refine aI ?_
 refine bf HF rfl ?_
 refine wp_skip ?_
 repeat first | refine aS ?_ | refine aU ?_
 replace HF := HF.sub ((jw b o n c g m mc off) ++ [(6, aA 0), (7, .nilIface)]) (by kernel_rfl)
 refine aW ?_
 refine aO HF HM rfl 3 [] ((jw b o n c g m mc off) ++ [(6, aA 0), (7, .nilIface), (18, aH g m mc), (19, .slice (some ⟨b, o, none⟩) n c), (20, aA (off : Nat))]) [(g, .cells cs t (0, 0))] (by kernel_rfl) fun a w HF HM => ?_
 refine dP HF (by kernel_rfl) (.slice (some ⟨b, o + off, none⟩) (n - off) (c - off)) (by kernel_rfl) (zn (t := 178) Tryd.underlying178 hi0 hs0 rfl off (kk := .i64) rfl rfl (by omega) hnc (by omega) w) ?_
 clear HF; intro a HF; replace HF := HF.sub ((jw b o n c g m mc off) ++ [(6, aA 0), (7, .nilIface), (18, aH g m mc), (19, .slice (some ⟨b, o, none⟩) n c), (20, aA (off : Nat)), (21, .slice (some ⟨b, o + off, none⟩) (n - off) (c - off))]) (by kernel_rfl)
 have hsrc := src_of (HM.row hr hA) off (n - off) (by omega)
 refine Jg HF HM rfl _ _ 33 178 rfl rfl 5 Tryd.underlying33 (by rw [hi0]; exact congrArg some hs0) g m mc ⟨b, o + off, none⟩ (n - off) (c - off) rfl rfl 0 cs t rfl (((l.drop off).take (n - off)).map Bv) (by rw [take_len _ _ _ (by omega)]; exact (Nat.min_eq_left (by omega)).symm) hsrc (by simp only [List.length_map, List.length_take, List.length_drop]; omega) (qp _) fun a w HM HF => ?_
 rw [show (((l.drop off).take (n - off)).map Bv).length = (n - off) by simp only [List.length_map, List.length_take, List.length_drop]; omega] at HF HM
 simp only [List.set_cons_zero] at HM
 refine aO HF HM rfl 1 [] ((jw b o n c g m mc off) ++ [(6, aA 0), (7, .nilIface), (8, aB (n - off))]) [(g, .cells (((l.drop off).take (n - off)).map Bv ++ cs.toList.drop (n - off)).toArray t (0, 0))] (by kernel_rfl) fun a w HF HM => ?_
 refine aI ?_
 refine wp_seq ?_
 refine aW ?_
 refine aO HF HM rfl 4 [] ((jw b o n c g m mc off) ++ [(6, aA 0), (7, .nilIface), (8, aB (n - off)), (26, .bool (decide ((((n - off) : Nat) : Int) < ((m : Nat) : Int))))]) [(g, .cells (((l.drop off).take (n - off)).map Bv ++ cs.toList.drop (n - off)).toArray t (0, 0))] (by kernel_rfl) fun a w HF HM => ?_
 rw [show decide ((((n - off) : Nat) : Int) < ((m : Nat) : Int)) = true from dM (by omega)] at HF
 refine aI ?_
 refine bF HF rfl ?_
 have he : w.cell? ⟨2, 0, none⟩ = some eof := by rw [World.cell?_of_block (w := w0) (a := ⟨2, 0, none⟩) (HM.keep.block 2 (cell_lt uw) (by simpa using hge))]; exact uw
 refine pJ (by kernel_rfl) (by kernel_rfl) ?_
 refine oL HF HM rfl 1 [] ((jw b o n c g m mc off) ++ [(6, aA 0), (7, .nilIface), (8, aB (n - off)), (26, .bool true), (27, aB (n - off))]) (by kernel_rfl) fun a HF => ?_
 refine Fj HF rfl (eof) (by kernel_rfl) (fun j => gJ (w := w.drewN j) rfl rfl (by kernel_rfl) he) fun a HF => ?_
 refine oL HF HM rfl 2 [] ((jw b o n c g m mc off) ++ [(8, aB (n - off)), (26, .bool true), (6, aB (n - off)), (7, eof)]) (by kernel_rfl) fun a HF => ?_
 refine qL ?_
 rintro _ ⟨nq, rfl⟩
 replace HM := HM.drewN nq
 refine wp_ret ?_
 repeat first | refine cu ?_ | refine dw ?_
 exact h_ HF rfl rfl rfl ⟨_, rfl, HM.keep, _, HM.get (i := 0) rfl, by simp [hl, hm]; omega⟩

/-- fewer bytes than asked for: the error io.EOF -/
theorem AZ (A : Option Addr) (l : List UInt8) (n c : Nat) (hl : n = l.length) (hnc : n ≤ c) (g : Nat) (cs : Array Value) (t : TypeId) (m mc : Nat) (hm : cs.size = m) (off : Nat) (h0 : n ≤ off ∨ n < off + m) (w0 : World) (hr : Row w0 A (l.map Bv)) (hA : ∀ b o s, A = some ⟨b, o, s⟩ → b ≠ g) (hg : w0.heap[g]? = some (.cells cs t (0, 0))) (eof : Value) (uw : w0.cell? ⟨2, 0, none⟩ = some eof) (hge : 2 ≠ g) :
  Calls Tryd.prog 127 #[.slice A n c, aH g m mc, .int .i64 (off : Nat)] w0 fun e w' => ∃ k : Int, e = .returned (.tuple #[.int .i64 k, eof]) ∧ Keep [g] w0 w' ∧ ∃ cs' : Array Value, w'.heap[g]? = some (.cells cs' t (0, 0)) ∧ cs'.size = cs.size := by
 by_cases h1 : n ≤ off
 ·exact D6 A n c g cs t m mc off h1 w0 hg eof uw hge
 ·obtain ⟨b, o, rfl, _⟩ := hr.at_ (i := 0) (by rw [List.length_map]; omega)
  exact I4 l b o n c hl hnc g cs t m mc hm off (by omega) (by omega) w0 hr (hA b o none rfl) hg eof uw hge

theorem nX (ti : TypeId) (vi : Value) (off n : Int) (h1 : 0 ≤ off) (h2 : 0 ≤ n) (h3 : off + n ≤ 9223372036854775807) (w0 : World) :
  Calls Tryd.prog 92 #[.iface ti vi, .int .i64 off, .int .i64 n] w0 fun e w' => ∃ b, e = .returned (aG b) ∧ Below w0.heap.size w0 w' ∧ w0.heap.size ≤ b ∧ w'.heap[b]? = some (.cells #[.iface ti vi, .int .i64 off, .int .i64 off, .int .i64 (n + off), .int .i64 n] 246 (0, 0)) := by
 obtain ⟨w, hw⟩ : ∃ w, w0 = w := ⟨_, rfl⟩
 have HM : Mm [] w0 w [] := hw ▸ Mm.start w0
 conv => arg 4; rw [hw]
 clear hw
 refine bV Tryd.func92 rfl Tryd.ntmps92 [(0, .iface ti vi), (1, .int .i64 off), (2, .int .i64 n)] (by kernel_rfl) (Nat.le_of_ble_eq_true rfl) ?_
 intro a HF
 refine bC HF HM rfl [] [(0, .iface ti vi), (1, .int .i64 off), (2, .int .i64 n), (6, .pointer none)] [] (by kernel_rfl) fun a w HF HM => ?_
 refine bC HF HM rfl [] [(0, .iface ti vi), (1, .int .i64 off), (2, .int .i64 n), (6, .pointer none), (7, .int .i64 0)] [] (by kernel_rfl) fun a w HF HM => ?_
 refine wp_seq ?_
 refine aW ?_
 refine aO HF HM rfl 3 [] [(0, .iface ti vi), (1, .int .i64 off), (2, .int .i64 n), (6, .pointer none), (7, .int .i64 0), (8, .int .i64 off), (10, .int .i64 (IntKind.i64.wrap (9223372036854775807 - n)))] [] (by kernel_rfl) fun a w HF HM => ?_
 rw [show IntKind.i64.wrap (9223372036854775807 - n) = 9223372036854775807 - n from IntWalk.i64_in _ (by omega)] at HF
 refine aO HF HM rfl 1 [] [(0, .iface ti vi), (1, .int .i64 off), (2, .int .i64 n), (6, .pointer none), (7, .int .i64 0), (11, .bool (decide (off ≤ 9223372036854775807 - n)))] [] (by kernel_rfl) fun a w HF HM => ?_
 rw [show decide (off ≤ 9223372036854775807 - n) = true from dM (by omega)] at HF
 refine aI ?_
 refine bF HF rfl ?_
 refine nC HF HM rfl [] [(0, .iface ti vi), (1, .int .i64 off), (2, .int .i64 n), (6, .pointer none), (7, .int .i64 (IntKind.i64.wrap (n + off)))] [] (by kernel_rfl) fun a w HF HM => ?_
 repeat first | refine aS ?_ | refine aU ?_
 rw [show IntKind.i64.wrap (n + off) = n + off from IntWalk.i64_in _ (by omega)] at HF
 obtain ⟨z6, BD⟩ : ∃ z, w.heap.size = z := ⟨_, rfl⟩
 refine bC HF HM BD [] [(0, .iface ti vi), (1, .int .i64 off), (2, .int .i64 n), (7, .int .i64 (n + off)), (6, aG z6)] [(z6, .cells #[.iface ti vi, .int .i64 off, .int .i64 off, .int .i64 (n + off), .int .i64 n] 246 (0, 0))] (by kernel_rfl) fun a w HF HM => ?_
 clear BD
 refine wp_ret ?_
 exact dI HF rfl rfl ⟨_, rfl, HM.below, HM.ge (i := 0) rfl, HM.get (i := 0) rfl⟩

theorem DW (s : Nat) (r : Value) (base bT limit sn : Int) (h1 : 0 ≤ base) (h2 : base ≤ limit) (h3 : limit ≤ 9223372036854775807) (w0 : World) (hs : w0.heap[s]? = some (.cells #[r, .int .i64 base, .int .i64 bT, .int .i64 limit, .int .i64 sn] 246 (0, 0))) :
  Calls Tryd.prog 107 #[aG s] w0 fun e w' => e = .returned (.int .i64 (limit - base)) ∧ ∃ k, w' = w0.drewN k := by
 have HM : Mm [s] w0 w0 [(s, .cells #[r, .int .i64 base, .int .i64 bT, .int .i64 limit, .int .i64 sn] 246 (0, 0))] := Mm.uU hs
 refine bV Tryd.func107 rfl Tryd.ntmps107 [(0, aG s)] (by kernel_rfl) (Nat.le_of_ble_eq_true rfl) ?_
 intro a HF
 refine nD HF HM rfl [] [(0, aG s), (2, .int .i64 0)] (by kernel_rfl) fun a HF => ?_
 refine pJ (by kernel_rfl) (by kernel_rfl) ?_
 refine oL HF HM rfl 9 [[0], [0]] [(0, aG s), (2, .int .i64 0), (11, .int .i64 (IntKind.i64.wrap (limit - base)))] (by kernel_rfl) fun a HF => ?_
 rw [show IntKind.i64.wrap (limit - base) = limit - base from IntWalk.i64_in _ (by omega)] at HF
 refine oL HF HM rfl 1 [] [(0, aG s), (2, .int .i64 (limit - base))] (by kernel_rfl) fun a HF => ?_
 refine qL ?_
 rintro _ ⟨nq, rfl⟩
 refine wp_ret ?_
 exact dI HF rfl rfl ⟨rfl, _, rfl⟩

abbrev jd := fun (s : Nat) (b : Nat) (o : Nat) (n : Nat) (c : Nat) (base : Nat) (bT : Int) (limit : Int) (sn : Int) => ((s, .cells #[.iface 178 (.slice (some ⟨b, o, none⟩) n c), aA (base : Nat), .int .i64 bT, .int .i64 limit, .int .i64 sn] 246 (0, 0)) : Nat × Obj)
abbrev mM := fun (s : Nat) (g : Nat) (m : Nat) (mc : Nat) (off : Nat) => ([(0, aG s), (1, aH g m mc), (2, aA (off : Nat))] : Slots)
abbrev oZ := fun (s : Nat) (g : Nat) (m : Nat) (mc : Nat) (base : Nat) (off : Nat) => ([(0, aG s), (1, aH g m mc), (6, aA 0), (7, .nilIface), (2, aB (base + off))] : Slots)
theorem xC (l : List UInt8) (b o n c : Nat) (hl : n = l.length) (hnc : n ≤ c) (g s : Nat) (cs : Array Value) (t : TypeId) (m mc : Nat) (hm : cs.size = m) (base off : Nat) (bT limit sn : Int) (k1 : ((base + off + m : Nat) : Int) ≤ limit) (k2 : limit ≤ 9223372036854775807) (k3 : ((base + off : Nat) : Int) < limit) (h0 : base + off < n) (ho : base + off + m ≤ n) (w0 : World) (hr : Row w0 (some ⟨b, o, none⟩) (l.map Bv)) (hbg : b ≠ g) (hbs : b ≠ s) (hsg : s ≠ g) (hs : w0.heap[s]? = some (.cells #[.iface 178 (.slice (some ⟨b, o, none⟩) n c), aA (base : Nat), .int .i64 bT, .int .i64 limit, .int .i64 sn] 246 (0, 0))) (hg : w0.heap[g]? = some (.cells cs t (0, 0))) :
  Calls Tryd.prog 93 #[aG s, aH g m mc, aA (off : Nat)] w0 fun e w' => e = .returned (.tuple #[aB m, .nilIface]) ∧ Keep [s, g] w0 w' ∧ w'.heap[s]? = some (.cells #[.iface 178 (.slice (some ⟨b, o, none⟩) n c), aA (base : Nat), .int .i64 bT, .int .i64 limit, .int .i64 sn] 246 (0, 0)) ∧ w'.heap[g]? = some (.cells (((l.drop (base + off)).take m).map Bv).toArray t (0, 0)) := by
 obtain ⟨w, hw⟩ : ∃ w, w0 = w := ⟨_, rfl⟩
 have HM : Mm [s, g] w0 w [jd s b o n c base bT limit sn, (g, .cells cs t (0, 0))] := hw ▸ Mm.DV hs hg hsg
 conv => arg 4; rw [hw]
 clear hw
 refine bV Tryd.func93 rfl Tryd.ntmps93 (mM s g m mc off) (by kernel_rfl) (Nat.le_of_ble_eq_true rfl) ?_
 intro a HF
 refine bC HF HM rfl [] ((mM s g m mc off) ++ [(6, aA 0), (7, .nilIface)]) [jd s b o n c base bT limit sn, (g, .cells cs t (0, 0))] (by kernel_rfl) fun a w HF HM => ?_
 refine wp_seq ?_
 refine aW ?_
 refine aO HF HM rfl 2 [] ((mM s g m mc off) ++ [(6, aA 0), (7, .nilIface), (10, .bool (decide (((off : Nat) : Int) < 0)))]) [jd s b o n c base bT limit sn, (g, .cells cs t (0, 0))] (by kernel_rfl) fun a w HF HM => ?_
 rw [show decide (((off : Nat) : Int) < 0) = false from bZ (by omega)] at HF
 refine aO HF HM rfl 3 [] ((mM s g m mc off) ++ [(6, aA 0), (7, .nilIface), (11, .bool false), (12, aA (off : Nat)), (13, aG s)]) [jd s b o n c base bT limit sn, (g, .cells cs t (0, 0))] (by kernel_rfl) fun a w HF HM => ?_
 refine bn HF (by kernel_rfl) 107 #[aG s] (by kernel_rfl) (fun w => by kernel_rfl) (Calls.mono (DW s (.iface 178 (.slice (some ⟨b, o, none⟩) n c)) (base : Nat) bT limit sn (by omega) (by omega) (by omega) w (HM.get (i := 0) rfl)) ?_)
 rintro _ w1 ⟨rfl, jG, hq⟩
 replace HM : Mm [s, g] w0 w1 [jd s b o n c base bT limit sn, (g, .cells cs t (0, 0))] := by rw [hq]; exact HM.drewN _
 clear hq
 refine ⟨_, rfl, ?_⟩; clear HF; intro a HF
 refine aO HF HM rfl 1 [] ((mM s g m mc off) ++ [(6, aA 0), (7, .nilIface), (11, .bool false), (15, .bool (decide (limit - ((base : Nat) : Int) ≤ ((off : Nat) : Int))))]) [jd s b o n c base bT limit sn, (g, .cells cs t (0, 0))] (by kernel_rfl) fun a w HF HM => ?_
 rw [show decide (limit - ((base : Nat) : Int) ≤ ((off : Nat) : Int)) = false from bZ (by omega)] at HF
 refine aO HF HM rfl 1 [] ((mM s g m mc off) ++ [(6, aA 0), (7, .nilIface), (16, .bool false)]) [jd s b o n c base bT limit sn, (g, .cells cs t (0, 0))] (by kernel_rfl) fun a w HF HM => ?_
 refine aI ?_
 refine bf HF rfl ?_
 refine wp_skip ?_
 repeat first | refine aS ?_ | refine aU ?_
 replace HF := HF.sub ((mM s g m mc off) ++ [(6, aA 0), (7, .nilIface)]) (by kernel_rfl)
 refine aW ?_
 refine aO HF HM rfl 6 [[1]] ((mM s g m mc off) ++ [(6, aA 0), (7, .nilIface), (23, aA (IntKind.i64.wrap (((off : Nat) : Int) + ((base : Nat) : Int))))]) [jd s b o n c base bT limit sn, (g, .cells cs t (0, 0))] (by kernel_rfl) fun a w HF HM => ?_
 rw [show IntKind.i64.wrap (((off : Nat) : Int) + ((base : Nat) : Int)) = ((base + off : Nat) : Int) from (IntWalk.i64_in _ (by omega)).trans (by omega)] at HF
 refine aO HF HM rfl 1 [] (oZ s g m mc base off) [jd s b o n c base bT limit sn, (g, .cells cs t (0, 0))] (by kernel_rfl) fun a w HF HM => ?_
 refine aI ?_
 refine wp_seq ?_
 refine aW ?_
 refine aO HF HM rfl 6 [[1]] ((oZ s g m mc base off) ++ [(29, aA (IntKind.i64.wrap (limit - ((base + off : Nat) : Int))))]) [jd s b o n c base bT limit sn, (g, .cells cs t (0, 0))] (by kernel_rfl) fun a w HF HM => ?_
 rw [show IntKind.i64.wrap (limit - ((base + off : Nat) : Int)) = limit - ((base + off : Nat) : Int) from IntWalk.i64_in _ (by omega)] at HF
 refine aO HF HM rfl 1 [] ((oZ s g m mc base off) ++ [(8, aA (limit - ((base + off : Nat) : Int)))]) [jd s b o n c base bT limit sn, (g, .cells cs t (0, 0))] (by kernel_rfl) fun a w HF HM => ?_
 refine dK ?_
 refine aO HF HM rfl 4 [] ((oZ s g m mc base off) ++ [(8, aA (limit - ((base + off : Nat) : Int))), (33, .bool (decide (limit - ((base + off : Nat) : Int) < ((m : Nat) : Int))))]) [jd s b o n c base bT limit sn, (g, .cells cs t (0, 0))] (by kernel_rfl) fun a w HF HM => ?_
 rw [show decide (limit - ((base + off : Nat) : Int) < ((m : Nat) : Int)) = false from bZ (by omega)] at HF
 refine aI ?_
 refine bf HF rfl ?_
 refine wp_skip ?_
 repeat first | refine aS ?_ | refine aU ?_
 replace HF := HF.sub (oZ s g m mc base off) (by kernel_rfl)
 refine aW ?_
 refine aO HF HM rfl 6 [[1]] ((oZ s g m mc base off) ++ [(55, .iface 178 (.slice (some ⟨b, o, none⟩) n c)), (56, aH g m mc), (57, aB (base + off))]) [jd s b o n c base bT limit sn, (g, .cells cs t (0, 0))] (by kernel_rfl) fun a w HF HM => ?_
 have hne : g ≠ s := HM.ne (i := 1) (j := 0) rfl rfl (by decide)
 refine bn HF (by kernel_rfl) 127 #[.slice (some ⟨b, o, none⟩) n c, aH g m mc, aB (base + off)] (by kernel_rfl) (fun w => by kernel_rfl) (Calls.mono (rQ l b o n c hl hnc g cs t m mc hm (base + off) h0 ho w (HM.row hr (by intro b' o' s' e; injection e with e; injection e with e; subst e; simp [hbs, hbg])) hbg (HM.get (i := 1) rfl)) ?_)
 rintro _ w2 ⟨rfl, hkp, hgn⟩
 replace HM : Mm [s, g] w0 w2 [jd s b o n c base bT limit sn, (g, .cells (((l.drop (base + off)).take m).map Bv).toArray t (0, 0))] := HM.put (i := 1) rfl hgn hkp
 clear hkp hgn
 refine ⟨_, rfl, ?_⟩; clear HF; intro a HF
 refine aO HF HM rfl 4 [] [(0, aG s), (1, aH g m mc), (2, aB (base + off)), (6, aB m), (7, .nilIface)] [jd s b o n c base bT limit sn, (g, .cells (((l.drop (base + off)).take m).map Bv).toArray t (0, 0))] (by kernel_rfl) fun a w HF HM => ?_
 refine aI ?_
 refine wp_ret ?_
 exact h_ HF rfl rfl rfl ⟨rfl, HM.keep, HM.get (i := 0) rfl, HM.get (i := 1) rfl⟩

abbrev iT := fun (s : Nat) (A : Option Addr) (n : Nat) (c : Nat) (base : Nat) (bT : Int) (limit : Int) (sn : Int) => ((s, .cells #[.iface 178 (.slice A n c), aA (base : Nat), .int .i64 bT, .int .i64 limit, .int .i64 sn] 246 (0, 0)) : Nat × Obj)
abbrev lY := fun (s : Nat) (g : Nat) (m : Nat) (mc : Nat) (off : Nat) => ([(0, aG s), (1, aH g m mc), (2, aA (off : Nat))] : Slots)
abbrev oG := fun (s : Nat) (g : Nat) (m : Nat) (mc : Nat) (base : Nat) (off : Nat) => ([(0, aG s), (1, aH g m mc), (6, aA 0), (7, .nilIface), (2, aB (base + off))] : Slots)
theorem vH (l : List UInt8) (A : Option Addr) (n c : Nat) (hl : n = l.length) (hnc : n ≤ c) (g s : Nat) (cs : Array Value) (t : TypeId) (m mc : Nat) (hm : cs.size = m) (base off : Nat) (bT limit sn : Int) (k1 : ((base + off + m : Nat) : Int) ≤ limit) (k2 : limit ≤ 9223372036854775807) (k3 : ((base + off : Nat) : Int) < limit) (h0 : n ≤ base + off ∨ n < base + off + m) (w0 : World) (hr : Row w0 A (l.map Bv)) (hA : ∀ b o s', A = some ⟨b, o, s'⟩ → b ≠ g ∧ b ≠ s) (hsg : s ≠ g) (hs : w0.heap[s]? = some (.cells #[.iface 178 (.slice A n c), aA (base : Nat), .int .i64 bT, .int .i64 limit, .int .i64 sn] 246 (0, 0))) (hg : w0.heap[g]? = some (.cells cs t (0, 0))) (eof : Value) (uw : w0.cell? ⟨2, 0, none⟩ = some eof) (hge : 2 ≠ g) (hgs : 2 ≠ s) :
  Calls Tryd.prog 93 #[aG s, aH g m mc, aA (off : Nat)] w0 fun e w' => ∃ kk : Int, e = .returned (.tuple #[.int .i64 kk, eof]) ∧ Keep [s, g] w0 w' ∧ w'.heap[s]? = some (.cells #[.iface 178 (.slice A n c), aA (base : Nat), .int .i64 bT, .int .i64 limit, .int .i64 sn] 246 (0, 0)) ∧ ∃ cs' : Array Value, w'.heap[g]? = some (.cells cs' t (0, 0)) ∧ cs'.size = cs.size := by
 obtain ⟨w, hw⟩ : ∃ w, w0 = w := ⟨_, rfl⟩
 have HM : Mm [s, g] w0 w [iT s A n c base bT limit sn, (g, .cells cs t (0, 0))] := hw ▸ Mm.DV hs hg hsg
 conv => arg 4; rw [hw]
 clear hw
 refine bV Tryd.func93 rfl Tryd.ntmps93 (lY s g m mc off) (by kernel_rfl) (Nat.le_of_ble_eq_true rfl) ?_
 intro a HF
 refine bC HF HM rfl [] ((lY s g m mc off) ++ [(6, aA 0), (7, .nilIface)]) [iT s A n c base bT limit sn, (g, .cells cs t (0, 0))] (by kernel_rfl) fun a w HF HM => ?_
 refine wp_seq ?_
 refine aW ?_
 refine aO HF HM rfl 2 [] ((lY s g m mc off) ++ [(6, aA 0), (7, .nilIface), (10, .bool (decide (((off : Nat) : Int) < 0)))]) [iT s A n c base bT limit sn, (g, .cells cs t (0, 0))] (by kernel_rfl) fun a w HF HM => ?_
 rw [show decide (((off : Nat) : Int) < 0) = false from bZ (by omega)] at HF
 refine aO HF HM rfl 3 [] ((lY s g m mc off) ++ [(6, aA 0), (7, .nilIface), (11, .bool false), (12, aA (off : Nat)), (13, aG s)]) [iT s A n c base bT limit sn, (g, .cells cs t (0, 0))] (by kernel_rfl) fun a w HF HM => ?_
 refine bn HF (by kernel_rfl) 107 #[aG s] (by kernel_rfl) (fun w => by kernel_rfl) (Calls.mono (DW s (.iface 178 (.slice A n c)) (base : Nat) bT limit sn (by omega) (by omega) (by omega) w (HM.get (i := 0) rfl)) ?_)
 rintro _ w1 ⟨rfl, jG, hq⟩
 replace HM : Mm [s, g] w0 w1 [iT s A n c base bT limit sn, (g, .cells cs t (0, 0))] := by rw [hq]; exact HM.drewN _
 clear hq
 refine ⟨_, rfl, ?_⟩; clear HF; intro a HF
 refine aO HF HM rfl 1 [] ((lY s g m mc off) ++ [(6, aA 0), (7, .nilIface), (11, .bool false), (15, .bool (decide (limit - ((base : Nat) : Int) ≤ ((off : Nat) : Int))))]) [iT s A n c base bT limit sn, (g, .cells cs t (0, 0))] (by kernel_rfl) fun a w HF HM => ?_
 rw [show decide (limit - ((base : Nat) : Int) ≤ ((off : Nat) : Int)) = false from bZ (by omega)] at HF
 refine aO HF HM rfl 1 [] ((lY s g m mc off) ++ [(6, aA 0), (7, .nilIface), (16, .bool false)]) [iT s A n c base bT limit sn, (g, .cells cs t (0, 0))] (by kernel_rfl) fun a w HF HM => ?_
 refine aI ?_
 refine bf HF rfl ?_
 refine wp_skip ?_
 repeat first | refine aS ?_ | refine aU ?_
 replace HF := HF.sub ((lY s g m mc off) ++ [(6, aA 0), (7, .nilIface)]) (by kernel_rfl)
 refine aW ?_
 refine aO HF HM rfl 6 [[1]] ((lY s g m mc off) ++ [(6, aA 0), (7, .nilIface), (23, aA (IntKind.i64.wrap (((off : Nat) : Int) + ((base : Nat) : Int))))]) [iT s A n c base bT limit sn, (g, .cells cs t (0, 0))] (by kernel_rfl) fun a w HF HM => ?_
 rw [show IntKind.i64.wrap (((off : Nat) : Int) + ((base : Nat) : Int)) = ((base + off : Nat) : Int) from (IntWalk.i64_in _ (by omega)).trans (by omega)] at HF
 refine aO HF HM rfl 1 [] (oG s g m mc base off) [iT s A n c base bT limit sn, (g, .cells cs t (0, 0))] (by kernel_rfl) fun a w HF HM => ?_
 refine aI ?_
 refine wp_seq ?_
 refine aW ?_
 refine aO HF HM rfl 6 [[1]] ((oG s g m mc base off) ++ [(29, aA (IntKind.i64.wrap (limit - ((base + off : Nat) : Int))))]) [iT s A n c base bT limit sn, (g, .cells cs t (0, 0))] (by kernel_rfl) fun a w HF HM => ?_
 rw [show IntKind.i64.wrap (limit - ((base + off : Nat) : Int)) = limit - ((base + off : Nat) : Int) from IntWalk.i64_in _ (by omega)] at HF
 refine aO HF HM rfl 1 [] ((oG s g m mc base off) ++ [(8, aA (limit - ((base + off : Nat) : Int)))]) [iT s A n c base bT limit sn, (g, .cells cs t (0, 0))] (by kernel_rfl) fun a w HF HM => ?_
 refine dK ?_
 refine aO HF HM rfl 4 [] ((oG s g m mc base off) ++ [(8, aA (limit - ((base + off : Nat) : Int))), (33, .bool (decide (limit - ((base + off : Nat) : Int) < ((m : Nat) : Int))))]) [iT s A n c base bT limit sn, (g, .cells cs t (0, 0))] (by kernel_rfl) fun a w HF HM => ?_
 rw [show decide (limit - ((base + off : Nat) : Int) < ((m : Nat) : Int)) = false from bZ (by omega)] at HF
 refine aI ?_
 refine bf HF rfl ?_
 refine wp_skip ?_
 repeat first | refine aS ?_ | refine aU ?_
 replace HF := HF.sub (oG s g m mc base off) (by kernel_rfl)
 refine aW ?_
 refine aO HF HM rfl 6 [[1]] ((oG s g m mc base off) ++ [(55, .iface 178 (.slice A n c)), (56, aH g m mc), (57, aB (base + off))]) [iT s A n c base bT limit sn, (g, .cells cs t (0, 0))] (by kernel_rfl) fun a w HF HM => ?_
 have hne : g ≠ s := HM.ne (i := 1) (j := 0) rfl rfl (by decide)
 have he2 : w.cell? ⟨2, 0, none⟩ = some eof := by rw [World.cell?_of_block (w := w0) (a := ⟨2, 0, none⟩) (HM.keep.block 2 (cell_lt uw) (by simp [hge, hgs]))]; exact uw
 refine bn HF (by kernel_rfl) 127 #[.slice A n c, aH g m mc, aB (base + off)] (by kernel_rfl) (fun w => by kernel_rfl) (Calls.mono (AZ A l n c hl hnc g cs t m mc hm (base + off) h0 w (HM.row hr (by intro b' o' s' e; have := hA b' o' s' e; simp [this.1, this.2])) (fun b' o' s' e => (hA b' o' s' e).1) (HM.get (i := 1) rfl) eof he2 hge) ?_)
 rintro _ w2 ⟨kk, rfl, hkp, cs2, hgn, hsz2⟩
 replace HM : Mm [s, g] w0 w2 [iT s A n c base bT limit sn, (g, .cells cs2 t (0, 0))] := HM.put (i := 1) rfl hgn hkp
 clear hkp hgn
 refine ⟨_, rfl, ?_⟩; clear HF; intro a HF
 refine aO HF HM rfl 4 [] [(0, aG s), (1, aH g m mc), (2, aB (base + off)), (6, .int .i64 kk), (7, eof)] [iT s A n c base bT limit sn, (g, .cells cs2 t (0, 0))] (by kernel_rfl) fun a w HF HM => ?_
 refine aI ?_
 refine wp_ret ?_
 exact h_ HF rfl rfl rfl ⟨kk, rfl, HM.keep, HM.get (i := 0) rfl, cs2, HM.get (i := 1) rfl, hsz2⟩

end Go.Proofs.YtdgehpocmfjbiaaDoor
namespace Go.Proofs.YtdgehpocmfjbiaaDoor
open Go Go.RowKit

def Told (L : List (Nat × Obj)) (w : World) : Prop := ∀ p ∈ L, w.heap[p.1]? = some p.2
theorem Mm.told {G : List Nat} {w0 w : World} {L LS : List (Nat × Obj)} (h : Mm G w0 w L) (idx : List Nat) (e : idx.map (fun i => L[i]?) = LS.map some) : Told LS w := fun p hp => by
 have : some p ∈ LS.map some := List.mem_map.2 ⟨p, hp, rfl⟩
 rw [← e] at this
 obtain ⟨i, _, hi⟩ := List.mem_map.1 this
 exact h.get hi
def Only (K : Act → World → Prop) : Exit → Act → World → Prop
 | .normal, a, w => K a w
 | _, _, _ => False
theorem Hf {K : Act → World → Prop} (h : LetsOut (Only K)) : False := by obtain ⟨_, _, h⟩ := h; exact h

section
variable {P : Program} {z : Nat} {α : Type}
theorem La : ∀ (s : Sem α) (iq : List Nat) (L : List (Nat × Obj)) (n : Nat) (e : List (Nat × Nat)) (d : Bool) (r : E_ α) (w : World), oP P z s iq L n e d = some r →
  r.dirty = false → Told L w → (∀ p ∈ r.eqs, p.1 = p.2) → s.run P w = .ok r.val w := by
 intro s
 induction s with
 | pure x => intro iq L n e d r w h _ _ _; injection h with h; subst h; rfl
 | program k ih => intro iq L n e d r w h hd hM hq; exact ih P iq L n e d r w h hd hM hq
 | mark m k ih => intro iq L n e d r w h hd hM hq; exact ih iq L n e d r w h hd hM hq
 | load m p k ih =>
  intro iq L n e d r w h hd hM hq
  obtain ⟨b, off, spot⟩ := p
  simp only [oP] at h
  split at h
  ·rename_i b' cs t f hL
   split at h
   ·rename_i v hv
    have hb : b = b' := hq _ ((nR _ _ _ _ _ _ _ h).1 _ List.mem_cons_self)
    subst hb
    have hg : w.heap[b]? = some (.cells cs t f) := hM _ (List.mem_of_getElem? hL)
    have hc : w.cell? ⟨b, off, none⟩ = some v := by rw [cell_of_row w b off cs t f hg]; exact hv
    have hr := ih v _ L n _ d r w h hd hM hq
    simp only [Sem.run, hc]; exact hr
   ·cases h
  ·cases h
 | store m p v k ih =>
  intro iq L n e d r w h hd hM hq
  obtain ⟨b, off, spot⟩ := p
  simp only [oP] at h
  split at h
  ·rename_i b' cs t hL
   cases hb1 : (v.oneCell' && Nat.blt off cs.size) with
   | false => rw [hb1] at h; cases h
   | true => rw [hb1] at h; exact absurd ((nR _ _ _ _ _ _ _ h).2 hd) (by simp)
  ·cases h
 | new o k ih =>
  intro iq L n e d r w h hd hM hq
  exact absurd ((nR (k (z + n)) _ _ (n + 1) _ true r h).2 hd) (by simp)
 | frozen p k ih =>
  intro iq L n e d r w h hd hM hq
  obtain ⟨b, off, spot⟩ := p
  simp only [oP] at h
  split at h
  ·rename_i b' cs t hL
   have hb : b = b' := hq _ ((nR _ _ _ _ _ _ _ h).1 _ List.mem_cons_self)
   subst hb
   have hf : w.frozen? ⟨b, off, none⟩ = false := frozen_of_row w b off cs t (hM _ (List.mem_of_getElem? hL))
   have hr := ih false _ L n _ d r w h hd hM hq
   simp only [Sem.run, hf]; exact hr
  ·cases h
 | shape r k ih => intro iq L n e d r w h; cases h
 | freeze a n k ih => intro iq L n e d r w h; cases h
 | getObj r k ih => intro iq L n e d r w h; cases h
 | setObj r o k ih => intro iq L n e d r w h; cases h
 | choose q k ih => intro iq L n e d r w h; cases h
 | sys c k ih => intro iq L n e d r w h; cases h
 | halt h => intro iq L n e d r w h; cases h
end

def MF : Option (E_ Next) → Option (Value × List (Nat × Nat))
 | some ⟨.value v, _, _, e, false⟩ => some (v, e)
 | _ => none
/-- pure operations, reckoned over told blocks -/
def yw (P : Program) (ops : Array Oper) (N : Nat) (L : List (Nat × Obj)) : List Oper → List (List Nat) → Slots → List (Nat × Nat) → Option (Slots × List (Nat × Nat))
 | [], _, S, e => some (S, e)
 | o :: l, eP, S, e => match CG ops S o with
  | none => none
  | some false => bif okD N o.dst then yw P ops N L l eP (qC S o.dst undef) e else none
  | some true => bif okD N o.dst && qo o.op && o.op.operands.toList.all (fun x => (ev S x).isSome) then
    match MF (oP P 0 (execOp (rho S) o) (eP.headD []) L 0 [] false) with
    | some (v, e') => yw P ops N L l (bif ND o.op then eP.tail else eP) (qC S o.dst v) (e' ++ e)
    | none => none
   else none

def zu (md : Region.Mode) (ops : Array Oper) : List (Nat × Bool) → Array Bool → Bool
 | [], listed => (Region.ready md ops listed).isEmpty
 | (k, true) :: p, listed => decide (Region.ready md ops listed = [k]) && zu md ops p (listed.setIfInBounds k true)
 | (k, false) :: p, listed => (Region.ready md ops listed).contains k && Region.free md ops listed k && zu md ops p (listed.setIfInBounds k true)
def Bf (ops : Array Oper) (plan : List (Nat × Bool)) : Bool :=
 Region.noSelect ops && Nat.beq plan.length ops.size && zu .any ops plan (Array.replicate ops.size false)

section
variable {P : Program} {ops : Array Oper} {N : Nat} {G : List Nat} {w0 w : World} {a : Act} {S : World → Prop}

def jJ (P : Program) (ops : Array Oper) (S : World → Prop) (Q : Exit → Act → World → Prop) : List (Nat × Bool) → Act → World → Prop
 | [], a, w => Q .normal a w
 | (k, true) :: p, a, w => ∃ o, ops[k]? = some o ∧ wpList P ops (Only fun a' w' => S w' ∧ jJ P ops S Q p a' w') [o] a w
 | (k, false) :: p, a, w => S w ∧ ∃ o v, ops[k]? = some o ∧ YieldsIf P ops S o v a ∧ jJ P ops S Q p (a.put o.dst v) w

theorem JL {o : Oper} {K : Act → World → Prop} {Q : Exit → Act → World → Prop} (h : o.wp P a w (wpList P ops (Only K) []) (Only K)) : o.wp P a w K Q := by
 unfold Oper.wp at *
 generalize (execOp a.eval o).run P w = r at *
 cases r with
 | ok n w' =>
  cases n with
  | enter f args =>
   refine Calls.mono h fun e w'' h => ?_
   cases e with
   | returned v => exact h
   | panicked c => exact h.elim
   | outgrown => exact (Hf h).elim
  | _ => exact h
 | halt hh w' =>
  cases hh with
  | panic v => exact False.elim h
  | _ => exact h
theorem Bd {md : Region.Mode} {Q : Exit → Act → World → Prop} (hs : Region.noSelect ops = true) : ∀ (plan : List (Nat × Bool)) (listed : Array Bool) (a : Act) (w : World), zu md ops plan listed = true → jJ P ops S (NoPanic Q) plan a w →
  wpAnyH P md ops (NoPanic Q) S plan.length listed a w
 | [], listed, a, w, hB, h => wpAnyH_done (by simpa [zu] using hB) h 0
 | (k, true) :: p, listed, a, w, hB, h => by
  simp only [zu, Bool.and_eq_true, decide_eq_true_eq] at hB
  obtain ⟨o, ho, h⟩ := h
  refine wpAnyH_all hB.1 (by simp) fun i hi => ?_
  obtain rfl : i = k := by simpa using hi
  refine wpOp_mono (K := fun a' w' => S w' ∧ jJ P ops S (NoPanic Q) p a' w') (fun a' w' h' => ⟨h'.1, Bd hs p _ a' w' hB.2 h'.2⟩) ?_
  unfold wpOp
  simp only [ho]
  unfold wpList at h
  split
  ·rename_i hw
   rw [if_pos hw] at h
   exact h.elim (fun h => .inl (JL h)) fun h => (Hf h.2).elim
  ·rename_i hw
   rw [if_neg hw] at h
   exact h
 | (k, false) :: p, listed, a, w, hB, h => by
  simp only [zu, Bool.and_eq_true] at hB
  obtain ⟨hSw, o, v, ho, hy, h⟩ := h
  exact wpAnyH_take ho hs hB.1.2 hB.1.1 (fun c a w hc => hc) hy hSw (Bd hs p _ _ _ hB.2 h)

theorem Dw {id : Nat} {Q : Exit → Act → World → Prop} {l : List Oper} (hm : P.follows .mixedOrders = true) (plan : List (Nat × Bool)) (S : World → Prop) (hB : Bf l.toArray plan = true)
  (h : jJ P l.toArray S (NoPanic Q) plan a (w.drewN 1)) : (Code.region id l.toArray true).wp P Q a w := by
 simp only [Bf, Bool.and_eq_true] at hB
 refine wp_region_noPanic (wp_region_held (S := S) hm ?_)
 have := Bd hB.1.1 plan _ a _ hB.2 h
 rw [Nat.eq_of_beq_eq_true hB.1.2] at this
 exact this
/-- a drawn region, by a plan -/
theorem pK {id : Nat} {y : Code} {Q : Exit → Act → World → Prop} {l : List Oper} {L : List (Nat × Obj)} (HM : Mm G w0 w L) (hm : P.follows .mixedOrders = true) (LS : List (Nat × Obj)) (plan : List (Nat × Bool)) (hB : Bf l.toArray plan = true)
  (h : ∀ w', Mm G w0 w' L → jJ P l.toArray (Told LS) (NoPanic (Exit.then (y.wp P Q) Q)) plan a w') : (Code.seq (.region id l.toArray true) y).wp P Q a w :=
 wp_seq (Dw hm plan (Told LS) hB (h _ (HM.drewN 1)))
theorem sG {id : Nat} {Q : Exit → Act → World → Prop} {l : List Oper} {L : List (Nat × Obj)} (HM : Mm G w0 w L) (hm : P.follows .mixedOrders = true) (LS : List (Nat × Obj)) (plan : List (Nat × Bool)) (hB : Bf l.toArray plan = true)
  (h : ∀ w', Mm G w0 w' L → jJ P l.toArray (Told LS) (NoPanic Q) plan a w') : (Code.region id l.toArray true).wp P Q a w :=
 Dw hm plan (Told LS) hB (h _ (HM.drewN 1))

def sH (ops : Array Oper) (plan : List (Nat × Bool)) : List Oper := plan.filterMap fun p => ops[p.1]?
def Gj (P : Program) (ops : Array Oper) (N : Nat) (plan : List (Nat × Bool)) (eP : List (List Nat)) (S : Slots) (L : List (Nat × Obj)) (S' : Slots) : Option (List (Option Value) × List Nat × Bool) :=
 (yw P ops N L (sH ops plan) eP S []).map fun r => (S'.map fun p => lk r.1 p.1, r.2.map (·.1), plan.all fun p => !p.2 && Nat.blt p.1 ops.size)
def Gl (P : Program) (ops : Array Oper) (N : Nat) (plan : List (Nat × Bool)) (eP : List (List Nat)) (S : Slots) (L : List (Nat × Obj)) (S' : Slots) : Option (List (Option Value) × List Nat × Bool) :=
 some (S'.map fun p => some p.2, ((yw P ops N L (sH ops plan) eP S []).map fun r => r.2.map (·.2)).getD [], true)

theorem AQ {L : List (Nat × Obj)} : ∀ (l : List Oper) (eP : List (List Nat)) (Sl : Slots) (e : List (Nat × Nat)) (r : Slots × List (Nat × Nat)), yw P ops N L l eP Sl e = some r → ∀ p ∈ e, p ∈ r.2
 | [], _, Sl, e, r, h => by injection h with h; subst h; exact fun p hp => hp
 | o :: l, eP, Sl, e, r, h => by
  unfold yw at h
  split at h
  ·cases h
  ·cases hd : okD N o.dst with
   | false => rw [hd] at h; cases h
   | true => rw [hd] at h; exact AQ l _ _ _ r h
  ·cases hc : (okD N o.dst && qo o.op && o.op.operands.toList.all (fun x => (ev Sl x).isSome)) with
   | false => rw [hc] at h; cases h
   | true =>
    rw [hc] at h
    simp only [cond_true] at h
    split at h
    ·exact fun p hp => AQ l _ _ _ r h p (List.mem_append_right _ hp)
    ·cases h

theorem KY {x : Option (E_ Next)} {v : Value} {e : List (Nat × Nat)} (h : MF x = some (v, e)) : ∃ L n, x = some ⟨.value v, L, n, e, false⟩ := by
 unfold MF at h
 split at h
 ·rename_i v' L n e'
  simp only [Option.some.injEq, Prod.mk.injEq] at h
  obtain ⟨rfl, rfl⟩ := h
  exact ⟨_, _, rfl⟩
 ·cases h

theorem vG {LS : List (Nat × Obj)} {Q : Exit → Act → World → Prop} {rest : List (Nat × Bool)} (hST : ∀ w, S w → Told LS w) (hT : S w) : ∀ (p : List (Nat × Bool)) (eP : List (List Nat)) (Sl : Slots) (e : List (Nat × Nat)) (r : Slots × List (Nat × Nat)) (a : Act),
  yw P ops N LS (sH ops p) eP Sl e = some r → (p.all fun q => !q.2 && Nat.blt q.1 ops.size) = true → (∀ q ∈ r.2, q.1 = q.2) → Fr N a Sl → (∀ a', Fr N a' r.1 → jJ P ops S Q rest a' w) → jJ P ops S Q (p ++ rest) a w
 | [], eP, Sl, e, r, a, h, _, _, HF, hK => by injection h with h; subst h; exact hK a HF
 | (k, fl) :: p, eP, Sl, e, r, a, h, hp, hq, HF, hK => by
  simp only [List.all_cons, Bool.and_eq_true] at hp
  obtain ⟨⟨h1, h2⟩, h3⟩ := hp
  have hfl : fl = false := by simpa using h1
  subst hfl
  have hlt : k < ops.size := Nat.le_of_ble_eq_true h2
  have ho : ops[k]? = some ops[k] := by simp [hlt]
  have hpo : sH ops ((k, false) :: p) = ops[k] :: sH ops p := by simp [sH, List.filterMap_cons, ho]
  rw [hpo] at h
  unfold yw at h
  refine ⟨hT, ops[k], ?_⟩
  split at h
  ·cases h
  ·rename_i hw
   cases hd : okD N ops[k].dst with
   | false => rw [hd] at h; cases h
   | true =>
    rw [hd] at h
    exact ⟨undef, ho, .inr ⟨nP hw HF, rfl⟩, vG hST hT p _ _ _ r _ h h3 hq (HF.put _ _ (jv hd)) hK⟩
  ·rename_i hw
   cases hc : (okD N ops[k].dst && qo ops[k].op && ops[k].op.operands.toList.all (fun x => (ev Sl x).isSome)) with
   | false => rw [hc] at h; cases h
   | true =>
    rw [hc] at h
    simp only [cond_true] at h
    split at h
    ·rename_i v e' hv
     obtain ⟨L1, n1, hs⟩ := KY hv
     obtain ⟨c1, c3⟩ := Bool.and_eq_true_iff.1 hc
     obtain ⟨c1, c2⟩ := Bool.and_eq_true_iff.1 c1
     have he : execOp a.eval ops[k] = execOp (rho Sl) ops[k] := execOp_congr _ (oQ c2) fun x hx => HF.rho (List.all_eq_true.1 c3 x (by simpa using hx))
     refine ⟨v, ho, .inl ⟨nP hw HF, fun w' hw' => ?_⟩, vG hST hT p _ _ _ r _ h h3 hq (HF.put _ _ (jv c1)) hK⟩
     rw [he]
     have hg := AQ _ _ _ _ r h
     exact La _ _ _ _ _ _ ⟨Next.value v, L1, n1, e', false⟩ w' hs rfl (hST _ hw') fun q hq' => hq q (hg q (List.mem_append_left _ hq'))
    ·cases h
/-- k free operations of a plan, reckoned -/
theorem bH {LS : List (Nat × Obj)} {Q : Exit → Act → World → Prop} {plan : List (Nat × Bool)} {Sl : Slots} (HF : Fr N a Sl) (hT : Told LS w) (k : Nat) (eP : List (List Nat)) (S' : Slots)
  (h : Gj P ops N (plan.take k) eP Sl LS S' = Gl P ops N (plan.take k) eP Sl LS S')
  (hK : ∀ a', Fr N a' S' → jJ P ops (Told LS) Q (plan.drop k) a' w) : jJ P ops (Told LS) Q plan a w := by
 unfold Gj Gl at h
 cases hr : yw P ops N LS (sH ops (plan.take k)) eP Sl [] with
 | none => rw [hr] at h; cases h
 | some r =>
  rw [hr] at h
  simp only [Option.map_some, Option.getD_some, Option.some.injEq, Prod.mk.injEq] at h
  have := vG (S := Told LS) (Q := Q) (rest := plan.drop k) (fun _ h => h) hT (plan.take k) eP Sl [] r a hr h.2.2 (fun p hp => (List.map_inj_left.1 h.2.1) p hp) HF fun a' hF => hK a' (hF.sub S' h.1)
  rwa [List.take_append_drop] at this
theorem jk {LS : List (Nat × Obj)} {Q : Exit → Act → World → Prop} {plan : List (Nat × Bool)} {Sl : Slots} (hST : ∀ w, S w → Told LS w) (HF : Fr N a Sl) (hT : S w) (k : Nat) (eP : List (List Nat)) (S' : Slots)
  (h : Gj P ops N (plan.take k) eP Sl LS S' = Gl P ops N (plan.take k) eP Sl LS S')
  (hK : ∀ a', Fr N a' S' → jJ P ops S Q (plan.drop k) a' w) : jJ P ops S Q plan a w := by
 unfold Gj Gl at h
 cases hr : yw P ops N LS (sH ops (plan.take k)) eP Sl [] with
 | none => rw [hr] at h; cases h
 | some r =>
  rw [hr] at h
  simp only [Option.map_some, Option.getD_some, Option.some.injEq, Prod.mk.injEq] at h
  have := vG (S := S) (Q := Q) (rest := plan.drop k) hST hT (plan.take k) eP Sl [] r a hr h.2.2 (fun p hp => (List.map_inj_left.1 h.2.1) p hp) HF fun a' hF => hK a' (hF.sub S' h.1)
  rwa [List.take_append_drop] at this
theorem pz {Q : Exit → Act → World → Prop} {k : Nat} {p : List (Nat × Bool)} {o : Oper} {Sl : Slots} (ho : ops[k]? = some o) (HF : Fr N a Sl) (hT : S w) (hgd : o.guard = none) (v : Value)
  (hx : (okD N o.dst && qo o.op && o.op.operands.toList.all (fun x => (ev Sl x).isSome)) = true) (hrun : ∀ w', S w' → (execOp (rho Sl) o).run P w' = .ok (.value v) w')
  (hK : ∀ a', Fr N a' (qC Sl o.dst v) → jJ P ops S Q p a' w) : jJ P ops S Q ((k, false) :: p) a w := by
 obtain ⟨h1, h3⟩ := Bool.and_eq_true_iff.1 hx
 obtain ⟨h1, h2⟩ := Bool.and_eq_true_iff.1 h1
 have he : execOp a.eval o = execOp (rho Sl) o := execOp_congr o (oQ h2) fun x hx => HF.rho (List.all_eq_true.1 h3 x (by simpa using hx))
 exact ⟨hT, o, v, ho, .inl ⟨by simp [Region.wanted, hgd], fun w' hw' => by rw [he]; exact hrun w' hw'⟩, hK _ (HF.put _ _ (jv h1))⟩
theorem nS {Q : Exit → Act → World → Prop} {k : Nat} {p : List (Nat × Bool)} {o : Oper} (ho : ops[k]? = some o)
  (h : wpList P ops (Only fun a' w' => S w' ∧ jJ P ops S Q p a' w') [o] a w) : jJ P ops S Q ((k, true) :: p) a w := ⟨o, ho, h⟩
theorem pF {Q : Exit → Act → World → Prop} {p : List (Nat × Bool)} (hT : S w) (h : jJ P ops S Q p a w) : wpList P ops (Only fun a' w' => S w' ∧ jJ P ops S Q p a' w') [] a w := ⟨hT, h⟩
theorem xI {Q : Exit → Act → World → Prop} (h : Q .normal a w) : jJ P ops S (NoPanic Q) [] a w := h
theorem xG {id : Nat} {y : Code} {Q : Exit → Act → World → Prop} {l : List Oper} {L : List (Nat × Obj)} (HM : Mm G w0 w L) (hm : P.follows .mixedOrders = true) (S : World → Prop) (plan : List (Nat × Bool)) (hB : Bf l.toArray plan = true)
  (h : ∀ w', Mm G w0 w' L → jJ P l.toArray S (NoPanic (Exit.then (y.wp P Q) Q)) plan a w') : (Code.seq (.region id l.toArray true) y).wp P Q a w :=
 wp_seq (Dw hm plan S hB (h _ (HM.drewN 1)))
theorem Mm.cellAt {L : List (Nat × Obj)} (h : Mm G w0 w L) {i b k : Nat} {cs : Array Value} {t : TypeId} {f : Nat × Nat} {v : Value} (e : L[i]? = some (b, .cells cs t f)) (hv : cs[k]? = some v) : w.cell? ⟨b, k, none⟩ = some v := by
 rw [cell_of_row w b k cs t f (h.get e)]; exact hv
theorem jM (w : World) : Told [] w := fun p hp => by cases hp
/-- a free operation whose run is told -/
theorem dZ {LS : List (Nat × Obj)} {Q : Exit → Act → World → Prop} {k : Nat} {p : List (Nat × Bool)} {o : Oper} {Sl : Slots} (ho : ops[k]? = some o) (HF : Fr N a Sl) (hT : Told LS w) (hgd : o.guard = none) (v : Value)
  (hx : (okD N o.dst && qo o.op && o.op.operands.toList.all (fun x => (ev Sl x).isSome)) = true) (hrun : ∀ w', Told LS w' → (execOp (rho Sl) o).run P w' = .ok (.value v) w')
  (hK : ∀ a', Fr N a' (qC Sl o.dst v) → jJ P ops (Told LS) Q p a' w) : jJ P ops (Told LS) Q ((k, false) :: p) a w := by
 obtain ⟨h1, h3⟩ := Bool.and_eq_true_iff.1 hx
 obtain ⟨h1, h2⟩ := Bool.and_eq_true_iff.1 h1
 have he : execOp a.eval o = execOp (rho Sl) o := execOp_congr o (oQ h2) fun x hx => HF.rho (List.all_eq_true.1 h3 x (by simpa using hx))
 exact ⟨hT, o, v, ho, .inl ⟨by simp [Region.wanted, hgd], fun w' hw' => by rw [he]; exact hrun w' hw'⟩, hK _ (HF.put _ _ (jv h1))⟩
/-- a forced operation -/
theorem b_ {LS : List (Nat × Obj)} {Q : Exit → Act → World → Prop} {k : Nat} {p : List (Nat × Bool)} {o : Oper} (ho : ops[k]? = some o)
  (h : wpList P ops (Only fun a' w' => Told LS w' ∧ jJ P ops (Told LS) Q p a' w') [o] a w) : jJ P ops (Told LS) Q ((k, true) :: p) a w := ⟨o, ho, h⟩
theorem dF {LS : List (Nat × Obj)} {Q : Exit → Act → World → Prop} {p : List (Nat × Bool)} (hT : Told LS w) (h : jJ P ops (Told LS) Q p a w) : wpList P ops (Only fun a' w' => Told LS w' ∧ jJ P ops (Told LS) Q p a' w') [] a w := ⟨hT, h⟩
theorem lI {LS : List (Nat × Obj)} {Q : Exit → Act → World → Prop} (h : Q .normal a w) : jJ P ops (Told LS) (NoPanic Q) [] a w := h
end
end Go.Proofs.YtdgehpocmfjbiaaDoor
namespace Go.Proofs.YtdgehpocmfjbiaaDoor
open Go.RowKit

theorem Keep.less {G : List Nat} {k : Nat} {w w' : World} (h : Keep (k :: G) w w') (e : w'.heap[k]? = w.heap[k]?) : Keep G w w' :=
 ⟨h.os, h.tape, h.output, h.size, fun j hj hn => by
  by_cases hjk : j = k
  ·subst hjk; exact e
  ·exact h.block j hj (by simp [hjk, hn])⟩
section
variable {P : Program} {N : Nat} {G : List Nat} {w0 w : World} {a : Act} {ops : Array Oper}
theorem su {Q : Exit → Act → World → Prop} {rest : List Oper} {o : Oper} {S : Slots} {L : List (Nat × Obj)} (HF : Fr N a S) (HM : Mm G w0 w L) (hgd : o.guard = none) (l c : Operand) (t : TypeId)
  (ho : o.op = .makeSlice t l c) (hd : okD N o.dst = true) (e : TypeId) (z : Value) (bytes : Nat) (ht : P.underlying t = some (.slice e)) (hi : (P.info? e).map (fun i => (i.zero, i.size, i.bytes)) = some (some z, 1, bytes)) (hz1 : z.cells = #[z])
  (kl kc : IntKind) (n : Nat) (hl : ev S l = some (.int kl (n : Int))) (hc : ev S c = some (.int kc (n : Int))) (hb : bytes * n ≤ 281474976710656) (h63 : n ≤ 9223372036854775807)
  (hK : ∀ a' w' b, w.heap.size ≤ b → Below w.heap.size w w' → Mm G w0 w' ((b, .cells (madeCells #[z] n) e (0, 0)) :: L) → Fr N a' (qC S o.dst (aH b n n)) → wpList P ops Q rest a' w') : wpList P ops Q (o :: rest) a w := by
 refine wpList_plain hgd fun K hK' => ?_
 have hrun := run_make_row' (P := P) t e z bytes ht hi hz1 kl kc n hb h63 w
 unfold Oper.wp
 simp only [execOp, ho, HF.ev hl, HF.ev hc, Sem.run_bind, hrun, Result.andThen_ok, Sem.run_pure]
 exact hK' _ _ (hK _ _ _ (Nat.le_refl _) ((Below.refl _ _).alloc (Nat.le_refl _) _) (HM.alloc _) (HF.put _ _ (jv hd)))
end
theorem qM : (Tryd.prog.info? 5).map (fun i => (i.zero, i.size, i.bytes)) = some (some (.int .u8 0), 1, 1) := by kernel_rfl
theorem kM (z : Value) (n : Nat) : (madeCells #[z] n).size = n := by simp [madeCells]

abbrev lN := fun (s1 : Nat) (b : Nat) (o : Nat) (n : Nat) (c : Nat) (base : Nat) (bT : Int) (limit : Int) (sn : Int) => ((s1, .cells #[.iface 178 (.slice (some ⟨b, o, none⟩) n c), aA (base : Nat), .int .i64 bT, .int .i64 limit, .int .i64 sn] 246 (0, 0)) : Nat × Obj)
abbrev lM := fun (s2 : Nat) (s1 : Nat) => ((s2, .cells #[.iface 144 (aG s1), aA 0, aA 0, aA 9223372036854775807, aA 9223372036854775807] 246 (0, 0)) : Nat × Obj)
abbrev lK := fun (s2 : Nat) (g : Nat) (m : Nat) (mc : Nat) => ([(0, aG s2), (1, aH g m mc), (4, aA 0), (5, .nilIface)] : Slots)
theorem IL (l : List UInt8) (b o n c : Nat) (hl : n = l.length) (hnc : n ≤ c) (g s1 s2 : Nat) (cs : Array Value) (t : TypeId) (m mc : Nat) (hm : cs.size = m) (base : Nat) (bT limit sn : Int) (k1 : ((base + 0 + m : Nat) : Int) ≤ limit) (k2 : limit ≤ 9223372036854775807) (k3 : ((base + 0 : Nat) : Int) < limit) (h0 : base + 0 < n) (ho : base + 0 + m ≤ n) (w0 : World) (hr : Row w0 (some ⟨b, o, none⟩) (l.map Bv)) (hbg : b ≠ g) (hb1 : b ≠ s1) (hb2 : b ≠ s2) (h12 : s1 ≠ s2) (Ic : s1 ≠ g) (u_ : s2 ≠ g) (hs1 : w0.heap[s1]? = some (.cells #[.iface 178 (.slice (some ⟨b, o, none⟩) n c), aA (base : Nat), .int .i64 bT, .int .i64 limit, .int .i64 sn] 246 (0, 0))) (hs2 : w0.heap[s2]? = some (.cells #[.iface 144 (aG s1), aA 0, aA 0, aA 9223372036854775807, aA 9223372036854775807] 246 (0, 0))) (hg : w0.heap[g]? = some (.cells cs t (0, 0))) :
  Calls Tryd.prog 126 #[aG s2, aH g m mc] w0 fun e w' => e = .returned (.tuple #[aB m, .nilIface]) ∧ Keep [s1, s2, g] w0 w' ∧ w'.heap[s1]? = some (.cells #[.iface 178 (.slice (some ⟨b, o, none⟩) n c), aA (base : Nat), .int .i64 bT, .int .i64 limit, .int .i64 sn] 246 (0, 0)) ∧ w'.heap[s2]? = some (.cells #[.iface 144 (aG s1), aA 0, aB m, aA 9223372036854775807, aA 9223372036854775807] 246 (0, 0)) ∧ w'.heap[g]? = some (.cells (((l.drop (base + 0)).take m).map Bv).toArray t (0, 0)) := by
 obtain ⟨w, hw⟩ : ∃ w, w0 = w := ⟨_, rfl⟩
 have HM : Mm [s1, s2, g] w0 w [lN s1 b o n c base bT limit sn, lM s2 s1, (g, .cells cs t (0, 0))] := hw ▸ Mm.start3 hs1 hs2 hg h12 Ic u_
 conv => arg 4; rw [hw]
 clear hw
 refine bV Tryd.func126 rfl Tryd.ntmps126 [(0, aG s2), (1, aH g m mc)] (by kernel_rfl) (Nat.le_of_ble_eq_true rfl) ?_
 intro a HF
 refine bC HF HM rfl [] (lK s2 g m mc) [lN s1 b o n c base bT limit sn, lM s2 s1, (g, .cells cs t (0, 0))] (by kernel_rfl) fun a w HF HM => ?_
 refine wp_seq ?_
 refine pJ (by kernel_rfl) (by kernel_rfl) ?_
 refine oL HF HM rfl 9 [[1], [1]] ((lK s2 g m mc) ++ [(15, .bool false)]) (by kernel_rfl) fun a HF => ?_
 refine qL ?_
 rintro w1 ⟨nq, hq⟩
 replace HM : Mm [s1, s2, g] w0 w1 [lN s1 b o n c base bT limit sn, lM s2 s1, (g, .cells cs t (0, 0))] := by rw [hq]; exact HM.drewN nq
 clear hq nq
 refine bf HF rfl ?_
 refine wp_skip ?_
 repeat first | refine aS ?_ | refine aU ?_
 replace HF := HF.sub (lK s2 g m mc) (by kernel_rfl)
 refine wp_seq ?_
 refine pJ (by kernel_rfl) (by kernel_rfl) ?_
 refine oL HF HM rfl 10 [[1], [1]] ((lK s2 g m mc) ++ [(6, aA 9223372036854775807)]) (by kernel_rfl) fun a HF => ?_
 refine qL ?_
 rintro w2 ⟨nq, hq⟩
 replace HM : Mm [s1, s2, g] w0 w2 [lN s1 b o n c base bT limit sn, lM s2 s1, (g, .cells cs t (0, 0))] := by rw [hq]; exact HM.drewN nq
 clear hq nq
 refine aW ?_
 refine aO HF HM rfl 4 [] ((lK s2 g m mc) ++ [(6, aA 9223372036854775807), (29, .bool (decide (9223372036854775807 < ((m : Nat) : Int))))]) [lN s1 b o n c base bT limit sn, lM s2 s1, (g, .cells cs t (0, 0))] (by kernel_rfl) fun a w HF HM => ?_
 rw [show decide ((9223372036854775807 : Int) < ((m : Nat) : Int)) = false from bZ (by omega)] at HF
 refine aI ?_
 refine bf HF rfl ?_
 refine wp_skip ?_
 repeat first | refine aS ?_ | refine aU ?_
 replace HF := HF.sub ((lK s2 g m mc) ++ [(6, aA 9223372036854775807)]) (by kernel_rfl)
 refine pK HM (by kernel_rfl) [lM s2 s1] [(0, false), (1, false), (2, false), (3, false), (4, false), (5, false), (6, false), (7, false), (8, false), (9, false), (10, false), (11, true), (12, false), (13, false), (14, false), (15, false), (16, false)] (by kernel_rfl) fun w3 HM => ?_
 refine bH HF (HM.told [1] rfl) 11 [[0], [0]] ((lK s2 g m mc) ++ [(6, aA 9223372036854775807), (37, .iface 144 (aG s1)), (38, aH g m mc), (42, aA 0), (44, .iface 144 (aG s1))]) (by kernel_rfl) fun a HF => ?_
 refine b_ rfl ?_
 refine bn HF (by kernel_rfl) 93 #[aG s1, aH g m mc, aB 0] (by kernel_rfl) (fun w => by kernel_rfl) (Calls.mono (xC l b o n c hl hnc g s1 cs t m mc hm base 0 bT limit sn k1 k2 k3 h0 ho w3 (HM.row hr (by intro b' o' s' e; injection e with e; injection e with e; subst e; simp [hb1, hb2, hbg])) hbg hb1 (HM.ne (i := 0) (j := 2) rfl rfl (by decide)) (HM.get (i := 0) rfl) (HM.get (i := 2) rfl)) ?_)
 rintro _ w4 ⟨rfl, hkp, xg, hgn⟩
 replace HM : Mm [s1, s2, g] w0 w4 [lN s1 b o n c base bT limit sn, lM s2 s1, (g, .cells (((l.drop (base + 0)).take m).map Bv).toArray t (0, 0))] := HM.Bc (i := 0) (j := 2) rfl rfl (by decide) xg hgn hkp
 clear hkp xg hgn
 refine ⟨_, rfl, ?_⟩; clear HF; intro a HF; replace HF := HF.sub ((lK s2 g m mc) ++ [(6, aA 9223372036854775807), (37, .iface 144 (aG s1)), (38, aH g m mc), (42, aA 0), (44, .iface 144 (aG s1)), (45, .tuple #[aB m, .nilIface])]) (by kernel_rfl)
 refine dF (HM.told [1] rfl) ?_
 refine bH HF (HM.told [1] rfl) 5 [] [(0, aG s2), (1, aH g m mc), (6, aA 9223372036854775807), (4, aB m), (5, .nilIface)] (by kernel_rfl) fun a HF => ?_
 refine lI ?_
 refine aS ?_
 refine aW ?_
 refine aO HF HM rfl 6 [[1]] [(0, aG s2), (1, aH g m mc), (6, aA 9223372036854775807), (4, aB m), (5, .nilIface), (48, aG s2), (53, aA (IntKind.i64.wrap (0 + ((m : Nat) : Int))))] [lN s1 b o n c base bT limit sn, lM s2 s1, (g, .cells (((l.drop (base + 0)).take m).map Bv).toArray t (0, 0))] (by kernel_rfl) fun a w HF HM => ?_
 rw [show IntKind.i64.wrap (0 + ((m : Nat) : Int)) = ((m : Nat) : Int) from (IntWalk.i64_in _ (by omega)).trans (by omega)] at HF
 refine aO HF HM rfl 3 [[1]] [(0, aG s2), (1, aH g m mc), (6, aA 9223372036854775807), (4, aB m), (5, .nilIface)] [lN s1 b o n c base bT limit sn, (s2, .cells #[.iface 144 (aG s1), aA 0, aB m, aA 9223372036854775807, aA 9223372036854775807] 246 (0, 0)), (g, .cells (((l.drop (base + 0)).take m).map Bv).toArray t (0, 0))] (by kernel_rfl) fun a w HF HM => ?_
 refine aI ?_
 refine wp_ret ?_
 have hk1 := HM.keep
 exact h_ HF rfl rfl rfl ⟨rfl, HM.keep, HM.get (i := 0) rfl, HM.get (i := 1) rfl, HM.get (i := 2) rfl⟩

theorem Mm.MQ {G : List Nat} {w0 w w' : World} {L : List (Nat × Obj)} (h : Mm G w0 w L) {i j k b c d : Nat} {o o' p p' q q' : Obj} (e : L[i]? = some (b, o)) (f : L[j]? = some (c, p)) (g : L[k]? = some (d, q)) (hij : i ≠ j) (hik : i ≠ k) (hjk : j ≠ k) (h1 : w'.heap[b]? = some o') (h2 : w'.heap[c]? = some p') (h3 : w'.heap[d]? = some q') (hk : Keep [b, c, d] w w') : Mm G w0 w' (((L.set i (b, o')).set j (c, p')).set k (d, q')) := by
 have hb := h.own e
 have hc := h.own f
 have hd := h.own g
 have hset : ∀ (K : List (Nat × Obj)) (i b : Nat) (o o' : Obj), K[i]? = some (b, o) → (K.set i (b, o')).map (·.1) = K.map (·.1) := fun K i b o o' he => by
  rw [List.map_set]
  apply List.ext_getElem?
  intro j
  rw [List.getElem?_set]
  split
  ·rename_i hij; subst hij
   obtain ⟨hi, e1⟩ := List.getElem?_eq_some_iff.1 he
   simp [hi, e1]
  ·rfl
 have f' : (L.set i (b, o'))[j]? = some (c, p) := by rw [List.getElem?_set, if_neg hij]; exact f
 have g' : ((L.set i (b, o')).set j (c, p'))[k]? = some (d, q) := by rw [List.getElem?_set, if_neg hjk, List.getElem?_set, if_neg hik]; exact g
 refine ⟨h.1.step hk fun m hm => ?_, fun r hr => ?_, ?_⟩
 ·simp only [List.mem_cons, List.not_mem_nil, or_false] at hm
  rcases hm with rfl | rfl | rfl
  ·exact hb
  ·exact hc
  ·exact hd
 ·obtain ⟨m, hm⟩ := List.getElem?_of_mem hr
  rw [List.getElem?_set] at hm
  split at hm
  ·split at hm
   ·injection hm with hm; subst hm; exact ⟨h3, hd⟩
   ·cases hm
  ·rename_i hkm
   rw [List.getElem?_set] at hm
   split at hm
   ·split at hm
    ·injection hm with hm; subst hm; exact ⟨h2, hc⟩
    ·cases hm
   ·rename_i hjm
    rw [List.getElem?_set] at hm
    split at hm
    ·split at hm
     ·injection hm with hm; subst hm; exact ⟨h1, hb⟩
     ·cases hm
    ·rename_i him
     have hr' : L[m]? = some (r.1, r.2) := hm
     have n1 : r.1 ≠ b := h.ne hr' e (Ne.symm him)
     have n2 : r.1 ≠ c := h.ne hr' f (Ne.symm hjm)
     have n3 : r.1 ≠ d := h.ne hr' g (Ne.symm hkm)
     exact ⟨(hk.block _ (h.lt hr') (by simp [n1, n2, n3])).trans (h.get hr'), h.own hr'⟩
 ·rw [hset _ k d q q' g', hset _ j c p p' f', hset _ i b o o' e]; exact h.2.2

abbrev gB := fun (s1 : Nat) (b : Nat) (o : Nat) (n : Nat) (c : Nat) (base : Nat) (bT : Int) (limit : Int) (sn : Int) => ((s1, .cells #[.iface 178 (.slice (some ⟨b, o, none⟩) n c), aA (base : Nat), .int .i64 bT, .int .i64 limit, .int .i64 sn] 246 (0, 0)) : Nat × Obj)
abbrev lF := fun (s2 : Nat) (s1 : Nat) => ((s2, .cells #[.iface 144 (aG s1), aA 0, aA 0, aA 9223372036854775807, aA 9223372036854775807] 246 (0, 0)) : Nat × Obj)
abbrev dL := fun (s2 : Nat) (g : Nat) (m : Nat) (mc : Nat) => ([(0, .iface 144 (aG s2)), (1, aH g m mc), (2, aB m)] : Slots)
abbrev kG := fun (s2 : Nat) (s1 : Nat) (m : Nat) => ((s2, .cells #[.iface 144 (aG s1), aA 0, aB m, aA 9223372036854775807, aA 9223372036854775807] 246 (0, 0)) : Nat × Obj)
abbrev kF := fun (g : Nat) (l : List UInt8) (base : Nat) (m : Nat) (t : TypeId) => ((g, .cells (((l.drop (base + 0)).take m).map Bv).toArray t (0, 0)) : Nat × Obj)
theorem Dv (l : List UInt8) (b o n c : Nat) (hl : n = l.length) (hnc : n ≤ c) (g s1 s2 : Nat) (cs : Array Value) (t : TypeId) (m mc : Nat) (hm : cs.size = m) (base : Nat) (bT limit sn : Int) (k1 : ((base + 0 + m : Nat) : Int) ≤ limit) (k2 : limit ≤ 9223372036854775807) (k3 : ((base + 0 : Nat) : Int) < limit) (h0 : base + 0 < n) (ho : base + 0 + m ≤ n) (hm0 : 0 < m) (hmc : m ≤ mc) (w0 : World) (hr : Row w0 (some ⟨b, o, none⟩) (l.map Bv)) (hbg : b ≠ g) (hb1 : b ≠ s1) (hb2 : b ≠ s2) (h12 : s1 ≠ s2) (Ic : s1 ≠ g) (u_ : s2 ≠ g) (hs1 : w0.heap[s1]? = some (.cells #[.iface 178 (.slice (some ⟨b, o, none⟩) n c), aA (base : Nat), .int .i64 bT, .int .i64 limit, .int .i64 sn] 246 (0, 0))) (hs2 : w0.heap[s2]? = some (.cells #[.iface 144 (aG s1), aA 0, aA 0, aA 9223372036854775807, aA 9223372036854775807] 246 (0, 0))) (hg : w0.heap[g]? = some (.cells cs t (0, 0))) :
  Calls Tryd.prog 108 #[.iface 144 (aG s2), aH g m mc, aB m] w0 fun e w' => e = .returned (.tuple #[aB m, .nilIface]) ∧ Keep [s1, s2, g] w0 w' ∧ w'.heap[s1]? = some (.cells #[.iface 178 (.slice (some ⟨b, o, none⟩) n c), aA (base : Nat), .int .i64 bT, .int .i64 limit, .int .i64 sn] 246 (0, 0)) ∧ w'.heap[s2]? = some (.cells #[.iface 144 (aG s1), aA 0, aB m, aA 9223372036854775807, aA 9223372036854775807] 246 (0, 0)) ∧ w'.heap[g]? = some (.cells (((l.drop (base + 0)).take m).map Bv).toArray t (0, 0)) := by
 obtain ⟨i0, hi0, hs0⟩ := qV
 obtain ⟨w, hw⟩ : ∃ w, w0 = w := ⟨_, rfl⟩
 have HM : Mm [s1, s2, g] w0 w [gB s1 b o n c base bT limit sn, lF s2 s1, (g, .cells cs t (0, 0))] := hw ▸ Mm.start3 hs1 hs2 hg h12 Ic u_
 conv => arg 4; rw [hw]
 clear hw
 refine bV Tryd.func108 rfl Tryd.ntmps108 (dL s2 g m mc) (by kernel_rfl) (Nat.le_of_ble_eq_true rfl) ?_
 intro a HF
 refine bC HF HM rfl [] ((dL s2 g m mc) ++ [(6, aA 0), (7, .nilIface)]) [gB s1 b o n c base bT limit sn, lF s2 s1, (g, .cells cs t (0, 0))] (by kernel_rfl) fun a w HF HM => ?_
 refine wp_seq ?_
 refine aW ?_
 refine aO HF HM rfl 4 [] ((dL s2 g m mc) ++ [(6, aA 0), (7, .nilIface), (12, .bool (decide (((m : Nat) : Int) < ((m : Nat) : Int))))]) [gB s1 b o n c base bT limit sn, lF s2 s1, (g, .cells cs t (0, 0))] (by kernel_rfl) fun a w HF HM => ?_
 rw [show decide (((m : Nat) : Int) < ((m : Nat) : Int)) = false from bZ (by omega)] at HF
 refine aI ?_
 refine bf HF rfl ?_
 refine wp_skip ?_
 repeat first | refine aS ?_ | refine aU ?_
 replace HF := HF.sub ((dL s2 g m mc) ++ [(6, aA 0), (7, .nilIface)]) (by kernel_rfl)
 refine wp_seq ?_
 refine wp_block (wp_loop_rounds 2 ?_)
 rw [rounds_succ]
 refine wp_seq ?_
 refine aW ?_
 refine aO HF HM rfl 3 [] ((dL s2 g m mc) ++ [(6, aA 0), (7, .nilIface), (16, .bool (decide (0 < ((m : Nat) : Int))))]) [gB s1 b o n c base bT limit sn, lF s2 s1, (g, .cells cs t (0, 0))] (by kernel_rfl) fun a w HF HM => ?_
 rw [show decide ((0 : Int) < ((m : Nat) : Int)) = true from dM (by omega)] at HF
 refine aO HF HM rfl 4 [] ((dL s2 g m mc) ++ [(6, aA 0), (7, .nilIface), (20, .bool true)]) [gB s1 b o n c base bT limit sn, lF s2 s1, (g, .cells cs t (0, 0))] (by kernel_rfl) fun a w HF HM => ?_
 refine aI ?_
 refine bF HF rfl ?_
 refine wp_skip ?_
 repeat first | refine aS ?_ | refine aU ?_
 replace HF := HF.sub ((dL s2 g m mc) ++ [(6, aA 0), (7, .nilIface)]) (by kernel_rfl)
 refine wp_block ?_
 refine bC HF HM rfl [] ((dL s2 g m mc) ++ [(6, aA 0), (7, .nilIface), (8, aA 0)]) [gB s1 b o n c base bT limit sn, lF s2 s1, (g, .cells cs t (0, 0))] (by kernel_rfl) fun a w HF HM => ?_
 refine pK HM (by kernel_rfl) [] [(0, false), (1, false), (2, false), (3, false), (4, false), (5, false), (6, false), (7, true), (8, false), (9, false), (10, false), (11, false), (12, false)] (by kernel_rfl) fun w1 HM => ?_
 refine bH HF (HM.told [] rfl) 3 [] ((dL s2 g m mc) ++ [(6, aA 0), (7, .nilIface), (8, aA 0), (22, .iface 144 (aG s2)), (23, aH g m mc), (24, aA 0)]) (by kernel_rfl) fun a HF => ?_
 refine dZ rfl HF (HM.told [] rfl) rfl (aH g m mc) (by kernel_rfl) (fun w hw => by simpa using zn (t := 33) Tryd.underlying33 hi0 hs0 rfl 0 (kk := .i64) rfl rfl (by omega) hmc (by omega) w) fun a HF => ?_
 refine bH HF (HM.told [] rfl) 3 [] ((dL s2 g m mc) ++ [(6, aA 0), (7, .nilIface), (8, aA 0), (22, .iface 144 (aG s2)), (25, aH g m mc), (28, .iface 144 (aG s2))]) (by kernel_rfl) fun a HF => ?_
 refine b_ rfl ?_
 refine bn HF (by kernel_rfl) 126 #[aG s2, aH g m mc] (by kernel_rfl) (fun w => by kernel_rfl) (Calls.mono (IL l b o n c hl hnc g s1 s2 cs t m mc hm base bT limit sn k1 k2 k3 h0 ho w1 (HM.row hr (by intro b' o' s' e; injection e with e; injection e with e; subst e; simp [hb1, hb2, hbg])) hbg hb1 hb2 h12 Ic u_ (HM.get (i := 0) rfl) (HM.get (i := 1) rfl) (HM.get (i := 2) rfl)) ?_)
 rintro _ w2 ⟨rfl, hkp, xg, w_, hgn⟩
 replace HM : Mm [s1, s2, g] w0 w2 [gB s1 b o n c base bT limit sn, kG s2 s1 m, kF g l base m t] := HM.MQ (i := 0) (j := 1) (k := 2) rfl rfl rfl (by decide) (by decide) (by decide) xg w_ hgn hkp
 clear hkp xg w_ hgn
 refine ⟨_, rfl, ?_⟩; clear HF; intro a HF; replace HF := HF.sub ((dL s2 g m mc) ++ [(6, aA 0), (7, .nilIface), (8, aA 0), (22, .iface 144 (aG s2)), (25, aH g m mc), (28, .iface 144 (aG s2)), (29, .tuple #[aB m, .nilIface])]) (by kernel_rfl)
 refine dF (HM.told [] rfl) ?_
 refine bH HF (HM.told [] rfl) 5 [] ((dL s2 g m mc) ++ [(6, aA 0), (8, aB m), (7, .nilIface)]) (by kernel_rfl) fun a HF => ?_
 refine lI ?_
 refine aS ?_
 refine wp_region_lit ?_
 refine aO HF HM rfl 3 [] ((dL s2 g m mc) ++ [(6, aA 0), (8, aB m), (7, .nilIface), (34, aA (IntKind.i64.wrap (0 + ((m : Nat) : Int))))]) [gB s1 b o n c base bT limit sn, kG s2 s1 m, kF g l base m t] (by kernel_rfl) fun a w HF HM => ?_
 rw [show IntKind.i64.wrap (0 + ((m : Nat) : Int)) = ((m : Nat) : Int) from (IntWalk.i64_in _ (by omega)).trans (by omega)] at HF
 refine aO HF HM rfl 1 [] ((dL s2 g m mc) ++ [(8, aB m), (7, .nilIface), (6, aB m)]) [gB s1 b o n c base bT limit sn, kG s2 s1 m, kF g l base m t] (by kernel_rfl) fun a w HF HM => ?_
 refine wpList_nil ?_
 repeat first | refine aS ?_ | refine aU ?_
 rw [rounds_succ]
 refine wp_seq ?_
 refine aW ?_
 refine aO HF HM rfl 3 [] ((dL s2 g m mc) ++ [(8, aB m), (7, .nilIface), (6, aB m), (16, .bool (decide (((m : Nat) : Int) < ((m : Nat) : Int))))]) [gB s1 b o n c base bT limit sn, kG s2 s1 m, kF g l base m t] (by kernel_rfl) fun a w HF HM => ?_
 rw [show decide ((((m : Nat) : Int) : Int) < ((m : Nat) : Int)) = false from bZ (by omega)] at HF
 refine aO HF HM rfl 4 [] ((dL s2 g m mc) ++ [(8, aB m), (7, .nilIface), (6, aB m), (20, .bool false)]) [gB s1 b o n c base bT limit sn, kG s2 s1 m, kF g l base m t] (by kernel_rfl) fun a w HF HM => ?_
 refine aI ?_
 refine bf HF rfl ?_
 refine wp_exit ?_
 repeat (first | refine iW ?_ | refine kH ?_ | refine aS ?_)
 replace HF := HF.sub ((dL s2 g m mc) ++ [(8, aB m), (7, .nilIface), (6, aB m)]) (by kernel_rfl)
 refine wp_seq ?_
 refine aW ?_
 refine aO HF HM rfl 3 [] ((dL s2 g m mc) ++ [(8, aB m), (7, .nilIface), (6, aB m), (37, .bool (decide (((m : Nat) : Int) ≤ ((m : Nat) : Int))))]) [gB s1 b o n c base bT limit sn, kG s2 s1 m, kF g l base m t] (by kernel_rfl) fun a w HF HM => ?_
 rw [show decide (((m : Nat) : Int) ≤ ((m : Nat) : Int)) = true from dM (by omega)] at HF
 refine aI ?_
 refine bF HF rfl ?_
 refine nC HF HM rfl [] ((dL s2 g m mc) ++ [(8, aB m), (6, aB m), (7, .nilIface)]) [gB s1 b o n c base bT limit sn, kG s2 s1 m, kF g l base m t] (by kernel_rfl) fun a w HF HM => ?_
 repeat first | refine aS ?_ | refine aU ?_
 refine wp_ret ?_
 exact h_ HF rfl rfl rfl ⟨rfl, HM.keep, HM.get (i := 0) rfl, HM.get (i := 1) rfl, HM.get (i := 2) rfl⟩

abbrev oh := fun (s1 : Nat) (b : Nat) (o : Nat) (n : Nat) (c : Nat) (base : Nat) (bT : Int) (limit : Int) (sn : Int) => ((s1, .cells #[.iface 178 (.slice (some ⟨b, o, none⟩) n c), aA (base : Nat), .int .i64 bT, .int .i64 limit, .int .i64 sn] 246 (0, 0)) : Nat × Obj)
abbrev rW := fun (s2 : Nat) (s1 : Nat) => ((s2, .cells #[.iface 144 (aG s1), aA 0, aA 0, aA 9223372036854775807, aA 9223372036854775807] 246 (0, 0)) : Nat × Obj)
theorem F9 (l : List UInt8) (b o n c : Nat) (hl : n = l.length) (hnc : n ≤ c) (g s1 s2 : Nat) (cs : Array Value) (t : TypeId) (m mc : Nat) (hm : cs.size = m) (base : Nat) (bT limit sn : Int) (k1 : ((base + 0 + m : Nat) : Int) ≤ limit) (k2 : limit ≤ 9223372036854775807) (k3 : ((base + 0 : Nat) : Int) < limit) (h0 : base + 0 < n) (ho : base + 0 + m ≤ n) (hm0 : 0 < m) (hmc : m ≤ mc) (w0 : World) (hr : Row w0 (some ⟨b, o, none⟩) (l.map Bv)) (hbg : b ≠ g) (hb1 : b ≠ s1) (hb2 : b ≠ s2) (h12 : s1 ≠ s2) (Ic : s1 ≠ g) (u_ : s2 ≠ g) (hs1 : w0.heap[s1]? = some (.cells #[.iface 178 (.slice (some ⟨b, o, none⟩) n c), aA (base : Nat), .int .i64 bT, .int .i64 limit, .int .i64 sn] 246 (0, 0))) (hs2 : w0.heap[s2]? = some (.cells #[.iface 144 (aG s1), aA 0, aA 0, aA 9223372036854775807, aA 9223372036854775807] 246 (0, 0))) (hg : w0.heap[g]? = some (.cells cs t (0, 0))) :
  Calls Tryd.prog 105 #[.iface 144 (aG s2), aH g m mc] w0 fun e w' => e = .returned (.tuple #[aB m, .nilIface]) ∧ Keep [s1, s2, g] w0 w' ∧ w'.heap[s1]? = some (.cells #[.iface 178 (.slice (some ⟨b, o, none⟩) n c), aA (base : Nat), .int .i64 bT, .int .i64 limit, .int .i64 sn] 246 (0, 0)) ∧ w'.heap[s2]? = some (.cells #[.iface 144 (aG s1), aA 0, aB m, aA 9223372036854775807, aA 9223372036854775807] 246 (0, 0)) ∧ w'.heap[g]? = some (.cells (((l.drop (base + 0)).take m).map Bv).toArray t (0, 0)) := by
 obtain ⟨w, hw⟩ : ∃ w, w0 = w := ⟨_, rfl⟩
 have HM : Mm [s1, s2, g] w0 w [oh s1 b o n c base bT limit sn, rW s2 s1, (g, .cells cs t (0, 0))] := hw ▸ Mm.start3 hs1 hs2 hg h12 Ic u_
 conv => arg 4; rw [hw]
 clear hw
 refine bV Tryd.func105 rfl Tryd.ntmps105 [(0, .iface 144 (aG s2)), (1, aH g m mc)] (by kernel_rfl) (Nat.le_of_ble_eq_true rfl) ?_
 intro a HF
 refine bC HF HM rfl [] [(0, .iface 144 (aG s2)), (1, aH g m mc), (4, aA 0), (5, .nilIface)] [oh s1 b o n c base bT limit sn, rW s2 s1, (g, .cells cs t (0, 0))] (by kernel_rfl) fun a w HF HM => ?_
 refine aW ?_
 refine aO HF HM rfl 4 [] [(0, .iface 144 (aG s2)), (1, aH g m mc), (4, aA 0), (5, .nilIface), (6, .iface 144 (aG s2)), (7, aH g m mc), (9, aB m)] [oh s1 b o n c base bT limit sn, rW s2 s1, (g, .cells cs t (0, 0))] (by kernel_rfl) fun a w HF HM => ?_
 refine bn HF (by kernel_rfl) 108 #[.iface 144 (aG s2), aH g m mc, aB m] (by kernel_rfl) (fun w => by kernel_rfl) (Calls.mono (Dv l b o n c hl hnc g s1 s2 cs t m mc hm base bT limit sn k1 k2 k3 h0 ho hm0 hmc w (HM.row hr (by intro b' o' s' e; injection e with e; injection e with e; subst e; simp [hb1, hb2, hbg])) hbg hb1 hb2 h12 Ic u_ (HM.get (i := 0) rfl) (HM.get (i := 1) rfl) (HM.get (i := 2) rfl)) ?_)
 rintro _ w1 ⟨rfl, hkp, xg, w_, hgn⟩
 replace HM : Mm [s1, s2, g] w0 w1 [oh s1 b o n c base bT limit sn, (s2, .cells #[.iface 144 (aG s1), aA 0, aB m, aA 9223372036854775807, aA 9223372036854775807] 246 (0, 0)), (g, .cells (((l.drop (base + 0)).take m).map Bv).toArray t (0, 0))] := HM.MQ (i := 0) (j := 1) (k := 2) rfl rfl rfl (by decide) (by decide) (by decide) xg w_ hgn hkp
 clear hkp xg w_ hgn
 refine ⟨_, rfl, ?_⟩; clear HF; intro a HF
 refine aO HF HM rfl 4 [] [(0, .iface 144 (aG s2)), (1, aH g m mc), (4, aB m), (5, .nilIface)] [oh s1 b o n c base bT limit sn, (s2, .cells #[.iface 144 (aG s1), aA 0, aB m, aA 9223372036854775807, aA 9223372036854775807] 246 (0, 0)), (g, .cells (((l.drop (base + 0)).take m).map Bv).toArray t (0, 0))] (by kernel_rfl) fun a w HF HM => ?_
 refine aI ?_
 refine wp_ret ?_
 exact h_ HF rfl rfl rfl ⟨rfl, HM.keep, HM.get (i := 0) rfl, HM.get (i := 1) rfl, HM.get (i := 2) rfl⟩

theorem oJ (m : Nat) (hm : m < 1000) (w0 : World) :
  Calls Tryd.prog 98 #[bD 8, aJ m] w0 fun e w' => e = .returned (aB m) ∧ w' = w0 := by
 have HM : Mm [] w0 w0 [] := Mm.start w0
 refine bV Tryd.func98 rfl Tryd.ntmps98 [(0, bD 8), (1, aJ m)] (by kernel_rfl) (Nat.le_of_ble_eq_true rfl) ?_
 intro a HF
 refine nD HF HM rfl [] [(0, bD 8), (1, aJ m), (4, aA 0)] (by kernel_rfl) fun a HF => ?_
 refine wp_seq ?_
 refine aW ?_
 refine wp_pure HF HM rfl 2 [] [(0, bD 8), (1, aJ m), (4, aA 0), (6, aA (IntKind.i64.wrap ((m : Nat) : Int)))] (by kernel_rfl) fun a HF => ?_
 rw [show IntKind.i64.wrap ((m : Nat) : Int) = ((m : Nat) : Int) from IntWalk.i64_in _ (by omega)] at HF
 refine wp_pure HF HM rfl 1 [] [(0, bD 8), (1, aJ m), (4, aA 0), (7, .bool (decide (((m : Nat) : Int) < 0)))] (by kernel_rfl) fun a HF => ?_
 rw [show decide (((m : Nat) : Int) < 0) = false from bZ (by omega)] at HF
 refine wp_pure HF HM rfl 4 [] [(0, bD 8), (1, aJ m), (4, aA 0), (8, .bool false), (9, aJ m), (11, aA (IntKind.i64.wrap ((m : Nat) : Int)))] (by kernel_rfl) fun a HF => ?_
 rw [show IntKind.i64.wrap ((m : Nat) : Int) = ((m : Nat) : Int) from IntWalk.i64_in _ (by omega)] at HF
 refine wp_pure HF HM rfl 1 [] [(0, bD 8), (1, aJ m), (4, aA 0), (8, .bool false), (9, aJ m), (12, bD (IntKind.u64.wrap ((m : Nat) : Int)))] (by kernel_rfl) fun a HF => ?_
 rw [show IntKind.u64.wrap ((m : Nat) : Int) = ((m : Nat) : Int) from IntWalk.u64_in _ (by omega)] at HF
 refine wp_pure HF HM rfl 1 [] [(0, bD 8), (1, aJ m), (4, aA 0), (8, .bool false), (13, .bool (((m : Nat) : Int) != ((m : Nat) : Int)))] (by kernel_rfl) fun a HF => ?_
 rw [show (((m : Nat) : Int) != ((m : Nat) : Int)) = false from by simp] at HF
 refine wp_pure HF HM rfl 1 [] [(0, bD 8), (1, aJ m), (4, aA 0), (14, .bool false)] (by kernel_rfl) fun a HF => ?_
 refine aI ?_
 refine bf HF rfl ?_
 refine wp_skip ?_
 repeat first | refine aS ?_ | refine aU ?_
 replace HF := HF.sub [(0, bD 8), (1, aJ m), (4, aA 0)] (by kernel_rfl)
 refine wp_seq ?_
 refine aW ?_
 refine wp_pure HF HM rfl 7 [] [(0, bD 8), (1, aJ m), (4, aA 0), (17, .bool true), (21, .bool (decide (2305843009213693951 < ((m : Nat) : Int))))] (by kernel_rfl) fun a HF => ?_
 rw [show decide ((2305843009213693951 : Int) < ((m : Nat) : Int)) = false from bZ (by omega)] at HF
 refine wp_pure HF HM rfl 1 [] [(0, bD 8), (1, aJ m), (4, aA 0), (22, .bool false)] (by kernel_rfl) fun a HF => ?_
 refine aI ?_
 refine bf HF rfl ?_
 refine wp_skip ?_
 repeat first | refine aS ?_ | refine aU ?_
 replace HF := HF.sub [(0, bD 8), (1, aJ m), (4, aA 0)] (by kernel_rfl)
 refine wp_seq ?_
 refine aW ?_
 refine wp_pure HF HM rfl 3 [] [(0, bD 8), (1, aJ m), (4, aA 0), (25, bD (IntKind.u64.wrap (((m : Nat) : Int) * 8)))] (by kernel_rfl) fun a HF => ?_
 rw [show IntKind.u64.wrap (((m : Nat) : Int) * 8) = ((m : Nat) : Int) * 8 from IntWalk.u64_in _ (by omega)] at HF
 refine wp_pure HF HM rfl 1 [] [(0, bD 8), (1, aJ m), (4, aA 0), (26, .bool (decide (10485760 < ((m : Nat) : Int) * 8)))] (by kernel_rfl) fun a HF => ?_
 rw [show decide (10485760 < ((m : Nat) : Int) * 8) = false from bZ (by omega)] at HF
 refine aI ?_
 refine bf HF rfl ?_
 refine wp_skip ?_
 repeat first | refine aS ?_ | refine aU ?_
 replace HF := HF.sub [(0, bD 8), (1, aJ m), (4, aA 0)] (by kernel_rfl)
 refine aW ?_
 refine wp_pure HF HM rfl 2 [] [(0, bD 8), (1, aJ m), (4, aA 0), (32, aA (IntKind.i64.wrap ((m : Nat) : Int)))] (by kernel_rfl) fun a HF => ?_
 rw [show IntKind.i64.wrap ((m : Nat) : Int) = ((m : Nat) : Int) from IntWalk.i64_in _ (by omega)] at HF
 refine wp_pure HF HM rfl 1 [] [(0, bD 8), (1, aJ m), (4, aB m)] (by kernel_rfl) fun a HF => ?_
 refine aI ?_
 refine wp_ret ?_
 exact dI HF rfl rfl ⟨rfl, rfl⟩

theorem sS (m : Nat) (hm : m < 1000) (w0 : World) :
  Calls Tryd.prog 98 #[bD 120, aJ m] w0 fun e w' => e = .returned (aB m) ∧ w' = w0 := by
 have HM : Mm [] w0 w0 [] := Mm.start w0
 refine bV Tryd.func98 rfl Tryd.ntmps98 [(0, bD 120), (1, aJ m)] (by kernel_rfl) (Nat.le_of_ble_eq_true rfl) ?_
 intro a HF
 refine nD HF HM rfl [] [(0, bD 120), (1, aJ m), (4, aA 0)] (by kernel_rfl) fun a HF => ?_
 refine wp_seq ?_
 refine aW ?_
 refine wp_pure HF HM rfl 2 [] [(0, bD 120), (1, aJ m), (4, aA 0), (6, aA (IntKind.i64.wrap ((m : Nat) : Int)))] (by kernel_rfl) fun a HF => ?_
 rw [show IntKind.i64.wrap ((m : Nat) : Int) = ((m : Nat) : Int) from IntWalk.i64_in _ (by omega)] at HF
 refine wp_pure HF HM rfl 1 [] [(0, bD 120), (1, aJ m), (4, aA 0), (7, .bool (decide (((m : Nat) : Int) < 0)))] (by kernel_rfl) fun a HF => ?_
 rw [show decide (((m : Nat) : Int) < 0) = false from bZ (by omega)] at HF
 refine wp_pure HF HM rfl 4 [] [(0, bD 120), (1, aJ m), (4, aA 0), (8, .bool false), (9, aJ m), (11, aA (IntKind.i64.wrap ((m : Nat) : Int)))] (by kernel_rfl) fun a HF => ?_
 rw [show IntKind.i64.wrap ((m : Nat) : Int) = ((m : Nat) : Int) from IntWalk.i64_in _ (by omega)] at HF
 refine wp_pure HF HM rfl 1 [] [(0, bD 120), (1, aJ m), (4, aA 0), (8, .bool false), (9, aJ m), (12, bD (IntKind.u64.wrap ((m : Nat) : Int)))] (by kernel_rfl) fun a HF => ?_
 rw [show IntKind.u64.wrap ((m : Nat) : Int) = ((m : Nat) : Int) from IntWalk.u64_in _ (by omega)] at HF
 refine wp_pure HF HM rfl 1 [] [(0, bD 120), (1, aJ m), (4, aA 0), (8, .bool false), (13, .bool (((m : Nat) : Int) != ((m : Nat) : Int)))] (by kernel_rfl) fun a HF => ?_
 rw [show (((m : Nat) : Int) != ((m : Nat) : Int)) = false from by simp] at HF
 refine wp_pure HF HM rfl 1 [] [(0, bD 120), (1, aJ m), (4, aA 0), (14, .bool false)] (by kernel_rfl) fun a HF => ?_
 refine aI ?_
 refine bf HF rfl ?_
 refine wp_skip ?_
 repeat first | refine aS ?_ | refine aU ?_
 replace HF := HF.sub [(0, bD 120), (1, aJ m), (4, aA 0)] (by kernel_rfl)
 refine wp_seq ?_
 refine aW ?_
 refine wp_pure HF HM rfl 7 [] [(0, bD 120), (1, aJ m), (4, aA 0), (17, .bool true), (21, .bool (decide (153722867280912930 < ((m : Nat) : Int))))] (by kernel_rfl) fun a HF => ?_
 rw [show decide ((153722867280912930 : Int) < ((m : Nat) : Int)) = false from bZ (by omega)] at HF
 refine wp_pure HF HM rfl 1 [] [(0, bD 120), (1, aJ m), (4, aA 0), (22, .bool false)] (by kernel_rfl) fun a HF => ?_
 refine aI ?_
 refine bf HF rfl ?_
 refine wp_skip ?_
 repeat first | refine aS ?_ | refine aU ?_
 replace HF := HF.sub [(0, bD 120), (1, aJ m), (4, aA 0)] (by kernel_rfl)
 refine wp_seq ?_
 refine aW ?_
 refine wp_pure HF HM rfl 3 [] [(0, bD 120), (1, aJ m), (4, aA 0), (25, bD (IntKind.u64.wrap (((m : Nat) : Int) * 120)))] (by kernel_rfl) fun a HF => ?_
 rw [show IntKind.u64.wrap (((m : Nat) : Int) * 120) = ((m : Nat) : Int) * 120 from IntWalk.u64_in _ (by omega)] at HF
 refine wp_pure HF HM rfl 1 [] [(0, bD 120), (1, aJ m), (4, aA 0), (26, .bool (decide (10485760 < ((m : Nat) : Int) * 120)))] (by kernel_rfl) fun a HF => ?_
 rw [show decide (10485760 < ((m : Nat) : Int) * 120) = false from bZ (by omega)] at HF
 refine aI ?_
 refine bf HF rfl ?_
 refine wp_skip ?_
 repeat first | refine aS ?_ | refine aU ?_
 replace HF := HF.sub [(0, bD 120), (1, aJ m), (4, aA 0)] (by kernel_rfl)
 refine aW ?_
 refine wp_pure HF HM rfl 2 [] [(0, bD 120), (1, aJ m), (4, aA 0), (32, aA (IntKind.i64.wrap ((m : Nat) : Int)))] (by kernel_rfl) fun a HF => ?_
 rw [show IntKind.i64.wrap ((m : Nat) : Int) = ((m : Nat) : Int) from IntWalk.i64_in _ (by omega)] at HF
 refine wp_pure HF HM rfl 1 [] [(0, bD 120), (1, aJ m), (4, aB m)] (by kernel_rfl) fun a HF => ?_
 refine aI ?_
 refine wp_ret ?_
 exact dI HF rfl rfl ⟨rfl, rfl⟩

theorem Mm.NR {G : List Nat} {w0 w w' : World} {L : List (Nat × Obj)} (h : Mm G w0 w L) {i b g : Nat} {o o' q : Obj} (e : L[i]? = some (b, o)) (h1 : w'.heap[b]? = some o') (hk : Keep [b] w w') (hg : w.heap.size ≤ g) (ho : w'.heap[g]? = some q) : Mm G w0 w' ((g, q) :: L.set i (b, o')) := by
 have h' := h.put e h1 hk
 refine ⟨h'.1, fun p hp => ?_, ?_⟩
 ·rcases List.mem_cons.1 hp with rfl | hp
  ·exact ⟨ho, .inl (Nat.le_trans h.size hg)⟩
  ·exact h'.2.1 p hp
 ·rw [List.map_cons, List.pairwise_cons]
  refine ⟨fun c hc => ?_, h'.2.2⟩
  rw [List.map_set] at hc
  have hc' : c ∈ L.map (·.1) ∨ c = b := by
   rcases List.mem_or_eq_of_mem_set hc with h | h
   ·exact .inl h
   ·exact .inr h
  have : c < w.heap.size := by
   rcases hc' with hc' | rfl
   ·obtain ⟨p, hp, rfl⟩ := List.mem_map.1 hc'
    exact jD (h.2.1 p hp).1
   ·exact h.lt e
  show g ≠ c
  omega

abbrev fV := fun (s1 : Nat) (b : Nat) (o : Nat) (n : Nat) (c : Nat) (base : Nat) (bT : Int) (limit : Int) (sn : Int) => ((s1, .cells #[.iface 178 (.slice (some ⟨b, o, none⟩) n c), aA (base : Nat), .int .i64 bT, .int .i64 limit, .int .i64 sn] 246 (0, 0)) : Nat × Obj)
abbrev iV := fun (s2 : Nat) (s1 : Nat) => ((s2, .cells #[.iface 144 (aG s1), aA 0, aA 0, aA 9223372036854775807, aA 9223372036854775807] 246 (0, 0)) : Nat × Obj)
abbrev fU := fun (s2 : Nat) (m : Nat) => ([(0, .iface 144 (aG s2)), (1, aJ m), (4, aK), (5, .nilIface)] : Slots)
abbrev pO := fun (s2 : Nat) (s1 : Nat) (m : Nat) => ((s2, .cells #[.iface 144 (aG s1), aA 0, aB m, aA 9223372036854775807, aA 9223372036854775807] 246 (0, 0)) : Nat × Obj)
theorem Gf (l : List UInt8) (b o n c : Nat) (hl : n = l.length) (hnc : n ≤ c) (s1 s2 : Nat) (m : Nat) (base : Nat) (bT limit sn : Int) (k1 : ((base + 0 + m : Nat) : Int) ≤ limit) (k2 : limit ≤ 9223372036854775807) (k3 : ((base + 0 : Nat) : Int) < limit) (h0 : base + 0 < n) (ho : base + 0 + m ≤ n) (hm0 : 0 < m) (hm1 : m < 10485760) (w0 : World) (hr : Row w0 (some ⟨b, o, none⟩) (l.map Bv)) (hbl : b < w0.heap.size) (hb1 : b ≠ s1) (hb2 : b ≠ s2) (h12 : s1 ≠ s2) (hs1 : w0.heap[s1]? = some (.cells #[.iface 178 (.slice (some ⟨b, o, none⟩) n c), aA (base : Nat), .int .i64 bT, .int .i64 limit, .int .i64 sn] 246 (0, 0))) (hs2 : w0.heap[s2]? = some (.cells #[.iface 144 (aG s1), aA 0, aA 0, aA 9223372036854775807, aA 9223372036854775807] 246 (0, 0))) :
  Calls Tryd.prog 84 #[.iface 144 (aG s2), aJ m] w0 fun e w' => ∃ g, e = .returned (.tuple #[aH g m m, .nilIface]) ∧ w0.heap.size ≤ g ∧ Keep [s2] w0 w' ∧ w'.heap[s2]? = some (.cells #[.iface 144 (aG s1), aA 0, aB m, aA 9223372036854775807, aA 9223372036854775807] 246 (0, 0)) ∧ w'.heap[g]? = some (.cells (((l.drop (base + 0)).take m).map Bv).toArray 5 (0, 0)) := by
 obtain ⟨w, hw⟩ : ∃ w, w0 = w := ⟨_, rfl⟩
 have HM : Mm [s1, s2] w0 w [fV s1 b o n c base bT limit sn, iV s2 s1] := hw ▸ Mm.DV hs1 hs2 h12
 conv => arg 4; rw [hw]
 clear hw
 refine bV Tryd.func84 rfl Tryd.ntmps84 [(0, .iface 144 (aG s2)), (1, aJ m)] (by kernel_rfl) (Nat.le_of_ble_eq_true rfl) ?_
 intro a HF
 refine bC HF HM rfl [] (fU s2 m) [fV s1 b o n c base bT limit sn, iV s2 s1] (by kernel_rfl) fun a w HF HM => ?_
 refine wp_seq ?_
 refine aW ?_
 refine aO HF HM rfl 2 [] ((fU s2 m) ++ [(15, aA (IntKind.i64.wrap ((m : Nat) : Int)))]) [fV s1 b o n c base bT limit sn, iV s2 s1] (by kernel_rfl) fun a w HF HM => ?_
 rw [show IntKind.i64.wrap ((m : Nat) : Int) = ((m : Nat) : Int) from IntWalk.i64_in _ (by omega)] at HF
 refine aO HF HM rfl 1 [] ((fU s2 m) ++ [(16, .bool (decide (((m : Nat) : Int) < 0)))]) [fV s1 b o n c base bT limit sn, iV s2 s1] (by kernel_rfl) fun a w HF HM => ?_
 rw [show decide (((m : Nat) : Int) < 0) = false from bZ (by omega)] at HF
 refine aO HF HM rfl 4 [] ((fU s2 m) ++ [(17, .bool false), (18, aJ m), (20, aA (IntKind.i64.wrap ((m : Nat) : Int)))]) [fV s1 b o n c base bT limit sn, iV s2 s1] (by kernel_rfl) fun a w HF HM => ?_
 rw [show IntKind.i64.wrap ((m : Nat) : Int) = ((m : Nat) : Int) from IntWalk.i64_in _ (by omega)] at HF
 refine aO HF HM rfl 1 [] ((fU s2 m) ++ [(17, .bool false), (18, aJ m), (21, bD (IntKind.u64.wrap ((m : Nat) : Int)))]) [fV s1 b o n c base bT limit sn, iV s2 s1] (by kernel_rfl) fun a w HF HM => ?_
 rw [show IntKind.u64.wrap ((m : Nat) : Int) = ((m : Nat) : Int) from IntWalk.u64_in _ (by omega)] at HF
 refine aO HF HM rfl 1 [] ((fU s2 m) ++ [(17, .bool false), (22, .bool (((m : Nat) : Int) != ((m : Nat) : Int)))]) [fV s1 b o n c base bT limit sn, iV s2 s1] (by kernel_rfl) fun a w HF HM => ?_
 rw [show (((m : Nat) : Int) != ((m : Nat) : Int)) = false from by simp] at HF
 refine aO HF HM rfl 1 [] ((fU s2 m) ++ [(23, .bool false)]) [fV s1 b o n c base bT limit sn, iV s2 s1] (by kernel_rfl) fun a w HF HM => ?_
 refine aI ?_
 refine bf HF rfl ?_
 refine wp_skip ?_
 repeat first | refine aS ?_ | refine aU ?_
 replace HF := HF.sub (fU s2 m) (by kernel_rfl)
 refine wp_seq ?_
 refine aW ?_
 refine aO HF HM rfl 2 [] ((fU s2 m) ++ [(26, .bool (decide (((m : Nat) : Int) < 10485760)))]) [fV s1 b o n c base bT limit sn, iV s2 s1] (by kernel_rfl) fun a w HF HM => ?_
 rw [show decide (((m : Nat) : Int) < 10485760) = true from dM (by omega)] at HF
 refine aI ?_
 refine bF HF rfl ?_
 replace HF := HF.sub (fU s2 m) (by kernel_rfl)
 refine aW ?_
 refine aO HF HM rfl 1 [] ((fU s2 m) ++ [(27, aJ m)]) [fV s1 b o n c base bT limit sn, iV s2 s1] (by kernel_rfl) fun a w HF HM => ?_
 refine su HF HM rfl _ _ 33 rfl rfl 5 (aN 0) 1 Tryd.underlying33 qM rfl .u64 .u64 m rfl rfl (by omega) (by omega) ?_
 intro a2 w1 g hgw hbel bI HF2; have hg0 : w0.heap.size ≤ g := Nat.le_trans HM.size hgw; clear HF HM hbel hgw; have HM := bI; have HF := HF2; clear bI HF2
 refine aO HF HM rfl 1 [] ((fU s2 m) ++ [(6, aH g m m)]) [(g, .cells (madeCells #[aN 0] m) 5 (0, 0)), fV s1 b o n c base bT limit sn, iV s2 s1] (by kernel_rfl) fun a w HF HM => ?_
 refine aI ?_
 have hbg : b ≠ g := by omega
 refine aW ?_
 refine aO HF HM rfl 2 [] ((fU s2 m) ++ [(6, aH g m m), (30, .iface 144 (aG s2)), (31, aH g m m)]) [(g, .cells (madeCells #[aN 0] m) 5 (0, 0)), fV s1 b o n c base bT limit sn, iV s2 s1] (by kernel_rfl) fun a w HF HM => ?_
 refine bn HF (by kernel_rfl) 105 #[.iface 144 (aG s2), aH g m m] (by kernel_rfl) (fun w => by kernel_rfl) (Calls.mono (F9 l b o n c hl hnc g s1 s2 _ 5 m m (kM _ _) base bT limit sn k1 k2 k3 h0 ho hm0 (Nat.le_refl _) w (HM.row hr (by intro b' o' s' e; injection e with e; injection e with e; subst e; simp [hb1, hb2])) hbg hb1 hb2 h12 (HM.ne (i := 1) (j := 0) rfl rfl (by decide)) (HM.ne (i := 2) (j := 0) rfl rfl (by decide)) (HM.get (i := 1) rfl) (HM.get (i := 2) rfl) (HM.get (i := 0) rfl)) ?_)
 rintro _ w2 ⟨rfl, hkp, xg, w_, hgn⟩
 replace HM : Mm [s1, s2] w0 w2 [(g, .cells (((l.drop (base + 0)).take m).map Bv).toArray 5 (0, 0)), fV s1 b o n c base bT limit sn, pO s2 s1 m] := HM.MQ (i := 1) (j := 2) (k := 0) rfl rfl rfl (by decide) (by decide) (by decide) xg w_ hgn hkp
 clear hkp xg w_ hgn
 refine ⟨_, rfl, ?_⟩; clear HF; intro a HF
 refine aO HF HM rfl 5 [] ((fU s2 m) ++ [(6, aH g m m), (7, aB m), (8, .nilIface)]) [(g, .cells (((l.drop (base + 0)).take m).map Bv).toArray 5 (0, 0)), fV s1 b o n c base bT limit sn, pO s2 s1 m] (by kernel_rfl) fun a w HF HM => ?_
 refine aI ?_
 refine wp_seq ?_
 refine aW ?_
 refine aO HF HM rfl 2 [] ((fU s2 m) ++ [(6, aH g m m), (7, aB m), (8, .nilIface), (36, .bool false)]) [(g, .cells (((l.drop (base + 0)).take m).map Bv).toArray 5 (0, 0)), fV s1 b o n c base bT limit sn, pO s2 s1 m] (by kernel_rfl) fun a w HF HM => ?_
 refine aI ?_
 refine bf HF rfl ?_
 refine wp_skip ?_
 repeat first | refine aS ?_ | refine aU ?_
 replace HF := HF.sub ((fU s2 m) ++ [(6, aH g m m), (7, aB m), (8, .nilIface)]) (by kernel_rfl)
 refine bC HF HM rfl [] [(0, .iface 144 (aG s2)), (1, aJ m), (6, aH g m m), (7, aB m), (8, .nilIface), (4, aH g m m), (5, .nilIface)] [(g, .cells (((l.drop (base + 0)).take m).map Bv).toArray 5 (0, 0)), fV s1 b o n c base bT limit sn, pO s2 s1 m] (by kernel_rfl) fun a w HF HM => ?_
 refine wp_ret ?_
 repeat first | refine cu ?_ | refine dw ?_
 exact h_ HF rfl rfl rfl ⟨g, rfl, by omega, HM.keep.less (by rw [HM.get (i := 1) rfl, hs1]), HM.get (i := 2) rfl, HM.get (i := 0) rfl⟩

end Go.Proofs.YtdgehpocmfjbiaaDoor
namespace Go.Proofs.YtdgehpocmfjbiaaDoor
open Go.RowKit

theorem yL {P : Program} {t : TypeId} (ht : P.underlying t = some .string) {ρ : Operand → Value} {o : Oper} {x hi : Operand} (ho : o.op = .slice t x none (some hi) none) {s : ByteArray} (hx : ρ x = .string s) (hh : ρ hi = .int .i64 7) (h : 7 ≤ s.size) {w : World} :
  (execOp ρ o).run P w = .ok (.value (.string (s.extract 0 7))) w := by
 have := run_slice_string_h (P := P) w t s ht .i64 7 (by omega) (by omega)
 unfold execOp
 simp only [ho, Option.map_some, Option.map_none, hx, hh, Instr.sliceAt, Sem.run_bind, run_underlying ht, this, Result.andThen_ok, Sem.run_pure]
 rfl

theorem Ew (nm : ByteArray) (h : nm.size < 7) (w0 : World) : Calls Tryd.prog 109 #[.string nm, .string ⟨#[46, 122, 100, 101, 98, 117, 103]⟩] w0 fun e w' => e = .returned (.bool false) ∧ w' = w0 := by
 have HM : Mm [] w0 w0 [] := Mm.start w0
 refine bV Tryd.func109 rfl Tryd.ntmps109 [(0, .string nm), (1, .string ⟨#[46, 122, 100, 101, 98, 117, 103]⟩)] (by kernel_rfl) (Nat.le_of_ble_eq_true rfl) ?_
 intro a HF
 refine nD HF HM rfl [] [(0, .string nm), (1, .string ⟨#[46, 122, 100, 101, 98, 117, 103]⟩), (4, .bool false)] (by kernel_rfl) fun a HF => ?_
 refine aW ?_
 refine wp_pure HF HM rfl 5 [] [(0, .string nm), (1, .string ⟨#[46, 122, 100, 101, 98, 117, 103]⟩), (4, .bool false), (9, .bool (decide (7 ≤ ((nm.size : Nat) : Int))))] (by kernel_rfl) fun a HF => ?_
 rw [show decide (7 ≤ ((nm.size : Nat) : Int)) = false from bZ (by omega)] at HF
 refine wp_pure HF HM rfl 8 [] [(0, .string nm), (1, .string ⟨#[46, 122, 100, 101, 98, 117, 103]⟩), (4, .bool false), (17, .bool false)] (by kernel_rfl) fun a HF => ?_
 refine wp_pure HF HM rfl 1 [] [(0, .string nm), (1, .string ⟨#[46, 122, 100, 101, 98, 117, 103]⟩), (4, .bool false)] (by kernel_rfl) fun a HF => ?_
 refine aI ?_
 refine wp_ret ?_
 exact dI HF rfl rfl ⟨rfl, rfl⟩

theorem EY (nm : ByteArray) (h : 7 ≤ nm.size) (hne : ((nm.extract 0 7).toList == (⟨#[46, 122, 100, 101, 98, 117, 103]⟩ : ByteArray).toList) = false) (w0 : World) : Calls Tryd.prog 109 #[.string nm, .string ⟨#[46, 122, 100, 101, 98, 117, 103]⟩] w0 fun e w' => e = .returned (.bool false) ∧ w' = w0 := by
 have HM : Mm [] w0 w0 [] := Mm.start w0
 refine bV Tryd.func109 rfl Tryd.ntmps109 [(0, .string nm), (1, .string ⟨#[46, 122, 100, 101, 98, 117, 103]⟩)] (by kernel_rfl) (Nat.le_of_ble_eq_true rfl) ?_
 intro a HF
 refine nD HF HM rfl [] [(0, .string nm), (1, .string ⟨#[46, 122, 100, 101, 98, 117, 103]⟩), (4, .bool false)] (by kernel_rfl) fun a HF => ?_
 refine aW ?_
 refine wp_pure HF HM rfl 5 [] [(0, .string nm), (1, .string ⟨#[46, 122, 100, 101, 98, 117, 103]⟩), (4, .bool false), (9, .bool (decide (7 ≤ ((nm.size : Nat) : Int))))] (by kernel_rfl) fun a HF => ?_
 rw [show decide (7 ≤ ((nm.size : Nat) : Int)) = true from dM (by omega)] at HF
 refine wp_pure HF HM rfl 4 [] [(0, .string nm), (1, .string ⟨#[46, 122, 100, 101, 98, 117, 103]⟩), (4, .bool false), (10, .bool true), (11, .string nm), (13, .int .i64 7)] (by kernel_rfl) fun a HF => ?_
 refine dP HF (by kernel_rfl) (.string (nm.extract 0 7)) (by kernel_rfl) (yL Tryd.underlying9 rfl rfl rfl h) fun a HF => ?_
 refine wp_pure HF HM rfl 2 [] [(0, .string nm), (1, .string ⟨#[46, 122, 100, 101, 98, 117, 103]⟩), (4, .bool false), (10, .bool true), (16, .bool ((nm.extract 0 7).toList == (⟨#[46, 122, 100, 101, 98, 117, 103]⟩ : ByteArray).toList))] (by kernel_rfl) fun a HF => ?_
 rw [hne] at HF
 refine wp_pure HF HM rfl 1 [] [(0, .string nm), (1, .string ⟨#[46, 122, 100, 101, 98, 117, 103]⟩), (4, .bool false), (17, .bool false)] (by kernel_rfl) fun a HF => ?_
 refine wp_pure HF HM rfl 1 [] [(0, .string nm), (1, .string ⟨#[46, 122, 100, 101, 98, 117, 103]⟩), (4, .bool false)] (by kernel_rfl) fun a HF => ?_
 refine aI ?_
 refine wp_ret ?_
 exact dI HF rfl rfl ⟨rfl, rfl⟩

theorem Ia (nm : ByteArray) (h : (nm.size < 7 ∨ ((nm.extract 0 7).toList == (⟨#[46, 122, 100, 101, 98, 117, 103]⟩ : ByteArray).toList) = false)) (w0 : World) : Calls Tryd.prog 106 #[.string nm, .string ⟨#[46, 122, 100, 101, 98, 117, 103]⟩] w0 fun e w' => e = .returned (.bool false) ∧ w' = w0 := by
 have hlite : ∀ w0 : World, Calls Tryd.prog 109 #[.string nm, .string ⟨#[46, 122, 100, 101, 98, 117, 103]⟩] w0 fun e w' => e = .returned (.bool false) ∧ w' = w0 := fun w0 => by
  by_cases h7 : nm.size < 7
  ·exact Ew nm h7 w0
  ·exact EY nm (by omega) (h.resolve_left h7) w0
 have HM : Mm [] w0 w0 [] := Mm.start w0
 refine bV Tryd.func106 rfl Tryd.ntmps106 [(0, .string nm), (1, .string ⟨#[46, 122, 100, 101, 98, 117, 103]⟩)] (by kernel_rfl) (Nat.le_of_ble_eq_true rfl) ?_
 intro a HF
 refine nD HF HM rfl [] [(0, .string nm), (1, .string ⟨#[46, 122, 100, 101, 98, 117, 103]⟩), (4, .bool false)] (by kernel_rfl) fun a HF => ?_
 refine aW ?_
 refine wp_pure HF HM rfl 2 [] [(0, .string nm), (1, .string ⟨#[46, 122, 100, 101, 98, 117, 103]⟩), (4, .bool false), (5, .string nm), (6, .string ⟨#[46, 122, 100, 101, 98, 117, 103]⟩)] (by kernel_rfl) fun a HF => ?_
 refine bn HF (by kernel_rfl) 109 #[.string nm, .string ⟨#[46, 122, 100, 101, 98, 117, 103]⟩] (by kernel_rfl) (fun w => by kernel_rfl) (Calls.mono (hlite w0) ?_)
 rintro _ w1 ⟨rfl, hq⟩
 obtain rfl : w0 = w1 := hq.symm; clear hq
 refine ⟨_, rfl, ?_⟩; clear HF; intro a HF
 refine wp_pure HF HM rfl 1 [] [(0, .string nm), (1, .string ⟨#[46, 122, 100, 101, 98, 117, 103]⟩), (4, .bool false)] (by kernel_rfl) fun a HF => ?_
 refine aI ?_
 refine wp_ret ?_
 exact dI HF rfl rfl ⟨rfl, rfl⟩

def oC (x y : Int) : Int := IntKind.u32.wrap ((BitVec.ofInt 32 x &&& BitVec.ofInt 32 y).toNat : Int)

abbrev mF := fun (sb : Nat) (nm : ByteArray) (typ : Int) (flags : Int) (ad : Int) (of : Int) (sz : Int) (lk : Int) (inf : Int) (al : Int) (en : Int) (fs : Int) (ra : Value) (s1 : Nat) (ct : Value) (co : Value) => ((sb, .cells #[.string nm, .int .u32 typ, .int .u32 flags, .int .u64 ad, .int .u64 of, .int .u64 sz, .int .u32 lk, .int .u32 inf, .int .u64 al, .int .u64 en, .int .u64 fs, ra, aG s1, ct, co] 153 (0, 0)) : Nat × Obj)
theorem NP (nm : ByteArray) (typ flags ad of sz lk inf al en fs : Int) (ra ct co : Value) (sb s1 : Nat) (ht8 : (typ == 8) = false) (hfl : (oC flags 2048 == 0) = true) (hnm : (nm.size < 7 ∨ ((nm.extract 0 7).toList == (⟨#[46, 122, 100, 101, 98, 117, 103]⟩ : ByteArray).toList) = false)) (w0 : World) (hsb : w0.heap[sb]? = some (.cells #[.string nm, .int .u32 typ, .int .u32 flags, .int .u64 ad, .int .u64 of, .int .u64 sz, .int .u32 lk, .int .u32 inf, .int .u64 al, .int .u64 en, .int .u64 fs, ra, aG s1, ct, co] 153 (0, 0))) :
  Calls Tryd.prog 85 #[aG sb] w0 fun e w' => ∃ s2, e = .returned (.iface 144 (aG s2)) ∧ Below w0.heap.size w0 w' ∧ w0.heap.size ≤ s2 ∧ w'.heap[s2]? = some (.cells #[.iface 144 (aG s1), aA 0, aA 0, aA 9223372036854775807, aA 9223372036854775807] 246 (0, 0)) := by
 obtain ⟨w, hw⟩ : ∃ w, w0 = w := ⟨_, rfl⟩
 have HM : Mm [sb] w0 w [mF sb nm typ flags ad of sz lk inf al en fs ra s1 ct co] := hw ▸ Mm.uU hsb
 conv => arg 4; rw [hw]
 clear hw
 refine bV Tryd.func85 rfl Tryd.ntmps85 [(0, aG sb)] (by kernel_rfl) (Nat.le_of_ble_eq_true rfl) ?_
 intro a HF
 refine bC HF HM rfl [] [(0, aG sb), (2, .nilIface)] [mF sb nm typ flags ad of sz lk inf al en fs ra s1 ct co] (by kernel_rfl) fun a w HF HM => ?_
 refine wp_seq ?_
 refine aW ?_
 refine aO HF HM rfl 6 [[0]] [(0, aG sb), (2, .nilIface), (11, .bool (typ == 8))] [mF sb nm typ flags ad of sz lk inf al en fs ra s1 ct co] (by kernel_rfl) fun a w HF HM => ?_
 rw [ht8] at HF
 refine aI ?_
 refine bf HF rfl ?_
 refine wp_skip ?_
 repeat first | refine aS ?_ | refine aU ?_
 replace HF := HF.sub [(0, aG sb), (2, .nilIface)] (by kernel_rfl)
 refine wp_seq ?_
 refine aW ?_
 refine aO HF HM rfl 7 [[0]] [(0, aG sb), (2, .nilIface), (29, .bool (oC flags 2048 == 0))] [mF sb nm typ flags ad of sz lk inf al en fs ra s1 ct co] (by kernel_rfl) fun a w HF HM => ?_
 rw [hfl] at HF
 refine aI ?_
 refine bF HF rfl ?_
 replace HF := HF.sub [(0, aG sb), (2, .nilIface)] (by kernel_rfl)
 refine wp_seq ?_
 refine aW ?_
 refine aO HF HM rfl 5 [[0]] [(0, aG sb), (2, .nilIface), (34, .string nm)] [mF sb nm typ flags ad of sz lk inf al en fs ra s1 ct co] (by kernel_rfl) fun a w HF HM => ?_
 refine bn HF (by kernel_rfl) 106 #[.string nm, .string ⟨#[46, 122, 100, 101, 98, 117, 103]⟩] (by kernel_rfl) (fun w => by kernel_rfl) (Calls.mono (Ia nm hnm w) ?_)
 rintro _ w1 ⟨rfl, hq⟩
 replace HM : Mm [sb] w0 w1 [mF sb nm typ flags ad of sz lk inf al en fs ra s1 ct co] := by first | (rw [hq]; exact HM) | (rw [← hq]; exact HM)
 clear hq
 refine ⟨_, rfl, ?_⟩; clear HF; intro a HF
 refine aO HF HM rfl 1 [] [(0, aG sb), (2, .nilIface), (36, .bool true)] [mF sb nm typ flags ad of sz lk inf al en fs ra s1 ct co] (by kernel_rfl) fun a w HF HM => ?_
 refine aI ?_
 refine bF HF rfl ?_
 replace HF := HF.sub [(0, aG sb), (2, .nilIface)] (by kernel_rfl)
 refine aW ?_
 refine aO HF HM rfl 5 [[0]] [(0, aG sb), (2, .nilIface), (41, .iface 144 (aG s1))] [mF sb nm typ flags ad of sz lk inf al en fs ra s1 ct co] (by kernel_rfl) fun a w HF HM => ?_
 refine bn HF (by kernel_rfl) 92 #[.iface 144 (aG s1), aA 0, aA 9223372036854775807] (by kernel_rfl) (fun w => by kernel_rfl) (Calls.mono (nX 144 (aG s1) 0 9223372036854775807 (by omega) (by omega) (by omega) w) ?_)
 rintro _ w2 ⟨s2, rfl, hb, hge, hgn⟩
 have hg0 : w0.heap.size ≤ s2 := Nat.le_trans HM.size hge
 replace HM : Mm [sb] w0 w2 [(s2, .cells #[.iface 144 (aG s1), aA 0, aA 0, aA 9223372036854775807, aA 9223372036854775807] 246 (0, 0)), mF sb nm typ flags ad of sz lk inf al en fs ra s1 ct co] := HM.push hb hge hgn
 clear hb hge hgn
 refine ⟨_, rfl, ?_⟩; clear HF; intro a HF
 refine aO HF HM rfl 2 [] [(0, aG sb), (2, .iface 144 (aG s2))] [(s2, .cells #[.iface 144 (aG s1), aA 0, aA 0, aA 9223372036854775807, aA 9223372036854775807] 246 (0, 0)), mF sb nm typ flags ad of sz lk inf al en fs ra s1 ct co] (by kernel_rfl) fun a w HF HM => ?_
 refine aI ?_
 refine wp_ret ?_
 repeat first | refine cu ?_ | refine dw ?_
 exact dI HF rfl rfl ⟨s2, rfl, (HM.keep.less (by rw [HM.get (i := 1) rfl, hsb])).below, hg0, HM.get (i := 0) rfl⟩

abbrev oK := fun (sb : Nat) (nm : ByteArray) (typ : Int) (flags : Int) (ad : Int) (of : Int) (m : Nat) (lk : Int) (inf : Int) (al : Int) (en : Int) (fs : Int) (ra : Value) (s1 : Nat) (ct : Value) (co : Value) => ((sb, .cells #[.string nm, .int .u32 typ, .int .u32 flags, .int .u64 ad, .int .u64 of, aJ m, .int .u32 lk, .int .u32 inf, .int .u64 al, .int .u64 en, .int .u64 fs, ra, aG s1, ct, co] 153 (0, 0)) : Nat × Obj)
abbrev qG := fun (s1 : Nat) (b : Nat) (o : Nat) (n : Nat) (c : Nat) (base : Nat) (bT : Int) (limit : Int) (sn : Int) => ((s1, .cells #[.iface 178 (.slice (some ⟨b, o, none⟩) n c), aA (base : Nat), .int .i64 bT, .int .i64 limit, .int .i64 sn] 246 (0, 0)) : Nat × Obj)
theorem AX (nm : ByteArray) (typ flags ad of lk inf al en fs : Int) (ra ct co : Value) (sb s1 : Nat) (ht8 : (typ == 8) = false) (hfl : (oC flags 2048 == 0) = true) (hnm : (nm.size < 7 ∨ ((nm.extract 0 7).toList == (⟨#[46, 122, 100, 101, 98, 117, 103]⟩ : ByteArray).toList) = false)) (l : List UInt8) (b o n c : Nat) (hl : n = l.length) (hnc : n ≤ c) (m base : Nat) (bT limit sn : Int) (k1 : ((base + 0 + m : Nat) : Int) ≤ limit) (k2 : limit ≤ 9223372036854775807) (k3 : ((base + 0 : Nat) : Int) < limit) (h0 : base + 0 < n) (ho : base + 0 + m ≤ n) (hm0 : 0 < m) (hm1 : m < 10485760)
  (w0 : World) (hsb : w0.heap[sb]? = some (.cells #[.string nm, .int .u32 typ, .int .u32 flags, .int .u64 ad, .int .u64 of, aJ m, .int .u32 lk, .int .u32 inf, .int .u64 al, .int .u64 en, .int .u64 fs, ra, aG s1, ct, co] 153 (0, 0))) (hs1 : w0.heap[s1]? = some (.cells #[.iface 178 (.slice (some ⟨b, o, none⟩) n c), aA (base : Nat), .int .i64 bT, .int .i64 limit, .int .i64 sn] 246 (0, 0))) (hbl : b < w0.heap.size) (hb1 : b ≠ s1) (hbs : b ≠ sb) (hss : sb ≠ s1) (hr : Row w0 (some ⟨b, o, none⟩) (l.map Bv)) :
  Calls Tryd.prog 63 #[aG sb] w0 fun e w' => ∃ g, e = .returned (.tuple #[aH g m m, .nilIface]) ∧ Below w0.heap.size w0 w' ∧ w0.heap.size ≤ g ∧ w'.heap[g]? = some (.cells (((l.drop (base + 0)).take m).map Bv).toArray 5 (0, 0)) := by
 obtain ⟨w, hw⟩ : ∃ w, w0 = w := ⟨_, rfl⟩
 have HM : Mm [sb, s1] w0 w [oK sb nm typ flags ad of m lk inf al en fs ra s1 ct co, qG s1 b o n c base bT limit sn] := hw ▸ Mm.DV hsb hs1 hss
 conv => arg 4; rw [hw]
 clear hw
 refine bV Tryd.func63 rfl Tryd.ntmps63 [(0, aG sb)] (by kernel_rfl) (Nat.le_of_ble_eq_true rfl) ?_
 intro a HF
 refine bC HF HM rfl [] [(0, aG sb), (2, aK), (3, .nilIface)] [oK sb nm typ flags ad of m lk inf al en fs ra s1 ct co, qG s1 b o n c base bT limit sn] (by kernel_rfl) fun a w HF HM => ?_
 refine pK HM (by kernel_rfl) [oK sb nm typ flags ad of m lk inf al en fs ra s1 ct co] [(0, false), (2, false), (3, false), (4, false), (5, false), (6, false), (1, true), (7, true), (8, false), (9, false), (10, false), (11, false)] (by kernel_rfl) fun w1 HM => ?_
 refine bH HF (HM.told [0] rfl) 6 [[0]] [(0, aG sb), (2, aK), (3, .nilIface), (4, aG sb), (10, aJ m)] (by kernel_rfl) fun a HF => ?_
 refine b_ rfl ?_
 refine bn HF (by kernel_rfl) 85 #[aG sb] (by kernel_rfl) (fun w => by kernel_rfl) (Calls.mono (NP nm typ flags ad of ((m : Nat) : Int) lk inf al en fs ra ct co sb s1 ht8 hfl hnm w1 (HM.get (i := 0) rfl)) ?_)
 rintro _ w2 ⟨s2, rfl, hb, hge, hgn⟩
 have hg0 : w0.heap.size ≤ s2 := Nat.le_trans HM.size hge
 replace HM : Mm [sb, s1] w0 w2 [(s2, .cells #[.iface 144 (aG s1), aA 0, aA 0, aA 9223372036854775807, aA 9223372036854775807] 246 (0, 0)), oK sb nm typ flags ad of m lk inf al en fs ra s1 ct co, qG s1 b o n c base bT limit sn] := HM.push hb hge hgn
 clear hb hge hgn
 refine ⟨_, rfl, ?_⟩; clear HF; intro a HF; replace HF := HF.sub [(0, aG sb), (2, aK), (3, .nilIface), (4, aG sb), (10, aJ m), (5, .iface 144 (aG s2))] (by kernel_rfl)
 refine dF (HM.told [1] rfl) ?_
 refine b_ rfl ?_
 have hb2 : b ≠ s2 := by omega
 have hszw : w0.heap.size ≤ w2.heap.size := HM.size
 refine bn HF (by kernel_rfl) 84 #[.iface 144 (aG s2), aJ m] (by kernel_rfl) (fun w => by kernel_rfl) (Calls.mono (Gf l b o n c hl hnc s1 s2 m base bT limit sn k1 k2 k3 h0 ho hm0 hm1 w2 (HM.row hr (by intro b' o' s' e; injection e with e; injection e with e; subst e; simp [hb1, hbs])) (by omega) hb1 hb2 (HM.ne (i := 2) (j := 0) rfl rfl (by decide)) (HM.get (i := 2) rfl) (HM.get (i := 0) rfl)) ?_)
 rintro _ w3 ⟨g, rfl, hgg, hkp, w_, hgn⟩
 replace HM : Mm [sb, s1] w0 w3 [(g, .cells (((l.drop (base + 0)).take m).map Bv).toArray 5 (0, 0)), (s2, .cells #[.iface 144 (aG s1), aA 0, aB m, aA 9223372036854775807, aA 9223372036854775807] 246 (0, 0)), oK sb nm typ flags ad of m lk inf al en fs ra s1 ct co, qG s1 b o n c base bT limit sn] := HM.NR (i := 0) rfl w_ hkp hgg hgn
 clear w_ hkp hgn
 refine ⟨_, rfl, ?_⟩; clear HF; intro a HF; replace HF := HF.sub [(0, aG sb), (2, aK), (3, .nilIface), (4, aG sb), (10, aJ m), (5, .iface 144 (aG s2)), (11, .tuple #[aH g m m, .nilIface])] (by kernel_rfl)
 refine dF (HM.told [2] rfl) ?_
 refine bH HF (HM.told [2] rfl) 4 [] [(0, aG sb), (2, aH g m m), (3, .nilIface)] (by kernel_rfl) fun a HF => ?_
 refine lI ?_
 refine aS ?_
 refine wp_ret ?_
 exact h_ HF rfl rfl rfl ⟨g, rfl, ((HM.keep.less (by rw [HM.get (i := 2) rfl, hsb])).less (by rw [HM.get (i := 3) rfl, hs1])).below, by omega, HM.get (i := 0) rfl⟩

abbrev fC := fun (s : Nat) (b : Nat) (o : Nat) (n : Nat) (c : Nat) (base : Nat) (bT : Int) (limit : Int) (sn : Int) => ((s, .cells #[.iface 178 (.slice (some ⟨b, o, none⟩) n c), aA (base : Nat), .int .i64 bT, .int .i64 limit, .int .i64 sn] 246 (0, 0)) : Nat × Obj)
abbrev dU := fun (s : Nat) (m : Nat) (off : Nat) => ([(0, .iface 144 (aG s)), (1, aJ m), (2, aB off)] : Slots)
theorem m_ (l : List UInt8) (b o n c : Nat) (hl : n = l.length) (hnc : n ≤ c) (s : Nat) (m base off : Nat) (bT limit sn : Int) (k1 : ((base + off + m : Nat) : Int) ≤ limit) (k2 : limit ≤ 9223372036854775807) (k3 : ((base + off : Nat) : Int) < limit) (h0 : base + off < n) (ho : base + off + m ≤ n) (hm1 : m < 10485760) (w0 : World) (hr : Row w0 (some ⟨b, o, none⟩) (l.map Bv)) (hbl : b < w0.heap.size) (hbs : b ≠ s) (hs : w0.heap[s]? = some (.cells #[.iface 178 (.slice (some ⟨b, o, none⟩) n c), aA (base : Nat), .int .i64 bT, .int .i64 limit, .int .i64 sn] 246 (0, 0))) :
  Calls Tryd.prog 99 #[.iface 144 (aG s), aJ m, aB off] w0 fun e w' => ∃ g, e = .returned (.tuple #[aH g m m, .nilIface]) ∧ Below w0.heap.size w0 w' ∧ w0.heap.size ≤ g ∧ w'.heap[g]? = some (.cells (((l.drop (base + off)).take m).map Bv).toArray 5 (0, 0)) := by
 obtain ⟨w, hw⟩ : ∃ w, w0 = w := ⟨_, rfl⟩
 have HM : Mm [s] w0 w [fC s b o n c base bT limit sn] := hw ▸ Mm.uU hs
 conv => arg 4; rw [hw]
 clear hw
 refine bV Tryd.func99 rfl Tryd.ntmps99 (dU s m off) (by kernel_rfl) (Nat.le_of_ble_eq_true rfl) ?_
 intro a HF
 refine bC HF HM rfl [] ((dU s m off) ++ [(6, aK), (7, .nilIface)]) [fC s b o n c base bT limit sn] (by kernel_rfl) fun a w HF HM => ?_
 refine wp_seq ?_
 refine aW ?_
 refine aO HF HM rfl 2 [] ((dU s m off) ++ [(6, aK), (7, .nilIface), (17, aA (IntKind.i64.wrap ((m : Nat) : Int)))]) [fC s b o n c base bT limit sn] (by kernel_rfl) fun a w HF HM => ?_
 rw [show IntKind.i64.wrap ((m : Nat) : Int) = ((m : Nat) : Int) from IntWalk.i64_in _ (by omega)] at HF
 refine aO HF HM rfl 1 [] ((dU s m off) ++ [(6, aK), (7, .nilIface), (18, .bool (decide (((m : Nat) : Int) < 0)))]) [fC s b o n c base bT limit sn] (by kernel_rfl) fun a w HF HM => ?_
 rw [show decide (((m : Nat) : Int) < 0) = false from bZ (by omega)] at HF
 refine aO HF HM rfl 4 [] ((dU s m off) ++ [(6, aK), (7, .nilIface), (19, .bool false), (20, aJ m), (22, aA (IntKind.i64.wrap ((m : Nat) : Int)))]) [fC s b o n c base bT limit sn] (by kernel_rfl) fun a w HF HM => ?_
 rw [show IntKind.i64.wrap ((m : Nat) : Int) = ((m : Nat) : Int) from IntWalk.i64_in _ (by omega)] at HF
 refine aO HF HM rfl 1 [] ((dU s m off) ++ [(6, aK), (7, .nilIface), (19, .bool false), (20, aJ m), (23, bD (IntKind.u64.wrap ((m : Nat) : Int)))]) [fC s b o n c base bT limit sn] (by kernel_rfl) fun a w HF HM => ?_
 rw [show IntKind.u64.wrap ((m : Nat) : Int) = ((m : Nat) : Int) from IntWalk.u64_in _ (by omega)] at HF
 refine aO HF HM rfl 1 [] ((dU s m off) ++ [(6, aK), (7, .nilIface), (19, .bool false), (24, .bool (((m : Nat) : Int) != ((m : Nat) : Int)))]) [fC s b o n c base bT limit sn] (by kernel_rfl) fun a w HF HM => ?_
 rw [show (((m : Nat) : Int) != ((m : Nat) : Int)) = false from by simp] at HF
 refine aO HF HM rfl 1 [] ((dU s m off) ++ [(6, aK), (7, .nilIface), (25, .bool false)]) [fC s b o n c base bT limit sn] (by kernel_rfl) fun a w HF HM => ?_
 refine aI ?_
 refine bf HF rfl ?_
 refine wp_skip ?_
 repeat first | refine aS ?_ | refine aU ?_
 replace HF := HF.sub ((dU s m off) ++ [(6, aK), (7, .nilIface)]) (by kernel_rfl)
 refine wp_seq ?_
 refine aW ?_
 refine aO HF HM rfl 2 [] ((dU s m off) ++ [(6, aK), (7, .nilIface), (28, .bool (decide (((m : Nat) : Int) < 10485760)))]) [fC s b o n c base bT limit sn] (by kernel_rfl) fun a w HF HM => ?_
 rw [show decide (((m : Nat) : Int) < 10485760) = true from dM (by omega)] at HF
 refine aI ?_
 refine bF HF rfl ?_
 replace HF := HF.sub ((dU s m off) ++ [(6, aK), (7, .nilIface)]) (by kernel_rfl)
 refine aW ?_
 refine aO HF HM rfl 1 [] ((dU s m off) ++ [(6, aK), (7, .nilIface), (29, aJ m)]) [fC s b o n c base bT limit sn] (by kernel_rfl) fun a w HF HM => ?_
 refine su HF HM rfl _ _ 33 rfl rfl 5 (aN 0) 1 Tryd.underlying33 qM rfl .u64 .u64 m rfl rfl (by omega) (by omega) ?_
 intro a2 w1 g hgw hbel bI HF2; have hg0 : w0.heap.size ≤ g := Nat.le_trans HM.size hgw; clear HF HM hbel hgw; have HM := bI; have HF := HF2; clear bI HF2
 refine aO HF HM rfl 1 [] ((dU s m off) ++ [(6, aK), (7, .nilIface), (8, aH g m m)]) [(g, .cells (madeCells #[aN 0] m) 5 (0, 0)), fC s b o n c base bT limit sn] (by kernel_rfl) fun a w HF HM => ?_
 refine aI ?_
 have hbg : b ≠ g := by omega
 refine aW ?_
 refine aO HF HM rfl 3 [] ((dU s m off) ++ [(6, aK), (7, .nilIface), (8, aH g m m), (32, .iface 144 (aG s)), (33, aH g m m), (34, aB off)]) [(g, .cells (madeCells #[aN 0] m) 5 (0, 0)), fC s b o n c base bT limit sn] (by kernel_rfl) fun a w HF HM => ?_
 refine bn HF (by kernel_rfl) 93 #[aG s, aH g m m, aB off] (by kernel_rfl) (fun w => by kernel_rfl) (Calls.mono (xC l b o n c hl hnc g s _ 5 m m (kM _ _) base off bT limit sn k1 k2 k3 h0 ho w (HM.row hr (by intro b' o' s' e; injection e with e; injection e with e; subst e; simp [hbs])) hbg hbs (HM.ne (i := 1) (j := 0) rfl rfl (by decide)) (HM.get (i := 1) rfl) (HM.get (i := 0) rfl)) ?_)
 rintro _ w2 ⟨rfl, hkp, hsn, hgn⟩
 replace HM : Mm [s] w0 w2 [(g, .cells (((l.drop (base + off)).take m).map Bv).toArray 5 (0, 0)), fC s b o n c base bT limit sn] := HM.Bc (i := 1) (j := 0) rfl rfl (by decide) hsn hgn hkp
 clear hkp hsn hgn
 refine ⟨_, rfl, ?_⟩; clear HF; intro a HF
 refine aO HF HM rfl 5 [] ((dU s m off) ++ [(6, aK), (7, .nilIface), (8, aH g m m), (9, aB m), (10, .nilIface)]) [(g, .cells (((l.drop (base + off)).take m).map Bv).toArray 5 (0, 0)), fC s b o n c base bT limit sn] (by kernel_rfl) fun a w HF HM => ?_
 refine aI ?_
 refine wp_seq ?_
 refine aW ?_
 refine aO HF HM rfl 2 [] ((dU s m off) ++ [(6, aK), (7, .nilIface), (8, aH g m m), (9, aB m), (10, .nilIface), (39, .bool false)]) [(g, .cells (((l.drop (base + off)).take m).map Bv).toArray 5 (0, 0)), fC s b o n c base bT limit sn] (by kernel_rfl) fun a w HF HM => ?_
 refine aI ?_
 refine bf HF rfl ?_
 refine wp_skip ?_
 repeat first | refine aS ?_ | refine aU ?_
 replace HF := HF.sub ((dU s m off) ++ [(6, aK), (7, .nilIface), (8, aH g m m), (9, aB m), (10, .nilIface)]) (by kernel_rfl)
 refine bC HF HM rfl [] ((dU s m off) ++ [(8, aH g m m), (9, aB m), (10, .nilIface), (6, aH g m m), (7, .nilIface)]) [(g, .cells (((l.drop (base + off)).take m).map Bv).toArray 5 (0, 0)), fC s b o n c base bT limit sn] (by kernel_rfl) fun a w HF HM => ?_
 refine wp_ret ?_
 repeat first | refine cu ?_ | refine dw ?_
 exact h_ HF rfl rfl rfl ⟨g, rfl, (HM.keep.less (by rw [HM.get (i := 1) rfl, hs])).below, hg0, HM.get (i := 0) rfl⟩

end Go.Proofs.YtdgehpocmfjbiaaDoor
namespace Go.Proofs.YtdgehpocmfjbiaaDoor
open Go.RowKit

def yt (nm : ByteArray) : Bool := decide (7 ≤ nm.size) && ((nm.extract 0 7).toList == (⟨#[46, 122, 100, 101, 98, 117, 103]⟩ : ByteArray).toList)
theorem Ap {P : Program} {w : World} {t : TypeId} (ht : P.underlying t = some .string) {ρ : Operand → Value} {o : Oper} {x ix : Operand} (ho : o.op = .index t x ix) {l : List UInt8} {i : Nat} {k : IntKind} {b : UInt8} (hx : ρ x = .string ⟨l.toArray⟩) (hi : ρ ix = .int k (i : Int)) (hb : l[i]? = some b) :
  (execOp ρ o).run P w = .ok (.value (.int .u8 (b.toNat : Nat))) w := by
 obtain ⟨hlt, e⟩ := List.getElem?_eq_some_iff.1 hb
 have h2 : (⟨l.toArray⟩ : ByteArray)[i]? = some b := by
  have hs : i < (⟨l.toArray⟩ : ByteArray).size := by simpa [ByteArray.size] using hlt
  rw [getElem?_pos _ i hs]
  exact congrArg some e
 unfold execOp
 simp only [ho, hx, hi]
 simp [Instr.index, asIntOf, run_underlying ht, h2]

theorem Gz (nm : ByteArray) (h : nm.size < 7) (w0 : World) : Calls Tryd.prog 54 #[.string nm] w0 fun e w' => e = .returned (.bool (yt nm)) ∧ w' = w0 := by
 have hz : True := trivial
 have HM : Mm [] w0 w0 [] := Mm.start w0
 refine bV Tryd.func54 rfl Tryd.ntmps54 [(0, .string nm)] (by kernel_rfl) (Nat.le_of_ble_eq_true rfl) ?_
 intro a HF
 refine nD HF HM rfl [] [(0, .string nm), (2, .bool false)] (by kernel_rfl) fun a HF => ?_
 refine aW ?_
 refine wp_pure HF HM rfl 3 [] [(0, .string nm), (2, .bool false), (5, .bool (decide (7 ≤ ((nm.size : Nat) : Int))))] (by kernel_rfl) fun a HF => ?_
 rw [show decide (7 ≤ ((nm.size : Nat) : Int)) = false from bZ (by omega)] at HF
 refine wp_pure HF HM rfl 5 [] [(0, .string nm), (2, .bool false), (10, .bool false)] (by kernel_rfl) fun a HF => ?_
 refine wp_pure HF HM rfl 1 [] [(0, .string nm), (2, .bool false)] (by kernel_rfl) fun a HF => ?_
 refine aI ?_
 refine wp_ret ?_
 exact dI HF rfl rfl ⟨by rw [show yt nm = false from by simp [yt]; try omega], rfl⟩

theorem IK (nm : ByteArray) (h : 7 ≤ nm.size) (w0 : World) : Calls Tryd.prog 54 #[.string nm] w0 fun e w' => e = .returned (.bool (yt nm)) ∧ w' = w0 := by
 have hz : True := trivial
 have HM : Mm [] w0 w0 [] := Mm.start w0
 refine bV Tryd.func54 rfl Tryd.ntmps54 [(0, .string nm)] (by kernel_rfl) (Nat.le_of_ble_eq_true rfl) ?_
 intro a HF
 refine nD HF HM rfl [] [(0, .string nm), (2, .bool false)] (by kernel_rfl) fun a HF => ?_
 refine aW ?_
 refine wp_pure HF HM rfl 3 [] [(0, .string nm), (2, .bool false), (5, .bool (decide (7 ≤ ((nm.size : Nat) : Int))))] (by kernel_rfl) fun a HF => ?_
 rw [show decide (7 ≤ ((nm.size : Nat) : Int)) = true from dM (by omega)] at HF
 refine wp_pure HF HM rfl 2 [] [(0, .string nm), (2, .bool false), (5, .bool true), (6, .bool true), (7, .string nm)] (by kernel_rfl) fun a HF => ?_
 refine dP HF (by kernel_rfl) (.string (nm.extract 0 7)) (by kernel_rfl) (yL Tryd.underlying9 rfl rfl rfl h) fun a HF => ?_
 refine wp_pure HF HM rfl 3 [] [(0, .string nm), (2, .bool ((nm.extract 0 7).toList == (⟨#[46, 122, 100, 101, 98, 117, 103]⟩ : ByteArray).toList))] (by kernel_rfl) fun a HF => ?_
 refine aI ?_
 refine wp_ret ?_
 exact dI HF rfl rfl ⟨by rw [show yt nm = ((nm.extract 0 7).toList == (⟨#[46, 122, 100, 101, 98, 117, 103]⟩ : ByteArray).toList) from by simp [yt]; try omega], rfl⟩

theorem JK (nm : ByteArray) (w0 : World) : Calls Tryd.prog 54 #[.string nm] w0 fun e w' => e = .returned (.bool (yt nm)) ∧ w' = w0 := by
 by_cases h : nm.size < 7
 ·exact Gz nm h w0
 ·exact IK nm (by omega) w0

end Go.Proofs.YtdgehpocmfjbiaaDoor
