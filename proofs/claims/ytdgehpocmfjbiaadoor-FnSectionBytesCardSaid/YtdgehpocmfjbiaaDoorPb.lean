/- The contract of spec.Fits. · The contract of spec.SegmentRow: a program header, laid out. · The contracts of spec.Size and spec.SectionRow: a section header, laid out. · The contract of spec.SymbolRow: an entry of a table of symbols, laid out. · What is laid out is read again: the entries of tables of symbols. · Files as plain lists of bytes: what spec.File lays out, and where each piece of it stands. · Numbers laid behind each other are read again at their places: the headers of a file, of segments and of sections. · Reading out of bytes: the contracts of impl.bytesAt.ReadAt and of Go's io.SectionReader. · A drawn region walked by a plan: an order of its operations, each either free (it may be taken first: it yields the same whatever comes ahead of it, as long as some told blocks hold what they hold) or forced (no other may come then). · Reading through a reader: (*SectionReader).Read, io.ReadAtLeast, io.ReadFull; readData, readDataAt. · Reading a section: (*Section).Open, (*Section).Data; readDataAt. · spec.zipped and spec.IsText. -/
import Derived.Test.YtdgehpocmfjbiaaDoorPa
import Derived.OrdersHeld
import Derived.Deep.RegionHeld3
import Derived.LoopN
import Derived.Deep.OwnRows
set_option linter.unusedVariables false
set_option linter.unusedSimpArgs false
namespace Go.Proofs.YtdgehpocmfjbiaaDoor
open Go.RowKit
attribute [local go_sem ↓] Go.wp_at_zero Go.wp_at_succ

def fitsB (wide : Bool) (l : List Nat) : Bool := wide || l.all fun n => decide (n < 4294967296)
set_option maxRecDepth 100000 in
set_option maxHeartbeats 1000000 in
theorem fits_any (wide : Bool) (x1 x2 x3 x4 x5 x6 x7 x8 : Value) (l : List Nat) (A : Option Addr) (n c : Nat) (hn : n = l.length) (hb : n ≤ 4294967296) (w : World) (hr : Row w A (l.map fun (n : Nat) => Value.int .u64 (n : Int))) :
    Calls Tryd.prog 52 #[.agg #[.bool wide, x1, x2, x3, x4, x5, x6, x7, x8], .slice A n c] w fun e w' => e = .returned (.bool (fitsB wide l)) ∧ Below w.heap.size w w' := by
  have HN := Lib.hid hn
  clear hn
  have hw1 : Row (w.alloc (.cells #[.bool wide, x1, x2, x3, x4, x5, x6, x7, x8] 26)) A (l.map fun (n : Nat) => Value.int .u64 (n : Int)) := hr.below ((Below.refl _ _).alloc (Nat.le_refl _) _)
  have HR := Lib.hid hw1
  clear hw1 hr
  go_enter Tryd.func52, Tryd.ntmps52
  go_wp2
  go_loop [6, 9] (fun v i => ∃ k : Nat, k ≤ n ∧ i = .int .i64 k ∧ Hid (fitsB wide (l.take k) = true)) (fun _ i => n - (intOf i).toNat)
  case atStart => exact ⟨0, Nat.zero_le _, rfl, Lib.hid (by simp [fitsB])⟩
  case round =>
    obtain ⟨k, hk, rfl, HK⟩ := hrel
    by_cases hlt : k < n
    · obtain ⟨b, off, rfl, hcell⟩ := HR.out.at_ (i := k) (by rw [List.length_map]; have := HN.out; omega)
      obtain ⟨m, hm⟩ : ∃ m, l[k]'(by have := HN.out; omega) = m := ⟨_, rfl⟩
      rw [List.getElem_map, hm] at hcell
      have hs : fitsB wide (l.take (k + 1)) = (fitsB wide (l.take k) && (wide || decide (m < 4294967296))) := by
        rw [List.take_succ_eq_append_getElem (by have := HN.out; omega), hm]
        unfold fitsB
        cases wide <;> simp
      have hf : (wide || decide (m < 4294967296)) = false → fitsB wide l = false := fun h => by
        unfold fitsB
        have hw : wide = false := by cases wide <;> simp_all
        subst hw
        simp only [Bool.false_or, decide_eq_false_iff_not] at h ⊢
        rw [List.all_eq_false]
        exact ⟨m, by rw [← hm]; exact List.getElem_mem _, by simpa using h⟩
      have HM := Lib.hid hm
      have HS := Lib.hid hs
      have HF := Lib.hid hf
      clear hm hs hf
      cases wide with
      | true =>
        have HK2 : Hid (fitsB true (l.take (k + 1)) = true) := Lib.hid (by rw [HS.out, HK.out]; rfl)
        go_wp2
        go_round
        case rel => exact ⟨k + 1, by omega, by go_num, HK2⟩
        case measure => simp [intOf]; omega
      | false =>
        by_cases hm2 : m < 4294967296
        · have HK2 : Hid (fitsB false (l.take (k + 1)) = true) := Lib.hid (by rw [HS.out, HK.out]; simpa using hm2)
          have hm3 : decide ((4294967296 : Int) ≤ (m : Int)) = false := by rw [decide_eq_false_iff_not]; omega
          clear hm2
          go_wp2
          go_round
          case rel => exact ⟨k + 1, by omega, by go_num, HK2⟩
          case measure => simp [intOf]; omega
        · have HE : Hid (fitsB false l = false) := Lib.hid (HF.out (by simpa using hm2))
          have hm3 : (4294967296 : Int) ≤ (m : Int) := by omega
          clear hm2
          go_wp2
          go_ret
          exact ⟨by rw [HE.out]; rfl, (Below.refl _ _).alloc (Nat.le_refl _) _⟩
    · have HE : Hid (fitsB wide l = true) := Lib.hid (by
        have := HK.out
        rw [List.take_of_length_le (by have := HN.out; omega)] at this
        exact this)
      go_wp2
      go_ret
      exact ⟨by rw [HE.out]; rfl, (Below.refl _ _).alloc (Nat.le_refl _) _⟩
end Go.Proofs.YtdgehpocmfjbiaaDoor
namespace Go.Proofs.YtdgehpocmfjbiaaDoor
open Go.RowKit
set_option linter.unusedSimpArgs false

def segB (wide big : Bool) (ty flags vaddr paddr memsz align n offset : Nat) : List UInt8 :=
  if wide then fixedB ty (szOf true 4) big ++ fixedB flags (szOf true 4) big ++ fixedB offset (szOf true 0) big ++ fixedB vaddr (szOf true 0) big ++ fixedB paddr (szOf true 0) big ++ fixedB n (szOf true 0) big ++ fixedB memsz (szOf true 0) big ++ fixedB align (szOf true 0) big
  else fixedB ty (szOf false 4) big ++ fixedB offset (szOf false 0) big ++ fixedB vaddr (szOf false 0) big ++ fixedB paddr (szOf false 0) big ++ fixedB n (szOf false 0) big ++ fixedB memsz (szOf false 0) big ++ fixedB flags (szOf false 4) big ++ fixedB align (szOf false 0) big

set_option maxRecDepth 100000 in
set_option maxHeartbeats 2000000 in
theorem segmentRow_wide (big : Bool) (x2 x3 x4 x5 x6 x7 x8 : Value) (ty flags vaddr paddr memsz align n c offset : Nat) (A : Option Addr) (h1 : ty ≤ 4294967295) (h2 : flags ≤ 4294967295) (h3 : offset ≤ 4294967295) (h4 : n ≤ 4294967295) (w : World) :
    Calls Tryd.prog 67 #[.agg #[.bool true, .bool big, x2, x3, x4, x5, x6, x7, x8], .agg #[.int .u32 ty, .int .u32 flags, .int .u64 vaddr, .int .u64 paddr, .int .u64 memsz, .int .u64 align, .slice A n c], .int .i64 offset] w
      fun e w' => ∃ v, e = .returned v ∧ w'.ownsRow w.heap.size 5 1 v (segB true big ty flags vaddr paddr memsz align n offset).length ((segB true big ty flags vaddr paddr memsz align n offset).map Bv) ∧ Below w.heap.size w w' := by
  obtain ⟨hX, hS, hR, hB⟩ := start3 w (.cells #[.bool true, .bool big, x2, x3, x4, x5, x6, x7, x8] 26) (.cells #[.int .u32 ty, .int .u32 flags, .int .u64 vaddr, .int .u64 paddr, .int .u64 memsz, .int .u64 align, .slice A n c] 57) true big
  have HX0 := Lib.hid hX
  have HS0 := Lib.hid hS
  have HR0 := Lib.hid hR
  have HB0 := Lib.hid hB
  obtain ⟨x00, x01⟩ := cells2 HX0.out
  obtain ⟨s0_0, s0_1, s0_2, s0_3, s0_4, s0_5, s0_6⟩ := cells7 HS0.out
  clear hX hS hR hB
  go_enter Tryd.func67, Tryd.ntmps67
  go_wp2_with fail
  refine (put_any (w.heap.size + 1 + 1) ty 4 big true _ (by omega) (by have := szOf_le true 0 (by omega); have := szOf_le true 4 (by omega); simp [fixedB_length] <;> omega) _ HR0.out).mono ?_
  rintro e w1 ⟨rfl, hr1, hb1⟩
  have HR1 := Lib.hid hr1
  have HX1 := Lib.hid (obj_below HX0.out hb1 (by omega))
  have HS1 := Lib.hid (obj_below HS0.out hb1 (by omega))
  have HB1 := Lib.hid (HB0.out.trans (hb1.mono (by omega)))
  clear hr1 hb1 HR0 HX0 HS0 HB0
  obtain ⟨x10, x11⟩ := cells2 HX1.out
  obtain ⟨s1_0, s1_1, s1_2, s1_3, s1_4, s1_5, s1_6⟩ := cells7 HS1.out
  go_wp2_with fail
  refine (put_any (w.heap.size + 1 + 1) flags 4 big true _ (by omega) (by have := szOf_le true 0 (by omega); have := szOf_le true 4 (by omega); simp [fixedB_length] <;> omega) _ HR1.out).mono ?_
  rintro e w2 ⟨rfl, hr2, hb2⟩
  have HR2 := Lib.hid hr2
  have HX2 := Lib.hid (obj_below HX1.out hb2 (by omega))
  have HS2 := Lib.hid (obj_below HS1.out hb2 (by omega))
  have HB2 := Lib.hid (HB1.out.trans (hb2.mono (by omega)))
  clear hr2 hb2 HR1 HX1 HS1 HB1
  obtain ⟨x20, x21⟩ := cells2 HX2.out
  obtain ⟨s2_0, s2_1, s2_2, s2_3, s2_4, s2_5, s2_6⟩ := cells7 HS2.out
  go_wp2_with fail
  refine (put_any (w.heap.size + 1 + 1) offset 0 big true _ (by omega) (by have := szOf_le true 0 (by omega); have := szOf_le true 4 (by omega); simp [fixedB_length] <;> omega) _ HR2.out).mono ?_
  rintro e w3 ⟨rfl, hr3, hb3⟩
  have HR3 := Lib.hid hr3
  have HX3 := Lib.hid (obj_below HX2.out hb3 (by omega))
  have HS3 := Lib.hid (obj_below HS2.out hb3 (by omega))
  have HB3 := Lib.hid (HB2.out.trans (hb3.mono (by omega)))
  clear hr3 hb3 HR2 HX2 HS2 HB2
  obtain ⟨x30, x31⟩ := cells2 HX3.out
  obtain ⟨s3_0, s3_1, s3_2, s3_3, s3_4, s3_5, s3_6⟩ := cells7 HS3.out
  go_wp2_with fail
  refine (put_any (w.heap.size + 1 + 1) vaddr 0 big true _ (by omega) (by have := szOf_le true 0 (by omega); have := szOf_le true 4 (by omega); simp [fixedB_length] <;> omega) _ HR3.out).mono ?_
  rintro e w4 ⟨rfl, hr4, hb4⟩
  have HR4 := Lib.hid hr4
  have HX4 := Lib.hid (obj_below HX3.out hb4 (by omega))
  have HS4 := Lib.hid (obj_below HS3.out hb4 (by omega))
  have HB4 := Lib.hid (HB3.out.trans (hb4.mono (by omega)))
  clear hr4 hb4 HR3 HX3 HS3 HB3
  obtain ⟨x40, x41⟩ := cells2 HX4.out
  obtain ⟨s4_0, s4_1, s4_2, s4_3, s4_4, s4_5, s4_6⟩ := cells7 HS4.out
  go_wp2_with fail
  refine (put_any (w.heap.size + 1 + 1) paddr 0 big true _ (by omega) (by have := szOf_le true 0 (by omega); have := szOf_le true 4 (by omega); simp [fixedB_length] <;> omega) _ HR4.out).mono ?_
  rintro e w5 ⟨rfl, hr5, hb5⟩
  have HR5 := Lib.hid hr5
  have HX5 := Lib.hid (obj_below HX4.out hb5 (by omega))
  have HS5 := Lib.hid (obj_below HS4.out hb5 (by omega))
  have HB5 := Lib.hid (HB4.out.trans (hb5.mono (by omega)))
  clear hr5 hb5 HR4 HX4 HS4 HB4
  obtain ⟨x50, x51⟩ := cells2 HX5.out
  obtain ⟨s5_0, s5_1, s5_2, s5_3, s5_4, s5_5, s5_6⟩ := cells7 HS5.out
  go_wp2_with fail
  refine (put_any (w.heap.size + 1 + 1) n 0 big true _ (by omega) (by have := szOf_le true 0 (by omega); have := szOf_le true 4 (by omega); simp [fixedB_length] <;> omega) _ HR5.out).mono ?_
  rintro e w6 ⟨rfl, hr6, hb6⟩
  have HR6 := Lib.hid hr6
  have HX6 := Lib.hid (obj_below HX5.out hb6 (by omega))
  have HS6 := Lib.hid (obj_below HS5.out hb6 (by omega))
  have HB6 := Lib.hid (HB5.out.trans (hb6.mono (by omega)))
  clear hr6 hb6 HR5 HX5 HS5 HB5
  obtain ⟨x60, x61⟩ := cells2 HX6.out
  obtain ⟨s6_0, s6_1, s6_2, s6_3, s6_4, s6_5, s6_6⟩ := cells7 HS6.out
  go_wp2_with fail
  refine (put_any (w.heap.size + 1 + 1) memsz 0 big true _ (by omega) (by have := szOf_le true 0 (by omega); have := szOf_le true 4 (by omega); simp [fixedB_length] <;> omega) _ HR6.out).mono ?_
  rintro e w7 ⟨rfl, hr7, hb7⟩
  have HR7 := Lib.hid hr7
  have HX7 := Lib.hid (obj_below HX6.out hb7 (by omega))
  have HS7 := Lib.hid (obj_below HS6.out hb7 (by omega))
  have HB7 := Lib.hid (HB6.out.trans (hb7.mono (by omega)))
  clear hr7 hb7 HR6 HX6 HS6 HB6
  obtain ⟨x70, x71⟩ := cells2 HX7.out
  obtain ⟨s7_0, s7_1, s7_2, s7_3, s7_4, s7_5, s7_6⟩ := cells7 HS7.out
  go_wp2_with fail
  refine (put_any (w.heap.size + 1 + 1) align 0 big true _ (by omega) (by have := szOf_le true 0 (by omega); have := szOf_le true 4 (by omega); simp [fixedB_length] <;> omega) _ HR7.out).mono ?_
  rintro e w8 ⟨rfl, hr8, hb8⟩
  have HR8 := Lib.hid hr8
  have HX8 := Lib.hid (obj_below HX7.out hb8 (by omega))
  have HS8 := Lib.hid (obj_below HS7.out hb8 (by omega))
  have HB8 := Lib.hid (HB7.out.trans (hb8.mono (by omega)))
  clear hr8 hb8 HR7 HX7 HS7 HB7
  obtain ⟨x80, x81⟩ := cells2 HX8.out
  obtain ⟨s8_0, s8_1, s8_2, s8_3, s8_4, s8_5, s8_6⟩ := cells7 HS8.out
  obtain ⟨v, hv, hown⟩ := rowObj_end (w := w) HR8.out (by omega)
  have HE := Lib.hid hown
  clear hown
  go_wp2
  go_ret
  refine ⟨v, rfl, ?_, HB8.out⟩
  simpa [segB] using HE.out

set_option maxRecDepth 100000 in
set_option maxHeartbeats 2000000 in
theorem segmentRow_thin (big : Bool) (x2 x3 x4 x5 x6 x7 x8 : Value) (ty flags vaddr paddr memsz align n c offset : Nat) (A : Option Addr) (h1 : ty ≤ 4294967295) (h2 : flags ≤ 4294967295) (h3 : offset ≤ 4294967295) (h4 : n ≤ 4294967295) (w : World) :
    Calls Tryd.prog 67 #[.agg #[.bool false, .bool big, x2, x3, x4, x5, x6, x7, x8], .agg #[.int .u32 ty, .int .u32 flags, .int .u64 vaddr, .int .u64 paddr, .int .u64 memsz, .int .u64 align, .slice A n c], .int .i64 offset] w
      fun e w' => ∃ v, e = .returned v ∧ w'.ownsRow w.heap.size 5 1 v (segB false big ty flags vaddr paddr memsz align n offset).length ((segB false big ty flags vaddr paddr memsz align n offset).map Bv) ∧ Below w.heap.size w w' := by
  obtain ⟨hX, hS, hR, hB⟩ := start3 w (.cells #[.bool false, .bool big, x2, x3, x4, x5, x6, x7, x8] 26) (.cells #[.int .u32 ty, .int .u32 flags, .int .u64 vaddr, .int .u64 paddr, .int .u64 memsz, .int .u64 align, .slice A n c] 57) false big
  have HX0 := Lib.hid hX
  have HS0 := Lib.hid hS
  have HR0 := Lib.hid hR
  have HB0 := Lib.hid hB
  obtain ⟨x00, x01⟩ := cells2 HX0.out
  obtain ⟨s0_0, s0_1, s0_2, s0_3, s0_4, s0_5, s0_6⟩ := cells7 HS0.out
  clear hX hS hR hB
  go_enter Tryd.func67, Tryd.ntmps67
  go_wp2_with fail
  refine (put_any (w.heap.size + 1 + 1) ty 4 big false _ (by omega) (by have := szOf_le false 0 (by omega); have := szOf_le false 4 (by omega); simp [fixedB_length] <;> omega) _ HR0.out).mono ?_
  rintro e w1 ⟨rfl, hr1, hb1⟩
  have HR1 := Lib.hid hr1
  have HX1 := Lib.hid (obj_below HX0.out hb1 (by omega))
  have HS1 := Lib.hid (obj_below HS0.out hb1 (by omega))
  have HB1 := Lib.hid (HB0.out.trans (hb1.mono (by omega)))
  clear hr1 hb1 HR0 HX0 HS0 HB0
  obtain ⟨x10, x11⟩ := cells2 HX1.out
  obtain ⟨s1_0, s1_1, s1_2, s1_3, s1_4, s1_5, s1_6⟩ := cells7 HS1.out
  go_wp2_with fail
  refine (put_any (w.heap.size + 1 + 1) offset 0 big false _ (by omega) (by have := szOf_le false 0 (by omega); have := szOf_le false 4 (by omega); simp [fixedB_length] <;> omega) _ HR1.out).mono ?_
  rintro e w2 ⟨rfl, hr2, hb2⟩
  have HR2 := Lib.hid hr2
  have HX2 := Lib.hid (obj_below HX1.out hb2 (by omega))
  have HS2 := Lib.hid (obj_below HS1.out hb2 (by omega))
  have HB2 := Lib.hid (HB1.out.trans (hb2.mono (by omega)))
  clear hr2 hb2 HR1 HX1 HS1 HB1
  obtain ⟨x20, x21⟩ := cells2 HX2.out
  obtain ⟨s2_0, s2_1, s2_2, s2_3, s2_4, s2_5, s2_6⟩ := cells7 HS2.out
  go_wp2_with fail
  refine (put_any (w.heap.size + 1 + 1) vaddr 0 big false _ (by omega) (by have := szOf_le false 0 (by omega); have := szOf_le false 4 (by omega); simp [fixedB_length] <;> omega) _ HR2.out).mono ?_
  rintro e w3 ⟨rfl, hr3, hb3⟩
  have HR3 := Lib.hid hr3
  have HX3 := Lib.hid (obj_below HX2.out hb3 (by omega))
  have HS3 := Lib.hid (obj_below HS2.out hb3 (by omega))
  have HB3 := Lib.hid (HB2.out.trans (hb3.mono (by omega)))
  clear hr3 hb3 HR2 HX2 HS2 HB2
  obtain ⟨x30, x31⟩ := cells2 HX3.out
  obtain ⟨s3_0, s3_1, s3_2, s3_3, s3_4, s3_5, s3_6⟩ := cells7 HS3.out
  go_wp2_with fail
  refine (put_any (w.heap.size + 1 + 1) paddr 0 big false _ (by omega) (by have := szOf_le false 0 (by omega); have := szOf_le false 4 (by omega); simp [fixedB_length] <;> omega) _ HR3.out).mono ?_
  rintro e w4 ⟨rfl, hr4, hb4⟩
  have HR4 := Lib.hid hr4
  have HX4 := Lib.hid (obj_below HX3.out hb4 (by omega))
  have HS4 := Lib.hid (obj_below HS3.out hb4 (by omega))
  have HB4 := Lib.hid (HB3.out.trans (hb4.mono (by omega)))
  clear hr4 hb4 HR3 HX3 HS3 HB3
  obtain ⟨x40, x41⟩ := cells2 HX4.out
  obtain ⟨s4_0, s4_1, s4_2, s4_3, s4_4, s4_5, s4_6⟩ := cells7 HS4.out
  go_wp2_with fail
  refine (put_any (w.heap.size + 1 + 1) n 0 big false _ (by omega) (by have := szOf_le false 0 (by omega); have := szOf_le false 4 (by omega); simp [fixedB_length] <;> omega) _ HR4.out).mono ?_
  rintro e w5 ⟨rfl, hr5, hb5⟩
  have HR5 := Lib.hid hr5
  have HX5 := Lib.hid (obj_below HX4.out hb5 (by omega))
  have HS5 := Lib.hid (obj_below HS4.out hb5 (by omega))
  have HB5 := Lib.hid (HB4.out.trans (hb5.mono (by omega)))
  clear hr5 hb5 HR4 HX4 HS4 HB4
  obtain ⟨x50, x51⟩ := cells2 HX5.out
  obtain ⟨s5_0, s5_1, s5_2, s5_3, s5_4, s5_5, s5_6⟩ := cells7 HS5.out
  go_wp2_with fail
  refine (put_any (w.heap.size + 1 + 1) memsz 0 big false _ (by omega) (by have := szOf_le false 0 (by omega); have := szOf_le false 4 (by omega); simp [fixedB_length] <;> omega) _ HR5.out).mono ?_
  rintro e w6 ⟨rfl, hr6, hb6⟩
  have HR6 := Lib.hid hr6
  have HX6 := Lib.hid (obj_below HX5.out hb6 (by omega))
  have HS6 := Lib.hid (obj_below HS5.out hb6 (by omega))
  have HB6 := Lib.hid (HB5.out.trans (hb6.mono (by omega)))
  clear hr6 hb6 HR5 HX5 HS5 HB5
  obtain ⟨x60, x61⟩ := cells2 HX6.out
  obtain ⟨s6_0, s6_1, s6_2, s6_3, s6_4, s6_5, s6_6⟩ := cells7 HS6.out
  go_wp2_with fail
  refine (put_any (w.heap.size + 1 + 1) flags 4 big false _ (by omega) (by have := szOf_le false 0 (by omega); have := szOf_le false 4 (by omega); simp [fixedB_length] <;> omega) _ HR6.out).mono ?_
  rintro e w7 ⟨rfl, hr7, hb7⟩
  have HR7 := Lib.hid hr7
  have HX7 := Lib.hid (obj_below HX6.out hb7 (by omega))
  have HS7 := Lib.hid (obj_below HS6.out hb7 (by omega))
  have HB7 := Lib.hid (HB6.out.trans (hb7.mono (by omega)))
  clear hr7 hb7 HR6 HX6 HS6 HB6
  obtain ⟨x70, x71⟩ := cells2 HX7.out
  obtain ⟨s7_0, s7_1, s7_2, s7_3, s7_4, s7_5, s7_6⟩ := cells7 HS7.out
  go_wp2_with fail
  refine (put_any (w.heap.size + 1 + 1) align 0 big false _ (by omega) (by have := szOf_le false 0 (by omega); have := szOf_le false 4 (by omega); simp [fixedB_length] <;> omega) _ HR7.out).mono ?_
  rintro e w8 ⟨rfl, hr8, hb8⟩
  have HR8 := Lib.hid hr8
  have HX8 := Lib.hid (obj_below HX7.out hb8 (by omega))
  have HS8 := Lib.hid (obj_below HS7.out hb8 (by omega))
  have HB8 := Lib.hid (HB7.out.trans (hb8.mono (by omega)))
  clear hr8 hb8 HR7 HX7 HS7 HB7
  obtain ⟨x80, x81⟩ := cells2 HX8.out
  obtain ⟨s8_0, s8_1, s8_2, s8_3, s8_4, s8_5, s8_6⟩ := cells7 HS8.out
  obtain ⟨v, hv, hown⟩ := rowObj_end (w := w) HR8.out (by omega)
  have HE := Lib.hid hown
  clear hown
  go_wp2
  go_ret
  refine ⟨v, rfl, ?_, HB8.out⟩
  simpa [segB] using HE.out
end Go.Proofs.YtdgehpocmfjbiaaDoor
namespace Go.Proofs.YtdgehpocmfjbiaaDoor
open Go.RowKit
set_option linter.unusedSimpArgs false

def sizeB (ty size n : Nat) : Nat := if ty = 8 then size else n
set_option maxRecDepth 100000 in
set_option maxHeartbeats 1000000 in
theorem size_any (nm : ByteArray) (ty flags addr link info align ent size n c : Nat) (A : Option Addr) (h4 : n ≤ 4294967295) (w : World) :
    Calls Tryd.prog 39 #[.agg #[.string nm, .int .u32 ty, .int .u32 flags, .int .u64 addr, .int .u32 link, .int .u32 info, .int .u64 align, .int .u64 ent, .int .u64 size, .slice A n c]] w fun e w' => e = .returned (.int .u64 (sizeB ty size n)) ∧ Below w.heap.size w w' := by
  by_cases h : ty = 8
  · subst h
    have e : sizeB 8 size n = size := if_pos rfl
    rw [e]
    clear e
    go_enter Tryd.func39, Tryd.ntmps39
    go_wp2
    go_ret
    exact ⟨rfl, (Below.refl _ _).alloc (Nat.le_refl _) _⟩
  · have e : sizeB ty size n = n := if_neg h
    rw [e]
    clear e
    have hb : ((ty : Int) == 8) = false := by rw [beq_eq_false_iff_ne]; omega
    go_enter Tryd.func39, Tryd.ntmps39
    go_wp2
    go_ret
    exact ⟨rfl, (Below.refl _ _).alloc (Nat.le_refl _) _⟩

def secB (wide big : Bool) (name ty flags addr offset size link info align ent : Nat) : List UInt8 :=
  fixedB name (szOf wide 4) big ++ fixedB ty (szOf wide 4) big ++ fixedB flags (szOf wide 0) big ++ fixedB addr (szOf wide 0) big ++ fixedB offset (szOf wide 0) big ++ fixedB size (szOf wide 0) big ++ fixedB link (szOf wide 4) big ++ fixedB info (szOf wide 4) big ++ fixedB align (szOf wide 0) big ++ fixedB ent (szOf wide 0) big

set_option maxRecDepth 100000 in
set_option maxHeartbeats 2000000 in
theorem sectionRow_any (wide big : Bool) (x2 x3 x4 x5 x6 x7 x8 : Value) (name : Nat) (nm : ByteArray) (ty flags addr link info align ent size n c offset : Nat) (A : Option Addr) (h0 : name ≤ 4294967295) (h1 : ty ≤ 4294967295) (h2 : flags ≤ 4294967295) (h3 : offset ≤ 4294967295) (h4 : n ≤ 4294967295) (h5 : link ≤ 4294967295) (h6 : info ≤ 4294967295) (w : World) :
    Calls Tryd.prog 68 #[.agg #[.bool wide, .bool big, x2, x3, x4, x5, x6, x7, x8], .int .i64 name, .agg #[.string nm, .int .u32 ty, .int .u32 flags, .int .u64 addr, .int .u32 link, .int .u32 info, .int .u64 align, .int .u64 ent, .int .u64 size, .slice A n c], .int .i64 offset] w
      fun e w' => ∃ v, e = .returned v ∧ w'.ownsRow w.heap.size 5 1 v (secB wide big name ty flags addr offset (sizeB ty size n) link info align ent).length ((secB wide big name ty flags addr offset (sizeB ty size n) link info align ent).map Bv) ∧ Below w.heap.size w w' := by
  obtain ⟨hX, hS, hR, hB⟩ := start3 w (.cells #[.bool wide, .bool big, x2, x3, x4, x5, x6, x7, x8] 26) (.cells #[.string nm, .int .u32 ty, .int .u32 flags, .int .u64 addr, .int .u32 link, .int .u32 info, .int .u64 align, .int .u64 ent, .int .u64 size, .slice A n c] 46) wide big
  have HX0 := Lib.hid hX
  have HS0 := Lib.hid hS
  have HR0 := Lib.hid hR
  have HB0 := Lib.hid hB
  obtain ⟨x00, x01⟩ := cells2 HX0.out
  obtain ⟨s0_0, s0_1, s0_2, s0_3, s0_4, s0_5, s0_6, s0_7, s0_8, s0_9⟩ := cells10 HS0.out
  clear hX hS hR hB
  go_enter Tryd.func68, Tryd.ntmps68
  go_wp2_with fail
  refine (put_any (w.heap.size + 1 + 1) name 4 big wide _ (by omega) (by have := szOf_le wide 0 (by omega); have := szOf_le wide 4 (by omega); simp [fixedB_length] <;> omega) _ HR0.out).mono ?_
  rintro e w1 ⟨rfl, hr1, hb1⟩
  have HR1 := Lib.hid hr1
  have HX1 := Lib.hid (obj_below HX0.out hb1 (by omega))
  have HS1 := Lib.hid (obj_below HS0.out hb1 (by omega))
  have HB1 := Lib.hid (HB0.out.trans (hb1.mono (by omega)))
  clear hr1 hb1 HR0 HX0 HS0 HB0
  obtain ⟨x10, x11⟩ := cells2 HX1.out
  obtain ⟨s1_0, s1_1, s1_2, s1_3, s1_4, s1_5, s1_6, s1_7, s1_8, s1_9⟩ := cells10 HS1.out
  go_wp2_with fail
  refine (put_any (w.heap.size + 1 + 1) ty 4 big wide _ (by omega) (by have := szOf_le wide 0 (by omega); have := szOf_le wide 4 (by omega); simp [fixedB_length] <;> omega) _ HR1.out).mono ?_
  rintro e w2 ⟨rfl, hr2, hb2⟩
  have HR2 := Lib.hid hr2
  have HX2 := Lib.hid (obj_below HX1.out hb2 (by omega))
  have HS2 := Lib.hid (obj_below HS1.out hb2 (by omega))
  have HB2 := Lib.hid (HB1.out.trans (hb2.mono (by omega)))
  clear hr2 hb2 HR1 HX1 HS1 HB1
  obtain ⟨x20, x21⟩ := cells2 HX2.out
  obtain ⟨s2_0, s2_1, s2_2, s2_3, s2_4, s2_5, s2_6, s2_7, s2_8, s2_9⟩ := cells10 HS2.out
  go_wp2_with fail
  refine (put_any (w.heap.size + 1 + 1) flags 0 big wide _ (by omega) (by have := szOf_le wide 0 (by omega); have := szOf_le wide 4 (by omega); simp [fixedB_length] <;> omega) _ HR2.out).mono ?_
  rintro e w3 ⟨rfl, hr3, hb3⟩
  have HR3 := Lib.hid hr3
  have HX3 := Lib.hid (obj_below HX2.out hb3 (by omega))
  have HS3 := Lib.hid (obj_below HS2.out hb3 (by omega))
  have HB3 := Lib.hid (HB2.out.trans (hb3.mono (by omega)))
  clear hr3 hb3 HR2 HX2 HS2 HB2
  obtain ⟨x30, x31⟩ := cells2 HX3.out
  obtain ⟨s3_0, s3_1, s3_2, s3_3, s3_4, s3_5, s3_6, s3_7, s3_8, s3_9⟩ := cells10 HS3.out
  go_wp2_with fail
  refine (put_any (w.heap.size + 1 + 1) addr 0 big wide _ (by omega) (by have := szOf_le wide 0 (by omega); have := szOf_le wide 4 (by omega); simp [fixedB_length] <;> omega) _ HR3.out).mono ?_
  rintro e w4 ⟨rfl, hr4, hb4⟩
  have HR4 := Lib.hid hr4
  have HX4 := Lib.hid (obj_below HX3.out hb4 (by omega))
  have HS4 := Lib.hid (obj_below HS3.out hb4 (by omega))
  have HB4 := Lib.hid (HB3.out.trans (hb4.mono (by omega)))
  clear hr4 hb4 HR3 HX3 HS3 HB3
  obtain ⟨x40, x41⟩ := cells2 HX4.out
  obtain ⟨s4_0, s4_1, s4_2, s4_3, s4_4, s4_5, s4_6, s4_7, s4_8, s4_9⟩ := cells10 HS4.out
  go_wp2_with fail
  refine (put_any (w.heap.size + 1 + 1) offset 0 big wide _ (by omega) (by have := szOf_le wide 0 (by omega); have := szOf_le wide 4 (by omega); simp [fixedB_length] <;> omega) _ HR4.out).mono ?_
  rintro e w5 ⟨rfl, hr5, hb5⟩
  have HR5 := Lib.hid hr5
  have HX5 := Lib.hid (obj_below HX4.out hb5 (by omega))
  have HS5 := Lib.hid (obj_below HS4.out hb5 (by omega))
  have HB5 := Lib.hid (HB4.out.trans (hb5.mono (by omega)))
  clear hr5 hb5 HR4 HX4 HS4 HB4
  obtain ⟨x50, x51⟩ := cells2 HX5.out
  obtain ⟨s5_0, s5_1, s5_2, s5_3, s5_4, s5_5, s5_6, s5_7, s5_8, s5_9⟩ := cells10 HS5.out
  go_wp2_with fail
  refine (size_any nm ty flags addr link info align ent size n c A h4 _).mono ?_
  rintro e wz ⟨rfl, hbz⟩
  obtain ⟨z, hz⟩ : ∃ z, sizeB ty size n = z := ⟨_, rfl⟩
  rw [hz]
  have HZ := Lib.hid hz
  have HR5z := Lib.hid (HR5.out.below hbz)
  have HX5z := Lib.hid (obj_below HX5.out hbz (obj_lt HX5.out))
  have HS5z := Lib.hid (obj_below HS5.out hbz (obj_lt HS5.out))
  have HB5z := Lib.hid (HB5.out.trans (hbz.mono HB5.out.size))
  clear hz hbz HR5 HX5 HS5 HB5
  go_wp2_with fail
  refine (put_any (w.heap.size + 1 + 1) z 0 big wide _ (by omega) (by have := szOf_le wide 0 (by omega); have := szOf_le wide 4 (by omega); simp [fixedB_length] <;> omega) _ HR5z.out).mono ?_
  rintro e w6 ⟨rfl, hr6, hb6⟩
  have HR6 := Lib.hid hr6
  have HX6 := Lib.hid (obj_below HX5z.out hb6 (by omega))
  have HS6 := Lib.hid (obj_below HS5z.out hb6 (by omega))
  have HB6 := Lib.hid (HB5z.out.trans (hb6.mono (by omega)))
  clear hr6 hb6 HR5z HX5z HS5z HB5z
  obtain ⟨x60, x61⟩ := cells2 HX6.out
  obtain ⟨s6_0, s6_1, s6_2, s6_3, s6_4, s6_5, s6_6, s6_7, s6_8, s6_9⟩ := cells10 HS6.out
  go_wp2_with fail
  refine (put_any (w.heap.size + 1 + 1) link 4 big wide _ (by omega) (by have := szOf_le wide 0 (by omega); have := szOf_le wide 4 (by omega); simp [fixedB_length] <;> omega) _ HR6.out).mono ?_
  rintro e w7 ⟨rfl, hr7, hb7⟩
  have HR7 := Lib.hid hr7
  have HX7 := Lib.hid (obj_below HX6.out hb7 (by omega))
  have HS7 := Lib.hid (obj_below HS6.out hb7 (by omega))
  have HB7 := Lib.hid (HB6.out.trans (hb7.mono (by omega)))
  clear hr7 hb7 HR6 HX6 HS6 HB6
  obtain ⟨x70, x71⟩ := cells2 HX7.out
  obtain ⟨s7_0, s7_1, s7_2, s7_3, s7_4, s7_5, s7_6, s7_7, s7_8, s7_9⟩ := cells10 HS7.out
  go_wp2_with fail
  refine (put_any (w.heap.size + 1 + 1) info 4 big wide _ (by omega) (by have := szOf_le wide 0 (by omega); have := szOf_le wide 4 (by omega); simp [fixedB_length] <;> omega) _ HR7.out).mono ?_
  rintro e w8 ⟨rfl, hr8, hb8⟩
  have HR8 := Lib.hid hr8
  have HX8 := Lib.hid (obj_below HX7.out hb8 (by omega))
  have HS8 := Lib.hid (obj_below HS7.out hb8 (by omega))
  have HB8 := Lib.hid (HB7.out.trans (hb8.mono (by omega)))
  clear hr8 hb8 HR7 HX7 HS7 HB7
  obtain ⟨x80, x81⟩ := cells2 HX8.out
  obtain ⟨s8_0, s8_1, s8_2, s8_3, s8_4, s8_5, s8_6, s8_7, s8_8, s8_9⟩ := cells10 HS8.out
  go_wp2_with fail
  refine (put_any (w.heap.size + 1 + 1) align 0 big wide _ (by omega) (by have := szOf_le wide 0 (by omega); have := szOf_le wide 4 (by omega); simp [fixedB_length] <;> omega) _ HR8.out).mono ?_
  rintro e w9 ⟨rfl, hr9, hb9⟩
  have HR9 := Lib.hid hr9
  have HX9 := Lib.hid (obj_below HX8.out hb9 (by omega))
  have HS9 := Lib.hid (obj_below HS8.out hb9 (by omega))
  have HB9 := Lib.hid (HB8.out.trans (hb9.mono (by omega)))
  clear hr9 hb9 HR8 HX8 HS8 HB8
  obtain ⟨x90, x91⟩ := cells2 HX9.out
  obtain ⟨s9_0, s9_1, s9_2, s9_3, s9_4, s9_5, s9_6, s9_7, s9_8, s9_9⟩ := cells10 HS9.out
  go_wp2_with fail
  refine (put_any (w.heap.size + 1 + 1) ent 0 big wide _ (by omega) (by have := szOf_le wide 0 (by omega); have := szOf_le wide 4 (by omega); simp [fixedB_length] <;> omega) _ HR9.out).mono ?_
  rintro e w10 ⟨rfl, hr10, hb10⟩
  have HR10 := Lib.hid hr10
  have HX10 := Lib.hid (obj_below HX9.out hb10 (by omega))
  have HS10 := Lib.hid (obj_below HS9.out hb10 (by omega))
  have HB10 := Lib.hid (HB9.out.trans (hb10.mono (by omega)))
  clear hr10 hb10 HR9 HX9 HS9 HB9
  obtain ⟨x100, x101⟩ := cells2 HX10.out
  obtain ⟨s10_0, s10_1, s10_2, s10_3, s10_4, s10_5, s10_6, s10_7, s10_8, s10_9⟩ := cells10 HS10.out
  obtain ⟨v, hv, hown⟩ := rowObj_end (w := w) HR10.out (by omega)
  have HE := Lib.hid hown
  clear hown
  go_wp2
  go_ret
  refine ⟨v, rfl, ?_, HB10.out⟩
  rw [HZ.out]
  simpa [secB] using HE.out
end Go.Proofs.YtdgehpocmfjbiaaDoor
namespace Go.Proofs.YtdgehpocmfjbiaaDoor
open Go.RowKit
set_option linter.unusedSimpArgs false
attribute [local go_sem ↓] Go.wp_at_zero Go.wp_at_succ

end Go.Proofs.YtdgehpocmfjbiaaDoor
namespace Go.Proofs.YtdgehpocmfjbiaaDoor
open Go.RowKit

theorem mid_take (a b c : List UInt8) (n k : Nat) (hn : a.length = n) (hk : b.length = k) : ((a ++ (b ++ c)).drop n).take k = b := by
  rw [List.drop_left' hn, List.take_left' hk]
theorem numB_fixed (n k : Nat) (big : Bool) (h : n < 256 ^ k) : numB big (fixedB n k big) = n := by rw [numB_fixedB, Nat.mod_eq_of_lt h]

section
variable (big : Bool) (name info other sec value size : Nat)
end
end Go.Proofs.YtdgehpocmfjbiaaDoor
namespace Go.Proofs.YtdgehpocmfjbiaaDoor
open Go.RowKit

structure Seg where
  ty : Nat
  flags : Nat
  vaddr : Nat
  paddr : Nat
  memsz : Nat
  align : Nat
  data : List UInt8

structure Part where
  name : List UInt8
  ty : Nat
  flags : Nat
  addr : Nat
  link : Nat
  info : Nat
  align : Nat
  ent : Nat
  size : Nat
  data : List UInt8

structure Img where
  wide : Bool
  big : Bool
  abi : Nat
  abiv : Nat
  ty : Nat
  machine : Nat
  entry : Nat
  segs : List Seg
  parts : List Part

/-- names, each with a zero behind it, behind a zero -/
def namesB (l : List (List UInt8)) : List UInt8 := 0 :: l.flatMap (· ++ [0])
/-- where name i begins -/
def nameAt (l : List (List UInt8)) (i : Nat) : Nat := (namesB (l.take i)).length
theorem namesB_snoc (l : List (List UInt8)) (s : List UInt8) : namesB (l ++ [s]) = namesB l ++ s ++ [0] := by simp [namesB]
theorem namesB_take (l : List (List UInt8)) (i : Nat) (h : i < l.length) : namesB (l.take (i + 1)) = namesB (l.take i) ++ l[i] ++ [0] := by
  rw [List.take_succ_eq_append_getElem h, namesB_snoc]
theorem namesB_split (l : List (List UInt8)) (i : Nat) (h : i < l.length) : ∃ r, namesB l = namesB (l.take i) ++ (l[i] ++ 0 :: r) := by
  refine ⟨(l.drop (i + 1)).flatMap (· ++ [0]), ?_⟩
  have e : l = l.take i ++ (l[i] :: l.drop (i + 1)) := by rw [← List.drop_eq_getElem_cons h, List.take_append_drop]
  have : namesB l = namesB (l.take i ++ (l[i] :: l.drop (i + 1))) := by rw [← e]
  rw [this]
  unfold namesB
  rw [List.flatMap_append, List.flatMap_cons, List.append_assoc, List.cons_append]
  rfl
/-- a name is read at its place -/
theorem names_read (l : List (List UInt8)) (i : Nat) (h : i < l.length) (h0 : 0 ∉ l[i]) : strAt (namesB l) (nameAt l i) = some l[i] := by
  obtain ⟨r, e⟩ := namesB_split l i h
  unfold strAt nameAt
  rw [e, List.drop_left, cutAt_of _ _ h0]
theorem nameAt_lt (l : List (List UInt8)) (i : Nat) (h : i < l.length) : nameAt l i < (namesB l).length := by
  obtain ⟨r, e⟩ := namesB_split l i h
  unfold nameAt
  rw [e]
  simp only [List.length_append, List.length_cons]
  omega

def nonePart : Part := ⟨[], 0, 0, 0, 0, 0, 0, 0, 0, []⟩
/-- '.shstrtab' -/
def shstr : List UInt8 := [46, 115, 104, 115, 116, 114, 116, 97, 98]
def Img.firsts (x : Img) : List Part := nonePart :: x.parts
def Img.names (x : Img) : List (List UInt8) := x.firsts.map (·.name) ++ [shstr]
def Img.strPart (x : Img) : Part := ⟨shstr, 3, 0, 0, 0, 0, 1, 0, 0, namesB x.names⟩
/-- the sections of a file -/
def Img.all (x : Img) : List Part := x.firsts ++ [x.strPart]
def fileData (p : Part) : List UInt8 := if p.ty = 8 then [] else p.data
def partSize (p : Part) : Nat := sizeB p.ty p.size p.data.length
def hSize (wide : Bool) : Nat := if wide then 64 else 52
def pSize (wide : Bool) : Nat := if wide then 56 else 32
def sSize (wide : Bool) : Nat := if wide then 64 else 40
def Img.at0 (x : Img) : Nat := hSize x.wide + pSize x.wide * x.segs.length
def Img.segBody (x : Img) : List UInt8 := x.segs.flatMap (·.data)
def Img.secBody (x : Img) : List UInt8 := x.all.flatMap fileData
def Img.segPlace (x : Img) (i : Nat) : Nat := x.at0 + ((x.segs.take i).flatMap (·.data)).length
def Img.secPlace (x : Img) (i : Nat) : Nat := if i = 0 then 0 else x.at0 + x.segBody.length + ((x.all.take i).flatMap fileData).length
def Img.shoff (x : Img) : Nat := x.at0 + (x.segBody ++ x.secBody).length
/-- where a section's name begins (that of the none section: 0) -/
def Img.namePlace (x : Img) (i : Nat) : Nat := if i = 0 then 0 else nameAt x.names i
def Img.segRow (x : Img) (i : Nat) (s : Seg) : List UInt8 := segB x.wide x.big s.ty s.flags s.vaddr s.paddr s.memsz s.align s.data.length (x.segPlace i)
def Img.secRow (x : Img) (i : Nat) (p : Part) : List UInt8 := secB x.wide x.big (x.namePlace i) p.ty p.flags p.addr (x.secPlace i) (partSize p) p.link p.info p.align p.ent
/-- rows, laid behind each other, each with its number -/
def rowsFrom {α : Type} (f : Nat → α → List UInt8) : Nat → List α → List UInt8
  | _, [] => []
  | i, a :: l => f i a ++ rowsFrom f (i + 1) l
theorem rowsFrom_append {α : Type} (f : Nat → α → List UInt8) : ∀ (i : Nat) (a b : List α), rowsFrom f i (a ++ b) = rowsFrom f i a ++ rowsFrom f (i + a.length) b
  | i, [], b => by simp [rowsFrom]
  | i, x :: a, b => by
    simp only [List.cons_append, rowsFrom, rowsFrom_append f (i + 1) a b, List.append_assoc, List.length_cons]
    rw [show i + 1 + a.length = i + (a.length + 1) by omega]
theorem rowsFrom_take {α : Type} (f : Nat → α → List UInt8) (l : List α) (i : Nat) (h : i < l.length) : rowsFrom f 0 (l.take (i + 1)) = rowsFrom f 0 (l.take i) ++ f i l[i] := by
  rw [List.take_succ_eq_append_getElem h, rowsFrom_append]
  have : 0 + (l.take i).length = i := by simp; omega
  rw [this]
  simp [rowsFrom]
theorem rowsFrom_length {α : Type} (f : Nat → α → List UInt8) (k : Nat) : ∀ (l : List α) (i : Nat), (∀ j a, a ∈ l → (f j a).length = k) → (rowsFrom f i l).length = l.length * k
  | [], i, _ => by simp [rowsFrom]
  | x :: l, i, h => by
    simp only [rowsFrom, List.length_append, List.length_cons]
    rw [h i x (by simp), rowsFrom_length f k l (i + 1) fun j a ha => h j a (by simp [ha]), Nat.succ_mul, Nat.add_comm]
/-- row i, out of rows of one length -/
theorem rowsFrom_drop {α : Type} (f : Nat → α → List UInt8) (k : Nat) (l : List α) (h : ∀ j a, a ∈ l → (f j a).length = k) (i : Nat) (hi : i < l.length) : ∃ r, (rowsFrom f 0 l).drop (i * k) = f i l[i] ++ r := by
  have e : l = l.take i ++ (l[i] :: l.drop (i + 1)) := by rw [← List.drop_eq_getElem_cons hi, List.take_append_drop]
  have h1 : rowsFrom f 0 l = rowsFrom f 0 (l.take i) ++ (f i l[i] ++ rowsFrom f (i + 1) (l.drop (i + 1))) := by
    have : rowsFrom f 0 l = rowsFrom f 0 (l.take i ++ (l[i] :: l.drop (i + 1))) := by rw [← e]
    rw [this, rowsFrom_append]
    have : 0 + (l.take i).length = i := by simp; omega
    rw [this]
    rfl
  have h2 : (rowsFrom f 0 (l.take i)).length = i * k := by
    rw [rowsFrom_length f k _ 0 fun j a ha => h j a (List.mem_of_mem_take ha)]
    congr 1
    simp; omega
  exact ⟨_, by rw [h1, List.drop_left' h2]⟩

def headB (wide big : Bool) (abi abiv ty machine entry n at_ m from_ : Nat) : List UInt8 :=
  [127, 69, 76, 70, if wide then 2 else 1, if big then 2 else 1, 1, UInt8.ofNat abi, UInt8.ofNat abiv] ++ List.replicate 7 0 ++
  fixedB ty 2 big ++ fixedB machine 2 big ++ fixedB 1 4 big ++ fixedB entry (szOf wide 0) big ++ fixedB at_ (szOf wide 0) big ++ fixedB from_ (szOf wide 0) big ++ fixedB 0 4 big ++
  fixedB (hSize wide) 2 big ++ fixedB (pSize wide) 2 big ++ fixedB n 2 big ++ fixedB (sSize wide) 2 big ++ fixedB m 2 big ++ fixedB (m - 1) 2 big
def Img.head (x : Img) : List UInt8 := headB x.wide x.big x.abi x.abiv x.ty x.machine x.entry x.segs.length (hSize x.wide) x.all.length x.shoff
/-- the bytes of a file -/
def Img.file (x : Img) : List UInt8 := x.head ++ rowsFrom x.segRow 0 x.segs ++ (x.segBody ++ x.secBody) ++ rowsFrom x.secRow 0 x.all

theorem headB_length (wide big : Bool) (abi abiv ty machine entry n at_ m from_ : Nat) : (headB wide big abi abiv ty machine entry n at_ m from_).length = hSize wide := by
  cases wide <;> simp [headB, fixedB_length, szOf, hSize]
theorem segB_length (wide big : Bool) (ty flags vaddr paddr memsz align n offset : Nat) : (segB wide big ty flags vaddr paddr memsz align n offset).length = pSize wide := by
  cases wide <;> simp [segB, fixedB_length, szOf, pSize]
theorem secB_length (wide big : Bool) (name ty flags addr offset size link info align ent : Nat) : (secB wide big name ty flags addr offset size link info align ent).length = sSize wide := by
  cases wide <;> simp [secB, fixedB_length, szOf, sSize]
theorem Img.segRows_length (x : Img) : (rowsFrom x.segRow 0 x.segs).length = pSize x.wide * x.segs.length := by
  rw [rowsFrom_length x.segRow (pSize x.wide) _ _ fun j a _ => segB_length .., Nat.mul_comm]
theorem Img.secRows_length (x : Img) : (rowsFrom x.secRow 0 x.all).length = x.all.length * sSize x.wide :=
  rowsFrom_length x.secRow (sSize x.wide) _ _ fun j a _ => secB_length ..
theorem Img.file_length (x : Img) : x.file.length = x.shoff + x.all.length * sSize x.wide := by
  unfold Img.file Img.shoff Img.at0
  simp only [List.length_append, Img.segRows_length, Img.secRows_length]
  rw [show x.head.length = hSize x.wide from headB_length ..]
theorem Img.drop_head (x : Img) : x.file.drop (hSize x.wide) = rowsFrom x.segRow 0 x.segs ++ ((x.segBody ++ x.secBody) ++ rowsFrom x.secRow 0 x.all) := by
  have e : x.file = x.head ++ (rowsFrom x.segRow 0 x.segs ++ ((x.segBody ++ x.secBody) ++ rowsFrom x.secRow 0 x.all)) := by simp [Img.file]
  rw [e, List.drop_left' (show x.head.length = hSize x.wide from headB_length ..)]
theorem Img.drop_at0 (x : Img) : x.file.drop x.at0 = (x.segBody ++ x.secBody) ++ rowsFrom x.secRow 0 x.all := by
  have e : x.file = (x.head ++ rowsFrom x.segRow 0 x.segs) ++ ((x.segBody ++ x.secBody) ++ rowsFrom x.secRow 0 x.all) := by simp [Img.file]
  rw [e, List.drop_left']
  rw [List.length_append, Img.segRows_length]
  exact congrArg (· + _) (headB_length ..)
theorem Img.drop_shoff (x : Img) : x.file.drop x.shoff = rowsFrom x.secRow 0 x.all := by
  have e : x.file = (x.head ++ rowsFrom x.segRow 0 x.segs ++ (x.segBody ++ x.secBody)) ++ rowsFrom x.secRow 0 x.all := by simp [Img.file]
  rw [e, List.drop_left']
  unfold Img.shoff Img.at0
  rw [List.length_append, List.length_append, Img.segRows_length]
  exact congrArg (· + _ + _) (headB_length ..)
theorem Img.take_head (x : Img) : ∃ r, x.file = x.head ++ r := ⟨_, by unfold Img.file; rw [List.append_assoc, List.append_assoc]⟩

theorem flat_at {α : Type} (f : α → List UInt8) (l : List α) (i : Nat) (h : i < l.length) : ∃ r, (l.flatMap f).drop ((l.take i).flatMap f).length = f l[i] ++ r := by
  have e : l = l.take i ++ (l[i] :: l.drop (i + 1)) := by rw [← List.drop_eq_getElem_cons h, List.take_append_drop]
  have : l.flatMap f = (l.take i).flatMap f ++ (f l[i] ++ (l.drop (i + 1)).flatMap f) := by
    have : l.flatMap f = (l.take i ++ (l[i] :: l.drop (i + 1))).flatMap f := by rw [← e]
    rw [this, List.flatMap_append, List.flatMap_cons]
  exact ⟨_, by rw [this, List.drop_left]⟩
theorem flat_le {α : Type} (f : α → List UInt8) (l : List α) (i : Nat) : ((l.take i).flatMap f).length ≤ (l.flatMap f).length := by
  have : l.flatMap f = (l.take i).flatMap f ++ (l.drop i).flatMap f := by rw [← List.flatMap_append, List.take_append_drop]
  rw [this]; simp
/-- the bytes of segment i -/
theorem Img.seg_at (x : Img) (i : Nat) (h : i < x.segs.length) : ∃ r, x.file.drop (x.segPlace i) = x.segs[i].data ++ r := by
  obtain ⟨r, e⟩ := flat_at (·.data) x.segs i h
  have h1 : x.segBody.drop ((x.segs.take i).flatMap (·.data)).length = x.segs[i].data ++ r := e
  unfold Img.segPlace
  rw [← List.drop_drop, Img.drop_at0, List.append_assoc, List.drop_append_of_le_length (show _ ≤ x.segBody.length from flat_le _ _ _), h1, List.append_assoc]
  exact ⟨_, rfl⟩
/-- the bytes of section i -/
theorem Img.sec_at (x : Img) (i : Nat) (hi : 0 < i) (h : i < x.all.length) : ∃ r, x.file.drop (x.secPlace i) = fileData x.all[i] ++ r := by
  obtain ⟨r, e⟩ := flat_at fileData x.all i h
  have h1 : x.secBody.drop ((x.all.take i).flatMap fileData).length = fileData x.all[i] ++ r := e
  unfold Img.secPlace
  rw [if_neg (by omega), ← List.drop_drop, ← List.drop_drop, Img.drop_at0, List.append_assoc, List.drop_left, List.drop_append_of_le_length (show _ ≤ x.secBody.length from flat_le _ _ _), h1, List.append_assoc]
  exact ⟨_, rfl⟩
end Go.Proofs.YtdgehpocmfjbiaaDoor
namespace Go.Proofs.YtdgehpocmfjbiaaDoor
open Go.RowKit

/-- the number of k bytes at a place of l -/
def num (big : Bool) (l : List UInt8) (off k : Nat) : Nat := numB big ((l.drop off).take k)
theorem num_drop (big : Bool) (l : List UInt8) (a off k : Nat) : num big (l.drop a) off k = num big l (a + off) k := by unfold num; rw [List.drop_drop]
theorem num_lt (big : Bool) (l : List UInt8) (off k : Nat) : num big l off k < 256 ^ k := by
  have h := numB_lt big ((l.drop off).take k)
  exact Nat.lt_of_lt_of_le h (Nat.pow_le_pow_right (by omega) (by simp; omega))

def fieldsB (big : Bool) (fs : List (Nat × Nat)) : List UInt8 := fs.flatMap fun f => fixedB f.1 f.2 big
def offB (fs : List (Nat × Nat)) (j : Nat) : Nat := ((fs.take j).map (·.2)).sum
theorem fieldsB_length (big : Bool) : ∀ fs : List (Nat × Nat), (fieldsB big fs).length = (fs.map (·.2)).sum
  | [] => rfl
  | f :: fs => by
    have := fieldsB_length big fs
    simp only [fieldsB] at this
    simp [fieldsB, fixedB_length, this]
theorem field_at (big : Bool) (fs : List (Nat × Nat)) (r : List UInt8) (j v k off : Nat) (h : fs[j]? = some (v, k)) (hv : v < 256 ^ k) (ho : off = offB fs j) : num big (fieldsB big fs ++ r) off k = v := by
  obtain ⟨hj, e⟩ := List.getElem?_eq_some_iff.1 h
  have e2 : fs = fs.take j ++ (fs[j] :: fs.drop (j + 1)) := by rw [← List.drop_eq_getElem_cons hj, List.take_append_drop]
  have e3 : fieldsB big fs ++ r = fieldsB big (fs.take j) ++ (fixedB v k big ++ (fieldsB big (fs.drop (j + 1)) ++ r)) := by
    have : fieldsB big fs = fieldsB big (fs.take j ++ (fs[j] :: fs.drop (j + 1))) := by rw [← e2]
    rw [this, e]
    simp [fieldsB]
  unfold num
  rw [e3, ho, mid_take _ _ _ _ _ (by rw [fieldsB_length]; rfl) (fixedB_length _ _ _), numB_fixed _ _ _ hv]
theorem field_behind (big : Bool) (p : List UInt8) (n : Nat) (hp : p.length = n) (fs : List (Nat × Nat)) (r : List UInt8) (j v k off : Nat) (h : fs[j]? = some (v, k)) (hv : v < 256 ^ k) (ho : off = n + offB fs j) : num big (p ++ (fieldsB big fs ++ r)) off k = v := by
  have := field_at big fs r j v k (offB fs j) h hv rfl
  rw [← this, ho]
  unfold num
  rw [← List.drop_drop, List.drop_left' hp]

def aSz (wide : Bool) : Nat := if wide then 8 else 4
def segF (wide : Bool) (ty flags vaddr paddr memsz align n offset : Nat) : List (Nat × Nat) :=
  if wide then [(ty, 4), (flags, 4), (offset, 8), (vaddr, 8), (paddr, 8), (n, 8), (memsz, 8), (align, 8)] else [(ty, 4), (offset, 4), (vaddr, 4), (paddr, 4), (n, 4), (memsz, 4), (flags, 4), (align, 4)]
theorem segB_fields (wide big : Bool) (ty flags vaddr paddr memsz align n offset : Nat) : segB wide big ty flags vaddr paddr memsz align n offset = fieldsB big (segF wide ty flags vaddr paddr memsz align n offset) := by
  cases wide <;> simp [segB, segF, fieldsB, szOf]
def secF (wide : Bool) (name ty flags addr offset size link info align ent : Nat) : List (Nat × Nat) :=
  [(name, 4), (ty, 4), (flags, aSz wide), (addr, aSz wide), (offset, aSz wide), (size, aSz wide), (link, 4), (info, 4), (align, aSz wide), (ent, aSz wide)]
theorem secB_fields (wide big : Bool) (name ty flags addr offset size link info align ent : Nat) : secB wide big name ty flags addr offset size link info align ent = fieldsB big (secF wide name ty flags addr offset size link info align ent) := by
  cases wide <;> simp [secB, secF, fieldsB, szOf, aSz]
def headF (wide : Bool) (ty machine entry n at_ m from_ : Nat) : List (Nat × Nat) :=
  [(ty, 2), (machine, 2), (1, 4), (entry, aSz wide), (at_, aSz wide), (from_, aSz wide), (0, 4), (hSize wide, 2), (pSize wide, 2), (n, 2), (sSize wide, 2), (m, 2), (m - 1, 2)]
def identB (wide big : Bool) (abi abiv : Nat) : List UInt8 := [127, 69, 76, 70, if wide then 2 else 1, if big then 2 else 1, 1, UInt8.ofNat abi, UInt8.ofNat abiv, 0, 0, 0, 0, 0, 0, 0]
theorem headB_fields (wide big : Bool) (abi abiv ty machine entry n at_ m from_ : Nat) : headB wide big abi abiv ty machine entry n at_ m from_ = identB wide big abi abiv ++ fieldsB big (headF wide ty machine entry n at_ m from_) := by
  cases wide <;> simp [headB, headF, identB, fieldsB, szOf, aSz]

/-- what the head of a file tells -/
structure HeadOk (l : List UInt8) (wide big : Bool) (abi abiv tyN machN entryN phoffN phnumN shoffN shnumN : Nat) : Prop where
  len : hSize wide ≤ l.length
  id : ∃ r, l = identB wide big abi abiv ++ r
  ty : num big l 16 2 = tyN
  machine : num big l 18 2 = machN
  ver : num big l 20 4 = 1
  entry : num big l 24 (aSz wide) = entryN
  phoff : num big l (24 + aSz wide) (aSz wide) = phoffN
  shoff : num big l (24 + 2 * aSz wide) (aSz wide) = shoffN
  phent : num big l (30 + 3 * aSz wide) 2 = pSize wide
  phnum : num big l (32 + 3 * aSz wide) 2 = phnumN
  shent : num big l (34 + 3 * aSz wide) 2 = sSize wide
  shnum : num big l (36 + 3 * aSz wide) 2 = shnumN
  shstr : num big l (38 + 3 * aSz wide) 2 = shnumN - 1
theorem head_ok (wide big : Bool) (abi abiv ty machine entry n at_ m from_ : Nat) (r : List UInt8) (h1 : ty < 65536) (h2 : machine < 65536) (h3 : entry < 256 ^ aSz wide) (h4 : at_ < 256 ^ aSz wide) (h5 : from_ < 256 ^ aSz wide) (h6 : n < 65536) (h7 : m < 65536) :
    HeadOk (headB wide big abi abiv ty machine entry n at_ m from_ ++ r) wide big abi abiv ty machine entry at_ n from_ m := by
  rw [headB_fields, List.append_assoc]
  have k := fun j v s off h hv ho => field_behind big (identB wide big abi abiv) 16 rfl (headF wide ty machine entry n at_ m from_) r j v s off h hv ho
  have p2 : (256 : Nat) ^ 2 = 65536 := rfl
  have p4 : (256 : Nat) ^ 4 = 4294967296 := rfl
  refine ⟨?_, ⟨_, rfl⟩, ?_, ?_, ?_, ?_, ?_, ?_, ?_, ?_, ?_, ?_, ?_⟩
  · rw [List.length_append, List.length_append, fieldsB_length]
    cases wide <;> simp [identB, headF, hSize, aSz] <;> omega
  · exact k 0 _ _ _ rfl (by omega) rfl
  · exact k 1 _ _ _ rfl (by omega) rfl
  · exact k 2 _ _ _ rfl (by omega) rfl
  · exact k 3 _ _ _ rfl h3 rfl
  · exact k 4 _ _ _ rfl h4 (by cases wide <;> rfl)
  · exact k 5 _ _ _ rfl h5 (by cases wide <;> rfl)
  · exact k 8 _ _ _ rfl (by cases wide <;> decide) (by cases wide <;> rfl)
  · exact k 9 _ _ _ rfl (by omega) (by cases wide <;> rfl)
  · exact k 10 _ _ _ rfl (by cases wide <;> decide) (by cases wide <;> rfl)
  · exact k 11 _ _ _ rfl (by omega) (by cases wide <;> rfl)
  · exact k 12 _ _ _ rfl (by omega) (by cases wide <;> rfl)

/-- what the row of a segment tells -/
structure SegOk (l : List UInt8) (wide big : Bool) (ty flags vaddr paddr memsz align n offset : Nat) : Prop where
  ty : num big l 0 4 = ty
  flags : num big l (if wide then 4 else 24) 4 = flags
  off : num big l (aSz wide) (aSz wide) = offset
  vaddr : num big l (2 * aSz wide) (aSz wide) = vaddr
  paddr : num big l (3 * aSz wide) (aSz wide) = paddr
  filesz : num big l (4 * aSz wide) (aSz wide) = n
  memsz : num big l (5 * aSz wide) (aSz wide) = memsz
  align : num big l (if wide then 48 else 28) (aSz wide) = align
theorem seg_ok (wide big : Bool) (ty flags vaddr paddr memsz align n offset : Nat) (r : List UInt8) (h1 : ty < 4294967296) (h2 : flags < 4294967296) (h3 : vaddr < 256 ^ aSz wide) (h4 : paddr < 256 ^ aSz wide) (h5 : memsz < 256 ^ aSz wide) (h6 : align < 256 ^ aSz wide) (h7 : n < 256 ^ aSz wide) (h8 : offset < 256 ^ aSz wide) :
    SegOk (segB wide big ty flags vaddr paddr memsz align n offset ++ r) wide big ty flags vaddr paddr memsz align n offset := by
  rw [segB_fields]
  have k := fun j v s off h hv ho => field_at big (segF wide ty flags vaddr paddr memsz align n offset) r j v s off h hv ho
  have p4 : (256 : Nat) ^ 4 = 4294967296 := rfl
  cases wide
  · exact ⟨k 0 _ _ _ rfl (by omega) rfl, k 6 _ _ _ rfl (by omega) rfl, k 1 _ _ _ rfl h8 rfl, k 2 _ _ _ rfl h3 rfl, k 3 _ _ _ rfl h4 rfl, k 4 _ _ _ rfl h7 rfl, k 5 _ _ _ rfl h5 rfl, k 7 _ _ _ rfl h6 rfl⟩
  · exact ⟨k 0 _ _ _ rfl (by omega) rfl, k 1 _ _ _ rfl (by omega) rfl, k 2 _ _ _ rfl h8 rfl, k 3 _ _ _ rfl h3 rfl, k 4 _ _ _ rfl h4 rfl, k 5 _ _ _ rfl h7 rfl, k 6 _ _ _ rfl h5 rfl, k 7 _ _ _ rfl h6 rfl⟩

/-- what the row of a section tells -/
structure SecOk (l : List UInt8) (wide big : Bool) (name ty flags addr offset size link info align ent : Nat) : Prop where
  name : num big l 0 4 = name
  ty : num big l 4 4 = ty
  flags : num big l 8 (aSz wide) = flags
  addr : num big l (8 + aSz wide) (aSz wide) = addr
  off : num big l (8 + 2 * aSz wide) (aSz wide) = offset
  size : num big l (8 + 3 * aSz wide) (aSz wide) = size
  link : num big l (8 + 4 * aSz wide) 4 = link
  info : num big l (12 + 4 * aSz wide) 4 = info
  align : num big l (16 + 4 * aSz wide) (aSz wide) = align
  ent : num big l (16 + 5 * aSz wide) (aSz wide) = ent
theorem sec_ok (wide big : Bool) (name ty flags addr offset size link info align ent : Nat) (r : List UInt8) (h0 : name < 4294967296) (h1 : ty < 4294967296) (h2 : flags < 4294967296) (h3 : addr < 256 ^ aSz wide) (h4 : offset < 256 ^ aSz wide) (h5 : size < 256 ^ aSz wide) (h6 : link < 4294967296) (h7 : info < 4294967296) (h8 : align < 256 ^ aSz wide) (h9 : ent < 256 ^ aSz wide) :
    SecOk (secB wide big name ty flags addr offset size link info align ent ++ r) wide big name ty flags addr offset size link info align ent := by
  rw [secB_fields]
  have k := fun j v s off h hv ho => field_at big (secF wide name ty flags addr offset size link info align ent) r j v s off h hv ho
  have p4 : (256 : Nat) ^ 4 = 4294967296 := rfl
  have h2' : flags < 256 ^ aSz wide := by
    cases wide
    · exact h2
    · exact Nat.lt_trans h2 (by decide)
  refine ⟨k 0 _ _ _ rfl (by omega) rfl, k 1 _ _ _ rfl (by omega) rfl, k 2 _ _ _ rfl h2' rfl, k 3 _ _ _ rfl h3 ?_, k 4 _ _ _ rfl h4 ?_, k 5 _ _ _ rfl h5 ?_, k 6 _ _ _ rfl (by omega) ?_, k 7 _ _ _ rfl (by omega) ?_, k 8 _ _ _ rfl h8 ?_, k 9 _ _ _ rfl h9 ?_⟩ <;> (cases wide <;> rfl)
end Go.Proofs.YtdgehpocmfjbiaaDoor
namespace Go.Proofs.YtdgehpocmfjbiaaDoor
open Go.RowKit

theorem dec_f {p : Prop} [Decidable p] (h : ¬ p) : decide p = false := by simpa using h
theorem dec_t {p : Prop} [Decidable p] (h : p) : decide p = true := by simpa using h

theorem take_len (l : List UInt8) (off k : Nat) (h : off + k ≤ l.length) : (((l.drop off).take k).map Bv).length = k := by simp only [List.length_map, List.length_take, List.length_drop]; omega
theorem src_of {w : World} {b o : Nat} {l : List UInt8} (hr : Row w (some ⟨b, o, none⟩) (l.map Bv)) (off k : Nat) (h : off + k ≤ l.length) :
    ∀ j v, (((l.drop off).take k).map Bv)[j]? = some v → w.cell? ((⟨b, o + off, none⟩ : Addr).add j) = some v := by
  intro j v hv
  rw [addr_add, Nat.add_assoc]
  rw [List.getElem?_map, List.getElem?_take] at hv
  split at hv
  · rw [List.getElem?_drop] at hv
    obtain ⟨x, hx, rfl⟩ := Option.map_eq_some_iff.1 hv
    obtain ⟨b2, o2, e, hc⟩ := hr (off + j) (Bv x) (by rw [List.getElem?_map, hx]; rfl)
    injection e with e
    injection e with e1 e2
    subst e1 e2
    exact hc
  · simp at hv

abbrev readAt_full_S0 := fun (b : Nat) (o : Nat) (n : Nat) (c : Nat) (g : Nat) (m : Nat) (mc : Nat) (off : Nat) => ([(0, .slice (some ⟨b, o, none⟩) n c), (1, sl_ g m mc), (2, iI_ (off : Nat))] : Slots)
set_option maxRecDepth 100000 in
set_option maxHeartbeats 1000000 in
theorem readAt_full (l : List UInt8) (b o n c : Nat) (hl : n = l.length) (hnc : n ≤ c) (g : Nat) (cs : Array Value) (t : TypeId) (m mc : Nat) (hm : cs.size = m) (off : Nat) (h0 : off < n) (ho : off + m ≤ n) (w0 : World) (hr : Row w0 (some ⟨b, o, none⟩) (l.map Bv)) (hbg : b ≠ g) (hg : w0.heap[g]? = some (.cells cs t (0, 0))) :
    Calls Tryd.prog 127 #[.slice (some ⟨b, o, none⟩) n c, sl_ g m mc, iI_ (off : Nat)] w0 fun e w' => e = .returned (.tuple #[i6_ m, .nilIface]) ∧ Keep [g] w0 w' ∧ w'.heap[g]? = some (.cells (((l.drop off).take m).map Bv).toArray t (0, 0)) := by
  obtain ⟨i0, hi0, hs0⟩ := size_u8
  have hA : ∀ b' o' s', (some (⟨b, o, none⟩ : Addr)) = some ⟨b', o', s'⟩ → b' ∉ [g] := by intro b' o' s' e; injection e with e; injection e with e; subst e; simpa using hbg
  obtain ⟨w, hw⟩ : ∃ w, w0 = w := ⟨_, rfl⟩
  have HM : Mm [g] w0 w [(g, .cells cs t (0, 0))] := hw ▸ Mm.start1 hg
  conv => arg 4; rw [hw]
  clear hw
  refine calls_start Tryd.func127 rfl Tryd.ntmps127 (readAt_full_S0 b o n c g m mc off) (by kernel_rfl) (Nat.le_of_ble_eq_true rfl) ?_
  intro a HF
  refine reg_sym HF HM rfl [] ((readAt_full_S0 b o n c g m mc off) ++ [(6, iI_ 0), (7, .nilIface)]) [(g, .cells cs t (0, 0))] (by kernel_rfl) ?_
  clear HF HM; intro a w HF HM
  refine wp_seq ?_
  refine wp_seq (wp_region_lit ?_)
  refine wp_sym HF HM rfl 2 [] ((readAt_full_S0 b o n c g m mc off) ++ [(6, iI_ 0), (7, .nilIface), (10, .bool (decide (((off : Nat) : Int) < 0)))]) [(g, .cells cs t (0, 0))] (by kernel_rfl) ?_
  clear HF HM; intro a w HF HM
  rw [show decide (((off : Nat) : Int) < 0) = false from dec_f (by omega)] at HF
  refine wp_sym HF HM rfl 5 [] ((readAt_full_S0 b o n c g m mc off) ++ [(6, iI_ 0), (7, .nilIface), (11, .bool false), (15, .bool (decide (((n : Nat) : Int) ≤ ((off : Nat) : Int))))]) [(g, .cells cs t (0, 0))] (by kernel_rfl) ?_
  clear HF HM; intro a w HF HM
  rw [show decide (((n : Nat) : Int) ≤ ((off : Nat) : Int)) = false from dec_f (by omega)] at HF
  refine wp_sym HF HM rfl 1 [] ((readAt_full_S0 b o n c g m mc off) ++ [(6, iI_ 0), (7, .nilIface), (16, .bool false)]) [(g, .cells cs t (0, 0))] (by kernel_rfl) ?_
  clear HF HM; intro a w HF HM
  refine nil_then ?_
  refine wp_condF HF rfl ?_
  refine wp_skip ?_
  repeat (first | refine then_norm ?_ | refine inb_norm ?_)
  replace HF := HF.sub ((readAt_full_S0 b o n c g m mc off) ++ [(6, iI_ 0), (7, .nilIface)]) (by kernel_rfl)
  refine wp_seq (wp_region_lit ?_)
  refine wp_sym HF HM rfl 3 [] ((readAt_full_S0 b o n c g m mc off) ++ [(6, iI_ 0), (7, .nilIface), (18, sl_ g m mc), (19, .slice (some ⟨b, o, none⟩) n c), (20, iI_ (off : Nat))]) [(g, .cells cs t (0, 0))] (by kernel_rfl) ?_
  clear HF HM; intro a w HF HM
  refine wp_run HF (by kernel_rfl) (.slice (some ⟨b, o + off, none⟩) (n - off) (c - off)) (by kernel_rfl) (run_open (t := 178) Tryd.underlying178 hi0 hs0 rfl off (kk := .i64) rfl rfl (by omega) hnc (by omega) w) ?_
  clear HF; intro a HF; replace HF := HF.sub ((readAt_full_S0 b o n c g m mc off) ++ [(6, iI_ 0), (7, .nilIface), (18, sl_ g m mc), (19, .slice (some ⟨b, o, none⟩) n c), (20, iI_ (off : Nat)), (21, .slice (some ⟨b, o + off, none⟩) (n - off) (c - off))]) (by kernel_rfl)
  have hsrc := src_of (HM.row hr hA) off m (by omega)
  refine wp_copy HF HM rfl _ _ 33 178 rfl rfl 5 Tryd.underlying33 (by rw [hi0]; exact congrArg some hs0) g m mc ⟨b, o + off, none⟩ (n - off) (c - off) rfl rfl 0 cs t rfl (((l.drop off).take m).map Bv) (by rw [take_len _ _ _ (by omega)]; exact (Nat.min_eq_right (by omega)).symm) hsrc (by simp only [List.length_map, List.length_take, List.length_drop]; omega) (Bv_one _) ?_
  clear HF HM; intro a w HM HF
  rw [show (((l.drop off).take m).map Bv).length = m by simp only [List.length_map, List.length_take, List.length_drop]; omega] at HF HM
  simp only [List.set_cons_zero] at HM
  replace HF := HF.sub ((readAt_full_S0 b o n c g m mc off) ++ [(6, iI_ 0), (7, .nilIface), (22, i6_ m)]) (by kernel_rfl)
  refine wp_sym HF HM rfl 1 [] ((readAt_full_S0 b o n c g m mc off) ++ [(6, iI_ 0), (7, .nilIface), (8, i6_ m)]) [(g, .cells (((l.drop off).take m).map Bv ++ cs.toList.drop m).toArray t (0, 0))] (by kernel_rfl) ?_
  clear HF HM; intro a w HF HM
  refine nil_then ?_
  refine wp_seq ?_
  refine wp_seq (wp_region_lit ?_)
  refine wp_sym HF HM rfl 4 [] ((readAt_full_S0 b o n c g m mc off) ++ [(6, iI_ 0), (7, .nilIface), (8, i6_ m), (26, .bool (decide (((m : Nat) : Int) < ((m : Nat) : Int))))]) [(g, .cells (((l.drop off).take m).map Bv ++ cs.toList.drop m).toArray t (0, 0))] (by kernel_rfl) ?_
  clear HF HM; intro a w HF HM
  rw [show decide (((m : Nat) : Int) < ((m : Nat) : Int)) = false from dec_f (by omega)] at HF
  refine nil_then ?_
  refine wp_condF HF rfl ?_
  refine wp_skip ?_
  repeat (first | refine then_norm ?_ | refine inb_norm ?_)
  replace HF := HF.sub ((readAt_full_S0 b o n c g m mc off) ++ [(6, iI_ 0), (7, .nilIface), (8, i6_ m)]) (by kernel_rfl)
  refine reg_sym HF HM rfl [] ((readAt_full_S0 b o n c g m mc off) ++ [(8, i6_ m), (6, i6_ m), (7, .nilIface)]) [(g, .cells (((l.drop off).take m).map Bv ++ cs.toList.drop m).toArray t (0, 0))] (by kernel_rfl) ?_
  clear HF HM; intro a w HF HM
  refine wp_ret ?_
  have hd : cs.toList.drop m = [] := List.drop_eq_nil_of_le (by simp [hm])
  rw [hd, List.append_nil] at HM
  exact ret_two HF rfl rfl rfl ⟨rfl, HM.keep, HM.get (i := 0) rfl⟩

theorem reg_quietw {P : Program} {id : Nat} {y : Code} {Q : Exit → Act → World → Prop} {a : Act} {w : World} {l : List Oper} (hm : P.follows .mixedOrders = true) (hB : Region.lexB .any l.toArray = true)
    (h : wpQuiet P l.toArray (fun w' => ∃ n, w' = w.drewN n) (fun a' => ∀ w', (∃ n, w' = w.drewN n) → y.wp P Q a' w') l a) : (Code.seq (.region id l.toArray true) y).wp P Q a w :=
  wp_seq (wp_region_quiet_lit hm hB h)
set_option maxRecDepth 100000 in
set_option maxHeartbeats 1000000 in
theorem newSR_any (ti : TypeId) (vi : Value) (off n : Int) (h1 : 0 ≤ off) (h2 : 0 ≤ n) (h3 : off + n ≤ 9223372036854775807) (w0 : World) :
    Calls Tryd.prog 92 #[.iface ti vi, .int .i64 off, .int .i64 n] w0 fun e w' => ∃ b, e = .returned (pt_ b) ∧ Below w0.heap.size w0 w' ∧ w0.heap.size ≤ b ∧ w'.heap[b]? = some (.cells #[.iface ti vi, .int .i64 off, .int .i64 off, .int .i64 (n + off), .int .i64 n] 246 (0, 0)) := by
  obtain ⟨w, hw⟩ : ∃ w, w0 = w := ⟨_, rfl⟩
  have HM : Mm [] w0 w [] := hw ▸ Mm.start w0
  conv => arg 4; rw [hw]
  clear hw
  refine calls_start Tryd.func92 rfl Tryd.ntmps92 [(0, .iface ti vi), (1, .int .i64 off), (2, .int .i64 n)] (by kernel_rfl) (Nat.le_of_ble_eq_true rfl) ?_
  intro a HF
  refine reg_sym HF HM rfl [] [(0, .iface ti vi), (1, .int .i64 off), (2, .int .i64 n), (6, .pointer none)] [] (by kernel_rfl) ?_
  clear HF HM; intro a w HF HM
  refine reg_sym HF HM rfl [] [(0, .iface ti vi), (1, .int .i64 off), (2, .int .i64 n), (6, .pointer none), (7, .int .i64 0)] [] (by kernel_rfl) ?_
  clear HF HM; intro a w HF HM
  refine wp_seq ?_
  refine wp_seq (wp_region_lit ?_)
  refine wp_sym HF HM rfl 3 [] [(0, .iface ti vi), (1, .int .i64 off), (2, .int .i64 n), (6, .pointer none), (7, .int .i64 0), (8, .int .i64 off), (10, .int .i64 (IntKind.i64.wrap (9223372036854775807 - n)))] [] (by kernel_rfl) ?_
  clear HF HM; intro a w HF HM
  rw [show IntKind.i64.wrap (9223372036854775807 - n) = 9223372036854775807 - n from IntWalk.i64_in _ (by omega)] at HF
  refine wp_sym HF HM rfl 1 [] [(0, .iface ti vi), (1, .int .i64 off), (2, .int .i64 n), (6, .pointer none), (7, .int .i64 0), (11, .bool (decide (off ≤ 9223372036854775807 - n)))] [] (by kernel_rfl) ?_
  clear HF HM; intro a w HF HM
  rw [show decide (off ≤ 9223372036854775807 - n) = true from dec_t (by omega)] at HF
  refine nil_then ?_
  refine wp_condT HF rfl ?_
  refine reg_sym1 HF HM rfl [] [(0, .iface ti vi), (1, .int .i64 off), (2, .int .i64 n), (6, .pointer none), (7, .int .i64 (IntKind.i64.wrap (n + off)))] [] (by kernel_rfl) ?_
  clear HF HM; intro a w HF HM
  repeat (first | refine then_norm ?_ | refine inb_norm ?_)
  rw [show IntKind.i64.wrap (n + off) = n + off from IntWalk.i64_in _ (by omega)] at HF
  obtain ⟨z6, hz6⟩ : ∃ z, w.heap.size = z := ⟨_, rfl⟩
  refine reg_sym HF HM hz6 [] [(0, .iface ti vi), (1, .int .i64 off), (2, .int .i64 n), (7, .int .i64 (n + off)), (6, pt_ z6)] [(z6, .cells #[.iface ti vi, .int .i64 off, .int .i64 off, .int .i64 (n + off), .int .i64 n] 246 (0, 0))] (by kernel_rfl) ?_
  clear HF HM hz6; intro a w HF HM
  refine wp_ret ?_
  exact ret_one HF rfl rfl ⟨_, rfl, HM.below, HM.ge (i := 0) rfl, HM.get (i := 0) rfl⟩

set_option maxRecDepth 100000 in
set_option maxHeartbeats 1000000 in
theorem srSize_any (s : Nat) (r : Value) (base offc limit sn : Int) (h1 : 0 ≤ base) (h2 : base ≤ limit) (h3 : limit ≤ 9223372036854775807) (w0 : World) (hs : w0.heap[s]? = some (.cells #[r, .int .i64 base, .int .i64 offc, .int .i64 limit, .int .i64 sn] 246 (0, 0))) :
    Calls Tryd.prog 107 #[pt_ s] w0 fun e w' => e = .returned (.int .i64 (limit - base)) ∧ ∃ k, w' = w0.drewN k := by
  have HM : Mm [s] w0 w0 [(s, .cells #[r, .int .i64 base, .int .i64 offc, .int .i64 limit, .int .i64 sn] 246 (0, 0))] := Mm.start1 hs
  refine calls_start Tryd.func107 rfl Tryd.ntmps107 [(0, pt_ s)] (by kernel_rfl) (Nat.le_of_ble_eq_true rfl) ?_
  intro a HF
  refine reg_pure HF HM rfl [] [(0, pt_ s), (2, .int .i64 0)] (by kernel_rfl) ?_
  clear HF; intro a HF
  refine reg_quietw (by kernel_rfl) (by kernel_rfl) ?_
  refine quiet_sym HF HM rfl 9 [[0], [0]] [(0, pt_ s), (2, .int .i64 0), (11, .int .i64 (IntKind.i64.wrap (limit - base)))] (by kernel_rfl) ?_
  clear HF; intro a HF
  rw [show IntKind.i64.wrap (limit - base) = limit - base from IntWalk.i64_in _ (by omega)] at HF
  refine quiet_sym HF HM rfl 1 [] [(0, pt_ s), (2, .int .i64 (limit - base))] (by kernel_rfl) ?_
  clear HF; intro a HF
  refine quiet_end ?_
  rintro _ ⟨nq, rfl⟩
  refine wp_ret ?_
  exact ret_one HF rfl rfl ⟨rfl, _, rfl⟩

abbrev srAt_full_B0 := fun (s : Nat) (b : Nat) (o : Nat) (n : Nat) (c : Nat) (base : Nat) (offc : Int) (limit : Int) (sn : Int) => ((s, .cells #[.iface 178 (.slice (some ⟨b, o, none⟩) n c), iI_ (base : Nat), .int .i64 offc, .int .i64 limit, .int .i64 sn] 246 (0, 0)) : Nat × Obj)
abbrev srAt_full_S1 := fun (s : Nat) (g : Nat) (m : Nat) (mc : Nat) (off : Nat) => ([(0, pt_ s), (1, sl_ g m mc), (2, iI_ (off : Nat))] : Slots)
abbrev srAt_full_S2 := fun (s : Nat) (g : Nat) (m : Nat) (mc : Nat) (base : Nat) (off : Nat) => ([(0, pt_ s), (1, sl_ g m mc), (6, iI_ 0), (7, .nilIface), (2, i6_ (base + off))] : Slots)
set_option maxRecDepth 100000 in
set_option maxHeartbeats 1000000 in
theorem srAt_full (l : List UInt8) (b o n c : Nat) (hl : n = l.length) (hnc : n ≤ c) (g s : Nat) (cs : Array Value) (t : TypeId) (m mc : Nat) (hm : cs.size = m) (base off : Nat) (offc limit sn : Int) (k1 : ((base + off + m : Nat) : Int) ≤ limit) (k2 : limit ≤ 9223372036854775807) (k3 : ((base + off : Nat) : Int) < limit) (h0 : base + off < n) (ho : base + off + m ≤ n) (w0 : World) (hr : Row w0 (some ⟨b, o, none⟩) (l.map Bv)) (hbg : b ≠ g) (hbs : b ≠ s) (hsg : s ≠ g) (hs : w0.heap[s]? = some (.cells #[.iface 178 (.slice (some ⟨b, o, none⟩) n c), iI_ (base : Nat), .int .i64 offc, .int .i64 limit, .int .i64 sn] 246 (0, 0))) (hg : w0.heap[g]? = some (.cells cs t (0, 0))) :
    Calls Tryd.prog 93 #[pt_ s, sl_ g m mc, iI_ (off : Nat)] w0 fun e w' => e = .returned (.tuple #[i6_ m, .nilIface]) ∧ Keep [s, g] w0 w' ∧ w'.heap[s]? = some (.cells #[.iface 178 (.slice (some ⟨b, o, none⟩) n c), iI_ (base : Nat), .int .i64 offc, .int .i64 limit, .int .i64 sn] 246 (0, 0)) ∧ w'.heap[g]? = some (.cells (((l.drop (base + off)).take m).map Bv).toArray t (0, 0)) := by
  obtain ⟨w, hw⟩ : ∃ w, w0 = w := ⟨_, rfl⟩
  have HM : Mm [s, g] w0 w [srAt_full_B0 s b o n c base offc limit sn, (g, .cells cs t (0, 0))] := hw ▸ Mm.start2 hs hg hsg
  conv => arg 4; rw [hw]
  clear hw
  refine calls_start Tryd.func93 rfl Tryd.ntmps93 (srAt_full_S1 s g m mc off) (by kernel_rfl) (Nat.le_of_ble_eq_true rfl) ?_
  intro a HF
  refine reg_sym HF HM rfl [] ((srAt_full_S1 s g m mc off) ++ [(6, iI_ 0), (7, .nilIface)]) [srAt_full_B0 s b o n c base offc limit sn, (g, .cells cs t (0, 0))] (by kernel_rfl) ?_
  clear HF HM; intro a w HF HM
  refine wp_seq ?_
  refine wp_seq (wp_region_lit ?_)
  refine wp_sym HF HM rfl 2 [] ((srAt_full_S1 s g m mc off) ++ [(6, iI_ 0), (7, .nilIface), (10, .bool (decide (((off : Nat) : Int) < 0)))]) [srAt_full_B0 s b o n c base offc limit sn, (g, .cells cs t (0, 0))] (by kernel_rfl) ?_
  clear HF HM; intro a w HF HM
  rw [show decide (((off : Nat) : Int) < 0) = false from dec_f (by omega)] at HF
  refine wp_sym HF HM rfl 3 [] ((srAt_full_S1 s g m mc off) ++ [(6, iI_ 0), (7, .nilIface), (11, .bool false), (12, iI_ (off : Nat)), (13, pt_ s)]) [srAt_full_B0 s b o n c base offc limit sn, (g, .cells cs t (0, 0))] (by kernel_rfl) ?_
  clear HF HM; intro a w HF HM
  refine wp_call HF (by kernel_rfl) 107 #[pt_ s] (by kernel_rfl) (fun w => by kernel_rfl) (Calls.mono (srSize_any s (.iface 178 (.slice (some ⟨b, o, none⟩) n c)) (base : Nat) offc limit sn (by omega) (by omega) (by omega) w (HM.get (i := 0) rfl)) ?_)
  rintro _ w1 ⟨rfl, dk_, hq⟩
  replace HM : Mm [s, g] w0 w1 [srAt_full_B0 s b o n c base offc limit sn, (g, .cells cs t (0, 0))] := by rw [hq]; exact HM.drewN _
  clear hq
  refine ⟨_, rfl, ?_⟩; clear HF; intro a HF; replace HF := HF.sub ((srAt_full_S1 s g m mc off) ++ [(6, iI_ 0), (7, .nilIface), (11, .bool false), (12, iI_ (off : Nat)), (13, pt_ s), (14, iI_ (limit - ((base : Nat) : Int)))]) (by kernel_rfl)
  refine wp_sym HF HM rfl 1 [] ((srAt_full_S1 s g m mc off) ++ [(6, iI_ 0), (7, .nilIface), (11, .bool false), (15, .bool (decide (limit - ((base : Nat) : Int) ≤ ((off : Nat) : Int))))]) [srAt_full_B0 s b o n c base offc limit sn, (g, .cells cs t (0, 0))] (by kernel_rfl) ?_
  clear HF HM; intro a w HF HM
  rw [show decide (limit - ((base : Nat) : Int) ≤ ((off : Nat) : Int)) = false from dec_f (by omega)] at HF
  refine wp_sym HF HM rfl 1 [] ((srAt_full_S1 s g m mc off) ++ [(6, iI_ 0), (7, .nilIface), (16, .bool false)]) [srAt_full_B0 s b o n c base offc limit sn, (g, .cells cs t (0, 0))] (by kernel_rfl) ?_
  clear HF HM; intro a w HF HM
  refine nil_then ?_
  refine wp_condF HF rfl ?_
  refine wp_skip ?_
  repeat (first | refine then_norm ?_ | refine inb_norm ?_)
  replace HF := HF.sub ((srAt_full_S1 s g m mc off) ++ [(6, iI_ 0), (7, .nilIface)]) (by kernel_rfl)
  refine wp_seq (wp_region_lit ?_)
  refine wp_sym HF HM rfl 6 [[1]] ((srAt_full_S1 s g m mc off) ++ [(6, iI_ 0), (7, .nilIface), (23, iI_ (IntKind.i64.wrap (((off : Nat) : Int) + ((base : Nat) : Int))))]) [srAt_full_B0 s b o n c base offc limit sn, (g, .cells cs t (0, 0))] (by kernel_rfl) ?_
  clear HF HM; intro a w HF HM
  rw [show IntKind.i64.wrap (((off : Nat) : Int) + ((base : Nat) : Int)) = ((base + off : Nat) : Int) from (IntWalk.i64_in _ (by omega)).trans (by omega)] at HF
  refine wp_sym HF HM rfl 1 [] (srAt_full_S2 s g m mc base off) [srAt_full_B0 s b o n c base offc limit sn, (g, .cells cs t (0, 0))] (by kernel_rfl) ?_
  clear HF HM; intro a w HF HM
  refine nil_then ?_
  refine wp_seq ?_
  refine wp_seq (wp_region_lit ?_)
  refine wp_sym HF HM rfl 6 [[1]] ((srAt_full_S2 s g m mc base off) ++ [(29, iI_ (IntKind.i64.wrap (limit - ((base + off : Nat) : Int))))]) [srAt_full_B0 s b o n c base offc limit sn, (g, .cells cs t (0, 0))] (by kernel_rfl) ?_
  clear HF HM; intro a w HF HM
  rw [show IntKind.i64.wrap (limit - ((base + off : Nat) : Int)) = limit - ((base + off : Nat) : Int) from IntWalk.i64_in _ (by omega)] at HF
  refine wp_sym HF HM rfl 1 [] ((srAt_full_S2 s g m mc base off) ++ [(8, iI_ (limit - ((base + off : Nat) : Int)))]) [srAt_full_B0 s b o n c base offc limit sn, (g, .cells cs t (0, 0))] (by kernel_rfl) ?_
  clear HF HM; intro a w HF HM
  refine nil_then ?_
  refine wp_seq (wp_region_lit ?_)
  refine wp_sym HF HM rfl 4 [] ((srAt_full_S2 s g m mc base off) ++ [(8, iI_ (limit - ((base + off : Nat) : Int))), (33, .bool (decide (limit - ((base + off : Nat) : Int) < ((m : Nat) : Int))))]) [srAt_full_B0 s b o n c base offc limit sn, (g, .cells cs t (0, 0))] (by kernel_rfl) ?_
  clear HF HM; intro a w HF HM
  rw [show decide (limit - ((base + off : Nat) : Int) < ((m : Nat) : Int)) = false from dec_f (by omega)] at HF
  refine nil_then ?_
  refine wp_condF HF rfl ?_
  refine wp_skip ?_
  repeat (first | refine then_norm ?_ | refine inb_norm ?_)
  replace HF := HF.sub (srAt_full_S2 s g m mc base off) (by kernel_rfl)
  refine wp_seq (wp_region_lit ?_)
  refine wp_sym HF HM rfl 6 [[1]] ((srAt_full_S2 s g m mc base off) ++ [(55, .iface 178 (.slice (some ⟨b, o, none⟩) n c)), (56, sl_ g m mc), (57, i6_ (base + off))]) [srAt_full_B0 s b o n c base offc limit sn, (g, .cells cs t (0, 0))] (by kernel_rfl) ?_
  clear HF HM; intro a w HF HM
  have hne : g ≠ s := HM.ne (i := 1) (j := 0) rfl rfl (by decide)
  refine wp_call HF (by kernel_rfl) 127 #[.slice (some ⟨b, o, none⟩) n c, sl_ g m mc, i6_ (base + off)] (by kernel_rfl) (fun w => by kernel_rfl) (Calls.mono (readAt_full l b o n c hl hnc g cs t m mc hm (base + off) h0 ho w (HM.row hr (by intro b' o' s' e; injection e with e; injection e with e; subst e; simp [hbs, hbg])) hbg (HM.get (i := 1) rfl)) ?_)
  rintro _ w2 ⟨rfl, hkp, hgn⟩
  replace HM : Mm [s, g] w0 w2 [srAt_full_B0 s b o n c base offc limit sn, (g, .cells (((l.drop (base + off)).take m).map Bv).toArray t (0, 0))] := HM.put (i := 1) rfl hgn hkp
  clear hkp hgn
  refine ⟨_, rfl, ?_⟩; clear HF; intro a HF; replace HF := HF.sub ((srAt_full_S2 s g m mc base off) ++ [(55, .iface 178 (.slice (some ⟨b, o, none⟩) n c)), (56, sl_ g m mc), (57, i6_ (base + off)), (58, .tuple #[i6_ m, .nilIface])]) (by kernel_rfl)
  refine wp_sym HF HM rfl 4 [] [(0, pt_ s), (1, sl_ g m mc), (2, i6_ (base + off)), (6, i6_ m), (7, .nilIface)] [srAt_full_B0 s b o n c base offc limit sn, (g, .cells (((l.drop (base + off)).take m).map Bv).toArray t (0, 0))] (by kernel_rfl) ?_
  clear HF HM; intro a w HF HM
  refine nil_then ?_
  refine wp_ret ?_
  exact ret_two HF rfl rfl rfl ⟨rfl, HM.keep, HM.get (i := 0) rfl, HM.get (i := 1) rfl⟩

end Go.Proofs.YtdgehpocmfjbiaaDoor
namespace Go.Proofs.YtdgehpocmfjbiaaDoor
open Go Go.RowKit

def Told (L : List (Nat × Obj)) (w : World) : Prop := ∀ p ∈ L, w.heap[p.1]? = some p.2
theorem Mm.told {G : List Nat} {w0 w : World} {L LS : List (Nat × Obj)} (h : Mm G w0 w L) (idx : List Nat) (e : idx.map (fun i => L[i]?) = LS.map some) : Told LS w := fun p hp => by
  have : some p ∈ LS.map some := List.mem_map.2 ⟨p, hp, rfl⟩
  rw [← e] at this
  obtain ⟨i, _, hi⟩ := List.mem_map.1 this
  exact h.get hi
def Only (K : Act → World → Prop) : Exit → Act → World → Prop
  | .normal, a, w => K a w
  | _, _, _ => False
theorem only_let {K : Act → World → Prop} (h : LetsOut (Only K)) : False := by obtain ⟨_, _, h⟩ := h; exact h

section
variable {P : Program} {z : Nat} {α : Type}
theorem symS_pure : ∀ (s : Sem α) (orc : List Nat) (L : List (Nat × Obj)) (n : Nat) (e : List (Nat × Nat)) (d : Bool) (r : SymR α) (w : World), symS P z s orc L n e d = some r →
    r.dirty = false → Told L w → (∀ p ∈ r.eqs, p.1 = p.2) → s.run P w = .ok r.val w := by
  intro s
  induction s with
  | pure x => intro orc L n e d r w h _ _ _; injection h with h; subst h; rfl
  | program k ih => intro orc L n e d r w h hd hM hq; exact ih P orc L n e d r w h hd hM hq
  | mark m k ih => intro orc L n e d r w h hd hM hq; exact ih orc L n e d r w h hd hM hq
  | load m p k ih =>
    intro orc L n e d r w h hd hM hq
    obtain ⟨b, off, spot⟩ := p
    simp only [symS] at h
    split at h
    · rename_i b' cs t f hL
      split at h
      · rename_i v hv
        have hb : b = b' := hq _ ((symS_grow _ _ _ _ _ _ _ h).1 _ List.mem_cons_self)
        subst hb
        have hg : w.heap[b]? = some (.cells cs t f) := hM _ (List.mem_of_getElem? hL)
        have hc : w.cell? ⟨b, off, none⟩ = some v := by rw [cell_of_row w b off cs t f hg]; exact hv
        have hr := ih v _ L n _ d r w h hd hM hq
        simp only [Sem.run, hc]; exact hr
      · cases h
    · cases h
  | store m p v k ih =>
    intro orc L n e d r w h hd hM hq
    obtain ⟨b, off, spot⟩ := p
    simp only [symS] at h
    split at h
    · rename_i b' cs t hL
      cases hb1 : (v.oneCell' && Nat.blt off cs.size) with
      | false => rw [hb1] at h; cases h
      | true => rw [hb1] at h; exact absurd ((symS_grow _ _ _ _ _ _ _ h).2 hd) (by simp)
    · cases h
  | new o k ih =>
    intro orc L n e d r w h hd hM hq
    exact absurd ((symS_grow (k (z + n)) _ _ (n + 1) _ true r h).2 hd) (by simp)
  | frozen p k ih =>
    intro orc L n e d r w h hd hM hq
    obtain ⟨b, off, spot⟩ := p
    simp only [symS] at h
    split at h
    · rename_i b' cs t hL
      have hb : b = b' := hq _ ((symS_grow _ _ _ _ _ _ _ h).1 _ List.mem_cons_self)
      subst hb
      have hf : w.frozen? ⟨b, off, none⟩ = false := frozen_of_row w b off cs t (hM _ (List.mem_of_getElem? hL))
      have hr := ih false _ L n _ d r w h hd hM hq
      simp only [Sem.run, hf]; exact hr
    · cases h
  | shape r k ih => intro orc L n e d r w h; cases h
  | freeze a n k ih => intro orc L n e d r w h; cases h
  | getObj r k ih => intro orc L n e d r w h; cases h
  | setObj r o k ih => intro orc L n e d r w h; cases h
  | choose q k ih => intro orc L n e d r w h; cases h
  | sys c k ih => intro orc L n e d r w h; cases h
  | halt h => intro orc L n e d r w h; cases h
end

def valR : Option (SymR Next) → Option (Value × List (Nat × Nat))
  | some ⟨.value v, _, _, e, false⟩ => some (v, e)
  | _ => none
/-- pure operations, reckoned over told blocks -/
def symV (P : Program) (ops : Array Oper) (N : Nat) (L : List (Nat × Obj)) : List Oper → List (List Nat) → Slots → List (Nat × Nat) → Option (Slots × List (Nat × Nat))
  | [], _, S, e => some (S, e)
  | o :: l, orcs, S, e => match wantS ops S o with
    | none => none
    | some false => bif okD N o.dst then symV P ops N L l orcs (putS S o.dst undef) e else none
    | some true => bif okD N o.dst && notSel o.op && o.op.operands.toList.all (fun x => (ev S x).isSome) then
        match valR (symS P 0 (execOp (rho S) o) (orcs.headD []) L 0 [] false) with
        | some (v, e') => symV P ops N L l (bif isMem o.op then orcs.tail else orcs) (putS S o.dst v) (e' ++ e)
        | none => none
      else none

def planB (md : Region.Mode) (ops : Array Oper) : List (Nat × Bool) → Array Bool → Bool
  | [], listed => (Region.ready md ops listed).isEmpty
  | (k, true) :: p, listed => decide (Region.ready md ops listed = [k]) && planB md ops p (listed.setIfInBounds k true)
  | (k, false) :: p, listed => (Region.ready md ops listed).contains k && Region.free md ops listed k && planB md ops p (listed.setIfInBounds k true)
def planOK (ops : Array Oper) (plan : List (Nat × Bool)) : Bool :=
  Region.noSelect ops && Nat.beq plan.length ops.size && planB .any ops plan (Array.replicate ops.size false)

section
variable {P : Program} {ops : Array Oper} {N : Nat} {G : List Nat} {w0 w : World} {a : Act} {S : World → Prop}

def wpPlan (P : Program) (ops : Array Oper) (S : World → Prop) (Q : Exit → Act → World → Prop) : List (Nat × Bool) → Act → World → Prop
  | [], a, w => Q .normal a w
  | (k, true) :: p, a, w => ∃ o, ops[k]? = some o ∧ wpList P ops (Only fun a' w' => S w' ∧ wpPlan P ops S Q p a' w') [o] a w
  | (k, false) :: p, a, w => S w ∧ ∃ o v, ops[k]? = some o ∧ YieldsIf P ops S o v a ∧ wpPlan P ops S Q p (a.put o.dst v) w

theorem wp_of_only {o : Oper} {K : Act → World → Prop} {Q : Exit → Act → World → Prop} (h : o.wp P a w (wpList P ops (Only K) []) (Only K)) : o.wp P a w K Q := by
  unfold Oper.wp at *
  generalize (execOp a.eval o).run P w = r at *
  cases r with
  | ok n w' =>
    cases n with
    | enter f args =>
      refine Calls.mono h fun e w'' h => ?_
      cases e with
      | returned v => exact h
      | panicked c => exact h.elim
      | outgrown => exact (only_let h).elim
    | _ => exact h
  | halt hh w' =>
    cases hh with
    | panic v => exact False.elim h
    | _ => exact h
theorem plan_held {md : Region.Mode} {Q : Exit → Act → World → Prop} (hs : Region.noSelect ops = true) : ∀ (plan : List (Nat × Bool)) (listed : Array Bool) (a : Act) (w : World), planB md ops plan listed = true → wpPlan P ops S (NoPanic Q) plan a w →
    wpAnyH P md ops (NoPanic Q) S plan.length listed a w
  | [], listed, a, w, hB, h => wpAnyH_done (by simpa [planB] using hB) h 0
  | (k, true) :: p, listed, a, w, hB, h => by
    simp only [planB, Bool.and_eq_true, decide_eq_true_eq] at hB
    obtain ⟨o, ho, h⟩ := h
    refine wpAnyH_all hB.1 (by simp) fun i hi => ?_
    obtain rfl : i = k := by simpa using hi
    refine wpOp_mono (K := fun a' w' => S w' ∧ wpPlan P ops S (NoPanic Q) p a' w') (fun a' w' h' => ⟨h'.1, plan_held hs p _ a' w' hB.2 h'.2⟩) ?_
    unfold wpOp
    simp only [ho]
    unfold wpList at h
    split
    · rename_i hw
      rw [if_pos hw] at h
      exact h.elim (fun h => .inl (wp_of_only h)) fun h => (only_let h.2).elim
    · rename_i hw
      rw [if_neg hw] at h
      exact h
  | (k, false) :: p, listed, a, w, hB, h => by
    simp only [planB, Bool.and_eq_true] at hB
    obtain ⟨hSw, o, v, ho, hy, h⟩ := h
    exact wpAnyH_take ho hs hB.1.2 hB.1.1 (fun c a w hc => hc) hy hSw (plan_held hs p _ _ _ hB.2 h)

theorem plan_any {id : Nat} {Q : Exit → Act → World → Prop} {l : List Oper} (hm : P.follows .mixedOrders = true) (plan : List (Nat × Bool)) (S : World → Prop) (hB : planOK l.toArray plan = true)
    (h : wpPlan P l.toArray S (NoPanic Q) plan a (w.drewN 1)) : (Code.region id l.toArray true).wp P Q a w := by
  simp only [planOK, Bool.and_eq_true] at hB
  refine wp_region_noPanic (wp_region_held (S := S) hm ?_)
  have := plan_held hB.1.1 plan _ a _ hB.2 h
  rw [Nat.eq_of_beq_eq_true hB.1.2] at this
  exact this
/-- a drawn region, by a plan -/
theorem reg_plan {id : Nat} {y : Code} {Q : Exit → Act → World → Prop} {l : List Oper} {L : List (Nat × Obj)} (HM : Mm G w0 w L) (hm : P.follows .mixedOrders = true) (LS : List (Nat × Obj)) (plan : List (Nat × Bool)) (hB : planOK l.toArray plan = true)
    (h : ∀ w', Mm G w0 w' L → wpPlan P l.toArray (Told LS) (NoPanic (Exit.then (y.wp P Q) Q)) plan a w') : (Code.seq (.region id l.toArray true) y).wp P Q a w :=
  wp_seq (plan_any hm plan (Told LS) hB (h _ (HM.drewN 1)))
theorem reg_plan1 {id : Nat} {Q : Exit → Act → World → Prop} {l : List Oper} {L : List (Nat × Obj)} (HM : Mm G w0 w L) (hm : P.follows .mixedOrders = true) (LS : List (Nat × Obj)) (plan : List (Nat × Bool)) (hB : planOK l.toArray plan = true)
    (h : ∀ w', Mm G w0 w' L → wpPlan P l.toArray (Told LS) (NoPanic Q) plan a w') : (Code.region id l.toArray true).wp P Q a w :=
  plan_any hm plan (Told LS) hB (h _ (HM.drewN 1))

def planOps (ops : Array Oper) (plan : List (Nat × Bool)) : List Oper := plan.filterMap fun p => ops[p.1]?
def symVQ (P : Program) (ops : Array Oper) (N : Nat) (plan : List (Nat × Bool)) (orcs : List (List Nat)) (S : Slots) (L : List (Nat × Obj)) (S' : Slots) : Option (List (Option Value) × List Nat × Bool) :=
  (symV P ops N L (planOps ops plan) orcs S []).map fun r => (S'.map fun p => lk r.1 p.1, r.2.map (·.1), plan.all fun p => !p.2 && Nat.blt p.1 ops.size)
def symVF (P : Program) (ops : Array Oper) (N : Nat) (plan : List (Nat × Bool)) (orcs : List (List Nat)) (S : Slots) (L : List (Nat × Obj)) (S' : Slots) : Option (List (Option Value) × List Nat × Bool) :=
  some (S'.map fun p => some p.2, ((symV P ops N L (planOps ops plan) orcs S []).map fun r => r.2.map (·.2)).getD [], true)

theorem symV_grow {L : List (Nat × Obj)} : ∀ (l : List Oper) (orcs : List (List Nat)) (Sl : Slots) (e : List (Nat × Nat)) (r : Slots × List (Nat × Nat)), symV P ops N L l orcs Sl e = some r → ∀ p ∈ e, p ∈ r.2
  | [], _, Sl, e, r, h => by injection h with h; subst h; exact fun p hp => hp
  | o :: l, orcs, Sl, e, r, h => by
    unfold symV at h
    split at h
    · cases h
    · cases hd : okD N o.dst with
      | false => rw [hd] at h; cases h
      | true => rw [hd] at h; exact symV_grow l _ _ _ r h
    · cases hc : (okD N o.dst && notSel o.op && o.op.operands.toList.all (fun x => (ev Sl x).isSome)) with
      | false => rw [hc] at h; cases h
      | true =>
        rw [hc] at h
        simp only [cond_true] at h
        split at h
        · exact fun p hp => symV_grow l _ _ _ r h p (List.mem_append_right _ hp)
        · cases h

theorem valR_spec {x : Option (SymR Next)} {v : Value} {e : List (Nat × Nat)} (h : valR x = some (v, e)) : ∃ L n, x = some ⟨.value v, L, n, e, false⟩ := by
  unfold valR at h
  split at h
  · rename_i v' L n e'
    simp only [Option.some.injEq, Prod.mk.injEq] at h
    obtain ⟨rfl, rfl⟩ := h
    exact ⟨_, _, rfl⟩
  · cases h

theorem symV_sound {LS : List (Nat × Obj)} {Q : Exit → Act → World → Prop} {rest : List (Nat × Bool)} (hST : ∀ w, S w → Told LS w) (hT : S w) : ∀ (p : List (Nat × Bool)) (orcs : List (List Nat)) (Sl : Slots) (e : List (Nat × Nat)) (r : Slots × List (Nat × Nat)) (a : Act),
    symV P ops N LS (planOps ops p) orcs Sl e = some r → (p.all fun q => !q.2 && Nat.blt q.1 ops.size) = true → (∀ q ∈ r.2, q.1 = q.2) → Fr N a Sl → (∀ a', Fr N a' r.1 → wpPlan P ops S Q rest a' w) → wpPlan P ops S Q (p ++ rest) a w
  | [], orcs, Sl, e, r, a, h, _, _, HF, hK => by injection h with h; subst h; exact hK a HF
  | (k, fl) :: p, orcs, Sl, e, r, a, h, hp, hq, HF, hK => by
    simp only [List.all_cons, Bool.and_eq_true] at hp
    obtain ⟨⟨h1, h2⟩, h3⟩ := hp
    have hfl : fl = false := by simpa using h1
    subst hfl
    have hlt : k < ops.size := Nat.le_of_ble_eq_true h2
    have ho : ops[k]? = some ops[k] := by simp [hlt]
    have hpo : planOps ops ((k, false) :: p) = ops[k] :: planOps ops p := by simp [planOps, List.filterMap_cons, ho]
    rw [hpo] at h
    unfold symV at h
    refine ⟨hT, ops[k], ?_⟩
    split at h
    · cases h
    · rename_i hw
      cases hd : okD N ops[k].dst with
      | false => rw [hd] at h; cases h
      | true =>
        rw [hd] at h
        exact ⟨undef, ho, .inr ⟨wantS_sound hw HF, rfl⟩, symV_sound hST hT p _ _ _ r _ h h3 hq (HF.put _ _ (okD_spec hd)) hK⟩
    · rename_i hw
      cases hc : (okD N ops[k].dst && notSel ops[k].op && ops[k].op.operands.toList.all (fun x => (ev Sl x).isSome)) with
      | false => rw [hc] at h; cases h
      | true =>
        rw [hc] at h
        simp only [cond_true] at h
        split at h
        · rename_i v e' hv
          obtain ⟨L1, n1, hs⟩ := valR_spec hv
          obtain ⟨c1, c3⟩ := Bool.and_eq_true_iff.1 hc
          obtain ⟨c1, c2⟩ := Bool.and_eq_true_iff.1 c1
          have he : execOp a.eval ops[k] = execOp (rho Sl) ops[k] := execOp_congr _ (notSel_spec c2) fun x hx => HF.rho (List.all_eq_true.1 c3 x (by simpa using hx))
          refine ⟨v, ho, .inl ⟨wantS_sound hw HF, fun w' hw' => ?_⟩, symV_sound hST hT p _ _ _ r _ h h3 hq (HF.put _ _ (okD_spec c1)) hK⟩
          rw [he]
          have hg := symV_grow _ _ _ _ r h
          exact symS_pure _ _ _ _ _ _ ⟨Next.value v, L1, n1, e', false⟩ w' hs rfl (hST _ hw') fun q hq' => hq q (hg q (List.mem_append_left _ hq'))
        · cases h
/-- k free operations of a plan, reckoned -/
theorem plan_sym {LS : List (Nat × Obj)} {Q : Exit → Act → World → Prop} {plan : List (Nat × Bool)} {Sl : Slots} (HF : Fr N a Sl) (hT : Told LS w) (k : Nat) (orcs : List (List Nat)) (S' : Slots)
    (h : symVQ P ops N (plan.take k) orcs Sl LS S' = symVF P ops N (plan.take k) orcs Sl LS S')
    (hK : ∀ a', Fr N a' S' → wpPlan P ops (Told LS) Q (plan.drop k) a' w) : wpPlan P ops (Told LS) Q plan a w := by
  unfold symVQ symVF at h
  cases hr : symV P ops N LS (planOps ops (plan.take k)) orcs Sl [] with
  | none => rw [hr] at h; cases h
  | some r =>
    rw [hr] at h
    simp only [Option.map_some, Option.getD_some, Option.some.injEq, Prod.mk.injEq] at h
    have := symV_sound (S := Told LS) (Q := Q) (rest := plan.drop k) (fun _ h => h) hT (plan.take k) orcs Sl [] r a hr h.2.2 (fun p hp => (List.map_inj_left.1 h.2.1) p hp) HF fun a' hF => hK a' (hF.sub S' h.1)
    rwa [List.take_append_drop] at this
theorem plan_symS {LS : List (Nat × Obj)} {Q : Exit → Act → World → Prop} {plan : List (Nat × Bool)} {Sl : Slots} (hST : ∀ w, S w → Told LS w) (HF : Fr N a Sl) (hT : S w) (k : Nat) (orcs : List (List Nat)) (S' : Slots)
    (h : symVQ P ops N (plan.take k) orcs Sl LS S' = symVF P ops N (plan.take k) orcs Sl LS S')
    (hK : ∀ a', Fr N a' S' → wpPlan P ops S Q (plan.drop k) a' w) : wpPlan P ops S Q plan a w := by
  unfold symVQ symVF at h
  cases hr : symV P ops N LS (planOps ops (plan.take k)) orcs Sl [] with
  | none => rw [hr] at h; cases h
  | some r =>
    rw [hr] at h
    simp only [Option.map_some, Option.getD_some, Option.some.injEq, Prod.mk.injEq] at h
    have := symV_sound (S := S) (Q := Q) (rest := plan.drop k) hST hT (plan.take k) orcs Sl [] r a hr h.2.2 (fun p hp => (List.map_inj_left.1 h.2.1) p hp) HF fun a' hF => hK a' (hF.sub S' h.1)
    rwa [List.take_append_drop] at this
theorem plan_runS {Q : Exit → Act → World → Prop} {k : Nat} {p : List (Nat × Bool)} {o : Oper} {Sl : Slots} (ho : ops[k]? = some o) (HF : Fr N a Sl) (hT : S w) (hgd : o.guard = none) (v : Value)
    (hx : (okD N o.dst && notSel o.op && o.op.operands.toList.all (fun x => (ev Sl x).isSome)) = true) (hrun : ∀ w', S w' → (execOp (rho Sl) o).run P w' = .ok (.value v) w')
    (hK : ∀ a', Fr N a' (putS Sl o.dst v) → wpPlan P ops S Q p a' w) : wpPlan P ops S Q ((k, false) :: p) a w := by
  obtain ⟨h1, h3⟩ := Bool.and_eq_true_iff.1 hx
  obtain ⟨h1, h2⟩ := Bool.and_eq_true_iff.1 h1
  have he : execOp a.eval o = execOp (rho Sl) o := execOp_congr o (notSel_spec h2) fun x hx => HF.rho (List.all_eq_true.1 h3 x (by simpa using hx))
  exact ⟨hT, o, v, ho, .inl ⟨by simp [Region.wanted, hgd], fun w' hw' => by rw [he]; exact hrun w' hw'⟩, hK _ (HF.put _ _ (okD_spec h1))⟩
theorem plan_forceS {Q : Exit → Act → World → Prop} {k : Nat} {p : List (Nat × Bool)} {o : Oper} (ho : ops[k]? = some o)
    (h : wpList P ops (Only fun a' w' => S w' ∧ wpPlan P ops S Q p a' w') [o] a w) : wpPlan P ops S Q ((k, true) :: p) a w := ⟨o, ho, h⟩
theorem only_endS {Q : Exit → Act → World → Prop} {p : List (Nat × Bool)} (hT : S w) (h : wpPlan P ops S Q p a w) : wpList P ops (Only fun a' w' => S w' ∧ wpPlan P ops S Q p a' w') [] a w := ⟨hT, h⟩
theorem plan_endS {Q : Exit → Act → World → Prop} (h : Q .normal a w) : wpPlan P ops S (NoPanic Q) [] a w := h
theorem reg_planS {id : Nat} {y : Code} {Q : Exit → Act → World → Prop} {l : List Oper} {L : List (Nat × Obj)} (HM : Mm G w0 w L) (hm : P.follows .mixedOrders = true) (S : World → Prop) (plan : List (Nat × Bool)) (hB : planOK l.toArray plan = true)
    (h : ∀ w', Mm G w0 w' L → wpPlan P l.toArray S (NoPanic (Exit.then (y.wp P Q) Q)) plan a w') : (Code.seq (.region id l.toArray true) y).wp P Q a w :=
  wp_seq (plan_any hm plan S hB (h _ (HM.drewN 1)))
theorem Mm.cellAt {L : List (Nat × Obj)} (h : Mm G w0 w L) {i b k : Nat} {cs : Array Value} {t : TypeId} {f : Nat × Nat} {v : Value} (e : L[i]? = some (b, .cells cs t f)) (hv : cs[k]? = some v) : w.cell? ⟨b, k, none⟩ = some v := by
  rw [cell_of_row w b k cs t f (h.get e)]; exact hv
theorem told_nil (w : World) : Told [] w := fun p hp => by cases hp
/-- a free operation whose run is told -/
theorem plan_run {LS : List (Nat × Obj)} {Q : Exit → Act → World → Prop} {k : Nat} {p : List (Nat × Bool)} {o : Oper} {Sl : Slots} (ho : ops[k]? = some o) (HF : Fr N a Sl) (hT : Told LS w) (hgd : o.guard = none) (v : Value)
    (hx : (okD N o.dst && notSel o.op && o.op.operands.toList.all (fun x => (ev Sl x).isSome)) = true) (hrun : ∀ w', Told LS w' → (execOp (rho Sl) o).run P w' = .ok (.value v) w')
    (hK : ∀ a', Fr N a' (putS Sl o.dst v) → wpPlan P ops (Told LS) Q p a' w) : wpPlan P ops (Told LS) Q ((k, false) :: p) a w := by
  obtain ⟨h1, h3⟩ := Bool.and_eq_true_iff.1 hx
  obtain ⟨h1, h2⟩ := Bool.and_eq_true_iff.1 h1
  have he : execOp a.eval o = execOp (rho Sl) o := execOp_congr o (notSel_spec h2) fun x hx => HF.rho (List.all_eq_true.1 h3 x (by simpa using hx))
  exact ⟨hT, o, v, ho, .inl ⟨by simp [Region.wanted, hgd], fun w' hw' => by rw [he]; exact hrun w' hw'⟩, hK _ (HF.put _ _ (okD_spec h1))⟩
/-- a forced operation -/
theorem plan_force {LS : List (Nat × Obj)} {Q : Exit → Act → World → Prop} {k : Nat} {p : List (Nat × Bool)} {o : Oper} (ho : ops[k]? = some o)
    (h : wpList P ops (Only fun a' w' => Told LS w' ∧ wpPlan P ops (Told LS) Q p a' w') [o] a w) : wpPlan P ops (Told LS) Q ((k, true) :: p) a w := ⟨o, ho, h⟩
theorem only_end {LS : List (Nat × Obj)} {Q : Exit → Act → World → Prop} {p : List (Nat × Bool)} (hT : Told LS w) (h : wpPlan P ops (Told LS) Q p a w) : wpList P ops (Only fun a' w' => Told LS w' ∧ wpPlan P ops (Told LS) Q p a' w') [] a w := ⟨hT, h⟩
theorem plan_end {LS : List (Nat × Obj)} {Q : Exit → Act → World → Prop} (h : Q .normal a w) : wpPlan P ops (Told LS) (NoPanic Q) [] a w := h
end
end Go.Proofs.YtdgehpocmfjbiaaDoor
namespace Go.Proofs.YtdgehpocmfjbiaaDoor
open Go.RowKit

theorem Keep.less {G : List Nat} {k : Nat} {w w' : World} (h : Keep (k :: G) w w') (e : w'.heap[k]? = w.heap[k]?) : Keep G w w' :=
  ⟨h.os, h.tape, h.output, h.size, fun j hj hn => by
    by_cases hjk : j = k
    · subst hjk; exact e
    · exact h.block j hj (by simp [hjk, hn])⟩
section
variable {P : Program} {N : Nat} {G : List Nat} {w0 w : World} {a : Act} {ops : Array Oper}
theorem wp_make {Q : Exit → Act → World → Prop} {rest : List Oper} {o : Oper} {S : Slots} {L : List (Nat × Obj)} (HF : Fr N a S) (HM : Mm G w0 w L) (hgd : o.guard = none) (l c : Operand) (t : TypeId)
    (ho : o.op = .makeSlice t l c) (hd : okD N o.dst = true) (e : TypeId) (z : Value) (bytes : Nat) (ht : P.underlying t = some (.slice e)) (hi : (P.info? e).map (fun i => (i.zero, i.size, i.bytes)) = some (some z, 1, bytes)) (hz1 : z.cells = #[z])
    (kl kc : IntKind) (n : Nat) (hl : ev S l = some (.int kl (n : Int))) (hc : ev S c = some (.int kc (n : Int))) (hb : bytes * n ≤ 281474976710656) (h63 : n ≤ 9223372036854775807)
    (hK : ∀ a' w' b, w.heap.size ≤ b → Below w.heap.size w w' → Mm G w0 w' ((b, .cells (madeCells #[z] n) e (0, 0)) :: L) → Fr N a' (putS S o.dst (sl_ b n n)) → wpList P ops Q rest a' w') : wpList P ops Q (o :: rest) a w := by
  refine wpList_plain hgd fun K hK' => ?_
  have hrun := run_make_row' (P := P) t e z bytes ht hi hz1 kl kc n hb h63 w
  unfold Oper.wp
  simp only [execOp, ho, HF.ev hl, HF.ev hc, Sem.run_bind, hrun, Result.andThen_ok, Sem.run_pure]
  exact hK' _ _ (hK _ _ _ (Nat.le_refl _) ((Below.refl _ _).alloc (Nat.le_refl _) _) (HM.alloc _) (HF.put _ _ (okD_spec hd)))
end
theorem info_u8' : (Tryd.prog.info? 5).map (fun i => (i.zero, i.size, i.bytes)) = some (some (.int .u8 0), 1, 1) := by kernel_rfl
theorem madeCells_size' (z : Value) (n : Nat) : (madeCells #[z] n).size = n := by simp [madeCells]

abbrev srRead_full_B0 := fun (s1 : Nat) (b : Nat) (o : Nat) (n : Nat) (c : Nat) (base : Nat) (offc : Int) (limit : Int) (sn : Int) => ((s1, .cells #[.iface 178 (.slice (some ⟨b, o, none⟩) n c), iI_ (base : Nat), .int .i64 offc, .int .i64 limit, .int .i64 sn] 246 (0, 0)) : Nat × Obj)
abbrev srRead_full_B1 := fun (s2 : Nat) (s1 : Nat) => ((s2, .cells #[.iface 144 (pt_ s1), iI_ 0, iI_ 0, iI_ 9223372036854775807, iI_ 9223372036854775807] 246 (0, 0)) : Nat × Obj)
abbrev srRead_full_S2 := fun (s2 : Nat) (g : Nat) (m : Nat) (mc : Nat) => ([(0, pt_ s2), (1, sl_ g m mc), (4, iI_ 0), (5, .nilIface)] : Slots)
set_option maxRecDepth 100000 in
set_option maxHeartbeats 1000000 in
theorem srRead_full (l : List UInt8) (b o n c : Nat) (hl : n = l.length) (hnc : n ≤ c) (g s1 s2 : Nat) (cs : Array Value) (t : TypeId) (m mc : Nat) (hm : cs.size = m) (base : Nat) (offc limit sn : Int) (k1 : ((base + 0 + m : Nat) : Int) ≤ limit) (k2 : limit ≤ 9223372036854775807) (k3 : ((base + 0 : Nat) : Int) < limit) (h0 : base + 0 < n) (ho : base + 0 + m ≤ n) (w0 : World) (hr : Row w0 (some ⟨b, o, none⟩) (l.map Bv)) (hbg : b ≠ g) (hb1 : b ≠ s1) (hb2 : b ≠ s2) (h12 : s1 ≠ s2) (h1g : s1 ≠ g) (h2g : s2 ≠ g) (hs1 : w0.heap[s1]? = some (.cells #[.iface 178 (.slice (some ⟨b, o, none⟩) n c), iI_ (base : Nat), .int .i64 offc, .int .i64 limit, .int .i64 sn] 246 (0, 0))) (hs2 : w0.heap[s2]? = some (.cells #[.iface 144 (pt_ s1), iI_ 0, iI_ 0, iI_ 9223372036854775807, iI_ 9223372036854775807] 246 (0, 0))) (hg : w0.heap[g]? = some (.cells cs t (0, 0))) :
    Calls Tryd.prog 126 #[pt_ s2, sl_ g m mc] w0 fun e w' => e = .returned (.tuple #[i6_ m, .nilIface]) ∧ Keep [s1, s2, g] w0 w' ∧ w'.heap[s1]? = some (.cells #[.iface 178 (.slice (some ⟨b, o, none⟩) n c), iI_ (base : Nat), .int .i64 offc, .int .i64 limit, .int .i64 sn] 246 (0, 0)) ∧ w'.heap[s2]? = some (.cells #[.iface 144 (pt_ s1), iI_ 0, i6_ m, iI_ 9223372036854775807, iI_ 9223372036854775807] 246 (0, 0)) ∧ w'.heap[g]? = some (.cells (((l.drop (base + 0)).take m).map Bv).toArray t (0, 0)) := by
  obtain ⟨w, hw⟩ : ∃ w, w0 = w := ⟨_, rfl⟩
  have HM : Mm [s1, s2, g] w0 w [srRead_full_B0 s1 b o n c base offc limit sn, srRead_full_B1 s2 s1, (g, .cells cs t (0, 0))] := hw ▸ Mm.start3 hs1 hs2 hg h12 h1g h2g
  conv => arg 4; rw [hw]
  clear hw
  refine calls_start Tryd.func126 rfl Tryd.ntmps126 [(0, pt_ s2), (1, sl_ g m mc)] (by kernel_rfl) (Nat.le_of_ble_eq_true rfl) ?_
  intro a HF
  refine reg_sym HF HM rfl [] (srRead_full_S2 s2 g m mc) [srRead_full_B0 s1 b o n c base offc limit sn, srRead_full_B1 s2 s1, (g, .cells cs t (0, 0))] (by kernel_rfl) ?_
  clear HF HM; intro a w HF HM
  refine wp_seq ?_
  refine reg_quietw (by kernel_rfl) (by kernel_rfl) ?_
  refine quiet_sym HF HM rfl 9 [[1], [1]] ((srRead_full_S2 s2 g m mc) ++ [(15, .bool false)]) (by kernel_rfl) ?_
  clear HF; intro a HF
  refine quiet_end ?_
  rintro w1 ⟨nq, hq⟩
  replace HM : Mm [s1, s2, g] w0 w1 [srRead_full_B0 s1 b o n c base offc limit sn, srRead_full_B1 s2 s1, (g, .cells cs t (0, 0))] := by rw [hq]; exact HM.drewN nq
  clear hq nq
  refine wp_condF HF rfl ?_
  refine wp_skip ?_
  repeat (first | refine then_norm ?_ | refine inb_norm ?_)
  replace HF := HF.sub (srRead_full_S2 s2 g m mc) (by kernel_rfl)
  refine wp_seq ?_
  refine reg_quietw (by kernel_rfl) (by kernel_rfl) ?_
  refine quiet_sym HF HM rfl 10 [[1], [1]] ((srRead_full_S2 s2 g m mc) ++ [(6, iI_ 9223372036854775807)]) (by kernel_rfl) ?_
  clear HF; intro a HF
  refine quiet_end ?_
  rintro w2 ⟨nq, hq⟩
  replace HM : Mm [s1, s2, g] w0 w2 [srRead_full_B0 s1 b o n c base offc limit sn, srRead_full_B1 s2 s1, (g, .cells cs t (0, 0))] := by rw [hq]; exact HM.drewN nq
  clear hq nq
  refine wp_seq (wp_region_lit ?_)
  refine wp_sym HF HM rfl 4 [] ((srRead_full_S2 s2 g m mc) ++ [(6, iI_ 9223372036854775807), (29, .bool (decide (9223372036854775807 < ((m : Nat) : Int))))]) [srRead_full_B0 s1 b o n c base offc limit sn, srRead_full_B1 s2 s1, (g, .cells cs t (0, 0))] (by kernel_rfl) ?_
  clear HF HM; intro a w HF HM
  rw [show decide ((9223372036854775807 : Int) < ((m : Nat) : Int)) = false from dec_f (by omega)] at HF
  refine nil_then ?_
  refine wp_condF HF rfl ?_
  refine wp_skip ?_
  repeat (first | refine then_norm ?_ | refine inb_norm ?_)
  replace HF := HF.sub ((srRead_full_S2 s2 g m mc) ++ [(6, iI_ 9223372036854775807)]) (by kernel_rfl)
  refine reg_plan HM (by kernel_rfl) [srRead_full_B1 s2 s1] [(0, false), (1, false), (2, false), (3, false), (4, false), (5, false), (6, false), (7, false), (8, false), (9, false), (10, false), (11, true), (12, false), (13, false), (14, false), (15, false), (16, false)] (by kernel_rfl) ?_
  clear HM; intro w3 HM
  refine plan_sym HF (HM.told [1] rfl) 11 [[0], [0]] ((srRead_full_S2 s2 g m mc) ++ [(6, iI_ 9223372036854775807), (37, .iface 144 (pt_ s1)), (38, sl_ g m mc), (42, iI_ 0), (44, .iface 144 (pt_ s1))]) (by kernel_rfl) ?_
  clear HF; intro a HF
  refine plan_force rfl ?_
  refine wp_call HF (by kernel_rfl) 93 #[pt_ s1, sl_ g m mc, i6_ 0] (by kernel_rfl) (fun w => by kernel_rfl) (Calls.mono (srAt_full l b o n c hl hnc g s1 cs t m mc hm base 0 offc limit sn k1 k2 k3 h0 ho w3 (HM.row hr (by intro b' o' s' e; injection e with e; injection e with e; subst e; simp [hb1, hb2, hbg])) hbg hb1 (HM.ne (i := 0) (j := 2) rfl rfl (by decide)) (HM.get (i := 0) rfl) (HM.get (i := 2) rfl)) ?_)
  rintro _ w4 ⟨rfl, hkp, hs1n, hgn⟩
  replace HM : Mm [s1, s2, g] w0 w4 [srRead_full_B0 s1 b o n c base offc limit sn, srRead_full_B1 s2 s1, (g, .cells (((l.drop (base + 0)).take m).map Bv).toArray t (0, 0))] := HM.put2 (i := 0) (j := 2) rfl rfl (by decide) hs1n hgn hkp
  clear hkp hs1n hgn
  refine ⟨_, rfl, ?_⟩; clear HF; intro a HF; replace HF := HF.sub ((srRead_full_S2 s2 g m mc) ++ [(6, iI_ 9223372036854775807), (37, .iface 144 (pt_ s1)), (38, sl_ g m mc), (42, iI_ 0), (44, .iface 144 (pt_ s1)), (45, .tuple #[i6_ m, .nilIface])]) (by kernel_rfl)
  refine only_end (HM.told [1] rfl) ?_
  refine plan_sym HF (HM.told [1] rfl) 5 [] [(0, pt_ s2), (1, sl_ g m mc), (6, iI_ 9223372036854775807), (4, i6_ m), (5, .nilIface)] (by kernel_rfl) ?_
  clear HF; intro a HF
  refine plan_end ?_
  refine then_norm ?_
  refine wp_seq (wp_region_lit ?_)
  refine wp_sym HF HM rfl 6 [[1]] [(0, pt_ s2), (1, sl_ g m mc), (6, iI_ 9223372036854775807), (4, i6_ m), (5, .nilIface), (48, pt_ s2), (53, iI_ (IntKind.i64.wrap (0 + ((m : Nat) : Int))))] [srRead_full_B0 s1 b o n c base offc limit sn, srRead_full_B1 s2 s1, (g, .cells (((l.drop (base + 0)).take m).map Bv).toArray t (0, 0))] (by kernel_rfl) ?_
  clear HF HM; intro a w HF HM
  rw [show IntKind.i64.wrap (0 + ((m : Nat) : Int)) = ((m : Nat) : Int) from (IntWalk.i64_in _ (by omega)).trans (by omega)] at HF
  refine wp_sym HF HM rfl 3 [[1]] [(0, pt_ s2), (1, sl_ g m mc), (6, iI_ 9223372036854775807), (4, i6_ m), (5, .nilIface)] [srRead_full_B0 s1 b o n c base offc limit sn, (s2, .cells #[.iface 144 (pt_ s1), iI_ 0, i6_ m, iI_ 9223372036854775807, iI_ 9223372036854775807] 246 (0, 0)), (g, .cells (((l.drop (base + 0)).take m).map Bv).toArray t (0, 0))] (by kernel_rfl) ?_
  clear HF HM; intro a w HF HM
  refine nil_then ?_
  refine wp_ret ?_
  have hk1 := HM.keep
  exact ret_two HF rfl rfl rfl ⟨rfl, HM.keep, HM.get (i := 0) rfl, HM.get (i := 1) rfl, HM.get (i := 2) rfl⟩

theorem Mm.put3 {G : List Nat} {w0 w w' : World} {L : List (Nat × Obj)} (h : Mm G w0 w L) {i j k b c d : Nat} {o o' p p' q q' : Obj} (e : L[i]? = some (b, o)) (f : L[j]? = some (c, p)) (g : L[k]? = some (d, q)) (hij : i ≠ j) (hik : i ≠ k) (hjk : j ≠ k) (h1 : w'.heap[b]? = some o') (h2 : w'.heap[c]? = some p') (h3 : w'.heap[d]? = some q') (hk : Keep [b, c, d] w w') : Mm G w0 w' (((L.set i (b, o')).set j (c, p')).set k (d, q')) := by
  have hb := h.own e
  have hc := h.own f
  have hd := h.own g
  have hset : ∀ (K : List (Nat × Obj)) (i b : Nat) (o o' : Obj), K[i]? = some (b, o) → (K.set i (b, o')).map (·.1) = K.map (·.1) := fun K i b o o' he => by
    rw [List.map_set]
    apply List.ext_getElem?
    intro j
    rw [List.getElem?_set]
    split
    · rename_i hij; subst hij
      obtain ⟨hi, e1⟩ := List.getElem?_eq_some_iff.1 he
      simp [hi, e1]
    · rfl
  have f' : (L.set i (b, o'))[j]? = some (c, p) := by rw [List.getElem?_set, if_neg hij]; exact f
  have g' : ((L.set i (b, o')).set j (c, p'))[k]? = some (d, q) := by rw [List.getElem?_set, if_neg hjk, List.getElem?_set, if_neg hik]; exact g
  refine ⟨h.1.step hk fun m hm => ?_, fun r hr => ?_, ?_⟩
  · simp only [List.mem_cons, List.not_mem_nil, or_false] at hm
    rcases hm with rfl | rfl | rfl
    · exact hb
    · exact hc
    · exact hd
  · obtain ⟨m, hm⟩ := List.getElem?_of_mem hr
    rw [List.getElem?_set] at hm
    split at hm
    · split at hm
      · injection hm with hm; subst hm; exact ⟨h3, hd⟩
      · cases hm
    · rename_i hkm
      rw [List.getElem?_set] at hm
      split at hm
      · split at hm
        · injection hm with hm; subst hm; exact ⟨h2, hc⟩
        · cases hm
      · rename_i hjm
        rw [List.getElem?_set] at hm
        split at hm
        · split at hm
          · injection hm with hm; subst hm; exact ⟨h1, hb⟩
          · cases hm
        · rename_i him
          have hr' : L[m]? = some (r.1, r.2) := hm
          have n1 : r.1 ≠ b := h.ne hr' e (Ne.symm him)
          have n2 : r.1 ≠ c := h.ne hr' f (Ne.symm hjm)
          have n3 : r.1 ≠ d := h.ne hr' g (Ne.symm hkm)
          exact ⟨(hk.block _ (h.lt hr') (by simp [n1, n2, n3])).trans (h.get hr'), h.own hr'⟩
  · rw [hset _ k d q q' g', hset _ j c p p' f', hset _ i b o o' e]; exact h.2.2

abbrev readAtLeast_full_B0 := fun (s1 : Nat) (b : Nat) (o : Nat) (n : Nat) (c : Nat) (base : Nat) (offc : Int) (limit : Int) (sn : Int) => ((s1, .cells #[.iface 178 (.slice (some ⟨b, o, none⟩) n c), iI_ (base : Nat), .int .i64 offc, .int .i64 limit, .int .i64 sn] 246 (0, 0)) : Nat × Obj)
abbrev readAtLeast_full_B1 := fun (s2 : Nat) (s1 : Nat) => ((s2, .cells #[.iface 144 (pt_ s1), iI_ 0, iI_ 0, iI_ 9223372036854775807, iI_ 9223372036854775807] 246 (0, 0)) : Nat × Obj)
abbrev readAtLeast_full_S2 := fun (s2 : Nat) (g : Nat) (m : Nat) (mc : Nat) => ([(0, .iface 144 (pt_ s2)), (1, sl_ g m mc), (2, i6_ m)] : Slots)
abbrev readAtLeast_full_B3 := fun (s2 : Nat) (s1 : Nat) (m : Nat) => ((s2, .cells #[.iface 144 (pt_ s1), iI_ 0, i6_ m, iI_ 9223372036854775807, iI_ 9223372036854775807] 246 (0, 0)) : Nat × Obj)
abbrev readAtLeast_full_B4 := fun (g : Nat) (l : List UInt8) (base : Nat) (m : Nat) (t : TypeId) => ((g, .cells (((l.drop (base + 0)).take m).map Bv).toArray t (0, 0)) : Nat × Obj)
set_option maxRecDepth 100000 in
set_option maxHeartbeats 1000000 in
theorem readAtLeast_full (l : List UInt8) (b o n c : Nat) (hl : n = l.length) (hnc : n ≤ c) (g s1 s2 : Nat) (cs : Array Value) (t : TypeId) (m mc : Nat) (hm : cs.size = m) (base : Nat) (offc limit sn : Int) (k1 : ((base + 0 + m : Nat) : Int) ≤ limit) (k2 : limit ≤ 9223372036854775807) (k3 : ((base + 0 : Nat) : Int) < limit) (h0 : base + 0 < n) (ho : base + 0 + m ≤ n) (hm0 : 0 < m) (hmc : m ≤ mc) (w0 : World) (hr : Row w0 (some ⟨b, o, none⟩) (l.map Bv)) (hbg : b ≠ g) (hb1 : b ≠ s1) (hb2 : b ≠ s2) (h12 : s1 ≠ s2) (h1g : s1 ≠ g) (h2g : s2 ≠ g) (hs1 : w0.heap[s1]? = some (.cells #[.iface 178 (.slice (some ⟨b, o, none⟩) n c), iI_ (base : Nat), .int .i64 offc, .int .i64 limit, .int .i64 sn] 246 (0, 0))) (hs2 : w0.heap[s2]? = some (.cells #[.iface 144 (pt_ s1), iI_ 0, iI_ 0, iI_ 9223372036854775807, iI_ 9223372036854775807] 246 (0, 0))) (hg : w0.heap[g]? = some (.cells cs t (0, 0))) :
    Calls Tryd.prog 108 #[.iface 144 (pt_ s2), sl_ g m mc, i6_ m] w0 fun e w' => e = .returned (.tuple #[i6_ m, .nilIface]) ∧ Keep [s1, s2, g] w0 w' ∧ w'.heap[s1]? = some (.cells #[.iface 178 (.slice (some ⟨b, o, none⟩) n c), iI_ (base : Nat), .int .i64 offc, .int .i64 limit, .int .i64 sn] 246 (0, 0)) ∧ w'.heap[s2]? = some (.cells #[.iface 144 (pt_ s1), iI_ 0, i6_ m, iI_ 9223372036854775807, iI_ 9223372036854775807] 246 (0, 0)) ∧ w'.heap[g]? = some (.cells (((l.drop (base + 0)).take m).map Bv).toArray t (0, 0)) := by
  obtain ⟨i0, hi0, hs0⟩ := size_u8
  obtain ⟨w, hw⟩ : ∃ w, w0 = w := ⟨_, rfl⟩
  have HM : Mm [s1, s2, g] w0 w [readAtLeast_full_B0 s1 b o n c base offc limit sn, readAtLeast_full_B1 s2 s1, (g, .cells cs t (0, 0))] := hw ▸ Mm.start3 hs1 hs2 hg h12 h1g h2g
  conv => arg 4; rw [hw]
  clear hw
  refine calls_start Tryd.func108 rfl Tryd.ntmps108 (readAtLeast_full_S2 s2 g m mc) (by kernel_rfl) (Nat.le_of_ble_eq_true rfl) ?_
  intro a HF
  refine reg_sym HF HM rfl [] ((readAtLeast_full_S2 s2 g m mc) ++ [(6, iI_ 0), (7, .nilIface)]) [readAtLeast_full_B0 s1 b o n c base offc limit sn, readAtLeast_full_B1 s2 s1, (g, .cells cs t (0, 0))] (by kernel_rfl) ?_
  clear HF HM; intro a w HF HM
  refine wp_seq ?_
  refine wp_seq (wp_region_lit ?_)
  refine wp_sym HF HM rfl 4 [] ((readAtLeast_full_S2 s2 g m mc) ++ [(6, iI_ 0), (7, .nilIface), (12, .bool (decide (((m : Nat) : Int) < ((m : Nat) : Int))))]) [readAtLeast_full_B0 s1 b o n c base offc limit sn, readAtLeast_full_B1 s2 s1, (g, .cells cs t (0, 0))] (by kernel_rfl) ?_
  clear HF HM; intro a w HF HM
  rw [show decide (((m : Nat) : Int) < ((m : Nat) : Int)) = false from dec_f (by omega)] at HF
  refine nil_then ?_
  refine wp_condF HF rfl ?_
  refine wp_skip ?_
  repeat (first | refine then_norm ?_ | refine inb_norm ?_)
  replace HF := HF.sub ((readAtLeast_full_S2 s2 g m mc) ++ [(6, iI_ 0), (7, .nilIface)]) (by kernel_rfl)
  refine wp_seq ?_
  refine wp_block (wp_loop_rounds 2 ?_)
  rw [rounds_succ]
  refine wp_seq ?_
  refine wp_seq (wp_region_lit ?_)
  refine wp_sym HF HM rfl 3 [] ((readAtLeast_full_S2 s2 g m mc) ++ [(6, iI_ 0), (7, .nilIface), (16, .bool (decide (0 < ((m : Nat) : Int))))]) [readAtLeast_full_B0 s1 b o n c base offc limit sn, readAtLeast_full_B1 s2 s1, (g, .cells cs t (0, 0))] (by kernel_rfl) ?_
  clear HF HM; intro a w HF HM
  rw [show decide ((0 : Int) < ((m : Nat) : Int)) = true from dec_t (by omega)] at HF
  refine wp_sym HF HM rfl 4 [] ((readAtLeast_full_S2 s2 g m mc) ++ [(6, iI_ 0), (7, .nilIface), (20, .bool true)]) [readAtLeast_full_B0 s1 b o n c base offc limit sn, readAtLeast_full_B1 s2 s1, (g, .cells cs t (0, 0))] (by kernel_rfl) ?_
  clear HF HM; intro a w HF HM
  refine nil_then ?_
  refine wp_condT HF rfl ?_
  refine wp_skip ?_
  repeat (first | refine then_norm ?_ | refine inb_norm ?_)
  replace HF := HF.sub ((readAtLeast_full_S2 s2 g m mc) ++ [(6, iI_ 0), (7, .nilIface)]) (by kernel_rfl)
  refine wp_block ?_
  refine reg_sym HF HM rfl [] ((readAtLeast_full_S2 s2 g m mc) ++ [(6, iI_ 0), (7, .nilIface), (8, iI_ 0)]) [readAtLeast_full_B0 s1 b o n c base offc limit sn, readAtLeast_full_B1 s2 s1, (g, .cells cs t (0, 0))] (by kernel_rfl) ?_
  clear HF HM; intro a w HF HM
  refine reg_plan HM (by kernel_rfl) [] [(0, false), (1, false), (2, false), (3, false), (4, false), (5, false), (6, false), (7, true), (8, false), (9, false), (10, false), (11, false), (12, false)] (by kernel_rfl) ?_
  clear HM; intro w1 HM
  refine plan_sym HF (HM.told [] rfl) 3 [] ((readAtLeast_full_S2 s2 g m mc) ++ [(6, iI_ 0), (7, .nilIface), (8, iI_ 0), (22, .iface 144 (pt_ s2)), (23, sl_ g m mc), (24, iI_ 0)]) (by kernel_rfl) ?_
  clear HF; intro a HF
  refine plan_run rfl HF (HM.told [] rfl) rfl (sl_ g m mc) (by kernel_rfl) (fun w hw => by simpa using run_open (t := 33) Tryd.underlying33 hi0 hs0 rfl 0 (kk := .i64) rfl rfl (by omega) hmc (by omega) w) ?_
  clear HF; intro a HF; replace HF := HF.sub ((readAtLeast_full_S2 s2 g m mc) ++ [(6, iI_ 0), (7, .nilIface), (8, iI_ 0), (22, .iface 144 (pt_ s2)), (23, sl_ g m mc), (24, iI_ 0), (25, sl_ g m mc)]) (by kernel_rfl)
  refine plan_sym HF (HM.told [] rfl) 3 [] ((readAtLeast_full_S2 s2 g m mc) ++ [(6, iI_ 0), (7, .nilIface), (8, iI_ 0), (22, .iface 144 (pt_ s2)), (25, sl_ g m mc), (28, .iface 144 (pt_ s2))]) (by kernel_rfl) ?_
  clear HF; intro a HF
  refine plan_force rfl ?_
  refine wp_call HF (by kernel_rfl) 126 #[pt_ s2, sl_ g m mc] (by kernel_rfl) (fun w => by kernel_rfl) (Calls.mono (srRead_full l b o n c hl hnc g s1 s2 cs t m mc hm base offc limit sn k1 k2 k3 h0 ho w1 (HM.row hr (by intro b' o' s' e; injection e with e; injection e with e; subst e; simp [hb1, hb2, hbg])) hbg hb1 hb2 h12 h1g h2g (HM.get (i := 0) rfl) (HM.get (i := 1) rfl) (HM.get (i := 2) rfl)) ?_)
  rintro _ w2 ⟨rfl, hkp, hs1n, hs2n, hgn⟩
  replace HM : Mm [s1, s2, g] w0 w2 [readAtLeast_full_B0 s1 b o n c base offc limit sn, readAtLeast_full_B3 s2 s1 m, readAtLeast_full_B4 g l base m t] := HM.put3 (i := 0) (j := 1) (k := 2) rfl rfl rfl (by decide) (by decide) (by decide) hs1n hs2n hgn hkp
  clear hkp hs1n hs2n hgn
  refine ⟨_, rfl, ?_⟩; clear HF; intro a HF; replace HF := HF.sub ((readAtLeast_full_S2 s2 g m mc) ++ [(6, iI_ 0), (7, .nilIface), (8, iI_ 0), (22, .iface 144 (pt_ s2)), (25, sl_ g m mc), (28, .iface 144 (pt_ s2)), (29, .tuple #[i6_ m, .nilIface])]) (by kernel_rfl)
  refine only_end (HM.told [] rfl) ?_
  refine plan_sym HF (HM.told [] rfl) 5 [] ((readAtLeast_full_S2 s2 g m mc) ++ [(6, iI_ 0), (8, i6_ m), (7, .nilIface)]) (by kernel_rfl) ?_
  clear HF; intro a HF
  refine plan_end ?_
  refine then_norm ?_
  refine wp_region_lit ?_
  refine wp_sym HF HM rfl 3 [] ((readAtLeast_full_S2 s2 g m mc) ++ [(6, iI_ 0), (8, i6_ m), (7, .nilIface), (34, iI_ (IntKind.i64.wrap (0 + ((m : Nat) : Int))))]) [readAtLeast_full_B0 s1 b o n c base offc limit sn, readAtLeast_full_B3 s2 s1 m, readAtLeast_full_B4 g l base m t] (by kernel_rfl) ?_
  clear HF HM; intro a w HF HM
  rw [show IntKind.i64.wrap (0 + ((m : Nat) : Int)) = ((m : Nat) : Int) from (IntWalk.i64_in _ (by omega)).trans (by omega)] at HF
  refine wp_sym HF HM rfl 1 [] ((readAtLeast_full_S2 s2 g m mc) ++ [(8, i6_ m), (7, .nilIface), (6, i6_ m)]) [readAtLeast_full_B0 s1 b o n c base offc limit sn, readAtLeast_full_B3 s2 s1 m, readAtLeast_full_B4 g l base m t] (by kernel_rfl) ?_
  clear HF HM; intro a w HF HM
  refine wpList_nil ?_
  repeat (first | refine then_norm ?_ | refine inb_norm ?_)
  rw [rounds_succ]
  refine wp_seq ?_
  refine wp_seq (wp_region_lit ?_)
  refine wp_sym HF HM rfl 3 [] ((readAtLeast_full_S2 s2 g m mc) ++ [(8, i6_ m), (7, .nilIface), (6, i6_ m), (16, .bool (decide (((m : Nat) : Int) < ((m : Nat) : Int))))]) [readAtLeast_full_B0 s1 b o n c base offc limit sn, readAtLeast_full_B3 s2 s1 m, readAtLeast_full_B4 g l base m t] (by kernel_rfl) ?_
  clear HF HM; intro a w HF HM
  rw [show decide ((((m : Nat) : Int) : Int) < ((m : Nat) : Int)) = false from dec_f (by omega)] at HF
  refine wp_sym HF HM rfl 4 [] ((readAtLeast_full_S2 s2 g m mc) ++ [(8, i6_ m), (7, .nilIface), (6, i6_ m), (20, .bool false)]) [readAtLeast_full_B0 s1 b o n c base offc limit sn, readAtLeast_full_B3 s2 s1 m, readAtLeast_full_B4 g l base m t] (by kernel_rfl) ?_
  clear HF HM; intro a w HF HM
  refine nil_then ?_
  refine wp_condF HF rfl ?_
  refine wp_exit ?_
  repeat (first | refine then_exit ?_ | refine inb_exit ?_ | refine then_norm ?_)
  replace HF := HF.sub ((readAtLeast_full_S2 s2 g m mc) ++ [(8, i6_ m), (7, .nilIface), (6, i6_ m)]) (by kernel_rfl)
  refine wp_seq ?_
  refine wp_seq (wp_region_lit ?_)
  refine wp_sym HF HM rfl 3 [] ((readAtLeast_full_S2 s2 g m mc) ++ [(8, i6_ m), (7, .nilIface), (6, i6_ m), (37, .bool (decide (((m : Nat) : Int) ≤ ((m : Nat) : Int))))]) [readAtLeast_full_B0 s1 b o n c base offc limit sn, readAtLeast_full_B3 s2 s1 m, readAtLeast_full_B4 g l base m t] (by kernel_rfl) ?_
  clear HF HM; intro a w HF HM
  rw [show decide (((m : Nat) : Int) ≤ ((m : Nat) : Int)) = true from dec_t (by omega)] at HF
  refine nil_then ?_
  refine wp_condT HF rfl ?_
  refine reg_sym1 HF HM rfl [] ((readAtLeast_full_S2 s2 g m mc) ++ [(8, i6_ m), (6, i6_ m), (7, .nilIface)]) [readAtLeast_full_B0 s1 b o n c base offc limit sn, readAtLeast_full_B3 s2 s1 m, readAtLeast_full_B4 g l base m t] (by kernel_rfl) ?_
  clear HF HM; intro a w HF HM
  repeat (first | refine then_norm ?_ | refine inb_norm ?_)
  refine wp_ret ?_
  exact ret_two HF rfl rfl rfl ⟨rfl, HM.keep, HM.get (i := 0) rfl, HM.get (i := 1) rfl, HM.get (i := 2) rfl⟩

set_option maxRecDepth 100000 in
set_option maxHeartbeats 1000000 in
theorem readAtLeast_zero (r : Value) (A : Option Addr) (mc : Nat) (w0 : World) :
    Calls Tryd.prog 108 #[r, .slice A 0 mc, .int .i64 0] w0 fun e w' => e = .returned (.tuple #[.int .i64 0, .nilIface]) ∧ w' = w0 := by
  have HM : Mm [] w0 w0 [] := Mm.start w0
  refine calls_start Tryd.func108 rfl Tryd.ntmps108 [(0, r), (1, .slice A 0 mc), (2, .int .i64 0)] (by kernel_rfl) (Nat.le_of_ble_eq_true rfl) ?_
  intro a HF
  refine reg_pure HF HM rfl [] [(0, r), (1, .slice A 0 mc), (2, .int .i64 0), (6, .int .i64 0), (7, .nilIface)] (by kernel_rfl) ?_
  clear HF; intro a HF
  refine wp_seq ?_
  refine wp_seq (wp_region_lit ?_)
  refine wp_pure HF HM rfl 4 [] [(0, r), (1, .slice A 0 mc), (2, .int .i64 0), (6, .int .i64 0), (7, .nilIface), (12, .bool false)] (by kernel_rfl) ?_
  clear HF; intro a HF
  refine nil_then ?_
  refine wp_condF HF rfl ?_
  refine wp_skip ?_
  repeat (first | refine then_norm ?_ | refine inb_norm ?_)
  replace HF := HF.sub [(0, r), (1, .slice A 0 mc), (2, .int .i64 0), (6, .int .i64 0), (7, .nilIface)] (by kernel_rfl)
  refine wp_seq ?_
  refine wp_block (wp_loop_rounds 1 ?_)
  rw [rounds_succ]
  refine wp_seq ?_
  refine wp_seq (wp_region_lit ?_)
  refine wp_pure HF HM rfl 7 [] [(0, r), (1, .slice A 0 mc), (2, .int .i64 0), (6, .int .i64 0), (7, .nilIface), (20, .bool false)] (by kernel_rfl) ?_
  clear HF; intro a HF
  refine nil_then ?_
  refine wp_condF HF rfl ?_
  refine wp_exit ?_
  repeat (first | refine then_exit ?_ | refine inb_exit ?_ | refine then_norm ?_)
  replace HF := HF.sub [(0, r), (1, .slice A 0 mc), (2, .int .i64 0), (6, .int .i64 0), (7, .nilIface)] (by kernel_rfl)
  refine wp_seq ?_
  refine wp_seq (wp_region_lit ?_)
  refine wp_pure HF HM rfl 3 [] [(0, r), (1, .slice A 0 mc), (2, .int .i64 0), (6, .int .i64 0), (7, .nilIface), (37, .bool true)] (by kernel_rfl) ?_
  clear HF; intro a HF
  refine nil_then ?_
  refine wp_condT HF rfl ?_
  refine wp_region_lit ?_
  refine wp_pure HF HM rfl 1 [] [(0, r), (1, .slice A 0 mc), (2, .int .i64 0), (6, .int .i64 0), (7, .nilIface)] (by kernel_rfl) ?_
  clear HF; intro a HF
  refine wpList_nil ?_
  repeat (first | refine then_norm ?_ | refine inb_norm ?_)
  refine wp_ret ?_
  exact ret_two HF rfl rfl rfl ⟨rfl, rfl⟩

set_option maxRecDepth 100000 in
set_option maxHeartbeats 1000000 in
theorem readFull_zero (r : Value) (A : Option Addr) (mc : Nat) (w0 : World) :
    Calls Tryd.prog 105 #[r, .slice A 0 mc] w0 fun e w' => e = .returned (.tuple #[.int .i64 0, .nilIface]) ∧ w' = w0 := by
  have HM : Mm [] w0 w0 [] := Mm.start w0
  refine calls_start Tryd.func105 rfl Tryd.ntmps105 [(0, r), (1, .slice A 0 mc)] (by kernel_rfl) (Nat.le_of_ble_eq_true rfl) ?_
  intro a HF
  refine reg_pure HF HM rfl [] [(0, r), (1, .slice A 0 mc), (4, .int .i64 0), (5, .nilIface)] (by kernel_rfl) ?_
  clear HF; intro a HF
  refine wp_seq (wp_region_lit ?_)
  refine wp_pure HF HM rfl 4 [] [(0, r), (1, .slice A 0 mc), (4, .int .i64 0), (5, .nilIface), (6, r), (7, .slice A 0 mc), (9, .int .i64 0)] (by kernel_rfl) ?_
  clear HF; intro a HF
  refine wp_call HF (by kernel_rfl) 108 #[r, .slice A 0 mc, .int .i64 0] (by kernel_rfl) (fun w => by kernel_rfl) (Calls.mono (readAtLeast_zero r A mc w0) ?_)
  rintro _ w1 ⟨rfl, hq⟩
  obtain rfl : w0 = w1 := hq.symm; clear hq
  refine ⟨_, rfl, ?_⟩; clear HF; intro a HF; replace HF := HF.sub [(0, r), (1, .slice A 0 mc), (4, .int .i64 0), (5, .nilIface), (6, r), (7, .slice A 0 mc), (9, .int .i64 0), (10, .tuple #[.int .i64 0, .nilIface])] (by kernel_rfl)
  refine wp_pure HF HM rfl 4 [] [(0, r), (1, .slice A 0 mc), (4, .int .i64 0), (5, .nilIface)] (by kernel_rfl) ?_
  clear HF; intro a HF
  refine nil_then ?_
  refine wp_ret ?_
  exact ret_two HF rfl rfl rfl ⟨rfl, rfl⟩

abbrev readFull_full_B0 := fun (s1 : Nat) (b : Nat) (o : Nat) (n : Nat) (c : Nat) (base : Nat) (offc : Int) (limit : Int) (sn : Int) => ((s1, .cells #[.iface 178 (.slice (some ⟨b, o, none⟩) n c), iI_ (base : Nat), .int .i64 offc, .int .i64 limit, .int .i64 sn] 246 (0, 0)) : Nat × Obj)
abbrev readFull_full_B1 := fun (s2 : Nat) (s1 : Nat) => ((s2, .cells #[.iface 144 (pt_ s1), iI_ 0, iI_ 0, iI_ 9223372036854775807, iI_ 9223372036854775807] 246 (0, 0)) : Nat × Obj)
set_option maxRecDepth 100000 in
set_option maxHeartbeats 1000000 in
theorem readFull_full (l : List UInt8) (b o n c : Nat) (hl : n = l.length) (hnc : n ≤ c) (g s1 s2 : Nat) (cs : Array Value) (t : TypeId) (m mc : Nat) (hm : cs.size = m) (base : Nat) (offc limit sn : Int) (k1 : ((base + 0 + m : Nat) : Int) ≤ limit) (k2 : limit ≤ 9223372036854775807) (k3 : ((base + 0 : Nat) : Int) < limit) (h0 : base + 0 < n) (ho : base + 0 + m ≤ n) (hm0 : 0 < m) (hmc : m ≤ mc) (w0 : World) (hr : Row w0 (some ⟨b, o, none⟩) (l.map Bv)) (hbg : b ≠ g) (hb1 : b ≠ s1) (hb2 : b ≠ s2) (h12 : s1 ≠ s2) (h1g : s1 ≠ g) (h2g : s2 ≠ g) (hs1 : w0.heap[s1]? = some (.cells #[.iface 178 (.slice (some ⟨b, o, none⟩) n c), iI_ (base : Nat), .int .i64 offc, .int .i64 limit, .int .i64 sn] 246 (0, 0))) (hs2 : w0.heap[s2]? = some (.cells #[.iface 144 (pt_ s1), iI_ 0, iI_ 0, iI_ 9223372036854775807, iI_ 9223372036854775807] 246 (0, 0))) (hg : w0.heap[g]? = some (.cells cs t (0, 0))) :
    Calls Tryd.prog 105 #[.iface 144 (pt_ s2), sl_ g m mc] w0 fun e w' => e = .returned (.tuple #[i6_ m, .nilIface]) ∧ Keep [s1, s2, g] w0 w' ∧ w'.heap[s1]? = some (.cells #[.iface 178 (.slice (some ⟨b, o, none⟩) n c), iI_ (base : Nat), .int .i64 offc, .int .i64 limit, .int .i64 sn] 246 (0, 0)) ∧ w'.heap[s2]? = some (.cells #[.iface 144 (pt_ s1), iI_ 0, i6_ m, iI_ 9223372036854775807, iI_ 9223372036854775807] 246 (0, 0)) ∧ w'.heap[g]? = some (.cells (((l.drop (base + 0)).take m).map Bv).toArray t (0, 0)) := by
  obtain ⟨w, hw⟩ : ∃ w, w0 = w := ⟨_, rfl⟩
  have HM : Mm [s1, s2, g] w0 w [readFull_full_B0 s1 b o n c base offc limit sn, readFull_full_B1 s2 s1, (g, .cells cs t (0, 0))] := hw ▸ Mm.start3 hs1 hs2 hg h12 h1g h2g
  conv => arg 4; rw [hw]
  clear hw
  refine calls_start Tryd.func105 rfl Tryd.ntmps105 [(0, .iface 144 (pt_ s2)), (1, sl_ g m mc)] (by kernel_rfl) (Nat.le_of_ble_eq_true rfl) ?_
  intro a HF
  refine reg_sym HF HM rfl [] [(0, .iface 144 (pt_ s2)), (1, sl_ g m mc), (4, iI_ 0), (5, .nilIface)] [readFull_full_B0 s1 b o n c base offc limit sn, readFull_full_B1 s2 s1, (g, .cells cs t (0, 0))] (by kernel_rfl) ?_
  clear HF HM; intro a w HF HM
  refine wp_seq (wp_region_lit ?_)
  refine wp_sym HF HM rfl 4 [] [(0, .iface 144 (pt_ s2)), (1, sl_ g m mc), (4, iI_ 0), (5, .nilIface), (6, .iface 144 (pt_ s2)), (7, sl_ g m mc), (9, i6_ m)] [readFull_full_B0 s1 b o n c base offc limit sn, readFull_full_B1 s2 s1, (g, .cells cs t (0, 0))] (by kernel_rfl) ?_
  clear HF HM; intro a w HF HM
  refine wp_call HF (by kernel_rfl) 108 #[.iface 144 (pt_ s2), sl_ g m mc, i6_ m] (by kernel_rfl) (fun w => by kernel_rfl) (Calls.mono (readAtLeast_full l b o n c hl hnc g s1 s2 cs t m mc hm base offc limit sn k1 k2 k3 h0 ho hm0 hmc w (HM.row hr (by intro b' o' s' e; injection e with e; injection e with e; subst e; simp [hb1, hb2, hbg])) hbg hb1 hb2 h12 h1g h2g (HM.get (i := 0) rfl) (HM.get (i := 1) rfl) (HM.get (i := 2) rfl)) ?_)
  rintro _ w1 ⟨rfl, hkp, hs1n, hs2n, hgn⟩
  replace HM : Mm [s1, s2, g] w0 w1 [readFull_full_B0 s1 b o n c base offc limit sn, (s2, .cells #[.iface 144 (pt_ s1), iI_ 0, i6_ m, iI_ 9223372036854775807, iI_ 9223372036854775807] 246 (0, 0)), (g, .cells (((l.drop (base + 0)).take m).map Bv).toArray t (0, 0))] := HM.put3 (i := 0) (j := 1) (k := 2) rfl rfl rfl (by decide) (by decide) (by decide) hs1n hs2n hgn hkp
  clear hkp hs1n hs2n hgn
  refine ⟨_, rfl, ?_⟩; clear HF; intro a HF; replace HF := HF.sub [(0, .iface 144 (pt_ s2)), (1, sl_ g m mc), (4, iI_ 0), (5, .nilIface), (6, .iface 144 (pt_ s2)), (7, sl_ g m mc), (9, i6_ m), (10, .tuple #[i6_ m, .nilIface])] (by kernel_rfl)
  refine wp_sym HF HM rfl 4 [] [(0, .iface 144 (pt_ s2)), (1, sl_ g m mc), (4, i6_ m), (5, .nilIface)] [readFull_full_B0 s1 b o n c base offc limit sn, (s2, .cells #[.iface 144 (pt_ s1), iI_ 0, i6_ m, iI_ 9223372036854775807, iI_ 9223372036854775807] 246 (0, 0)), (g, .cells (((l.drop (base + 0)).take m).map Bv).toArray t (0, 0))] (by kernel_rfl) ?_
  clear HF HM; intro a w HF HM
  refine nil_then ?_
  refine wp_ret ?_
  exact ret_two HF rfl rfl rfl ⟨rfl, HM.keep, HM.get (i := 0) rfl, HM.get (i := 1) rfl, HM.get (i := 2) rfl⟩

set_option maxRecDepth 100000 in
set_option maxHeartbeats 1000000 in
theorem sliceCap_8 (m : Nat) (hm : m < 1000) (w0 : World) :
    Calls Tryd.prog 98 #[iL_ 8, u6_ m] w0 fun e w' => e = .returned (i6_ m) ∧ w' = w0 := by
  have HM : Mm [] w0 w0 [] := Mm.start w0
  refine calls_start Tryd.func98 rfl Tryd.ntmps98 [(0, iL_ 8), (1, u6_ m)] (by kernel_rfl) (Nat.le_of_ble_eq_true rfl) ?_
  intro a HF
  refine reg_pure HF HM rfl [] [(0, iL_ 8), (1, u6_ m), (4, iI_ 0)] (by kernel_rfl) ?_
  clear HF; intro a HF
  refine wp_seq ?_
  refine wp_seq (wp_region_lit ?_)
  refine wp_pure HF HM rfl 2 [] [(0, iL_ 8), (1, u6_ m), (4, iI_ 0), (6, iI_ (IntKind.i64.wrap ((m : Nat) : Int)))] (by kernel_rfl) ?_
  clear HF; intro a HF
  rw [show IntKind.i64.wrap ((m : Nat) : Int) = ((m : Nat) : Int) from IntWalk.i64_in _ (by omega)] at HF
  refine wp_pure HF HM rfl 1 [] [(0, iL_ 8), (1, u6_ m), (4, iI_ 0), (7, .bool (decide (((m : Nat) : Int) < 0)))] (by kernel_rfl) ?_
  clear HF; intro a HF
  rw [show decide (((m : Nat) : Int) < 0) = false from dec_f (by omega)] at HF
  refine wp_pure HF HM rfl 4 [] [(0, iL_ 8), (1, u6_ m), (4, iI_ 0), (8, .bool false), (9, u6_ m), (11, iI_ (IntKind.i64.wrap ((m : Nat) : Int)))] (by kernel_rfl) ?_
  clear HF; intro a HF
  rw [show IntKind.i64.wrap ((m : Nat) : Int) = ((m : Nat) : Int) from IntWalk.i64_in _ (by omega)] at HF
  refine wp_pure HF HM rfl 1 [] [(0, iL_ 8), (1, u6_ m), (4, iI_ 0), (8, .bool false), (9, u6_ m), (12, iL_ (IntKind.u64.wrap ((m : Nat) : Int)))] (by kernel_rfl) ?_
  clear HF; intro a HF
  rw [show IntKind.u64.wrap ((m : Nat) : Int) = ((m : Nat) : Int) from IntWalk.u64_in _ (by omega)] at HF
  refine wp_pure HF HM rfl 1 [] [(0, iL_ 8), (1, u6_ m), (4, iI_ 0), (8, .bool false), (13, .bool (((m : Nat) : Int) != ((m : Nat) : Int)))] (by kernel_rfl) ?_
  clear HF; intro a HF
  rw [show (((m : Nat) : Int) != ((m : Nat) : Int)) = false from by simp] at HF
  refine wp_pure HF HM rfl 1 [] [(0, iL_ 8), (1, u6_ m), (4, iI_ 0), (14, .bool false)] (by kernel_rfl) ?_
  clear HF; intro a HF
  refine nil_then ?_
  refine wp_condF HF rfl ?_
  refine wp_skip ?_
  repeat (first | refine then_norm ?_ | refine inb_norm ?_)
  replace HF := HF.sub [(0, iL_ 8), (1, u6_ m), (4, iI_ 0)] (by kernel_rfl)
  refine wp_seq ?_
  refine wp_seq (wp_region_lit ?_)
  refine wp_pure HF HM rfl 7 [] [(0, iL_ 8), (1, u6_ m), (4, iI_ 0), (17, .bool true), (21, .bool (decide (2305843009213693951 < ((m : Nat) : Int))))] (by kernel_rfl) ?_
  clear HF; intro a HF
  rw [show decide ((2305843009213693951 : Int) < ((m : Nat) : Int)) = false from dec_f (by omega)] at HF
  refine wp_pure HF HM rfl 1 [] [(0, iL_ 8), (1, u6_ m), (4, iI_ 0), (22, .bool false)] (by kernel_rfl) ?_
  clear HF; intro a HF
  refine nil_then ?_
  refine wp_condF HF rfl ?_
  refine wp_skip ?_
  repeat (first | refine then_norm ?_ | refine inb_norm ?_)
  replace HF := HF.sub [(0, iL_ 8), (1, u6_ m), (4, iI_ 0)] (by kernel_rfl)
  refine wp_seq ?_
  refine wp_seq (wp_region_lit ?_)
  refine wp_pure HF HM rfl 3 [] [(0, iL_ 8), (1, u6_ m), (4, iI_ 0), (25, iL_ (IntKind.u64.wrap (((m : Nat) : Int) * 8)))] (by kernel_rfl) ?_
  clear HF; intro a HF
  rw [show IntKind.u64.wrap (((m : Nat) : Int) * 8) = ((m : Nat) : Int) * 8 from IntWalk.u64_in _ (by omega)] at HF
  refine wp_pure HF HM rfl 1 [] [(0, iL_ 8), (1, u6_ m), (4, iI_ 0), (26, .bool (decide (10485760 < ((m : Nat) : Int) * 8)))] (by kernel_rfl) ?_
  clear HF; intro a HF
  rw [show decide (10485760 < ((m : Nat) : Int) * 8) = false from dec_f (by omega)] at HF
  refine nil_then ?_
  refine wp_condF HF rfl ?_
  refine wp_skip ?_
  repeat (first | refine then_norm ?_ | refine inb_norm ?_)
  replace HF := HF.sub [(0, iL_ 8), (1, u6_ m), (4, iI_ 0)] (by kernel_rfl)
  refine wp_seq (wp_region_lit ?_)
  refine wp_pure HF HM rfl 2 [] [(0, iL_ 8), (1, u6_ m), (4, iI_ 0), (32, iI_ (IntKind.i64.wrap ((m : Nat) : Int)))] (by kernel_rfl) ?_
  clear HF; intro a HF
  rw [show IntKind.i64.wrap ((m : Nat) : Int) = ((m : Nat) : Int) from IntWalk.i64_in _ (by omega)] at HF
  refine wp_pure HF HM rfl 1 [] [(0, iL_ 8), (1, u6_ m), (4, i6_ m)] (by kernel_rfl) ?_
  clear HF; intro a HF
  refine nil_then ?_
  refine wp_ret ?_
  exact ret_one HF rfl rfl ⟨rfl, rfl⟩

set_option maxRecDepth 100000 in
set_option maxHeartbeats 1000000 in
theorem sliceCap_120 (m : Nat) (hm : m < 1000) (w0 : World) :
    Calls Tryd.prog 98 #[iL_ 120, u6_ m] w0 fun e w' => e = .returned (i6_ m) ∧ w' = w0 := by
  have HM : Mm [] w0 w0 [] := Mm.start w0
  refine calls_start Tryd.func98 rfl Tryd.ntmps98 [(0, iL_ 120), (1, u6_ m)] (by kernel_rfl) (Nat.le_of_ble_eq_true rfl) ?_
  intro a HF
  refine reg_pure HF HM rfl [] [(0, iL_ 120), (1, u6_ m), (4, iI_ 0)] (by kernel_rfl) ?_
  clear HF; intro a HF
  refine wp_seq ?_
  refine wp_seq (wp_region_lit ?_)
  refine wp_pure HF HM rfl 2 [] [(0, iL_ 120), (1, u6_ m), (4, iI_ 0), (6, iI_ (IntKind.i64.wrap ((m : Nat) : Int)))] (by kernel_rfl) ?_
  clear HF; intro a HF
  rw [show IntKind.i64.wrap ((m : Nat) : Int) = ((m : Nat) : Int) from IntWalk.i64_in _ (by omega)] at HF
  refine wp_pure HF HM rfl 1 [] [(0, iL_ 120), (1, u6_ m), (4, iI_ 0), (7, .bool (decide (((m : Nat) : Int) < 0)))] (by kernel_rfl) ?_
  clear HF; intro a HF
  rw [show decide (((m : Nat) : Int) < 0) = false from dec_f (by omega)] at HF
  refine wp_pure HF HM rfl 4 [] [(0, iL_ 120), (1, u6_ m), (4, iI_ 0), (8, .bool false), (9, u6_ m), (11, iI_ (IntKind.i64.wrap ((m : Nat) : Int)))] (by kernel_rfl) ?_
  clear HF; intro a HF
  rw [show IntKind.i64.wrap ((m : Nat) : Int) = ((m : Nat) : Int) from IntWalk.i64_in _ (by omega)] at HF
  refine wp_pure HF HM rfl 1 [] [(0, iL_ 120), (1, u6_ m), (4, iI_ 0), (8, .bool false), (9, u6_ m), (12, iL_ (IntKind.u64.wrap ((m : Nat) : Int)))] (by kernel_rfl) ?_
  clear HF; intro a HF
  rw [show IntKind.u64.wrap ((m : Nat) : Int) = ((m : Nat) : Int) from IntWalk.u64_in _ (by omega)] at HF
  refine wp_pure HF HM rfl 1 [] [(0, iL_ 120), (1, u6_ m), (4, iI_ 0), (8, .bool false), (13, .bool (((m : Nat) : Int) != ((m : Nat) : Int)))] (by kernel_rfl) ?_
  clear HF; intro a HF
  rw [show (((m : Nat) : Int) != ((m : Nat) : Int)) = false from by simp] at HF
  refine wp_pure HF HM rfl 1 [] [(0, iL_ 120), (1, u6_ m), (4, iI_ 0), (14, .bool false)] (by kernel_rfl) ?_
  clear HF; intro a HF
  refine nil_then ?_
  refine wp_condF HF rfl ?_
  refine wp_skip ?_
  repeat (first | refine then_norm ?_ | refine inb_norm ?_)
  replace HF := HF.sub [(0, iL_ 120), (1, u6_ m), (4, iI_ 0)] (by kernel_rfl)
  refine wp_seq ?_
  refine wp_seq (wp_region_lit ?_)
  refine wp_pure HF HM rfl 7 [] [(0, iL_ 120), (1, u6_ m), (4, iI_ 0), (17, .bool true), (21, .bool (decide (153722867280912930 < ((m : Nat) : Int))))] (by kernel_rfl) ?_
  clear HF; intro a HF
  rw [show decide ((153722867280912930 : Int) < ((m : Nat) : Int)) = false from dec_f (by omega)] at HF
  refine wp_pure HF HM rfl 1 [] [(0, iL_ 120), (1, u6_ m), (4, iI_ 0), (22, .bool false)] (by kernel_rfl) ?_
  clear HF; intro a HF
  refine nil_then ?_
  refine wp_condF HF rfl ?_
  refine wp_skip ?_
  repeat (first | refine then_norm ?_ | refine inb_norm ?_)
  replace HF := HF.sub [(0, iL_ 120), (1, u6_ m), (4, iI_ 0)] (by kernel_rfl)
  refine wp_seq ?_
  refine wp_seq (wp_region_lit ?_)
  refine wp_pure HF HM rfl 3 [] [(0, iL_ 120), (1, u6_ m), (4, iI_ 0), (25, iL_ (IntKind.u64.wrap (((m : Nat) : Int) * 120)))] (by kernel_rfl) ?_
  clear HF; intro a HF
  rw [show IntKind.u64.wrap (((m : Nat) : Int) * 120) = ((m : Nat) : Int) * 120 from IntWalk.u64_in _ (by omega)] at HF
  refine wp_pure HF HM rfl 1 [] [(0, iL_ 120), (1, u6_ m), (4, iI_ 0), (26, .bool (decide (10485760 < ((m : Nat) : Int) * 120)))] (by kernel_rfl) ?_
  clear HF; intro a HF
  rw [show decide (10485760 < ((m : Nat) : Int) * 120) = false from dec_f (by omega)] at HF
  refine nil_then ?_
  refine wp_condF HF rfl ?_
  refine wp_skip ?_
  repeat (first | refine then_norm ?_ | refine inb_norm ?_)
  replace HF := HF.sub [(0, iL_ 120), (1, u6_ m), (4, iI_ 0)] (by kernel_rfl)
  refine wp_seq (wp_region_lit ?_)
  refine wp_pure HF HM rfl 2 [] [(0, iL_ 120), (1, u6_ m), (4, iI_ 0), (32, iI_ (IntKind.i64.wrap ((m : Nat) : Int)))] (by kernel_rfl) ?_
  clear HF; intro a HF
  rw [show IntKind.i64.wrap ((m : Nat) : Int) = ((m : Nat) : Int) from IntWalk.i64_in _ (by omega)] at HF
  refine wp_pure HF HM rfl 1 [] [(0, iL_ 120), (1, u6_ m), (4, i6_ m)] (by kernel_rfl) ?_
  clear HF; intro a HF
  refine nil_then ?_
  refine wp_ret ?_
  exact ret_one HF rfl rfl ⟨rfl, rfl⟩

theorem Mm.put_new {G : List Nat} {w0 w w' : World} {L : List (Nat × Obj)} (h : Mm G w0 w L) {i b g : Nat} {o o' q : Obj} (e : L[i]? = some (b, o)) (h1 : w'.heap[b]? = some o') (hk : Keep [b] w w') (hg : w.heap.size ≤ g) (ho : w'.heap[g]? = some q) : Mm G w0 w' ((g, q) :: L.set i (b, o')) := by
  have h' := h.put e h1 hk
  refine ⟨h'.1, fun p hp => ?_, ?_⟩
  · rcases List.mem_cons.1 hp with rfl | hp
    · exact ⟨ho, .inl (Nat.le_trans h.size hg)⟩
    · exact h'.2.1 p hp
  · rw [List.map_cons, List.pairwise_cons]
    refine ⟨fun c hc => ?_, h'.2.2⟩
    rw [List.map_set] at hc
    have hc' : c ∈ L.map (·.1) ∨ c = b := by
      rcases List.mem_or_eq_of_mem_set hc with h | h
      · exact .inl h
      · exact .inr h
    have : c < w.heap.size := by
      rcases hc' with hc' | rfl
      · obtain ⟨p, hp, rfl⟩ := List.mem_map.1 hc'
        exact lt_of_get (h.2.1 p hp).1
      · exact h.lt e
    show g ≠ c
    omega

abbrev readData_full_B0 := fun (s1 : Nat) (b : Nat) (o : Nat) (n : Nat) (c : Nat) (base : Nat) (offc : Int) (limit : Int) (sn : Int) => ((s1, .cells #[.iface 178 (.slice (some ⟨b, o, none⟩) n c), iI_ (base : Nat), .int .i64 offc, .int .i64 limit, .int .i64 sn] 246 (0, 0)) : Nat × Obj)
abbrev readData_full_B1 := fun (s2 : Nat) (s1 : Nat) => ((s2, .cells #[.iface 144 (pt_ s1), iI_ 0, iI_ 0, iI_ 9223372036854775807, iI_ 9223372036854775807] 246 (0, 0)) : Nat × Obj)
abbrev readData_full_S2 := fun (s2 : Nat) (m : Nat) => ([(0, .iface 144 (pt_ s2)), (1, u6_ m), (4, nl_), (5, .nilIface)] : Slots)
abbrev readData_full_B3 := fun (s2 : Nat) (s1 : Nat) (m : Nat) => ((s2, .cells #[.iface 144 (pt_ s1), iI_ 0, i6_ m, iI_ 9223372036854775807, iI_ 9223372036854775807] 246 (0, 0)) : Nat × Obj)
set_option maxRecDepth 100000 in
set_option maxHeartbeats 1000000 in
theorem readData_full (l : List UInt8) (b o n c : Nat) (hl : n = l.length) (hnc : n ≤ c) (s1 s2 : Nat) (m : Nat) (base : Nat) (offc limit sn : Int) (k1 : ((base + 0 + m : Nat) : Int) ≤ limit) (k2 : limit ≤ 9223372036854775807) (k3 : ((base + 0 : Nat) : Int) < limit) (h0 : base + 0 < n) (ho : base + 0 + m ≤ n) (hm0 : 0 < m) (hm1 : m < 10485760) (w0 : World) (hr : Row w0 (some ⟨b, o, none⟩) (l.map Bv)) (hbl : b < w0.heap.size) (hb1 : b ≠ s1) (hb2 : b ≠ s2) (h12 : s1 ≠ s2) (hs1 : w0.heap[s1]? = some (.cells #[.iface 178 (.slice (some ⟨b, o, none⟩) n c), iI_ (base : Nat), .int .i64 offc, .int .i64 limit, .int .i64 sn] 246 (0, 0))) (hs2 : w0.heap[s2]? = some (.cells #[.iface 144 (pt_ s1), iI_ 0, iI_ 0, iI_ 9223372036854775807, iI_ 9223372036854775807] 246 (0, 0))) :
    Calls Tryd.prog 84 #[.iface 144 (pt_ s2), u6_ m] w0 fun e w' => ∃ g, e = .returned (.tuple #[sl_ g m m, .nilIface]) ∧ w0.heap.size ≤ g ∧ Keep [s2] w0 w' ∧ w'.heap[s2]? = some (.cells #[.iface 144 (pt_ s1), iI_ 0, i6_ m, iI_ 9223372036854775807, iI_ 9223372036854775807] 246 (0, 0)) ∧ w'.heap[g]? = some (.cells (((l.drop (base + 0)).take m).map Bv).toArray 5 (0, 0)) := by
  obtain ⟨w, hw⟩ : ∃ w, w0 = w := ⟨_, rfl⟩
  have HM : Mm [s1, s2] w0 w [readData_full_B0 s1 b o n c base offc limit sn, readData_full_B1 s2 s1] := hw ▸ Mm.start2 hs1 hs2 h12
  conv => arg 4; rw [hw]
  clear hw
  refine calls_start Tryd.func84 rfl Tryd.ntmps84 [(0, .iface 144 (pt_ s2)), (1, u6_ m)] (by kernel_rfl) (Nat.le_of_ble_eq_true rfl) ?_
  intro a HF
  refine reg_sym HF HM rfl [] (readData_full_S2 s2 m) [readData_full_B0 s1 b o n c base offc limit sn, readData_full_B1 s2 s1] (by kernel_rfl) ?_
  clear HF HM; intro a w HF HM
  refine wp_seq ?_
  refine wp_seq (wp_region_lit ?_)
  refine wp_sym HF HM rfl 2 [] ((readData_full_S2 s2 m) ++ [(15, iI_ (IntKind.i64.wrap ((m : Nat) : Int)))]) [readData_full_B0 s1 b o n c base offc limit sn, readData_full_B1 s2 s1] (by kernel_rfl) ?_
  clear HF HM; intro a w HF HM
  rw [show IntKind.i64.wrap ((m : Nat) : Int) = ((m : Nat) : Int) from IntWalk.i64_in _ (by omega)] at HF
  refine wp_sym HF HM rfl 1 [] ((readData_full_S2 s2 m) ++ [(16, .bool (decide (((m : Nat) : Int) < 0)))]) [readData_full_B0 s1 b o n c base offc limit sn, readData_full_B1 s2 s1] (by kernel_rfl) ?_
  clear HF HM; intro a w HF HM
  rw [show decide (((m : Nat) : Int) < 0) = false from dec_f (by omega)] at HF
  refine wp_sym HF HM rfl 4 [] ((readData_full_S2 s2 m) ++ [(17, .bool false), (18, u6_ m), (20, iI_ (IntKind.i64.wrap ((m : Nat) : Int)))]) [readData_full_B0 s1 b o n c base offc limit sn, readData_full_B1 s2 s1] (by kernel_rfl) ?_
  clear HF HM; intro a w HF HM
  rw [show IntKind.i64.wrap ((m : Nat) : Int) = ((m : Nat) : Int) from IntWalk.i64_in _ (by omega)] at HF
  refine wp_sym HF HM rfl 1 [] ((readData_full_S2 s2 m) ++ [(17, .bool false), (18, u6_ m), (21, iL_ (IntKind.u64.wrap ((m : Nat) : Int)))]) [readData_full_B0 s1 b o n c base offc limit sn, readData_full_B1 s2 s1] (by kernel_rfl) ?_
  clear HF HM; intro a w HF HM
  rw [show IntKind.u64.wrap ((m : Nat) : Int) = ((m : Nat) : Int) from IntWalk.u64_in _ (by omega)] at HF
  refine wp_sym HF HM rfl 1 [] ((readData_full_S2 s2 m) ++ [(17, .bool false), (22, .bool (((m : Nat) : Int) != ((m : Nat) : Int)))]) [readData_full_B0 s1 b o n c base offc limit sn, readData_full_B1 s2 s1] (by kernel_rfl) ?_
  clear HF HM; intro a w HF HM
  rw [show (((m : Nat) : Int) != ((m : Nat) : Int)) = false from by simp] at HF
  refine wp_sym HF HM rfl 1 [] ((readData_full_S2 s2 m) ++ [(23, .bool false)]) [readData_full_B0 s1 b o n c base offc limit sn, readData_full_B1 s2 s1] (by kernel_rfl) ?_
  clear HF HM; intro a w HF HM
  refine nil_then ?_
  refine wp_condF HF rfl ?_
  refine wp_skip ?_
  repeat (first | refine then_norm ?_ | refine inb_norm ?_)
  replace HF := HF.sub (readData_full_S2 s2 m) (by kernel_rfl)
  refine wp_seq ?_
  refine wp_seq (wp_region_lit ?_)
  refine wp_sym HF HM rfl 2 [] ((readData_full_S2 s2 m) ++ [(26, .bool (decide (((m : Nat) : Int) < 10485760)))]) [readData_full_B0 s1 b o n c base offc limit sn, readData_full_B1 s2 s1] (by kernel_rfl) ?_
  clear HF HM; intro a w HF HM
  rw [show decide (((m : Nat) : Int) < 10485760) = true from dec_t (by omega)] at HF
  refine nil_then ?_
  refine wp_condT HF rfl ?_
  replace HF := HF.sub (readData_full_S2 s2 m) (by kernel_rfl)
  refine wp_seq (wp_region_lit ?_)
  refine wp_sym HF HM rfl 1 [] ((readData_full_S2 s2 m) ++ [(27, u6_ m)]) [readData_full_B0 s1 b o n c base offc limit sn, readData_full_B1 s2 s1] (by kernel_rfl) ?_
  clear HF HM; intro a w HF HM
  refine wp_make HF HM rfl _ _ 33 rfl rfl 5 (iB_ 0) 1 Tryd.underlying33 info_u8' rfl .u64 .u64 m rfl rfl (by omega) (by omega) ?_
  intro a2 w1 g hgw hbel HM2 HF2; have hg0 : w0.heap.size ≤ g := Nat.le_trans HM.size hgw; clear HF HM hbel hgw; have HM := HM2; have HF := HF2; clear HM2 HF2
  replace HF := HF.sub ((readData_full_S2 s2 m) ++ [(28, sl_ g m m)]) (by kernel_rfl)
  refine wp_sym HF HM rfl 1 [] ((readData_full_S2 s2 m) ++ [(6, sl_ g m m)]) [(g, .cells (madeCells #[iB_ 0] m) 5 (0, 0)), readData_full_B0 s1 b o n c base offc limit sn, readData_full_B1 s2 s1] (by kernel_rfl) ?_
  clear HF HM; intro a w HF HM
  refine nil_then ?_
  have hbg : b ≠ g := by omega
  refine wp_seq (wp_region_lit ?_)
  refine wp_sym HF HM rfl 2 [] ((readData_full_S2 s2 m) ++ [(6, sl_ g m m), (30, .iface 144 (pt_ s2)), (31, sl_ g m m)]) [(g, .cells (madeCells #[iB_ 0] m) 5 (0, 0)), readData_full_B0 s1 b o n c base offc limit sn, readData_full_B1 s2 s1] (by kernel_rfl) ?_
  clear HF HM; intro a w HF HM
  refine wp_call HF (by kernel_rfl) 105 #[.iface 144 (pt_ s2), sl_ g m m] (by kernel_rfl) (fun w => by kernel_rfl) (Calls.mono (readFull_full l b o n c hl hnc g s1 s2 _ 5 m m (madeCells_size' _ _) base offc limit sn k1 k2 k3 h0 ho hm0 (Nat.le_refl _) w (HM.row hr (by intro b' o' s' e; injection e with e; injection e with e; subst e; simp [hb1, hb2])) hbg hb1 hb2 h12 (HM.ne (i := 1) (j := 0) rfl rfl (by decide)) (HM.ne (i := 2) (j := 0) rfl rfl (by decide)) (HM.get (i := 1) rfl) (HM.get (i := 2) rfl) (HM.get (i := 0) rfl)) ?_)
  rintro _ w2 ⟨rfl, hkp, hs1n, hs2n, hgn⟩
  replace HM : Mm [s1, s2] w0 w2 [(g, .cells (((l.drop (base + 0)).take m).map Bv).toArray 5 (0, 0)), readData_full_B0 s1 b o n c base offc limit sn, readData_full_B3 s2 s1 m] := HM.put3 (i := 1) (j := 2) (k := 0) rfl rfl rfl (by decide) (by decide) (by decide) hs1n hs2n hgn hkp
  clear hkp hs1n hs2n hgn
  refine ⟨_, rfl, ?_⟩; clear HF; intro a HF; replace HF := HF.sub ((readData_full_S2 s2 m) ++ [(6, sl_ g m m), (30, .iface 144 (pt_ s2)), (31, sl_ g m m), (32, .tuple #[i6_ m, .nilIface])]) (by kernel_rfl)
  refine wp_sym HF HM rfl 5 [] ((readData_full_S2 s2 m) ++ [(6, sl_ g m m), (7, i6_ m), (8, .nilIface)]) [(g, .cells (((l.drop (base + 0)).take m).map Bv).toArray 5 (0, 0)), readData_full_B0 s1 b o n c base offc limit sn, readData_full_B3 s2 s1 m] (by kernel_rfl) ?_
  clear HF HM; intro a w HF HM
  refine nil_then ?_
  refine wp_seq ?_
  refine wp_seq (wp_region_lit ?_)
  refine wp_sym HF HM rfl 2 [] ((readData_full_S2 s2 m) ++ [(6, sl_ g m m), (7, i6_ m), (8, .nilIface), (36, .bool false)]) [(g, .cells (((l.drop (base + 0)).take m).map Bv).toArray 5 (0, 0)), readData_full_B0 s1 b o n c base offc limit sn, readData_full_B3 s2 s1 m] (by kernel_rfl) ?_
  clear HF HM; intro a w HF HM
  refine nil_then ?_
  refine wp_condF HF rfl ?_
  refine wp_skip ?_
  repeat (first | refine then_norm ?_ | refine inb_norm ?_)
  replace HF := HF.sub ((readData_full_S2 s2 m) ++ [(6, sl_ g m m), (7, i6_ m), (8, .nilIface)]) (by kernel_rfl)
  refine reg_sym HF HM rfl [] [(0, .iface 144 (pt_ s2)), (1, u6_ m), (6, sl_ g m m), (7, i6_ m), (8, .nilIface), (4, sl_ g m m), (5, .nilIface)] [(g, .cells (((l.drop (base + 0)).take m).map Bv).toArray 5 (0, 0)), readData_full_B0 s1 b o n c base offc limit sn, readData_full_B3 s2 s1 m] (by kernel_rfl) ?_
  clear HF HM; intro a w HF HM
  refine wp_ret ?_
  repeat (first | refine then_ret ?_ | refine inb_ret ?_)
  exact ret_two HF rfl rfl rfl ⟨g, rfl, by omega, HM.keep.less (by rw [HM.get (i := 1) rfl, hs1]), HM.get (i := 2) rfl, HM.get (i := 0) rfl⟩

end Go.Proofs.YtdgehpocmfjbiaaDoor
namespace Go.Proofs.YtdgehpocmfjbiaaDoor
open Go.RowKit

abbrev readData_zero_S0 := fun (r : Value) => ([(0, r), (1, iL_ 0), (4, nl_), (5, .nilIface)] : Slots)
set_option maxRecDepth 100000 in
set_option maxHeartbeats 1000000 in
theorem readData_zero (r : Value) (w0 : World) :
    Calls Tryd.prog 84 #[r, iL_ 0] w0 fun e w' => ∃ g, e = .returned (.tuple #[sl_ g 0 0, .nilIface]) ∧ Below w0.heap.size w0 w' := by
  obtain ⟨w, hw⟩ : ∃ w, w0 = w := ⟨_, rfl⟩
  have HM : Mm [] w0 w [] := hw ▸ Mm.start w0
  conv => arg 4; rw [hw]
  clear hw
  refine calls_start Tryd.func84 rfl Tryd.ntmps84 [(0, r), (1, iL_ 0)] (by kernel_rfl) (Nat.le_of_ble_eq_true rfl) ?_
  intro a HF
  refine reg_sym HF HM rfl [] (readData_zero_S0 r) [] (by kernel_rfl) ?_
  clear HF HM; intro a w HF HM
  refine wp_seq ?_
  refine wp_seq (wp_region_lit ?_)
  refine wp_sym HF HM rfl 10 [] ((readData_zero_S0 r) ++ [(23, .bool false)]) [] (by kernel_rfl) ?_
  clear HF HM; intro a w HF HM
  refine nil_then ?_
  refine wp_condF HF rfl ?_
  refine wp_skip ?_
  repeat (first | refine then_norm ?_ | refine inb_norm ?_)
  replace HF := HF.sub (readData_zero_S0 r) (by kernel_rfl)
  refine wp_seq ?_
  refine wp_seq (wp_region_lit ?_)
  refine wp_sym HF HM rfl 2 [] ((readData_zero_S0 r) ++ [(26, .bool true)]) [] (by kernel_rfl) ?_
  clear HF HM; intro a w HF HM
  refine nil_then ?_
  refine wp_condT HF rfl ?_
  replace HF := HF.sub (readData_zero_S0 r) (by kernel_rfl)
  refine wp_seq (wp_region_lit ?_)
  refine wp_sym HF HM rfl 1 [] ((readData_zero_S0 r) ++ [(27, iL_ 0)]) [] (by kernel_rfl) ?_
  clear HF HM; intro a w HF HM
  refine wp_make HF HM rfl _ _ 33 rfl rfl 5 (iB_ 0) 1 Tryd.underlying33 info_u8' rfl .u64 .u64 0 rfl rfl (by omega) (by omega) ?_
  intro a2 w1 g hgw hbel HM2 HF2; have hg0 : w0.heap.size ≤ g := Nat.le_trans HM.size hgw; clear HF HM hbel hgw; have HM := HM2; have HF := HF2; clear HM2 HF2
  replace HF := HF.sub ((readData_zero_S0 r) ++ [(28, sl_ g 0 0)]) (by kernel_rfl)
  refine wp_sym HF HM rfl 1 [] ((readData_zero_S0 r) ++ [(6, sl_ g 0 0)]) [(g, .cells (madeCells #[iB_ 0] 0) 5 (0, 0))] (by kernel_rfl) ?_
  clear HF HM; intro a w HF HM
  refine nil_then ?_
  refine wp_seq (wp_region_lit ?_)
  refine wp_sym HF HM rfl 2 [] ((readData_zero_S0 r) ++ [(6, sl_ g 0 0), (30, r), (31, sl_ g 0 0)]) [(g, .cells (madeCells #[iB_ 0] 0) 5 (0, 0))] (by kernel_rfl) ?_
  clear HF HM; intro a w HF HM
  refine wp_call HF (by kernel_rfl) 105 #[r, sl_ g 0 0] (by kernel_rfl) (fun w => by kernel_rfl) (Calls.mono (readFull_zero r (some ⟨g, 0, none⟩) 0 w) ?_)
  rintro _ w2 ⟨rfl, hq⟩
  replace HM : Mm [] w0 w2 [(g, .cells (madeCells #[iB_ 0] 0) 5 (0, 0))] := by first | (rw [hq]; exact HM) | (rw [← hq]; exact HM)
  clear hq
  refine ⟨_, rfl, ?_⟩; clear HF; intro a HF; replace HF := HF.sub ((readData_zero_S0 r) ++ [(6, sl_ g 0 0), (30, r), (31, sl_ g 0 0), (32, .tuple #[iI_ 0, .nilIface])]) (by kernel_rfl)
  refine wp_sym HF HM rfl 5 [] ((readData_zero_S0 r) ++ [(6, sl_ g 0 0), (7, iI_ 0), (8, .nilIface)]) [(g, .cells (madeCells #[iB_ 0] 0) 5 (0, 0))] (by kernel_rfl) ?_
  clear HF HM; intro a w HF HM
  refine nil_then ?_
  refine wp_seq ?_
  refine wp_seq (wp_region_lit ?_)
  refine wp_sym HF HM rfl 2 [] ((readData_zero_S0 r) ++ [(6, sl_ g 0 0), (7, iI_ 0), (8, .nilIface), (36, .bool false)]) [(g, .cells (madeCells #[iB_ 0] 0) 5 (0, 0))] (by kernel_rfl) ?_
  clear HF HM; intro a w HF HM
  refine nil_then ?_
  refine wp_condF HF rfl ?_
  refine wp_skip ?_
  repeat (first | refine then_norm ?_ | refine inb_norm ?_)
  replace HF := HF.sub ((readData_zero_S0 r) ++ [(6, sl_ g 0 0), (7, iI_ 0), (8, .nilIface)]) (by kernel_rfl)
  refine reg_sym HF HM rfl [] [(0, r), (1, iL_ 0), (6, sl_ g 0 0), (7, iI_ 0), (8, .nilIface), (4, sl_ g 0 0), (5, .nilIface)] [(g, .cells (madeCells #[iB_ 0] 0) 5 (0, 0))] (by kernel_rfl) ?_
  clear HF HM; intro a w HF HM
  refine wp_ret ?_
  repeat (first | refine then_ret ?_ | refine inb_ret ?_)
  exact ret_two HF rfl rfl rfl ⟨g, rfl, HM.below⟩

theorem run_op_slice_h {P : Program} {t : TypeId} (ht : P.underlying t = some .string) {ρ : Operand → Value} {o : Oper} {x hi : Operand} (ho : o.op = .slice t x none (some hi) none) {s : ByteArray} (hx : ρ x = .string s) (hh : ρ hi = .int .i64 7) (h : 7 ≤ s.size) {w : World} :
    (execOp ρ o).run P w = .ok (.value (.string (s.extract 0 7))) w := by
  have := run_slice_string_h (P := P) w t s ht .i64 7 (by omega) (by omega)
  unfold execOp
  simp only [ho, Option.map_some, Option.map_none, hx, hh, Instr.sliceAt, Sem.run_bind, run_underlying ht, this, Result.andThen_ok, Sem.run_pure]
  rfl

set_option maxRecDepth 100000 in
set_option maxHeartbeats 1000000 in
theorem hasPrefix_short (nm : ByteArray) (h : nm.size < 7) (w0 : World) : Calls Tryd.prog 109 #[.string nm, .string ⟨#[46, 122, 100, 101, 98, 117, 103]⟩] w0 fun e w' => e = .returned (.bool false) ∧ w' = w0 := by
  have HM : Mm [] w0 w0 [] := Mm.start w0
  refine calls_start Tryd.func109 rfl Tryd.ntmps109 [(0, .string nm), (1, .string ⟨#[46, 122, 100, 101, 98, 117, 103]⟩)] (by kernel_rfl) (Nat.le_of_ble_eq_true rfl) ?_
  intro a HF
  refine reg_pure HF HM rfl [] [(0, .string nm), (1, .string ⟨#[46, 122, 100, 101, 98, 117, 103]⟩), (4, .bool false)] (by kernel_rfl) ?_
  clear HF; intro a HF
  refine wp_seq (wp_region_lit ?_)
  refine wp_pure HF HM rfl 5 [] [(0, .string nm), (1, .string ⟨#[46, 122, 100, 101, 98, 117, 103]⟩), (4, .bool false), (9, .bool (decide (7 ≤ ((nm.size : Nat) : Int))))] (by kernel_rfl) ?_
  clear HF; intro a HF
  rw [show decide (7 ≤ ((nm.size : Nat) : Int)) = false from dec_f (by omega)] at HF
  refine wp_pure HF HM rfl 8 [] [(0, .string nm), (1, .string ⟨#[46, 122, 100, 101, 98, 117, 103]⟩), (4, .bool false), (17, .bool false)] (by kernel_rfl) ?_
  clear HF; intro a HF
  refine wp_pure HF HM rfl 1 [] [(0, .string nm), (1, .string ⟨#[46, 122, 100, 101, 98, 117, 103]⟩), (4, .bool false)] (by kernel_rfl) ?_
  clear HF; intro a HF
  refine nil_then ?_
  refine wp_ret ?_
  exact ret_one HF rfl rfl ⟨rfl, rfl⟩

set_option maxRecDepth 100000 in
set_option maxHeartbeats 1000000 in
theorem hasPrefix_long (nm : ByteArray) (h : 7 ≤ nm.size) (hne : ((nm.extract 0 7).toList == (⟨#[46, 122, 100, 101, 98, 117, 103]⟩ : ByteArray).toList) = false) (w0 : World) : Calls Tryd.prog 109 #[.string nm, .string ⟨#[46, 122, 100, 101, 98, 117, 103]⟩] w0 fun e w' => e = .returned (.bool false) ∧ w' = w0 := by
  have HM : Mm [] w0 w0 [] := Mm.start w0
  refine calls_start Tryd.func109 rfl Tryd.ntmps109 [(0, .string nm), (1, .string ⟨#[46, 122, 100, 101, 98, 117, 103]⟩)] (by kernel_rfl) (Nat.le_of_ble_eq_true rfl) ?_
  intro a HF
  refine reg_pure HF HM rfl [] [(0, .string nm), (1, .string ⟨#[46, 122, 100, 101, 98, 117, 103]⟩), (4, .bool false)] (by kernel_rfl) ?_
  clear HF; intro a HF
  refine wp_seq (wp_region_lit ?_)
  refine wp_pure HF HM rfl 5 [] [(0, .string nm), (1, .string ⟨#[46, 122, 100, 101, 98, 117, 103]⟩), (4, .bool false), (9, .bool (decide (7 ≤ ((nm.size : Nat) : Int))))] (by kernel_rfl) ?_
  clear HF; intro a HF
  rw [show decide (7 ≤ ((nm.size : Nat) : Int)) = true from dec_t (by omega)] at HF
  refine wp_pure HF HM rfl 4 [] [(0, .string nm), (1, .string ⟨#[46, 122, 100, 101, 98, 117, 103]⟩), (4, .bool false), (10, .bool true), (11, .string nm), (13, .int .i64 7)] (by kernel_rfl) ?_
  clear HF; intro a HF
  refine wp_run HF (by kernel_rfl) (.string (nm.extract 0 7)) (by kernel_rfl) (run_op_slice_h Tryd.underlying9 rfl rfl rfl h) ?_
  clear HF; intro a HF; replace HF := HF.sub [(0, .string nm), (1, .string ⟨#[46, 122, 100, 101, 98, 117, 103]⟩), (4, .bool false), (10, .bool true), (11, .string nm), (13, .int .i64 7), (14, .string (nm.extract 0 7))] (by kernel_rfl)
  refine wp_pure HF HM rfl 2 [] [(0, .string nm), (1, .string ⟨#[46, 122, 100, 101, 98, 117, 103]⟩), (4, .bool false), (10, .bool true), (16, .bool ((nm.extract 0 7).toList == (⟨#[46, 122, 100, 101, 98, 117, 103]⟩ : ByteArray).toList))] (by kernel_rfl) ?_
  clear HF; intro a HF
  rw [hne] at HF
  refine wp_pure HF HM rfl 1 [] [(0, .string nm), (1, .string ⟨#[46, 122, 100, 101, 98, 117, 103]⟩), (4, .bool false), (17, .bool false)] (by kernel_rfl) ?_
  clear HF; intro a HF
  refine wp_pure HF HM rfl 1 [] [(0, .string nm), (1, .string ⟨#[46, 122, 100, 101, 98, 117, 103]⟩), (4, .bool false)] (by kernel_rfl) ?_
  clear HF; intro a HF
  refine nil_then ?_
  refine wp_ret ?_
  exact ret_one HF rfl rfl ⟨rfl, rfl⟩

set_option maxRecDepth 100000 in
set_option maxHeartbeats 1000000 in
theorem hasPrefix_no (nm : ByteArray) (h : (nm.size < 7 ∨ ((nm.extract 0 7).toList == (⟨#[46, 122, 100, 101, 98, 117, 103]⟩ : ByteArray).toList) = false)) (w0 : World) : Calls Tryd.prog 106 #[.string nm, .string ⟨#[46, 122, 100, 101, 98, 117, 103]⟩] w0 fun e w' => e = .returned (.bool false) ∧ w' = w0 := by
  have hlite : ∀ w0 : World, Calls Tryd.prog 109 #[.string nm, .string ⟨#[46, 122, 100, 101, 98, 117, 103]⟩] w0 fun e w' => e = .returned (.bool false) ∧ w' = w0 := fun w0 => by
    by_cases h7 : nm.size < 7
    · exact hasPrefix_short nm h7 w0
    · exact hasPrefix_long nm (by omega) (h.resolve_left h7) w0
  have HM : Mm [] w0 w0 [] := Mm.start w0
  refine calls_start Tryd.func106 rfl Tryd.ntmps106 [(0, .string nm), (1, .string ⟨#[46, 122, 100, 101, 98, 117, 103]⟩)] (by kernel_rfl) (Nat.le_of_ble_eq_true rfl) ?_
  intro a HF
  refine reg_pure HF HM rfl [] [(0, .string nm), (1, .string ⟨#[46, 122, 100, 101, 98, 117, 103]⟩), (4, .bool false)] (by kernel_rfl) ?_
  clear HF; intro a HF
  refine wp_seq (wp_region_lit ?_)
  refine wp_pure HF HM rfl 2 [] [(0, .string nm), (1, .string ⟨#[46, 122, 100, 101, 98, 117, 103]⟩), (4, .bool false), (5, .string nm), (6, .string ⟨#[46, 122, 100, 101, 98, 117, 103]⟩)] (by kernel_rfl) ?_
  clear HF; intro a HF
  refine wp_call HF (by kernel_rfl) 109 #[.string nm, .string ⟨#[46, 122, 100, 101, 98, 117, 103]⟩] (by kernel_rfl) (fun w => by kernel_rfl) (Calls.mono (hlite w0) ?_)
  rintro _ w1 ⟨rfl, hq⟩
  obtain rfl : w0 = w1 := hq.symm; clear hq
  refine ⟨_, rfl, ?_⟩; clear HF; intro a HF; replace HF := HF.sub [(0, .string nm), (1, .string ⟨#[46, 122, 100, 101, 98, 117, 103]⟩), (4, .bool false), (5, .string nm), (6, .string ⟨#[46, 122, 100, 101, 98, 117, 103]⟩), (7, .bool false)] (by kernel_rfl)
  refine wp_pure HF HM rfl 1 [] [(0, .string nm), (1, .string ⟨#[46, 122, 100, 101, 98, 117, 103]⟩), (4, .bool false)] (by kernel_rfl) ?_
  clear HF; intro a HF
  refine nil_then ?_
  refine wp_ret ?_
  exact ret_one HF rfl rfl ⟨rfl, rfl⟩

def and32 (x y : Int) : Int := IntKind.u32.wrap ((BitVec.ofInt 32 x &&& BitVec.ofInt 32 y).toNat : Int)

abbrev secOpen_B0 := fun (sb : Nat) (nm : ByteArray) (typ : Int) (flags : Int) (ad : Int) (of : Int) (sz : Int) (lk : Int) (inf : Int) (al : Int) (en : Int) (fs : Int) (ra : Value) (s1 : Nat) (ct : Value) (co : Value) => ((sb, .cells #[.string nm, .int .u32 typ, .int .u32 flags, .int .u64 ad, .int .u64 of, .int .u64 sz, .int .u32 lk, .int .u32 inf, .int .u64 al, .int .u64 en, .int .u64 fs, ra, pt_ s1, ct, co] 153 (0, 0)) : Nat × Obj)
set_option maxRecDepth 100000 in
set_option maxHeartbeats 1000000 in
theorem secOpen (nm : ByteArray) (typ flags ad of sz lk inf al en fs : Int) (ra ct co : Value) (sb s1 : Nat) (ht8 : (typ == 8) = false) (hfl : (and32 flags 2048 == 0) = true) (hnm : (nm.size < 7 ∨ ((nm.extract 0 7).toList == (⟨#[46, 122, 100, 101, 98, 117, 103]⟩ : ByteArray).toList) = false)) (w0 : World) (hsb : w0.heap[sb]? = some (.cells #[.string nm, .int .u32 typ, .int .u32 flags, .int .u64 ad, .int .u64 of, .int .u64 sz, .int .u32 lk, .int .u32 inf, .int .u64 al, .int .u64 en, .int .u64 fs, ra, pt_ s1, ct, co] 153 (0, 0))) :
    Calls Tryd.prog 85 #[pt_ sb] w0 fun e w' => ∃ s2, e = .returned (.iface 144 (pt_ s2)) ∧ Below w0.heap.size w0 w' ∧ w0.heap.size ≤ s2 ∧ w'.heap[s2]? = some (.cells #[.iface 144 (pt_ s1), iI_ 0, iI_ 0, iI_ 9223372036854775807, iI_ 9223372036854775807] 246 (0, 0)) := by
  obtain ⟨w, hw⟩ : ∃ w, w0 = w := ⟨_, rfl⟩
  have HM : Mm [sb] w0 w [secOpen_B0 sb nm typ flags ad of sz lk inf al en fs ra s1 ct co] := hw ▸ Mm.start1 hsb
  conv => arg 4; rw [hw]
  clear hw
  refine calls_start Tryd.func85 rfl Tryd.ntmps85 [(0, pt_ sb)] (by kernel_rfl) (Nat.le_of_ble_eq_true rfl) ?_
  intro a HF
  refine reg_sym HF HM rfl [] [(0, pt_ sb), (2, .nilIface)] [secOpen_B0 sb nm typ flags ad of sz lk inf al en fs ra s1 ct co] (by kernel_rfl) ?_
  clear HF HM; intro a w HF HM
  refine wp_seq ?_
  refine wp_seq (wp_region_lit ?_)
  refine wp_sym HF HM rfl 6 [[0]] [(0, pt_ sb), (2, .nilIface), (11, .bool (typ == 8))] [secOpen_B0 sb nm typ flags ad of sz lk inf al en fs ra s1 ct co] (by kernel_rfl) ?_
  clear HF HM; intro a w HF HM
  rw [ht8] at HF
  refine nil_then ?_
  refine wp_condF HF rfl ?_
  refine wp_skip ?_
  repeat (first | refine then_norm ?_ | refine inb_norm ?_)
  replace HF := HF.sub [(0, pt_ sb), (2, .nilIface)] (by kernel_rfl)
  refine wp_seq ?_
  refine wp_seq (wp_region_lit ?_)
  refine wp_sym HF HM rfl 7 [[0]] [(0, pt_ sb), (2, .nilIface), (29, .bool (and32 flags 2048 == 0))] [secOpen_B0 sb nm typ flags ad of sz lk inf al en fs ra s1 ct co] (by kernel_rfl) ?_
  clear HF HM; intro a w HF HM
  rw [hfl] at HF
  refine nil_then ?_
  refine wp_condT HF rfl ?_
  replace HF := HF.sub [(0, pt_ sb), (2, .nilIface)] (by kernel_rfl)
  refine wp_seq ?_
  refine wp_seq (wp_region_lit ?_)
  refine wp_sym HF HM rfl 5 [[0]] [(0, pt_ sb), (2, .nilIface), (34, .string nm)] [secOpen_B0 sb nm typ flags ad of sz lk inf al en fs ra s1 ct co] (by kernel_rfl) ?_
  clear HF HM; intro a w HF HM
  refine wp_call HF (by kernel_rfl) 106 #[.string nm, .string ⟨#[46, 122, 100, 101, 98, 117, 103]⟩] (by kernel_rfl) (fun w => by kernel_rfl) (Calls.mono (hasPrefix_no nm hnm w) ?_)
  rintro _ w1 ⟨rfl, hq⟩
  replace HM : Mm [sb] w0 w1 [secOpen_B0 sb nm typ flags ad of sz lk inf al en fs ra s1 ct co] := by first | (rw [hq]; exact HM) | (rw [← hq]; exact HM)
  clear hq
  refine ⟨_, rfl, ?_⟩; clear HF; intro a HF; replace HF := HF.sub [(0, pt_ sb), (2, .nilIface), (34, .string nm), (35, .bool false)] (by kernel_rfl)
  refine wp_sym HF HM rfl 1 [] [(0, pt_ sb), (2, .nilIface), (36, .bool true)] [secOpen_B0 sb nm typ flags ad of sz lk inf al en fs ra s1 ct co] (by kernel_rfl) ?_
  clear HF HM; intro a w HF HM
  refine nil_then ?_
  refine wp_condT HF rfl ?_
  replace HF := HF.sub [(0, pt_ sb), (2, .nilIface)] (by kernel_rfl)
  refine wp_seq (wp_region_lit ?_)
  refine wp_sym HF HM rfl 5 [[0]] [(0, pt_ sb), (2, .nilIface), (41, .iface 144 (pt_ s1))] [secOpen_B0 sb nm typ flags ad of sz lk inf al en fs ra s1 ct co] (by kernel_rfl) ?_
  clear HF HM; intro a w HF HM
  refine wp_call HF (by kernel_rfl) 92 #[.iface 144 (pt_ s1), iI_ 0, iI_ 9223372036854775807] (by kernel_rfl) (fun w => by kernel_rfl) (Calls.mono (newSR_any 144 (pt_ s1) 0 9223372036854775807 (by omega) (by omega) (by omega) w) ?_)
  rintro _ w2 ⟨s2, rfl, hb, hge, hgn⟩
  have hg0 : w0.heap.size ≤ s2 := Nat.le_trans HM.size hge
  replace HM : Mm [sb] w0 w2 [(s2, .cells #[.iface 144 (pt_ s1), iI_ 0, iI_ 0, iI_ 9223372036854775807, iI_ 9223372036854775807] 246 (0, 0)), secOpen_B0 sb nm typ flags ad of sz lk inf al en fs ra s1 ct co] := HM.push hb hge hgn
  clear hb hge hgn
  refine ⟨_, rfl, ?_⟩; clear HF; intro a HF; replace HF := HF.sub [(0, pt_ sb), (2, .nilIface), (41, .iface 144 (pt_ s1)), (42, pt_ s2)] (by kernel_rfl)
  refine wp_sym HF HM rfl 2 [] [(0, pt_ sb), (2, .iface 144 (pt_ s2))] [(s2, .cells #[.iface 144 (pt_ s1), iI_ 0, iI_ 0, iI_ 9223372036854775807, iI_ 9223372036854775807] 246 (0, 0)), secOpen_B0 sb nm typ flags ad of sz lk inf al en fs ra s1 ct co] (by kernel_rfl) ?_
  clear HF HM; intro a w HF HM
  refine nil_then ?_
  refine wp_ret ?_
  repeat (first | refine then_ret ?_ | refine inb_ret ?_)
  exact ret_one HF rfl rfl ⟨s2, rfl, (HM.keep.less (by rw [HM.get (i := 1) rfl, hsb])).below, hg0, HM.get (i := 0) rfl⟩

abbrev secData_zero_B0 := fun (sb : Nat) (nm : ByteArray) (typ : Int) (flags : Int) (ad : Int) (of : Int) (lk : Int) (inf : Int) (al : Int) (en : Int) (fs : Int) (ra : Value) (s1 : Nat) (ct : Value) (co : Value) => ((sb, .cells #[.string nm, .int .u32 typ, .int .u32 flags, .int .u64 ad, .int .u64 of, iL_ 0, .int .u32 lk, .int .u32 inf, .int .u64 al, .int .u64 en, .int .u64 fs, ra, pt_ s1, ct, co] 153 (0, 0)) : Nat × Obj)
set_option maxRecDepth 100000 in
set_option maxHeartbeats 1000000 in
theorem secData_zero (nm : ByteArray) (typ flags ad of lk inf al en fs : Int) (ra ct co : Value) (sb s1 : Nat) (ht8 : (typ == 8) = false) (hfl : (and32 flags 2048 == 0) = true) (hnm : (nm.size < 7 ∨ ((nm.extract 0 7).toList == (⟨#[46, 122, 100, 101, 98, 117, 103]⟩ : ByteArray).toList) = false)) (w0 : World) (hsb : w0.heap[sb]? = some (.cells #[.string nm, .int .u32 typ, .int .u32 flags, .int .u64 ad, .int .u64 of, iL_ 0, .int .u32 lk, .int .u32 inf, .int .u64 al, .int .u64 en, .int .u64 fs, ra, pt_ s1, ct, co] 153 (0, 0))) :
    Calls Tryd.prog 63 #[pt_ sb] w0 fun e w' => ∃ g, e = .returned (.tuple #[sl_ g 0 0, .nilIface]) ∧ Below w0.heap.size w0 w' := by
  obtain ⟨w, hw⟩ : ∃ w, w0 = w := ⟨_, rfl⟩
  have HM : Mm [sb] w0 w [secData_zero_B0 sb nm typ flags ad of lk inf al en fs ra s1 ct co] := hw ▸ Mm.start1 hsb
  conv => arg 4; rw [hw]
  clear hw
  refine calls_start Tryd.func63 rfl Tryd.ntmps63 [(0, pt_ sb)] (by kernel_rfl) (Nat.le_of_ble_eq_true rfl) ?_
  intro a HF
  refine reg_sym HF HM rfl [] [(0, pt_ sb), (2, nl_), (3, .nilIface)] [secData_zero_B0 sb nm typ flags ad of lk inf al en fs ra s1 ct co] (by kernel_rfl) ?_
  clear HF HM; intro a w HF HM
  refine reg_plan HM (by kernel_rfl) [secData_zero_B0 sb nm typ flags ad of lk inf al en fs ra s1 ct co] [(0, false), (2, false), (3, false), (4, false), (5, false), (6, false), (1, true), (7, true), (8, false), (9, false), (10, false), (11, false)] (by kernel_rfl) ?_
  clear HM; intro w1 HM
  refine plan_sym HF (HM.told [0] rfl) 6 [[0]] [(0, pt_ sb), (2, nl_), (3, .nilIface), (4, pt_ sb), (10, iL_ 0)] (by kernel_rfl) ?_
  clear HF; intro a HF
  refine plan_force rfl ?_
  refine wp_call HF (by kernel_rfl) 85 #[pt_ sb] (by kernel_rfl) (fun w => by kernel_rfl) (Calls.mono (secOpen nm typ flags ad of 0 lk inf al en fs ra ct co sb s1 ht8 hfl hnm w1 (HM.get (i := 0) rfl)) ?_)
  rintro _ w2 ⟨s2, rfl, hb, hge, hgn⟩
  have hg0 : w0.heap.size ≤ s2 := Nat.le_trans HM.size hge
  replace HM : Mm [sb] w0 w2 [(s2, .cells #[.iface 144 (pt_ s1), iI_ 0, iI_ 0, iI_ 9223372036854775807, iI_ 9223372036854775807] 246 (0, 0)), secData_zero_B0 sb nm typ flags ad of lk inf al en fs ra s1 ct co] := HM.push hb hge hgn
  clear hb hge hgn
  refine ⟨_, rfl, ?_⟩; clear HF; intro a HF; replace HF := HF.sub [(0, pt_ sb), (2, nl_), (3, .nilIface), (4, pt_ sb), (10, iL_ 0), (5, .iface 144 (pt_ s2))] (by kernel_rfl)
  refine only_end (HM.told [1] rfl) ?_
  refine plan_force rfl ?_
  refine wp_call HF (by kernel_rfl) 84 #[.iface 144 (pt_ s2), iL_ 0] (by kernel_rfl) (fun w => by kernel_rfl) (Calls.mono (readData_zero (.iface 144 (pt_ s2)) w2) ?_)
  rintro _ w3 ⟨g, rfl, hb⟩
  replace HM := HM.call hb
  clear hb
  refine ⟨_, rfl, ?_⟩; clear HF; intro a HF; replace HF := HF.sub [(0, pt_ sb), (2, nl_), (3, .nilIface), (4, pt_ sb), (10, iL_ 0), (5, .iface 144 (pt_ s2)), (11, .tuple #[sl_ g 0 0, .nilIface])] (by kernel_rfl)
  refine only_end (HM.told [1] rfl) ?_
  refine plan_sym HF (HM.told [1] rfl) 4 [] [(0, pt_ sb), (2, sl_ g 0 0), (3, .nilIface)] (by kernel_rfl) ?_
  clear HF; intro a HF
  refine plan_end ?_
  refine then_norm ?_
  refine wp_ret ?_
  exact ret_two HF rfl rfl rfl ⟨g, rfl, (HM.keep.less (by rw [HM.get (i := 1) rfl, hsb])).below⟩

abbrev secData_full_B0 := fun (sb : Nat) (nm : ByteArray) (typ : Int) (flags : Int) (ad : Int) (of : Int) (m : Nat) (lk : Int) (inf : Int) (al : Int) (en : Int) (fs : Int) (ra : Value) (s1 : Nat) (ct : Value) (co : Value) => ((sb, .cells #[.string nm, .int .u32 typ, .int .u32 flags, .int .u64 ad, .int .u64 of, u6_ m, .int .u32 lk, .int .u32 inf, .int .u64 al, .int .u64 en, .int .u64 fs, ra, pt_ s1, ct, co] 153 (0, 0)) : Nat × Obj)
abbrev secData_full_B1 := fun (s1 : Nat) (b : Nat) (o : Nat) (n : Nat) (c : Nat) (base : Nat) (offc : Int) (limit : Int) (sn : Int) => ((s1, .cells #[.iface 178 (.slice (some ⟨b, o, none⟩) n c), iI_ (base : Nat), .int .i64 offc, .int .i64 limit, .int .i64 sn] 246 (0, 0)) : Nat × Obj)
set_option maxRecDepth 100000 in
set_option maxHeartbeats 1000000 in
theorem secData_full (nm : ByteArray) (typ flags ad of lk inf al en fs : Int) (ra ct co : Value) (sb s1 : Nat) (ht8 : (typ == 8) = false) (hfl : (and32 flags 2048 == 0) = true) (hnm : (nm.size < 7 ∨ ((nm.extract 0 7).toList == (⟨#[46, 122, 100, 101, 98, 117, 103]⟩ : ByteArray).toList) = false)) (l : List UInt8) (b o n c : Nat) (hl : n = l.length) (hnc : n ≤ c) (m base : Nat) (offc limit sn : Int) (k1 : ((base + 0 + m : Nat) : Int) ≤ limit) (k2 : limit ≤ 9223372036854775807) (k3 : ((base + 0 : Nat) : Int) < limit) (h0 : base + 0 < n) (ho : base + 0 + m ≤ n) (hm0 : 0 < m) (hm1 : m < 10485760)
    (w0 : World) (hsb : w0.heap[sb]? = some (.cells #[.string nm, .int .u32 typ, .int .u32 flags, .int .u64 ad, .int .u64 of, u6_ m, .int .u32 lk, .int .u32 inf, .int .u64 al, .int .u64 en, .int .u64 fs, ra, pt_ s1, ct, co] 153 (0, 0))) (hs1 : w0.heap[s1]? = some (.cells #[.iface 178 (.slice (some ⟨b, o, none⟩) n c), iI_ (base : Nat), .int .i64 offc, .int .i64 limit, .int .i64 sn] 246 (0, 0))) (hbl : b < w0.heap.size) (hb1 : b ≠ s1) (hbs : b ≠ sb) (hss : sb ≠ s1) (hr : Row w0 (some ⟨b, o, none⟩) (l.map Bv)) :
    Calls Tryd.prog 63 #[pt_ sb] w0 fun e w' => ∃ g, e = .returned (.tuple #[sl_ g m m, .nilIface]) ∧ Below w0.heap.size w0 w' ∧ w0.heap.size ≤ g ∧ w'.heap[g]? = some (.cells (((l.drop (base + 0)).take m).map Bv).toArray 5 (0, 0)) := by
  obtain ⟨w, hw⟩ : ∃ w, w0 = w := ⟨_, rfl⟩
  have HM : Mm [sb, s1] w0 w [secData_full_B0 sb nm typ flags ad of m lk inf al en fs ra s1 ct co, secData_full_B1 s1 b o n c base offc limit sn] := hw ▸ Mm.start2 hsb hs1 hss
  conv => arg 4; rw [hw]
  clear hw
  refine calls_start Tryd.func63 rfl Tryd.ntmps63 [(0, pt_ sb)] (by kernel_rfl) (Nat.le_of_ble_eq_true rfl) ?_
  intro a HF
  refine reg_sym HF HM rfl [] [(0, pt_ sb), (2, nl_), (3, .nilIface)] [secData_full_B0 sb nm typ flags ad of m lk inf al en fs ra s1 ct co, secData_full_B1 s1 b o n c base offc limit sn] (by kernel_rfl) ?_
  clear HF HM; intro a w HF HM
  refine reg_plan HM (by kernel_rfl) [secData_full_B0 sb nm typ flags ad of m lk inf al en fs ra s1 ct co] [(0, false), (2, false), (3, false), (4, false), (5, false), (6, false), (1, true), (7, true), (8, false), (9, false), (10, false), (11, false)] (by kernel_rfl) ?_
  clear HM; intro w1 HM
  refine plan_sym HF (HM.told [0] rfl) 6 [[0]] [(0, pt_ sb), (2, nl_), (3, .nilIface), (4, pt_ sb), (10, u6_ m)] (by kernel_rfl) ?_
  clear HF; intro a HF
  refine plan_force rfl ?_
  refine wp_call HF (by kernel_rfl) 85 #[pt_ sb] (by kernel_rfl) (fun w => by kernel_rfl) (Calls.mono (secOpen nm typ flags ad of ((m : Nat) : Int) lk inf al en fs ra ct co sb s1 ht8 hfl hnm w1 (HM.get (i := 0) rfl)) ?_)
  rintro _ w2 ⟨s2, rfl, hb, hge, hgn⟩
  have hg0 : w0.heap.size ≤ s2 := Nat.le_trans HM.size hge
  replace HM : Mm [sb, s1] w0 w2 [(s2, .cells #[.iface 144 (pt_ s1), iI_ 0, iI_ 0, iI_ 9223372036854775807, iI_ 9223372036854775807] 246 (0, 0)), secData_full_B0 sb nm typ flags ad of m lk inf al en fs ra s1 ct co, secData_full_B1 s1 b o n c base offc limit sn] := HM.push hb hge hgn
  clear hb hge hgn
  refine ⟨_, rfl, ?_⟩; clear HF; intro a HF; replace HF := HF.sub [(0, pt_ sb), (2, nl_), (3, .nilIface), (4, pt_ sb), (10, u6_ m), (5, .iface 144 (pt_ s2))] (by kernel_rfl)
  refine only_end (HM.told [1] rfl) ?_
  refine plan_force rfl ?_
  have hb2 : b ≠ s2 := by omega
  have hszw : w0.heap.size ≤ w2.heap.size := HM.size
  refine wp_call HF (by kernel_rfl) 84 #[.iface 144 (pt_ s2), u6_ m] (by kernel_rfl) (fun w => by kernel_rfl) (Calls.mono (readData_full l b o n c hl hnc s1 s2 m base offc limit sn k1 k2 k3 h0 ho hm0 hm1 w2 (HM.row hr (by intro b' o' s' e; injection e with e; injection e with e; subst e; simp [hb1, hbs])) (by omega) hb1 hb2 (HM.ne (i := 2) (j := 0) rfl rfl (by decide)) (HM.get (i := 2) rfl) (HM.get (i := 0) rfl)) ?_)
  rintro _ w3 ⟨g, rfl, hgg, hkp, hs2n, hgn⟩
  replace HM : Mm [sb, s1] w0 w3 [(g, .cells (((l.drop (base + 0)).take m).map Bv).toArray 5 (0, 0)), (s2, .cells #[.iface 144 (pt_ s1), iI_ 0, i6_ m, iI_ 9223372036854775807, iI_ 9223372036854775807] 246 (0, 0)), secData_full_B0 sb nm typ flags ad of m lk inf al en fs ra s1 ct co, secData_full_B1 s1 b o n c base offc limit sn] := HM.put_new (i := 0) rfl hs2n hkp hgg hgn
  clear hs2n hkp hgn
  refine ⟨_, rfl, ?_⟩; clear HF; intro a HF; replace HF := HF.sub [(0, pt_ sb), (2, nl_), (3, .nilIface), (4, pt_ sb), (10, u6_ m), (5, .iface 144 (pt_ s2)), (11, .tuple #[sl_ g m m, .nilIface])] (by kernel_rfl)
  refine only_end (HM.told [2] rfl) ?_
  refine plan_sym HF (HM.told [2] rfl) 4 [] [(0, pt_ sb), (2, sl_ g m m), (3, .nilIface)] (by kernel_rfl) ?_
  clear HF; intro a HF
  refine plan_end ?_
  refine then_norm ?_
  refine wp_ret ?_
  exact ret_two HF rfl rfl rfl ⟨g, rfl, ((HM.keep.less (by rw [HM.get (i := 2) rfl, hsb])).less (by rw [HM.get (i := 3) rfl, hs1])).below, by omega, HM.get (i := 0) rfl⟩

abbrev readDataAt_full_B0 := fun (s : Nat) (b : Nat) (o : Nat) (n : Nat) (c : Nat) (base : Nat) (offc : Int) (limit : Int) (sn : Int) => ((s, .cells #[.iface 178 (.slice (some ⟨b, o, none⟩) n c), iI_ (base : Nat), .int .i64 offc, .int .i64 limit, .int .i64 sn] 246 (0, 0)) : Nat × Obj)
abbrev readDataAt_full_S1 := fun (s : Nat) (m : Nat) (off : Nat) => ([(0, .iface 144 (pt_ s)), (1, u6_ m), (2, i6_ off)] : Slots)
set_option maxRecDepth 100000 in
set_option maxHeartbeats 1000000 in
theorem readDataAt_full (l : List UInt8) (b o n c : Nat) (hl : n = l.length) (hnc : n ≤ c) (s : Nat) (m base off : Nat) (offc limit sn : Int) (k1 : ((base + off + m : Nat) : Int) ≤ limit) (k2 : limit ≤ 9223372036854775807) (k3 : ((base + off : Nat) : Int) < limit) (h0 : base + off < n) (ho : base + off + m ≤ n) (hm1 : m < 10485760) (w0 : World) (hr : Row w0 (some ⟨b, o, none⟩) (l.map Bv)) (hbl : b < w0.heap.size) (hbs : b ≠ s) (hs : w0.heap[s]? = some (.cells #[.iface 178 (.slice (some ⟨b, o, none⟩) n c), iI_ (base : Nat), .int .i64 offc, .int .i64 limit, .int .i64 sn] 246 (0, 0))) :
    Calls Tryd.prog 99 #[.iface 144 (pt_ s), u6_ m, i6_ off] w0 fun e w' => ∃ g, e = .returned (.tuple #[sl_ g m m, .nilIface]) ∧ Below w0.heap.size w0 w' ∧ w0.heap.size ≤ g ∧ w'.heap[g]? = some (.cells (((l.drop (base + off)).take m).map Bv).toArray 5 (0, 0)) := by
  obtain ⟨w, hw⟩ : ∃ w, w0 = w := ⟨_, rfl⟩
  have HM : Mm [s] w0 w [readDataAt_full_B0 s b o n c base offc limit sn] := hw ▸ Mm.start1 hs
  conv => arg 4; rw [hw]
  clear hw
  refine calls_start Tryd.func99 rfl Tryd.ntmps99 (readDataAt_full_S1 s m off) (by kernel_rfl) (Nat.le_of_ble_eq_true rfl) ?_
  intro a HF
  refine reg_sym HF HM rfl [] ((readDataAt_full_S1 s m off) ++ [(6, nl_), (7, .nilIface)]) [readDataAt_full_B0 s b o n c base offc limit sn] (by kernel_rfl) ?_
  clear HF HM; intro a w HF HM
  refine wp_seq ?_
  refine wp_seq (wp_region_lit ?_)
  refine wp_sym HF HM rfl 2 [] ((readDataAt_full_S1 s m off) ++ [(6, nl_), (7, .nilIface), (17, iI_ (IntKind.i64.wrap ((m : Nat) : Int)))]) [readDataAt_full_B0 s b o n c base offc limit sn] (by kernel_rfl) ?_
  clear HF HM; intro a w HF HM
  rw [show IntKind.i64.wrap ((m : Nat) : Int) = ((m : Nat) : Int) from IntWalk.i64_in _ (by omega)] at HF
  refine wp_sym HF HM rfl 1 [] ((readDataAt_full_S1 s m off) ++ [(6, nl_), (7, .nilIface), (18, .bool (decide (((m : Nat) : Int) < 0)))]) [readDataAt_full_B0 s b o n c base offc limit sn] (by kernel_rfl) ?_
  clear HF HM; intro a w HF HM
  rw [show decide (((m : Nat) : Int) < 0) = false from dec_f (by omega)] at HF
  refine wp_sym HF HM rfl 4 [] ((readDataAt_full_S1 s m off) ++ [(6, nl_), (7, .nilIface), (19, .bool false), (20, u6_ m), (22, iI_ (IntKind.i64.wrap ((m : Nat) : Int)))]) [readDataAt_full_B0 s b o n c base offc limit sn] (by kernel_rfl) ?_
  clear HF HM; intro a w HF HM
  rw [show IntKind.i64.wrap ((m : Nat) : Int) = ((m : Nat) : Int) from IntWalk.i64_in _ (by omega)] at HF
  refine wp_sym HF HM rfl 1 [] ((readDataAt_full_S1 s m off) ++ [(6, nl_), (7, .nilIface), (19, .bool false), (20, u6_ m), (23, iL_ (IntKind.u64.wrap ((m : Nat) : Int)))]) [readDataAt_full_B0 s b o n c base offc limit sn] (by kernel_rfl) ?_
  clear HF HM; intro a w HF HM
  rw [show IntKind.u64.wrap ((m : Nat) : Int) = ((m : Nat) : Int) from IntWalk.u64_in _ (by omega)] at HF
  refine wp_sym HF HM rfl 1 [] ((readDataAt_full_S1 s m off) ++ [(6, nl_), (7, .nilIface), (19, .bool false), (24, .bool (((m : Nat) : Int) != ((m : Nat) : Int)))]) [readDataAt_full_B0 s b o n c base offc limit sn] (by kernel_rfl) ?_
  clear HF HM; intro a w HF HM
  rw [show (((m : Nat) : Int) != ((m : Nat) : Int)) = false from by simp] at HF
  refine wp_sym HF HM rfl 1 [] ((readDataAt_full_S1 s m off) ++ [(6, nl_), (7, .nilIface), (25, .bool false)]) [readDataAt_full_B0 s b o n c base offc limit sn] (by kernel_rfl) ?_
  clear HF HM; intro a w HF HM
  refine nil_then ?_
  refine wp_condF HF rfl ?_
  refine wp_skip ?_
  repeat (first | refine then_norm ?_ | refine inb_norm ?_)
  replace HF := HF.sub ((readDataAt_full_S1 s m off) ++ [(6, nl_), (7, .nilIface)]) (by kernel_rfl)
  refine wp_seq ?_
  refine wp_seq (wp_region_lit ?_)
  refine wp_sym HF HM rfl 2 [] ((readDataAt_full_S1 s m off) ++ [(6, nl_), (7, .nilIface), (28, .bool (decide (((m : Nat) : Int) < 10485760)))]) [readDataAt_full_B0 s b o n c base offc limit sn] (by kernel_rfl) ?_
  clear HF HM; intro a w HF HM
  rw [show decide (((m : Nat) : Int) < 10485760) = true from dec_t (by omega)] at HF
  refine nil_then ?_
  refine wp_condT HF rfl ?_
  replace HF := HF.sub ((readDataAt_full_S1 s m off) ++ [(6, nl_), (7, .nilIface)]) (by kernel_rfl)
  refine wp_seq (wp_region_lit ?_)
  refine wp_sym HF HM rfl 1 [] ((readDataAt_full_S1 s m off) ++ [(6, nl_), (7, .nilIface), (29, u6_ m)]) [readDataAt_full_B0 s b o n c base offc limit sn] (by kernel_rfl) ?_
  clear HF HM; intro a w HF HM
  refine wp_make HF HM rfl _ _ 33 rfl rfl 5 (iB_ 0) 1 Tryd.underlying33 info_u8' rfl .u64 .u64 m rfl rfl (by omega) (by omega) ?_
  intro a2 w1 g hgw hbel HM2 HF2; have hg0 : w0.heap.size ≤ g := Nat.le_trans HM.size hgw; clear HF HM hbel hgw; have HM := HM2; have HF := HF2; clear HM2 HF2
  replace HF := HF.sub ((readDataAt_full_S1 s m off) ++ [(6, nl_), (7, .nilIface), (30, sl_ g m m)]) (by kernel_rfl)
  refine wp_sym HF HM rfl 1 [] ((readDataAt_full_S1 s m off) ++ [(6, nl_), (7, .nilIface), (8, sl_ g m m)]) [(g, .cells (madeCells #[iB_ 0] m) 5 (0, 0)), readDataAt_full_B0 s b o n c base offc limit sn] (by kernel_rfl) ?_
  clear HF HM; intro a w HF HM
  refine nil_then ?_
  have hbg : b ≠ g := by omega
  refine wp_seq (wp_region_lit ?_)
  refine wp_sym HF HM rfl 3 [] ((readDataAt_full_S1 s m off) ++ [(6, nl_), (7, .nilIface), (8, sl_ g m m), (32, .iface 144 (pt_ s)), (33, sl_ g m m), (34, i6_ off)]) [(g, .cells (madeCells #[iB_ 0] m) 5 (0, 0)), readDataAt_full_B0 s b o n c base offc limit sn] (by kernel_rfl) ?_
  clear HF HM; intro a w HF HM
  refine wp_call HF (by kernel_rfl) 93 #[pt_ s, sl_ g m m, i6_ off] (by kernel_rfl) (fun w => by kernel_rfl) (Calls.mono (srAt_full l b o n c hl hnc g s _ 5 m m (madeCells_size' _ _) base off offc limit sn k1 k2 k3 h0 ho w (HM.row hr (by intro b' o' s' e; injection e with e; injection e with e; subst e; simp [hbs])) hbg hbs (HM.ne (i := 1) (j := 0) rfl rfl (by decide)) (HM.get (i := 1) rfl) (HM.get (i := 0) rfl)) ?_)
  rintro _ w2 ⟨rfl, hkp, hsn, hgn⟩
  replace HM : Mm [s] w0 w2 [(g, .cells (((l.drop (base + off)).take m).map Bv).toArray 5 (0, 0)), readDataAt_full_B0 s b o n c base offc limit sn] := HM.put2 (i := 1) (j := 0) rfl rfl (by decide) hsn hgn hkp
  clear hkp hsn hgn
  refine ⟨_, rfl, ?_⟩; clear HF; intro a HF; replace HF := HF.sub ((readDataAt_full_S1 s m off) ++ [(6, nl_), (7, .nilIface), (8, sl_ g m m), (32, .iface 144 (pt_ s)), (33, sl_ g m m), (34, i6_ off), (35, .tuple #[i6_ m, .nilIface])]) (by kernel_rfl)
  refine wp_sym HF HM rfl 5 [] ((readDataAt_full_S1 s m off) ++ [(6, nl_), (7, .nilIface), (8, sl_ g m m), (9, i6_ m), (10, .nilIface)]) [(g, .cells (((l.drop (base + off)).take m).map Bv).toArray 5 (0, 0)), readDataAt_full_B0 s b o n c base offc limit sn] (by kernel_rfl) ?_
  clear HF HM; intro a w HF HM
  refine nil_then ?_
  refine wp_seq ?_
  refine wp_seq (wp_region_lit ?_)
  refine wp_sym HF HM rfl 2 [] ((readDataAt_full_S1 s m off) ++ [(6, nl_), (7, .nilIface), (8, sl_ g m m), (9, i6_ m), (10, .nilIface), (39, .bool false)]) [(g, .cells (((l.drop (base + off)).take m).map Bv).toArray 5 (0, 0)), readDataAt_full_B0 s b o n c base offc limit sn] (by kernel_rfl) ?_
  clear HF HM; intro a w HF HM
  refine nil_then ?_
  refine wp_condF HF rfl ?_
  refine wp_skip ?_
  repeat (first | refine then_norm ?_ | refine inb_norm ?_)
  replace HF := HF.sub ((readDataAt_full_S1 s m off) ++ [(6, nl_), (7, .nilIface), (8, sl_ g m m), (9, i6_ m), (10, .nilIface)]) (by kernel_rfl)
  refine reg_sym HF HM rfl [] ((readDataAt_full_S1 s m off) ++ [(8, sl_ g m m), (9, i6_ m), (10, .nilIface), (6, sl_ g m m), (7, .nilIface)]) [(g, .cells (((l.drop (base + off)).take m).map Bv).toArray 5 (0, 0)), readDataAt_full_B0 s b o n c base offc limit sn] (by kernel_rfl) ?_
  clear HF HM; intro a w HF HM
  refine wp_ret ?_
  repeat (first | refine then_ret ?_ | refine inb_ret ?_)
  exact ret_two HF rfl rfl rfl ⟨g, rfl, (HM.keep.less (by rw [HM.get (i := 1) rfl, hs])).below, hg0, HM.get (i := 0) rfl⟩

end Go.Proofs.YtdgehpocmfjbiaaDoor
namespace Go.Proofs.YtdgehpocmfjbiaaDoor
open Go.RowKit

def zipB (nm : ByteArray) : Bool := decide (7 ≤ nm.size) && ((nm.extract 0 7).toList == (⟨#[46, 122, 100, 101, 98, 117, 103]⟩ : ByteArray).toList)
theorem run_str_index {P : Program} {w : World} {t : TypeId} (ht : P.underlying t = some .string) {ρ : Operand → Value} {o : Oper} {x ix : Operand} (ho : o.op = .index t x ix) {l : List UInt8} {i : Nat} {k : IntKind} {b : UInt8} (hx : ρ x = .string ⟨l.toArray⟩) (hi : ρ ix = .int k (i : Int)) (hb : l[i]? = some b) :
    (execOp ρ o).run P w = .ok (.value (.int .u8 (b.toNat : Nat))) w := by
  obtain ⟨hlt, e⟩ := List.getElem?_eq_some_iff.1 hb
  have h2 : (⟨l.toArray⟩ : ByteArray)[i]? = some b := by
    have hs : i < (⟨l.toArray⟩ : ByteArray).size := by simpa [ByteArray.size] using hlt
    rw [getElem?_pos _ i hs]
    exact congrArg some e
  unfold execOp
  simp only [ho, hx, hi]
  simp [Instr.index, asIntOf, run_underlying ht, h2]

set_option maxRecDepth 100000 in
set_option maxHeartbeats 1000000 in
theorem zipped_short (nm : ByteArray) (h : nm.size < 7) (w0 : World) : Calls Tryd.prog 54 #[.string nm] w0 fun e w' => e = .returned (.bool (zipB nm)) ∧ w' = w0 := by
  have hz : True := trivial
  have HM : Mm [] w0 w0 [] := Mm.start w0
  refine calls_start Tryd.func54 rfl Tryd.ntmps54 [(0, .string nm)] (by kernel_rfl) (Nat.le_of_ble_eq_true rfl) ?_
  intro a HF
  refine reg_pure HF HM rfl [] [(0, .string nm), (2, .bool false)] (by kernel_rfl) ?_
  clear HF; intro a HF
  refine wp_seq (wp_region_lit ?_)
  refine wp_pure HF HM rfl 3 [] [(0, .string nm), (2, .bool false), (5, .bool (decide (7 ≤ ((nm.size : Nat) : Int))))] (by kernel_rfl) ?_
  clear HF; intro a HF
  rw [show decide (7 ≤ ((nm.size : Nat) : Int)) = false from dec_f (by omega)] at HF
  refine wp_pure HF HM rfl 5 [] [(0, .string nm), (2, .bool false), (10, .bool false)] (by kernel_rfl) ?_
  clear HF; intro a HF
  refine wp_pure HF HM rfl 1 [] [(0, .string nm), (2, .bool false)] (by kernel_rfl) ?_
  clear HF; intro a HF
  refine nil_then ?_
  refine wp_ret ?_
  exact ret_one HF rfl rfl ⟨by rw [show zipB nm = false from by simp [zipB]; try omega], rfl⟩

set_option maxRecDepth 100000 in
set_option maxHeartbeats 1000000 in
theorem zipped_long (nm : ByteArray) (h : 7 ≤ nm.size) (w0 : World) : Calls Tryd.prog 54 #[.string nm] w0 fun e w' => e = .returned (.bool (zipB nm)) ∧ w' = w0 := by
  have hz : True := trivial
  have HM : Mm [] w0 w0 [] := Mm.start w0
  refine calls_start Tryd.func54 rfl Tryd.ntmps54 [(0, .string nm)] (by kernel_rfl) (Nat.le_of_ble_eq_true rfl) ?_
  intro a HF
  refine reg_pure HF HM rfl [] [(0, .string nm), (2, .bool false)] (by kernel_rfl) ?_
  clear HF; intro a HF
  refine wp_seq (wp_region_lit ?_)
  refine wp_pure HF HM rfl 3 [] [(0, .string nm), (2, .bool false), (5, .bool (decide (7 ≤ ((nm.size : Nat) : Int))))] (by kernel_rfl) ?_
  clear HF; intro a HF
  rw [show decide (7 ≤ ((nm.size : Nat) : Int)) = true from dec_t (by omega)] at HF
  refine wp_pure HF HM rfl 2 [] [(0, .string nm), (2, .bool false), (5, .bool true), (6, .bool true), (7, .string nm)] (by kernel_rfl) ?_
  clear HF; intro a HF
  refine wp_run HF (by kernel_rfl) (.string (nm.extract 0 7)) (by kernel_rfl) (run_op_slice_h Tryd.underlying9 rfl rfl rfl h) ?_
  clear HF; intro a HF; replace HF := HF.sub [(0, .string nm), (2, .bool false), (5, .bool true), (6, .bool true), (7, .string nm), (8, .string (nm.extract 0 7))] (by kernel_rfl)
  refine wp_pure HF HM rfl 3 [] [(0, .string nm), (2, .bool ((nm.extract 0 7).toList == (⟨#[46, 122, 100, 101, 98, 117, 103]⟩ : ByteArray).toList))] (by kernel_rfl) ?_
  clear HF; intro a HF
  refine nil_then ?_
  refine wp_ret ?_
  exact ret_one HF rfl rfl ⟨by rw [show zipB nm = ((nm.extract 0 7).toList == (⟨#[46, 122, 100, 101, 98, 117, 103]⟩ : ByteArray).toList) from by simp [zipB]; try omega], rfl⟩

theorem zipped_any (nm : ByteArray) (w0 : World) : Calls Tryd.prog 54 #[.string nm] w0 fun e w' => e = .returned (.bool (zipB nm)) ∧ w' = w0 := by
  by_cases h : nm.size < 7
  · exact zipped_short nm h w0
  · exact zipped_long nm (by omega) w0

end Go.Proofs.YtdgehpocmfjbiaaDoor
