/- The contract of spec.SymbolRow: an entry of a table of symbols, laid out. -/
import Derived.Test.YtlgigipjgahecaaRowWords
namespace Go.Proofs.Ytlgigipjgahecaa
open Go.RowKit
set_option linter.unusedVariables false
set_option linter.unusedSimpArgs false
attribute [local go_sem ↓] Go.wp_at_zero Go.wp_at_succ

def symB (wide big : Bool) (name info other sec value size : Nat) : List UInt8 :=
  if wide then (((fixedB name 4 big ++ [UInt8.ofNat info, UInt8.ofNat other]) ++ fixedB sec 2 big) ++ fixedB value 8 big) ++ fixedB size 8 big
  else (((fixedB name 4 big ++ fixedB value 4 big) ++ fixedB size 4 big) ++ [UInt8.ofNat info, UInt8.ofNat other]) ++ fixedB sec 2 big

set_option maxRecDepth 100000 in
set_option maxHeartbeats 2000000 in
theorem symbolRow_wide (big : Bool) (x2 x3 x4 x5 x6 x7 x8 : Value) (name info other sec value size : Nat) (nm : ByteArray) (h1 : name ≤ 4294967295) (h2 : info < 256) (h3 : other < 256) (h4 : sec ≤ 65535) (w : World) :
    Calls Try.prog 28 #[.agg #[.bool true, .bool big, x2, x3, x4, x5, x6, x7, x8], .int .i64 name, .agg #[.string nm, .int .u8 info, .int .u8 other, .int .i64 sec, .int .u64 value, .int .u64 size]] w
      fun e w' => ∃ v, e = .returned v ∧ w'.ownsRow w.heap.size 5 1 v (symB true big name info other sec value size).length ((symB true big name info other sec value size).map Bv) ∧ Below w.heap.size w w' := by
  obtain ⟨i0, hi, hz0, hz1, hz2⟩ := info_parts info_u8
  obtain ⟨hX, hS, hR, hB⟩ := start3 w (.cells #[.bool true, .bool big, x2, x3, x4, x5, x6, x7, x8] 46) (.cells #[.string nm, .int .u8 info, .int .u8 other, .int .i64 sec, .int .u64 value, .int .u64 size] 41) true big
  have HX0 := Lib.hid hX
  have HS0 := Lib.hid hS
  have HR0 := Lib.hid hR
  have HB0 := Lib.hid hB
  clear hX hS hR hB
  go_enter Try.func28, Try.ntmps28
  go_wp2_with fail
  refine (put_any (w.heap.size + 1 + 1) name 4 big true _ (by omega) (by simp [fixedB_length, szOf] <;> omega) _ HR0.out).mono ?_
  rintro e w1 ⟨rfl, hr1, hb1⟩
  have HR1 := Lib.hid hr1
  have HX1 := Lib.hid (obj_below HX0.out hb1 (by omega))
  have HS1 := Lib.hid (obj_below HS0.out hb1 (by omega))
  have HB1 := Lib.hid (HB0.out.trans (hb1.mono (by omega)))
  clear hr1 hb1 HR0 HX0 HS0 HB0
  obtain ⟨x10, x11⟩ := cells2 HX1.out
  obtain ⟨s10, s11, s12, s13, s14, s15⟩ := cells6 HS1.out
  go_wp2_with fail
  obtain ⟨L, hL⟩ : ∃ L, L = [] ++ fixedB name (szOf true 4) big := ⟨_, rfl⟩
  rw [← hL] at HR1
  have HL : Hid (L.length ≤ 100) := Lib.hid (by rw [hL]; simp [fixedB_length, szOf])
  have HLE := Lib.hid hL
  clear hL
  go_cut [7] (fun s7 wx => s7 = .pointer (some ⟨w.heap.size + 1 + 1, 0, none⟩) ∧ RowObj wx (w.heap.size + 1 + 1) true big (L ++ [UInt8.ofNat info, UInt8.ofNat other]) ∧ Below (w.heap.size + 1 + 1) w1 wx)
  case first =>
    obtain ⟨v, ho, hown⟩ := HR1.out
    have c2 : w1.cell? ⟨w.heap.size + 1 + 1, 2, none⟩ = some v := obj_cell ho 2
    have cf : w1.frozen? ⟨w.heap.size + 1 + 1, 2, none⟩ = false := obj_free ho 2
    have hlt := obj_lt ho
    have hvg : v.ownBlock ≠ some (w.heap.size + 1 + 1) := by
      rcases hown.2 with ⟨rfl, _⟩ | ⟨g', cap, cur, rfl, hb, _⟩
      · simp [Value.ownBlock]
      · simp [Value.ownBlock]; omega
    have HO := Lib.hid ho
    have HW := Lib.hid hown
    have hrw := row_new2 w1 (.int .u8 info) (.int .u8 other) 5
    have hbw : [Value.int .u8 (info : Int), Value.int .u8 (other : Int)] = [UInt8.ofNat info, UInt8.ofNat other].map Bv := by simp [Bv_ofNat]; omega
    have HD1 : Hid (((w1.alloc (.cells #[.int .u8 info, .int .u8 other] 5)).drew).ownsRow (w.heap.size + 1 + 1 + 1) 5 1 v L.length (L.map Bv)) := Lib.hid (hown.alloc _).drew
    have HD2 : Hid (Row ((w1.alloc (.cells #[.int .u8 info, .int .u8 other] 5)).drew) (some ⟨w1.heap.size, 0, none⟩) ([UInt8.ofNat info, UInt8.ofNat other].map Bv)) := Lib.hid (by rw [← hbw]; exact hrw)
    have HD3 : Hid (L.length + 2 ≤ maxLen) := Lib.hid (by unfold maxLen; have := HL.out; omega)
    have HD4 : Hid ((L.length + 2) * 1 ≤ 140737488355328) := Lib.hid (by have := HL.out; omega)
    have HD5 : Hid (w.heap.size + 1 + 1 + 1 ≤ ((w1.alloc (.cells #[.int .u8 info, .int .u8 other] 5)).drew).heap.size) := Lib.hid (by simp; omega)
    have HD6 : Hid (w.heap.size + 1 + 1 < ((w1.alloc (.cells #[.int .u8 info, .int .u8 other] 5)).drew).heap.size) := Lib.hid (by simp; omega)
    have HD7 : Hid (((w1.alloc (.cells #[.int .u8 info, .int .u8 other] 5)).drew).heap[w.heap.size + 1 + 1]? = some (.cells #[.bool true, .bool big, v] 87 (0, 0))) := Lib.hid ((Below.heap_alloc w1 (.cells #[.int .u8 info, .int .u8 other] 5) _ hlt).trans ho)
    have HD8 : Hid (Below (w.heap.size + 1 + 1) w1 ((w1.alloc (.cells #[.int .u8 info, .int .u8 other] 5)).drew)) := Lib.hid (((Below.refl _ _).alloc (by omega) _).drew)
    have HD9 : Hid (∀ k, v.ownBlock = some k → w.heap.size + 1 + 1 ≤ k) := Lib.hid fun k hk => by
      rcases hown.2 with ⟨rfl, _⟩ | ⟨g', cap, cur, rfl, hb', _⟩
      · simp [Value.ownBlock] at hk
      · simp [Value.ownBlock] at hk; omega
    clear ho hown hrw hbw
    go_region_law (refine step_append_row _ (by rfl) _ _ _ (by rfl) (w.heap.size + 1 + 1 + 1) 5 i0 _ 1 1 Try.underlying36 hi hz0 hz1 hz2 rfl (by omega) v L.length (L.map Bv) (by rfl) HD1.out (some ⟨w1.heap.size, 0, none⟩) 2 2 ([UInt8.ofNat info, UInt8.ofNat other].map Bv) (by rfl) (by rfl) HD2.out (Bv_one _) HD3.out HD4.out HD5.out ?_; intro v2 w2 hown2 hgrow hat; obtain ⟨A2, cc2, rfl, hnc2, hrow2, hbase2⟩ := own_form hown2; have x2 : w2.cell? ⟨w.heap.size + 1 + 1, 2, none⟩ = some v := (hgrow.cell_far _ HD6.out (Ne.symm hvg)).trans (obj_cell HD7.out 2); have xf : w2.frozen? ⟨w.heap.size + 1 + 1, 2, none⟩ = false := (hgrow.frozen_far _ HD6.out (Ne.symm hvg)).trans (obj_free HD7.out 2); have HO2 := Lib.hid (obj_grown HD7.out hgrow (Ne.symm hvg)); have HBW := Lib.hid ((HD8.out.grown hgrow (Nat.le_of_lt HD6.out) HD9.out).setCell (p := ⟨w.heap.size + 1 + 1, 2, none⟩) (Nat.le_refl _) (.slice A2 (L.length + 2) cc2)))
    all_goals go_wp2_with fail
    all_goals go_meet
    all_goals case rel => exact ⟨rfl, put_close HO2.out hown2 (by rfl), HBW.out⟩
  case rest =>
    obtain ⟨rfl, hrc, hbc⟩ := hcut
    have HR2 := Lib.hid hrc
    have HX2 := Lib.hid (obj_below HX1.out hbc (by omega))
    have HS2 := Lib.hid (obj_below HS1.out hbc (by omega))
    have HB2 := Lib.hid (HB1.out.trans (hbc.mono (by omega)))
    clear hrc hbc HR1 HX1 HS1 HB1
    obtain ⟨x20, x21⟩ := cells2 HX2.out
    obtain ⟨s20, s21, s22, s23, s24, s25⟩ := cells6 HS2.out
    have hLL := HL.out
    go_wp2_with fail
    refine (put_any (w.heap.size + 1 + 1) sec 2 big true _ (by omega) (by simp [fixedB_length, szOf] <;> omega) _ HR2.out).mono ?_
    rintro e w3 ⟨rfl, hr3, hb3⟩
    have HR3 := Lib.hid hr3
    have HX3 := Lib.hid (obj_below HX2.out hb3 (by omega))
    have HS3 := Lib.hid (obj_below HS2.out hb3 (by omega))
    have HB3 := Lib.hid (HB2.out.trans (hb3.mono (by omega)))
    clear hr3 hb3 HR2 HX2 HS2 HB2
    obtain ⟨x30, x31⟩ := cells2 HX3.out
    obtain ⟨s30, s31, s32, s33, s34, s35⟩ := cells6 HS3.out
    go_wp2_with fail
    refine (put_any (w.heap.size + 1 + 1) value 8 big true _ (by omega) (by simp [fixedB_length, szOf] <;> omega) _ HR3.out).mono ?_
    rintro e w4 ⟨rfl, hr4, hb4⟩
    have HR4 := Lib.hid hr4
    have HX4 := Lib.hid (obj_below HX3.out hb4 (by omega))
    have HS4 := Lib.hid (obj_below HS3.out hb4 (by omega))
    have HB4 := Lib.hid (HB3.out.trans (hb4.mono (by omega)))
    clear hr4 hb4 HR3 HX3 HS3 HB3
    obtain ⟨x40, x41⟩ := cells2 HX4.out
    obtain ⟨s40, s41, s42, s43, s44, s45⟩ := cells6 HS4.out
    go_wp2_with fail
    refine (put_any (w.heap.size + 1 + 1) size 8 big true _ (by omega) (by simp [fixedB_length, szOf] <;> omega) _ HR4.out).mono ?_
    rintro e w5 ⟨rfl, hr5, hb5⟩
    have HR5 := Lib.hid hr5
    have HX5 := Lib.hid (obj_below HX4.out hb5 (by omega))
    have HS5 := Lib.hid (obj_below HS4.out hb5 (by omega))
    have HB5 := Lib.hid (HB4.out.trans (hb5.mono (by omega)))
    clear hr5 hb5 HR4 HX4 HS4 HB4
    obtain ⟨x50, x51⟩ := cells2 HX5.out
    obtain ⟨s50, s51, s52, s53, s54, s55⟩ := cells6 HS5.out
    obtain ⟨v, hv, hown⟩ := rowObj_end (w := w) HR5.out (by omega)
    have HE := Lib.hid hown
    clear hown
    go_wp2
    go_ret
    refine ⟨v, rfl, ?_, HB5.out⟩
    have := HE.out
    rw [HLE.out] at this
    simpa [symB, szOf] using this

set_option maxRecDepth 100000 in
set_option maxHeartbeats 2000000 in
theorem symbolRow_thin (big : Bool) (x2 x3 x4 x5 x6 x7 x8 : Value) (name info other sec value size : Nat) (nm : ByteArray) (h1 : name ≤ 4294967295) (h2 : info < 256) (h3 : other < 256) (h4 : sec ≤ 65535) (w : World) :
    Calls Try.prog 28 #[.agg #[.bool false, .bool big, x2, x3, x4, x5, x6, x7, x8], .int .i64 name, .agg #[.string nm, .int .u8 info, .int .u8 other, .int .i64 sec, .int .u64 value, .int .u64 size]] w
      fun e w' => ∃ v, e = .returned v ∧ w'.ownsRow w.heap.size 5 1 v (symB false big name info other sec value size).length ((symB false big name info other sec value size).map Bv) ∧ Below w.heap.size w w' := by
  obtain ⟨i0, hi, hz0, hz1, hz2⟩ := info_parts info_u8
  obtain ⟨hX, hS, hR, hB⟩ := start3 w (.cells #[.bool false, .bool big, x2, x3, x4, x5, x6, x7, x8] 46) (.cells #[.string nm, .int .u8 info, .int .u8 other, .int .i64 sec, .int .u64 value, .int .u64 size] 41) false big
  have HX0 := Lib.hid hX
  have HS0 := Lib.hid hS
  have HR0 := Lib.hid hR
  have HB0 := Lib.hid hB
  clear hX hS hR hB
  go_enter Try.func28, Try.ntmps28
  go_wp2_with fail
  refine (put_any (w.heap.size + 1 + 1) name 4 big false _ (by omega) (by simp [fixedB_length, szOf] <;> omega) _ HR0.out).mono ?_
  rintro e w1 ⟨rfl, hr1, hb1⟩
  have HR1 := Lib.hid hr1
  have HX1 := Lib.hid (obj_below HX0.out hb1 (by omega))
  have HS1 := Lib.hid (obj_below HS0.out hb1 (by omega))
  have HB1 := Lib.hid (HB0.out.trans (hb1.mono (by omega)))
  clear hr1 hb1 HR0 HX0 HS0 HB0
  obtain ⟨x10, x11⟩ := cells2 HX1.out
  obtain ⟨s10, s11, s12, s13, s14, s15⟩ := cells6 HS1.out
  go_wp2_with fail
  refine (put_any (w.heap.size + 1 + 1) value 4 big false _ (by omega) (by simp [fixedB_length, szOf] <;> omega) _ HR1.out).mono ?_
  rintro e w2 ⟨rfl, hr2, hb2⟩
  have HR2 := Lib.hid hr2
  have HX2 := Lib.hid (obj_below HX1.out hb2 (by omega))
  have HS2 := Lib.hid (obj_below HS1.out hb2 (by omega))
  have HB2 := Lib.hid (HB1.out.trans (hb2.mono (by omega)))
  clear hr2 hb2 HR1 HX1 HS1 HB1
  obtain ⟨x20, x21⟩ := cells2 HX2.out
  obtain ⟨s20, s21, s22, s23, s24, s25⟩ := cells6 HS2.out
  go_wp2_with fail
  refine (put_any (w.heap.size + 1 + 1) size 4 big false _ (by omega) (by simp [fixedB_length, szOf] <;> omega) _ HR2.out).mono ?_
  rintro e w3 ⟨rfl, hr3, hb3⟩
  have HR3 := Lib.hid hr3
  have HX3 := Lib.hid (obj_below HX2.out hb3 (by omega))
  have HS3 := Lib.hid (obj_below HS2.out hb3 (by omega))
  have HB3 := Lib.hid (HB2.out.trans (hb3.mono (by omega)))
  clear hr3 hb3 HR2 HX2 HS2 HB2
  obtain ⟨x30, x31⟩ := cells2 HX3.out
  obtain ⟨s30, s31, s32, s33, s34, s35⟩ := cells6 HS3.out
  go_wp2_with fail
  obtain ⟨L, hL⟩ : ∃ L, L = [] ++ fixedB name (szOf false 4) big ++ fixedB value (szOf false 4) big ++ fixedB size (szOf false 4) big := ⟨_, rfl⟩
  rw [← hL] at HR3
  have HL : Hid (L.length ≤ 100) := Lib.hid (by rw [hL]; simp [fixedB_length, szOf])
  have HLE := Lib.hid hL
  clear hL
  go_cut [7] (fun s7 wx => s7 = .pointer (some ⟨w.heap.size + 1 + 1, 0, none⟩) ∧ RowObj wx (w.heap.size + 1 + 1) false big (L ++ [UInt8.ofNat info, UInt8.ofNat other]) ∧ Below (w.heap.size + 1 + 1) w3 wx)
  case first =>
    obtain ⟨v, ho, hown⟩ := HR3.out
    have c2 : w3.cell? ⟨w.heap.size + 1 + 1, 2, none⟩ = some v := obj_cell ho 2
    have cf : w3.frozen? ⟨w.heap.size + 1 + 1, 2, none⟩ = false := obj_free ho 2
    have hlt := obj_lt ho
    have hvg : v.ownBlock ≠ some (w.heap.size + 1 + 1) := by
      rcases hown.2 with ⟨rfl, _⟩ | ⟨g', cap, cur, rfl, hb, _⟩
      · simp [Value.ownBlock]
      · simp [Value.ownBlock]; omega
    have HO := Lib.hid ho
    have HW := Lib.hid hown
    have hrw := row_new2 w3 (.int .u8 info) (.int .u8 other) 5
    have hbw : [Value.int .u8 (info : Int), Value.int .u8 (other : Int)] = [UInt8.ofNat info, UInt8.ofNat other].map Bv := by simp [Bv_ofNat]; omega
    have HD1 : Hid (((w3.alloc (.cells #[.int .u8 info, .int .u8 other] 5)).drew).ownsRow (w.heap.size + 1 + 1 + 1) 5 1 v L.length (L.map Bv)) := Lib.hid (hown.alloc _).drew
    have HD2 : Hid (Row ((w3.alloc (.cells #[.int .u8 info, .int .u8 other] 5)).drew) (some ⟨w3.heap.size, 0, none⟩) ([UInt8.ofNat info, UInt8.ofNat other].map Bv)) := Lib.hid (by rw [← hbw]; exact hrw)
    have HD3 : Hid (L.length + 2 ≤ maxLen) := Lib.hid (by unfold maxLen; have := HL.out; omega)
    have HD4 : Hid ((L.length + 2) * 1 ≤ 140737488355328) := Lib.hid (by have := HL.out; omega)
    have HD5 : Hid (w.heap.size + 1 + 1 + 1 ≤ ((w3.alloc (.cells #[.int .u8 info, .int .u8 other] 5)).drew).heap.size) := Lib.hid (by simp; omega)
    have HD6 : Hid (w.heap.size + 1 + 1 < ((w3.alloc (.cells #[.int .u8 info, .int .u8 other] 5)).drew).heap.size) := Lib.hid (by simp; omega)
    have HD7 : Hid (((w3.alloc (.cells #[.int .u8 info, .int .u8 other] 5)).drew).heap[w.heap.size + 1 + 1]? = some (.cells #[.bool false, .bool big, v] 87 (0, 0))) := Lib.hid ((Below.heap_alloc w3 (.cells #[.int .u8 info, .int .u8 other] 5) _ hlt).trans ho)
    have HD8 : Hid (Below (w.heap.size + 1 + 1) w3 ((w3.alloc (.cells #[.int .u8 info, .int .u8 other] 5)).drew)) := Lib.hid (((Below.refl _ _).alloc (by omega) _).drew)
    have HD9 : Hid (∀ k, v.ownBlock = some k → w.heap.size + 1 + 1 ≤ k) := Lib.hid fun k hk => by
      rcases hown.2 with ⟨rfl, _⟩ | ⟨g', cap, cur, rfl, hb', _⟩
      · simp [Value.ownBlock] at hk
      · simp [Value.ownBlock] at hk; omega
    clear ho hown hrw hbw
    go_region_law (refine step_append_row _ (by rfl) _ _ _ (by rfl) (w.heap.size + 1 + 1 + 1) 5 i0 _ 1 1 Try.underlying36 hi hz0 hz1 hz2 rfl (by omega) v L.length (L.map Bv) (by rfl) HD1.out (some ⟨w3.heap.size, 0, none⟩) 2 2 ([UInt8.ofNat info, UInt8.ofNat other].map Bv) (by rfl) (by rfl) HD2.out (Bv_one _) HD3.out HD4.out HD5.out ?_; intro v2 w2 hown2 hgrow hat; obtain ⟨A2, cc2, rfl, hnc2, hrow2, hbase2⟩ := own_form hown2; have x2 : w2.cell? ⟨w.heap.size + 1 + 1, 2, none⟩ = some v := (hgrow.cell_far _ HD6.out (Ne.symm hvg)).trans (obj_cell HD7.out 2); have xf : w2.frozen? ⟨w.heap.size + 1 + 1, 2, none⟩ = false := (hgrow.frozen_far _ HD6.out (Ne.symm hvg)).trans (obj_free HD7.out 2); have HO2 := Lib.hid (obj_grown HD7.out hgrow (Ne.symm hvg)); have HBW := Lib.hid ((HD8.out.grown hgrow (Nat.le_of_lt HD6.out) HD9.out).setCell (p := ⟨w.heap.size + 1 + 1, 2, none⟩) (Nat.le_refl _) (.slice A2 (L.length + 2) cc2)))
    all_goals go_wp2_with fail
    all_goals go_meet
    all_goals case rel => exact ⟨rfl, put_close HO2.out hown2 (by rfl), HBW.out⟩
  case rest =>
    obtain ⟨rfl, hrc, hbc⟩ := hcut
    have HR4 := Lib.hid hrc
    have HX4 := Lib.hid (obj_below HX3.out hbc (by omega))
    have HS4 := Lib.hid (obj_below HS3.out hbc (by omega))
    have HB4 := Lib.hid (HB3.out.trans (hbc.mono (by omega)))
    clear hrc hbc HR3 HX3 HS3 HB3
    obtain ⟨x40, x41⟩ := cells2 HX4.out
    obtain ⟨s40, s41, s42, s43, s44, s45⟩ := cells6 HS4.out
    have hLL := HL.out
    go_wp2_with fail
    refine (put_any (w.heap.size + 1 + 1) sec 2 big false _ (by omega) (by simp [fixedB_length, szOf] <;> omega) _ HR4.out).mono ?_
    rintro e w5 ⟨rfl, hr5, hb5⟩
    have HR5 := Lib.hid hr5
    have HX5 := Lib.hid (obj_below HX4.out hb5 (by omega))
    have HS5 := Lib.hid (obj_below HS4.out hb5 (by omega))
    have HB5 := Lib.hid (HB4.out.trans (hb5.mono (by omega)))
    clear hr5 hb5 HR4 HX4 HS4 HB4
    obtain ⟨x50, x51⟩ := cells2 HX5.out
    obtain ⟨s50, s51, s52, s53, s54, s55⟩ := cells6 HS5.out
    obtain ⟨v, hv, hown⟩ := rowObj_end (w := w) HR5.out (by omega)
    have HE := Lib.hid hown
    clear hown
    go_wp2
    go_ret
    refine ⟨v, rfl, ?_, HB5.out⟩
    have := HE.out
    rw [HLE.out] at this
    simpa [symB, szOf] using this
end Go.Proofs.Ytlgigipjgahecaa
