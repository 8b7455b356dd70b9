/- The walk of the law FnSymbolRow32. -/
import Derived.Test.YtlgigipjgahecaaRead
import Derived.Test.YtlgigipjgahecaaSym32
namespace Go.Proofs.Ytlgigipjgahecaa
open Go.RowKit
set_option linter.unusedVariables false

theorem cells9 {w : World} {b : Nat} {T : TypeId} {a0 a1 a2 a3 a4 a5 a6 a7 a8 : Value} (h : w.heap[b]? = some (.cells #[a0, a1, a2, a3, a4, a5, a6, a7, a8] T (0, 0))) :
    w.cell? ⟨b, 0, none⟩ = some a0 ∧ w.cell? ⟨b, 1, none⟩ = some a1 ∧ w.cell? ⟨b, 2, none⟩ = some a2 ∧ w.cell? ⟨b, 3, none⟩ = some a3 ∧ w.cell? ⟨b, 4, none⟩ = some a4 ∧ w.cell? ⟨b, 5, none⟩ = some a5 ∧ w.cell? ⟨b, 6, none⟩ = some a6 ∧ w.cell? ⟨b, 7, none⟩ = some a7 ∧ w.cell? ⟨b, 8, none⟩ = some a8 :=
  ⟨obj_cell h 0, obj_cell h 1, obj_cell h 2, obj_cell h 3, obj_cell h 4, obj_cell h 5, obj_cell h 6, obj_cell h 7, obj_cell h 8⟩

set_option maxRecDepth 100000 in
set_option maxHeartbeats 1000000 in
theorem walk_sym32 (big : Bool) (nm : ByteArray) (info other : Nat) (sec : Int) (value size name : Nat) (hi1 : info < 256) (ho1 : other < 256) (hs1 : -9223372036854775808 ≤ sec) (hs2 : sec ≤ 9223372036854775807) (hn4 : name < 4294967296) (w : World) :
    Calls Try.prog 10 #[.bool big, .agg #[.string nm, .int .u8 info, .int .u8 other, .int .i64 sec, .int .u64 value, .int .u64 size], .int .u32 name] w fun e w' => e = .returned (.bool true) ∧ Below w.heap.size w w' := by
  obtain ⟨nI, hnI⟩ : ∃ x : Int, (name : Int) = x := ⟨_, rfl⟩
  have hI0 : 0 ≤ nI := by omega
  have hI1 : nI ≤ 4294967295 := by omega
  rw [hnI]
  have HN := Lib.hid hnI
  have HN4 := Lib.hid hn4
  clear hnI hn4
  by_cases hnm : nm.size ≤ 2147483647
  case neg =>
    have HS0 : Hid ((w.alloc (.cells #[.string nm, .int .u8 info, .int .u8 other, .int .i64 sec, .int .u64 value, .int .u64 size] 41)).heap[w.heap.size]? = some (.cells #[.string nm, .int .u8 info, .int .u8 other, .int .i64 sec, .int .u64 value, .int .u64 size] 41 (0, 0))) := Lib.hid (heap_alloc_new w _)
    have HB0 : Hid (Below w.heap.size w (w.alloc (.cells #[.string nm, .int .u8 info, .int .u8 other, .int .i64 sec, .int .u64 value, .int .u64 size] 41))) := Lib.hid ((Below.refl _ _).alloc (Nat.le_refl _) _)
    have hz := zzFits7_any nm (.int .u8 info) (.int .u8 other) (.int .i64 sec) (.int .u64 value) (.int .u64 size) (w.alloc (.cells #[.string nm, .int .u8 info, .int .u8 other, .int .i64 sec, .int .u64 value, .int .u64 size] 41))
    rw [show decide (nm.size ≤ 2147483647) = false by simpa using hnm] at hz
    have HZ := Lib.hid hz
    clear hz
    go_enter Try.func10, Try.ntmps10
    go_wp2_with fail
    refine HZ.out.mono ?_
    rintro e w1 ⟨rfl, hb1⟩
    have HS1 := Lib.hid (obj_step HS0.out hb1)
    have HB1 : Hid (Below w.heap.size w w1) := Lib.hid (HB0.out.trans (hb1.mono HB0.out.size))
    clear hb1 HS0 HB0 HZ
    go_wp2
    go_ret
    exact ⟨rfl, HB1.out⟩
  case pos =>
    have HS0 : Hid ((w.alloc (.cells #[.string nm, .int .u8 info, .int .u8 other, .int .i64 sec, .int .u64 value, .int .u64 size] 41)).heap[w.heap.size]? = some (.cells #[.string nm, .int .u8 info, .int .u8 other, .int .i64 sec, .int .u64 value, .int .u64 size] 41 (0, 0))) := Lib.hid (heap_alloc_new w _)
    have HB0 : Hid (Below w.heap.size w (w.alloc (.cells #[.string nm, .int .u8 info, .int .u8 other, .int .i64 sec, .int .u64 value, .int .u64 size] 41))) := Lib.hid ((Below.refl _ _).alloc (Nat.le_refl _) _)
    have hz := zzFits7_any nm (.int .u8 info) (.int .u8 other) (.int .i64 sec) (.int .u64 value) (.int .u64 size) (w.alloc (.cells #[.string nm, .int .u8 info, .int .u8 other, .int .i64 sec, .int .u64 value, .int .u64 size] 41))
    rw [show decide (nm.size ≤ 2147483647) = true by simpa using hnm] at hz
    have HZ := Lib.hid hz
    clear hz
    go_enter Try.func10, Try.ntmps10
    go_wp2_with fail
    refine HZ.out.mono ?_
    rintro e w1 ⟨rfl, hb1⟩
    have HS1 := Lib.hid (obj_step HS0.out hb1)
    have HB1 : Hid (Below w.heap.size w w1) := Lib.hid (HB0.out.trans (hb1.mono HB0.out.size))
    clear hb1 HS0 HB0 HZ
    have hlt1 := obj_lt HS1.out
    have HX2 : Hid ((w1.alloc (.cells #[.bool false, .bool big, .int .u8 0, .int .u8 0, .int .i64 0, .int .i64 0, .int .u64 0, .slice none 0 0, .slice none 0 0] 46)).heap[w1.heap.size]? = some (.cells #[.bool false, .bool big, .int .u8 0, .int .u8 0, .int .i64 0, .int .i64 0, .int .u64 0, .slice none 0 0, .slice none 0 0] 46 (0, 0))) := Lib.hid (heap_alloc_new w1 _)
    have HS2 : Hid ((w1.alloc (.cells #[.bool false, .bool big, .int .u8 0, .int .u8 0, .int .i64 0, .int .i64 0, .int .u64 0, .slice none 0 0, .slice none 0 0] 46)).heap[w.heap.size]? = some (.cells #[.string nm, .int .u8 info, .int .u8 other, .int .i64 sec, .int .u64 value, .int .u64 size] 41 (0, 0))) := Lib.hid ((Below.heap_alloc _ _ _ hlt1).trans HS1.out)
    have HX3 : Hid (((w1.alloc (.cells #[.bool false, .bool big, .int .u8 0, .int .u8 0, .int .i64 0, .int .i64 0, .int .u64 0, .slice none 0 0, .slice none 0 0] 46)).alloc (.cells #[.int .u64 value, .int .u64 size] 30)).heap[w1.heap.size]? = some (.cells #[.bool false, .bool big, .int .u8 0, .int .u8 0, .int .i64 0, .int .i64 0, .int .u64 0, .slice none 0 0, .slice none 0 0] 46 (0, 0))) := Lib.hid ((Below.heap_alloc _ _ _ (obj_lt HX2.out)).trans HX2.out)
    have HS3 : Hid (((w1.alloc (.cells #[.bool false, .bool big, .int .u8 0, .int .u8 0, .int .i64 0, .int .i64 0, .int .u64 0, .slice none 0 0, .slice none 0 0] 46)).alloc (.cells #[.int .u64 value, .int .u64 size] 30)).heap[w.heap.size]? = some (.cells #[.string nm, .int .u8 info, .int .u8 other, .int .i64 sec, .int .u64 value, .int .u64 size] 41 (0, 0))) := Lib.hid ((Below.heap_alloc _ _ _ (obj_lt HS2.out)).trans HS2.out)
    have HB3 : Hid (Below w.heap.size w ((w1.alloc (.cells #[.bool false, .bool big, .int .u8 0, .int .u8 0, .int .i64 0, .int .i64 0, .int .u64 0, .slice none 0 0, .slice none 0 0] 46)).alloc (.cells #[.int .u64 value, .int .u64 size] 30))) := Lib.hid ((HB1.out.alloc HB1.out.size _).alloc (by have := HB1.out.size; simp; omega) _)
    have hrw : Row ((w1.alloc (.cells #[.bool false, .bool big, .int .u8 0, .int .u8 0, .int .i64 0, .int .i64 0, .int .u64 0, .slice none 0 0, .slice none 0 0] 46)).alloc (.cells #[.int .u64 value, .int .u64 size] 30)) (some ⟨w1.heap.size + 1, 0, none⟩) ([value, size].map fun (n : Nat) => Value.int .u64 (n : Int)) := by
      have := row_new2 (w1.alloc (.cells #[.bool false, .bool big, .int .u8 0, .int .u8 0, .int .i64 0, .int .i64 0, .int .u64 0, .slice none 0 0, .slice none 0 0] 46)) (.int .u64 value) (.int .u64 size) 30
      simpa using this
    have HR3 := Lib.hid hrw
    obtain ⟨s1_0, s1_1, s1_2, s1_3, s1_4, s1_5⟩ := cells6 HS1.out
    obtain ⟨s2_0, s2_1, s2_2, s2_3, s2_4, s2_5⟩ := cells6 HS2.out
    clear hrw
    have hf := fits_any false (.bool big) (.int .u8 0) (.int .u8 0) (.int .i64 0) (.int .i64 0) (.int .u64 0) (.slice none 0 0) (.slice none 0 0) [value, size] (some ⟨w1.heap.size + 1, 0, none⟩) 2 2 rfl (by omega) _ HR3.out
    obtain ⟨fb, hfb⟩ : ∃ fb, fitsB false [value, size] = fb := ⟨_, rfl⟩
    rw [hfb] at hf
    have HF := Lib.hid hf
    have HFB := Lib.hid hfb
    clear hf hfb
    go_wp2_with fail
    refine HF.out.mono ?_
    rintro e w4 ⟨rfl, hb4⟩
    have HX4 := Lib.hid (obj_step HX3.out hb4)
    have HS4 := Lib.hid (obj_step HS3.out hb4)
    have HB4 : Hid (Below w.heap.size w w4) := Lib.hid (HB3.out.trans (hb4.mono HB3.out.size))
    clear hb4 HX3 HS3 HB3 HX2 HS2 HR3 HF HS1 HB1 s1_0 s1_1 s1_2 s1_3 s1_4 s1_5 s2_0 s2_1 s2_2 s2_3 s2_4 s2_5
    obtain ⟨s4_0, s4_1, s4_2, s4_3, s4_4, s4_5⟩ := cells6 HS4.out
    obtain ⟨x4_0, x4_1, x4_2, x4_3, x4_4, x4_5, x4_6, x4_7, x4_8⟩ := cells9 HX4.out
    cases fb with
    | false =>
      go_wp2
      go_ret
      exact ⟨rfl, HB4.out⟩
    | true =>
      by_cases hn0 : sec < 0
      · go_wp2
        go_ret
        exact ⟨rfl, HB4.out⟩
      by_cases hn1 : 65535 < sec
      · go_wp2
        go_ret
        exact ⟨rfl, HB4.out⟩
      obtain ⟨sc, hsc⟩ : ∃ n : Nat, sec = (n : Int) := ⟨sec.toNat, by omega⟩
      have HSC := Lib.hid hsc
      clear hsc
      have hvs : value < 256 ^ 4 ∧ size < 256 ^ 4 := by
        have := HFB.out
        simp [fitsB] at this
        omega
      have HVS := Lib.hid hvs
      clear hvs
      have hst := symbolRow_thin big (.int .u8 0) (.int .u8 0) (.int .i64 0) (.int .i64 0) (.int .u64 0) (.slice none 0 0) (.slice none 0 0) name info other sc value size nm (by have := HN4.out; omega) hi1 ho1 (by have := HSC.out; omega) w4
      rw [HN.out, ← HSC.out] at hst
      have HST := Lib.hid hst
      clear hst
      go_wp2_with fail
      refine HST.out.mono ?_
      rintro e w5 ⟨v, rfl, ho, hb5⟩
      rw [symB32_length] at ho
      obtain ⟨A, c, rfl, hc, hr, -⟩ := own_form ho
      have HS5 := Lib.hid (obj_step HS4.out hb5)
      have HB5 : Hid (Below w.heap.size w w5) := Lib.hid (HB4.out.trans (hb5.mono HB4.out.size))
      have hq := symRow32_any big (symB false big name info other sc value size) A 16 c (by omega) (by rw [symB32_length]) (by omega) w5 hr
      have e1 := symB32_name (big := big) (name := name) (info := info) (other := other) (sec := sc) (value := value) (size := size) (by have := HN4.out; omega)
      have e2 := symB32_value (big := big) (name := name) (info := info) (other := other) (sec := sc) (value := value) (size := size) HVS.out.1
      have e3 := symB32_size (big := big) (name := name) (info := info) (other := other) (sec := sc) (value := value) (size := size) HVS.out.2
      have e4 := symB32_sec (big := big) (name := name) (info := info) (other := other) (sec := sc) (value := value) (size := size) (by have := HSC.out; omega)
      have e5 := symB32_info (big := big) (name := name) (info := info) (other := other) (sec := sc) (value := value) (size := size)
      have e6 := symB32_other (big := big) (name := name) (info := info) (other := other) (sec := sc) (value := value) (size := size)
      rw [e1, e2, e3, e4, e5, e6] at hq
      clear e1 e2 e3 e4 e5 e6
      rw [HN.out, ← HSC.out] at hq
      unfold Bv at hq
      rw [UInt8.toNat_ofNat', UInt8.toNat_ofNat', Nat.mod_eq_of_lt hi1, Nat.mod_eq_of_lt ho1] at hq
      have HQ := Lib.hid hq
      clear hq hr hc ho hb5 HST HX4 HS4 HB4 HFB HVS s4_0 s4_1 s4_2 s4_3 s4_4 s4_5 x4_0 x4_1 x4_2 x4_3 x4_4 x4_5 x4_6 x4_7 x4_8
      go_wp2_with fail
      refine HQ.out.mono ?_
      rintro e w6 ⟨rfl, hb6⟩
      have HS6 := Lib.hid (obj_step HS5.out hb6)
      have HB6 : Hid (Below w.heap.size w w6) := Lib.hid (HB5.out.trans (hb6.mono HB5.out.size))
      clear hb6 HQ HS5 HB5
      have HS7 : Hid ((w6.alloc (.cells #[.string ⟨#[]⟩, .int .u8 info, .int .u8 other, .int .i64 sec, .int .u64 value, .int .u64 size] 41)).heap[w.heap.size]? = some (.cells #[.string nm, .int .u8 info, .int .u8 other, .int .i64 sec, .int .u64 value, .int .u64 size] 41 (0, 0))) := Lib.hid ((Below.heap_alloc _ _ _ (obj_lt HS6.out)).trans HS6.out)
      have HG7 : Hid ((w6.alloc (.cells #[.string ⟨#[]⟩, .int .u8 info, .int .u8 other, .int .i64 sec, .int .u64 value, .int .u64 size] 41)).heap[w6.heap.size]? = some (.cells #[.string ⟨#[]⟩, .int .u8 info, .int .u8 other, .int .i64 sec, .int .u64 value, .int .u64 size] 41 (0, 0))) := Lib.hid (heap_alloc_new w6 _)
      have hne : ¬ w6.heap.size = w.heap.size := by have := obj_lt HS6.out; omega
      have HS8 : Hid (((w6.alloc (.cells #[.string ⟨#[]⟩, .int .u8 info, .int .u8 other, .int .i64 sec, .int .u64 value, .int .u64 size] 41)).setCell ⟨w.heap.size, 0, none⟩ (.string ⟨#[]⟩)).heap[w.heap.size]? = some (.cells #[.string ⟨#[]⟩, .int .u8 info, .int .u8 other, .int .i64 sec, .int .u64 value, .int .u64 size] 41 (0, 0))) := Lib.hid (obj_set HS7.out 0 _)
      have HG8 : Hid (((w6.alloc (.cells #[.string ⟨#[]⟩, .int .u8 info, .int .u8 other, .int .i64 sec, .int .u64 value, .int .u64 size] 41)).setCell ⟨w.heap.size, 0, none⟩ (.string ⟨#[]⟩)).heap[w6.heap.size]? = some (.cells #[.string ⟨#[]⟩, .int .u8 info, .int .u8 other, .int .i64 sec, .int .u64 value, .int .u64 size] 41 (0, 0))) := Lib.hid ((Below.heap_setCell _ _ _ _ hne).trans HG7.out)
      have HB8 : Hid (Below w.heap.size w ((w6.alloc (.cells #[.string ⟨#[]⟩, .int .u8 info, .int .u8 other, .int .i64 sec, .int .u64 value, .int .u64 size] 41)).setCell ⟨w.heap.size, 0, none⟩ (.string ⟨#[]⟩))) := Lib.hid ((HB6.out.alloc HB6.out.size _).setCell (Nat.le_refl _) _)
      clear hne HS6 HB6
      have s7_0 : (w6.alloc (.cells #[.string ⟨#[]⟩, .int .u8 info, .int .u8 other, .int .i64 sec, .int .u64 value, .int .u64 size] 41)).cell? ⟨w.heap.size, 0, none⟩ = some (.string nm) := obj_cell HS7.out 0
      have s7_f := obj_free HS7.out 0
      obtain ⟨s8_0, s8_1, s8_2, s8_3, s8_4, s8_5⟩ := cells6 HS8.out
      obtain ⟨g8_0, g8_1, g8_2, g8_3, g8_4, g8_5⟩ := cells6 HG8.out
      go_wp2_with fail
      go_ret
      exact ⟨rfl, HB8.out⟩
end Go.Proofs.Ytlgigipjgahecaa
