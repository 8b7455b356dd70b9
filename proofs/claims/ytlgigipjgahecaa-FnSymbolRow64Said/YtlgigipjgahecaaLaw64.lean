/- The walk of the law FnSymbolRow64. -/
import Derived.Test.YtlgigipjgahecaaLaw32
import Derived.Test.YtlgigipjgahecaaSym64
namespace Go.Proofs.Ytlgigipjgahecaa
open Go.RowKit
set_option linter.unusedVariables false

set_option maxRecDepth 100000 in
set_option maxHeartbeats 1000000 in
theorem walk_sym64 (big : Bool) (nm : ByteArray) (info other : Nat) (sec : Int) (value size name : Nat) (hi1 : info < 256) (ho1 : other < 256) (hs1 : -9223372036854775808 ≤ sec) (hs2 : sec ≤ 9223372036854775807) (hn4 : name < 4294967296) (hv : value < 256 ^ 8) (hz8 : size < 256 ^ 8) (w : World) :
    Calls Try.prog 11 #[.bool big, .agg #[.string nm, .int .u8 info, .int .u8 other, .int .i64 sec, .int .u64 value, .int .u64 size], .int .u32 name] w fun e w' => e = .returned (.bool true) ∧ Below w.heap.size w w' := by
  obtain ⟨nI, hnI⟩ : ∃ x : Int, (name : Int) = x := ⟨_, rfl⟩
  have hI0 : 0 ≤ nI := by omega
  have hI1 : nI ≤ 4294967295 := by omega
  rw [hnI]
  have HN := Lib.hid hnI
  have HN4 := Lib.hid hn4
  have HVS := Lib.hid (And.intro hv hz8)
  clear hv hz8
  clear hnI hn4
  by_cases hnm : nm.size ≤ 2147483647
  case neg =>
    have HS0 : Hid ((w.alloc (.cells #[.string nm, .int .u8 info, .int .u8 other, .int .i64 sec, .int .u64 value, .int .u64 size] 41)).heap[w.heap.size]? = some (.cells #[.string nm, .int .u8 info, .int .u8 other, .int .i64 sec, .int .u64 value, .int .u64 size] 41 (0, 0))) := Lib.hid (heap_alloc_new w _)
    have HB0 : Hid (Below w.heap.size w (w.alloc (.cells #[.string nm, .int .u8 info, .int .u8 other, .int .i64 sec, .int .u64 value, .int .u64 size] 41))) := Lib.hid ((Below.refl _ _).alloc (Nat.le_refl _) _)
    have hz := zzFits7_any nm (.int .u8 info) (.int .u8 other) (.int .i64 sec) (.int .u64 value) (.int .u64 size) (w.alloc (.cells #[.string nm, .int .u8 info, .int .u8 other, .int .i64 sec, .int .u64 value, .int .u64 size] 41))
    rw [show decide (nm.size ≤ 2147483647) = false by simpa using hnm] at hz
    have HZ := Lib.hid hz
    clear hz
    go_enter Try.func11, Try.ntmps11
    go_wp2_with fail
    refine HZ.out.mono ?_
    rintro e w1 ⟨rfl, hb1⟩
    have HS1 := Lib.hid (obj_step HS0.out hb1)
    have HB1 : Hid (Below w.heap.size w w1) := Lib.hid (HB0.out.trans (hb1.mono HB0.out.size))
    clear hb1 HS0 HB0 HZ
    go_wp2
    go_ret
    exact ⟨rfl, HB1.out⟩
  case pos =>
    have HS0 : Hid ((w.alloc (.cells #[.string nm, .int .u8 info, .int .u8 other, .int .i64 sec, .int .u64 value, .int .u64 size] 41)).heap[w.heap.size]? = some (.cells #[.string nm, .int .u8 info, .int .u8 other, .int .i64 sec, .int .u64 value, .int .u64 size] 41 (0, 0))) := Lib.hid (heap_alloc_new w _)
    have HB0 : Hid (Below w.heap.size w (w.alloc (.cells #[.string nm, .int .u8 info, .int .u8 other, .int .i64 sec, .int .u64 value, .int .u64 size] 41))) := Lib.hid ((Below.refl _ _).alloc (Nat.le_refl _) _)
    have hz := zzFits7_any nm (.int .u8 info) (.int .u8 other) (.int .i64 sec) (.int .u64 value) (.int .u64 size) (w.alloc (.cells #[.string nm, .int .u8 info, .int .u8 other, .int .i64 sec, .int .u64 value, .int .u64 size] 41))
    rw [show decide (nm.size ≤ 2147483647) = true by simpa using hnm] at hz
    have HZ := Lib.hid hz
    clear hz
    go_enter Try.func11, Try.ntmps11
    go_wp2_with fail
    refine HZ.out.mono ?_
    rintro e w1 ⟨rfl, hb1⟩
    have HS1 := Lib.hid (obj_step HS0.out hb1)
    have HB1 : Hid (Below w.heap.size w w1) := Lib.hid (HB0.out.trans (hb1.mono HB0.out.size))
    clear hb1 HS0 HB0 HZ
    have hlt1 := obj_lt HS1.out
    have HX2 : Hid ((w1.alloc (.cells #[.bool true, .bool big, .int .u8 0, .int .u8 0, .int .i64 0, .int .i64 0, .int .u64 0, .slice none 0 0, .slice none 0 0] 46)).heap[w1.heap.size]? = some (.cells #[.bool true, .bool big, .int .u8 0, .int .u8 0, .int .i64 0, .int .i64 0, .int .u64 0, .slice none 0 0, .slice none 0 0] 46 (0, 0))) := Lib.hid (heap_alloc_new w1 _)
    have HS2 : Hid ((w1.alloc (.cells #[.bool true, .bool big, .int .u8 0, .int .u8 0, .int .i64 0, .int .i64 0, .int .u64 0, .slice none 0 0, .slice none 0 0] 46)).heap[w.heap.size]? = some (.cells #[.string nm, .int .u8 info, .int .u8 other, .int .i64 sec, .int .u64 value, .int .u64 size] 41 (0, 0))) := Lib.hid ((Below.heap_alloc _ _ _ hlt1).trans HS1.out)
    have HB2 : Hid (Below w.heap.size w (w1.alloc (.cells #[.bool true, .bool big, .int .u8 0, .int .u8 0, .int .i64 0, .int .i64 0, .int .u64 0, .slice none 0 0, .slice none 0 0] 46))) := Lib.hid (HB1.out.alloc HB1.out.size _)
    obtain ⟨s1_0, s1_1, s1_2, s1_3, s1_4, s1_5⟩ := cells6 HS1.out
    obtain ⟨s2_0, s2_1, s2_2, s2_3, s2_4, s2_5⟩ := cells6 HS2.out
    obtain ⟨x2_0, x2_1, x2_2, x2_3, x2_4, x2_5, x2_6, x2_7, x2_8⟩ := cells9 HX2.out
    have HS4 := HS2
    have HB4 := HB2
    by_cases hn0 : sec < 0
    · go_wp2
      go_ret
      exact ⟨rfl, HB4.out⟩
    by_cases hn1 : 65535 < sec
    · go_wp2
      go_ret
      exact ⟨rfl, HB4.out⟩
    obtain ⟨sc, hsc⟩ : ∃ n : Nat, sec = (n : Int) := ⟨sec.toNat, by omega⟩
    have HSC := Lib.hid hsc
    clear hsc
    have hst := symbolRow_wide big (.int .u8 0) (.int .u8 0) (.int .i64 0) (.int .i64 0) (.int .u64 0) (.slice none 0 0) (.slice none 0 0) name info other sc value size nm (by have := HN4.out; omega) hi1 ho1 (by have := HSC.out; omega) (w1.alloc (.cells #[.bool true, .bool big, .int .u8 0, .int .u8 0, .int .i64 0, .int .i64 0, .int .u64 0, .slice none 0 0, .slice none 0 0] 46))
    rw [HN.out, ← HSC.out] at hst
    have HST := Lib.hid hst
    clear hst
    go_wp2_with fail
    refine HST.out.mono ?_
    rintro e w5 ⟨v, rfl, ho, hb5⟩
    rw [symB64_length] at ho
    obtain ⟨A, c, rfl, hc, hr, -⟩ := own_form ho
    have HS5 := Lib.hid (obj_step HS4.out hb5)
    have HB5 : Hid (Below w.heap.size w w5) := Lib.hid (HB4.out.trans (hb5.mono HB4.out.size))
    have hq := symRow64_any big (symB true big name info other sc value size) A 24 c (by omega) (by rw [symB64_length]) (by omega) w5 hr
    have e1 := symB64_name (big := big) (name := name) (info := info) (other := other) (sec := sc) (value := value) (size := size) (by have := HN4.out; omega)
    have e2 := symB64_value (big := big) (name := name) (info := info) (other := other) (sec := sc) (value := value) (size := size) HVS.out.1
    have e3 := symB64_size (big := big) (name := name) (info := info) (other := other) (sec := sc) (value := value) (size := size) HVS.out.2
    have e4 := symB64_sec (big := big) (name := name) (info := info) (other := other) (sec := sc) (value := value) (size := size) (by have := HSC.out; omega)
    have e5 := symB64_info (big := big) (name := name) (info := info) (other := other) (sec := sc) (value := value) (size := size)
    have e6 := symB64_other (big := big) (name := name) (info := info) (other := other) (sec := sc) (value := value) (size := size)
    rw [e1, e2, e3, e4, e5, e6] at hq
    clear e1 e2 e3 e4 e5 e6
    rw [HN.out, ← HSC.out] at hq
    unfold Bv at hq
    rw [UInt8.toNat_ofNat', UInt8.toNat_ofNat', Nat.mod_eq_of_lt hi1, Nat.mod_eq_of_lt ho1] at hq
    have HQ := Lib.hid hq
    clear hq hr hc ho hb5 HST HX2 HS4 HB4 HS2 HB2 HS1 HB1 HVS s1_0 s1_1 s1_2 s1_3 s1_4 s1_5 s2_0 s2_1 s2_2 s2_3 s2_4 s2_5 x2_0 x2_1 x2_2 x2_3 x2_4 x2_5 x2_6 x2_7 x2_8
    go_wp2_with fail
    refine HQ.out.mono ?_
    rintro e w6 ⟨rfl, hb6⟩
    have HS6 := Lib.hid (obj_step HS5.out hb6)
    have HB6 : Hid (Below w.heap.size w w6) := Lib.hid (HB5.out.trans (hb6.mono HB5.out.size))
    clear hb6 HQ HS5 HB5
    have HS7 : Hid ((w6.alloc (.cells #[.string ⟨#[]⟩, .int .u8 info, .int .u8 other, .int .i64 sec, .int .u64 value, .int .u64 size] 41)).heap[w.heap.size]? = some (.cells #[.string nm, .int .u8 info, .int .u8 other, .int .i64 sec, .int .u64 value, .int .u64 size] 41 (0, 0))) := Lib.hid ((Below.heap_alloc _ _ _ (obj_lt HS6.out)).trans HS6.out)
    have HG7 : Hid ((w6.alloc (.cells #[.string ⟨#[]⟩, .int .u8 info, .int .u8 other, .int .i64 sec, .int .u64 value, .int .u64 size] 41)).heap[w6.heap.size]? = some (.cells #[.string ⟨#[]⟩, .int .u8 info, .int .u8 other, .int .i64 sec, .int .u64 value, .int .u64 size] 41 (0, 0))) := Lib.hid (heap_alloc_new w6 _)
    have hne : ¬ w6.heap.size = w.heap.size := by have := obj_lt HS6.out; omega
    have HS8 : Hid (((w6.alloc (.cells #[.string ⟨#[]⟩, .int .u8 info, .int .u8 other, .int .i64 sec, .int .u64 value, .int .u64 size] 41)).setCell ⟨w.heap.size, 0, none⟩ (.string ⟨#[]⟩)).heap[w.heap.size]? = some (.cells #[.string ⟨#[]⟩, .int .u8 info, .int .u8 other, .int .i64 sec, .int .u64 value, .int .u64 size] 41 (0, 0))) := Lib.hid (obj_set HS7.out 0 _)
    have HG8 : Hid (((w6.alloc (.cells #[.string ⟨#[]⟩, .int .u8 info, .int .u8 other, .int .i64 sec, .int .u64 value, .int .u64 size] 41)).setCell ⟨w.heap.size, 0, none⟩ (.string ⟨#[]⟩)).heap[w6.heap.size]? = some (.cells #[.string ⟨#[]⟩, .int .u8 info, .int .u8 other, .int .i64 sec, .int .u64 value, .int .u64 size] 41 (0, 0))) := Lib.hid ((Below.heap_setCell _ _ _ _ hne).trans HG7.out)
    have HB8 : Hid (Below w.heap.size w ((w6.alloc (.cells #[.string ⟨#[]⟩, .int .u8 info, .int .u8 other, .int .i64 sec, .int .u64 value, .int .u64 size] 41)).setCell ⟨w.heap.size, 0, none⟩ (.string ⟨#[]⟩))) := Lib.hid ((HB6.out.alloc HB6.out.size _).setCell (Nat.le_refl _) _)
    clear hne HS6 HB6
    have s7_0 : (w6.alloc (.cells #[.string ⟨#[]⟩, .int .u8 info, .int .u8 other, .int .i64 sec, .int .u64 value, .int .u64 size] 41)).cell? ⟨w.heap.size, 0, none⟩ = some (.string nm) := obj_cell HS7.out 0
    have s7_f := obj_free HS7.out 0
    obtain ⟨s8_0, s8_1, s8_2, s8_3, s8_4, s8_5⟩ := cells6 HS8.out
    obtain ⟨g8_0, g8_1, g8_2, g8_3, g8_4, g8_5⟩ := cells6 HG8.out
    go_wp2_with fail
    go_ret
    exact ⟨rfl, HB8.out⟩
end Go.Proofs.Ytlgigipjgahecaa
