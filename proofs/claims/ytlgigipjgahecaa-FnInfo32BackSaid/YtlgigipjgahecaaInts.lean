/- The walks of the laws on infos and visibility: each returns true at every input and leaves memory alone. -/
import Derived.Test.YtlgigipjgahecaaProg
import Derived.WalkKit
import Derived.WalkSpells
import Derived.WalkLawsBesides
import Derived.Laws.BitsAllLaws
import Derived.Lib.Hide
namespace Go.Proofs.Ytlgigipjgahecaa
open Go.RowKit
set_option linter.unusedVariables false

theorem and_u8_3 (a : Int) (h0 : 0 ≤ a) (h1 : a < 256) : bits .and .u8 a 3 = a % 4 := by
  rw [u8_and a 3 h0 h1 (by omega) (by omega)]
  have : a.toNat &&& (3 : Int).toNat = a.toNat % 4 := Nat.and_two_pow_sub_one_eq_mod _ 2
  rw [this]; omega
theorem and_u8_15 (a : Int) (h0 : 0 ≤ a) (h1 : a < 256) : bits .and .u8 a 15 = a % 16 := by
  rw [u8_and a 15 h0 h1 (by omega) (by omega)]
  have : a.toNat &&& (15 : Int).toNat = a.toNat % 16 := Nat.and_two_pow_sub_one_eq_mod _ 4
  rw [this]; omega
theorem and_u32_255 (a : Int) (h0 : 0 ≤ a) (h1 : a < 4294967296) : bits .and .u32 a 255 = a % 256 := by
  rw [u32_and a 255 h0 h1 (by omega) (by omega)]
  have : a.toNat &&& (255 : Int).toNat = a.toNat % 256 := Nat.and_two_pow_sub_one_eq_mod _ 8
  rw [this]; omega
theorem or_u32 (x y : Int) (h0 : 0 ≤ x) (h1 : x < 16777216) (h2 : 0 ≤ y) (h3 : y < 256) : bits .or .u32 (x * 256) y = x * 256 + y := by
  rw [u32_or _ y (by omega) (by omega) h2 (by omega), nat_join 8 _ _ (by omega) (by omega)]; omega
theorem or_u64 (x y : Int) (h0 : 0 ≤ x) (h1 : x < 4294967296) (h2 : 0 ≤ y) (h3 : y < 4294967296) : bits .or .u64 (x * 4294967296) y = x * 4294967296 + y := by
  rw [u64_or _ y (by omega) (by omega) h2 (by omega), nat_join 32 _ _ (by omega) (by omega)]; omega
theorem or_u8 (x y : Int) (h0 : 0 ≤ x) (h1 : x < 16) (h2 : 0 ≤ y) (h3 : y < 16) : bits .or .u8 (x * 16) y = x * 16 + y := by
  rw [u8_or _ y (by omega) (by omega) h2 (by omega), nat_join 4 _ _ (by omega) (by omega)]; omega

set_option maxHeartbeats 400000 in
theorem walk_visibility (a : Int) (h0 : 0 ≤ a) (h1 : a < 256) (w : World) :
    Calls Try.prog 3 #[.int .u8 a] w fun e w' => e = .returned (.bool true) ∧ w' = w := by
  have hb := and_u8_3 a h0 h1
  have hb1 : bits .and .u8 1 3 = 1 := by decide
  go_enter Try.func3, Try.ntmps3
  go_wp2
  go_ret
  exact ⟨rfl, rfl⟩

set_option maxHeartbeats 400000 in
theorem info32_any (s k : Int) (h0 : 0 ≤ s) (h1 : s < 16777216) (h2 : 0 ≤ k) (h3 : k < 256) (w : World) :
    Calls Try.prog 15 #[.int .u32 s, .int .u32 k] w fun e w' => e = .returned (.int .u32 (s * 256 + k)) ∧ w = w' := by
  have hb := or_u32 s k h0 h1 h2 h3
  go_enter Try.func15, Try.ntmps15
  go_wp2
  go_ret
  exact ⟨rfl, rfl⟩
set_option maxHeartbeats 400000 in
theorem symbol32_any (s : Int) (h0 : 0 ≤ s) (h1 : s < 4294967296) (w : World) :
    Calls Try.prog 16 #[.int .u32 s] w fun e w' => e = .returned (.int .u32 (s / 256)) ∧ w = w' := by
  go_enter Try.func16, Try.ntmps16
  go_wp2
  go_ret
  exact ⟨rfl, rfl⟩
set_option maxHeartbeats 400000 in
theorem type32_any (s : Int) (h0 : 0 ≤ s) (h1 : s < 4294967296) (w : World) :
    Calls Try.prog 17 #[.int .u32 s] w fun e w' => e = .returned (.int .u32 (s % 256)) ∧ w = w' := by
  have hb := and_u32_255 s h0 h1
  go_enter Try.func17, Try.ntmps17
  go_wp2
  go_ret
  exact ⟨rfl, rfl⟩
set_option maxHeartbeats 400000 in
theorem info64_any (s k : Int) (h0 : 0 ≤ s) (h1 : s < 4294967296) (h2 : 0 ≤ k) (h3 : k < 4294967296) (w : World) :
    Calls Try.prog 18 #[.int .u32 s, .int .u32 k] w fun e w' => e = .returned (.int .u64 (s * 4294967296 + k)) ∧ w = w' := by
  have hb := or_u64 s k h0 h1 h2 h3
  go_enter Try.func18, Try.ntmps18
  go_wp2
  go_ret
  exact ⟨rfl, rfl⟩
set_option maxHeartbeats 400000 in
theorem symbol64_any (s : Int) (h0 : 0 ≤ s) (h1 : s < 18446744073709551616) (w : World) :
    Calls Try.prog 19 #[.int .u64 s] w fun e w' => e = .returned (.int .u32 (s / 4294967296)) ∧ w = w' := by
  go_enter Try.func19, Try.ntmps19
  go_wp2
  go_ret
  exact ⟨rfl, rfl⟩
set_option maxHeartbeats 400000 in
theorem type64_any (s : Int) (h0 : 0 ≤ s) (h1 : s < 18446744073709551616) (w : World) :
    Calls Try.prog 20 #[.int .u64 s] w fun e w' => e = .returned (.int .u32 (s % 4294967296)) ∧ w = w' := by
  go_enter Try.func20, Try.ntmps20
  go_wp2
  go_ret
  exact ⟨rfl, rfl⟩
set_option maxHeartbeats 400000 in
theorem symbolInfo_any (s k : Int) (h0 : 0 ≤ s) (h1 : s < 16) (h2 : 0 ≤ k) (h3 : k < 16) (w : World) :
    Calls Try.prog 21 #[.int .i64 s, .int .i64 k] w fun e w' => e = .returned (.int .u8 (s * 16 + k)) ∧ w = w' := by
  have hb := or_u8 s k h0 h1 h2 h3
  have hc : bits .and .u8 k 15 = k := by rw [and_u8_15 k h2 (by omega)]; omega
  go_enter Try.func21, Try.ntmps21
  go_wp2
  go_ret
  exact ⟨rfl, rfl⟩
set_option maxHeartbeats 400000 in
theorem bind_any (s : Int) (h0 : 0 ≤ s) (h1 : s < 256) (w : World) :
    Calls Try.prog 22 #[.int .u8 s] w fun e w' => e = .returned (.int .i64 (s / 16)) ∧ w = w' := by
  go_enter Try.func22, Try.ntmps22
  go_wp2
  go_ret
  exact ⟨rfl, rfl⟩
set_option maxHeartbeats 400000 in
theorem kind_any (s : Int) (h0 : 0 ≤ s) (h1 : s < 256) (w : World) :
    Calls Try.prog 23 #[.int .u8 s] w fun e w' => e = .returned (.int .i64 (s % 16)) ∧ w = w' := by
  have hb := and_u8_15 s h0 h1
  go_enter Try.func23, Try.ntmps23
  go_wp2
  go_ret
  exact ⟨rfl, rfl⟩

set_option maxHeartbeats 400000 in
theorem walk_info32 (s k : Int) (h0 : 0 ≤ s) (h1 : s < 4294967296) (h2 : 0 ≤ k) (h3 : k < 4294967296) (w : World) :
    Calls Try.prog 4 #[.int .u32 s, .int .u32 k] w fun e w' => e = .returned (.bool true) ∧ w' = w := by
  by_cases c1 : s < 16777216
  · by_cases c2 : k < 256
    · have hb := or_u32 s k h0 c1 h2 c2
      have e1 : ((s * 256 + k) / 256 == s) = true := by rw [beq_iff_eq]; omega
      have e2 : ((s * 256 + k) % 256 == k) = true := by rw [beq_iff_eq]; omega
      go_enter Try.func4, Try.ntmps4
      go_wp2_with (first | (go_at_call 15; refine (info32_any _ _ (by omega) (by omega) (by omega) (by omega) _).mono ?_; rintro e w' ⟨rfl, rfl⟩) | (go_at_call 16; refine (symbol32_any _ (by omega) (by omega) _).mono ?_; rintro e w' ⟨rfl, rfl⟩) | (go_at_call 17; refine (type32_any _ (by omega) (by omega) _).mono ?_; rintro e w' ⟨rfl, rfl⟩))
      go_ret
      exact ⟨rfl, rfl⟩
    · go_enter Try.func4, Try.ntmps4
      go_wp2
      go_ret
      exact ⟨rfl, rfl⟩
  · go_enter Try.func4, Try.ntmps4
    go_wp2
    go_ret
    exact ⟨rfl, rfl⟩
set_option maxHeartbeats 400000 in
theorem walk_info32back (s : Int) (h0 : 0 ≤ s) (h1 : s < 4294967296) (w : World) :
    Calls Try.prog 5 #[.int .u32 s] w fun e w' => e = .returned (.bool true) ∧ w' = w := by
  have e1 : (s / 256 * 256 + s % 256 == s) = true := by rw [beq_iff_eq]; omega
  go_enter Try.func5, Try.ntmps5
  go_wp2_with (first | (go_at_call 15; refine (info32_any _ _ (by omega) (by omega) (by omega) (by omega) _).mono ?_; rintro e w' ⟨rfl, rfl⟩) | (go_at_call 16; refine (symbol32_any _ (by omega) (by omega) _).mono ?_; rintro e w' ⟨rfl, rfl⟩) | (go_at_call 17; refine (type32_any _ (by omega) (by omega) _).mono ?_; rintro e w' ⟨rfl, rfl⟩))
  go_ret
  exact ⟨rfl, rfl⟩
set_option maxHeartbeats 400000 in
theorem walk_info64 (s k : Int) (h0 : 0 ≤ s) (h1 : s < 4294967296) (h2 : 0 ≤ k) (h3 : k < 4294967296) (w : World) :
    Calls Try.prog 6 #[.int .u32 s, .int .u32 k] w fun e w' => e = .returned (.bool true) ∧ w' = w := by
  have hb := or_u64 s k h0 h1 h2 h3
  have e1 : ((s * 4294967296 + k) / 4294967296 == s) = true := by rw [beq_iff_eq]; omega
  have e2 : ((s * 4294967296 + k) % 4294967296 == k) = true := by rw [beq_iff_eq]; omega
  go_enter Try.func6, Try.ntmps6
  go_wp2_with (first | (go_at_call 18; refine (info64_any _ _ (by omega) (by omega) (by omega) (by omega) _).mono ?_; rintro e w' ⟨rfl, rfl⟩) | (go_at_call 19; refine (symbol64_any _ (by omega) (by omega) _).mono ?_; rintro e w' ⟨rfl, rfl⟩) | (go_at_call 20; refine (type64_any _ (by omega) (by omega) _).mono ?_; rintro e w' ⟨rfl, rfl⟩))
  go_ret
  exact ⟨rfl, rfl⟩
set_option maxHeartbeats 400000 in
theorem walk_info64back (s : Int) (h0 : 0 ≤ s) (h1 : s < 18446744073709551616) (w : World) :
    Calls Try.prog 7 #[.int .u64 s] w fun e w' => e = .returned (.bool true) ∧ w' = w := by
  have e1 : (s / 4294967296 * 4294967296 + s % 4294967296 == s) = true := by rw [beq_iff_eq]; omega
  go_enter Try.func7, Try.ntmps7
  go_wp2_with (first | (go_at_call 18; refine (info64_any _ _ (by omega) (by omega) (by omega) (by omega) _).mono ?_; rintro e w' ⟨rfl, rfl⟩) | (go_at_call 19; refine (symbol64_any _ (by omega) (by omega) _).mono ?_; rintro e w' ⟨rfl, rfl⟩) | (go_at_call 20; refine (type64_any _ (by omega) (by omega) _).mono ?_; rintro e w' ⟨rfl, rfl⟩))
  go_ret
  exact ⟨rfl, rfl⟩
set_option maxHeartbeats 400000 in
theorem walk_symbolinfo (s k : Int) (h0 : -9223372036854775808 ≤ s) (h1 : s < 9223372036854775808) (h2 : -9223372036854775808 ≤ k) (h3 : k < 9223372036854775808) (w : World) :
    Calls Try.prog 8 #[.int .i64 s, .int .i64 k] w fun e w' => e = .returned (.bool true) ∧ w' = w := by
  by_cases c0 : s < 0
  · go_enter Try.func8, Try.ntmps8
    go_wp2
    go_ret
    exact ⟨rfl, rfl⟩
  by_cases c1 : 15 < s
  · go_enter Try.func8, Try.ntmps8
    go_wp2
    go_ret
    exact ⟨rfl, rfl⟩
  by_cases c2 : k < 0
  · go_enter Try.func8, Try.ntmps8
    go_wp2
    go_ret
    exact ⟨rfl, rfl⟩
  by_cases c3 : 15 < k
  · go_enter Try.func8, Try.ntmps8
    go_wp2
    go_ret
    exact ⟨rfl, rfl⟩
  have e0 : (s * 16 + k == 16 * s + k) = true := by rw [beq_iff_eq]; omega
  have e1 : ((s * 16 + k) / 16 == s) = true := by rw [beq_iff_eq]; omega
  have e2 : ((s * 16 + k) % 16 == k) = true := by rw [beq_iff_eq]; omega
  go_enter Try.func8, Try.ntmps8
  go_wp2_with (first | (go_at_call 21; refine (symbolInfo_any _ _ (by omega) (by omega) (by omega) (by omega) _).mono ?_; rintro e w' ⟨rfl, rfl⟩) | (go_at_call 22; refine (bind_any _ (by omega) (by omega) _).mono ?_; rintro e w' ⟨rfl, rfl⟩) | (go_at_call 23; refine (kind_any _ (by omega) (by omega) _).mono ?_; rintro e w' ⟨rfl, rfl⟩))
  go_ret
  exact ⟨rfl, rfl⟩
end Go.Proofs.Ytlgigipjgahecaa
