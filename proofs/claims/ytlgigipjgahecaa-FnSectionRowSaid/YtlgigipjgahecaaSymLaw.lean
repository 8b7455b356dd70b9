/- The small functions that the laws on entries of symbol tables call: zzFits7, Fits, order. -/
import Derived.Test.YtlgigipjgahecaaZz
import Derived.Test.YtlgigipjgahecaaSymRow
import Derived.Laws.StructEq
namespace Go.Proofs.Ytlgigipjgahecaa
open Go.RowKit
set_option linter.unusedVariables false
attribute [local go_sem ↓] Go.wp_at_zero Go.wp_at_succ

set_option maxRecDepth 100000 in
set_option maxHeartbeats 400000 in
theorem order_any (big : Bool) (w : World) : Calls Try.prog 49 #[.bool big] w fun e w' => e = .returned (boV big) ∧ w = w' := by
  cases big
  all_goals
    unfold boV
    go_enter Try.func49, Try.ntmps49
    go_wp2
    go_ret
    exact ⟨rfl, rfl⟩

set_option maxRecDepth 100000 in
set_option maxHeartbeats 400000 in
theorem zzFits7_any (nm : ByteArray) (v1 v2 v3 v4 v5 : Value) (w : World) :
    Calls Try.prog 25 #[.agg #[.string nm, v1, v2, v3, v4, v5]] w fun e w' => e = .returned (.bool (decide (nm.size ≤ 2147483647))) ∧ Below w.heap.size w w' := by
  by_cases h : nm.size ≤ 2147483647
  · have e : decide (nm.size ≤ 2147483647) = true := by simpa using h
    rw [e]
    clear e
    go_enter Try.func25, Try.ntmps25
    go_wp2
    go_ret
    exact ⟨rfl, (Below.refl _ _).alloc (Nat.le_refl _) _⟩
  · have e : decide (nm.size ≤ 2147483647) = false := by simpa using h
    rw [e]
    clear e
    go_enter Try.func25, Try.ntmps25
    go_wp2
    go_ret
    exact ⟨rfl, (Below.refl _ _).alloc (Nat.le_refl _) _⟩

def fitsB (wide : Bool) (l : List Nat) : Bool := wide || l.all fun n => decide (n < 4294967296)
set_option maxRecDepth 100000 in
set_option maxHeartbeats 1000000 in
theorem fits_any (wide : Bool) (x1 x2 x3 x4 x5 x6 x7 x8 : Value) (l : List Nat) (A : Option Addr) (n c : Nat) (hn : n = l.length) (hb : n ≤ 4294967296) (w : World) (hr : Row w A (l.map fun (n : Nat) => Value.int .u64 (n : Int))) :
    Calls Try.prog 26 #[.agg #[.bool wide, x1, x2, x3, x4, x5, x6, x7, x8], .slice A n c] w fun e w' => e = .returned (.bool (fitsB wide l)) ∧ Below w.heap.size w w' := by
  have HN := Lib.hid hn
  clear hn
  have hw1 : Row (w.alloc (.cells #[.bool wide, x1, x2, x3, x4, x5, x6, x7, x8] 46)) A (l.map fun (n : Nat) => Value.int .u64 (n : Int)) := hr.below ((Below.refl _ _).alloc (Nat.le_refl _) _)
  have HR := Lib.hid hw1
  clear hw1 hr
  go_enter Try.func26, Try.ntmps26
  go_wp2
  go_loop [6, 9] (fun v i => ∃ k : Nat, k ≤ n ∧ i = .int .i64 k ∧ Hid (fitsB wide (l.take k) = true)) (fun _ i => n - (intOf i).toNat)
  case atStart => exact ⟨0, Nat.zero_le _, rfl, Lib.hid (by simp [fitsB])⟩
  case round =>
    obtain ⟨k, hk, rfl, HK⟩ := hrel
    by_cases hlt : k < n
    · obtain ⟨b, off, rfl, hcell⟩ := HR.out.at_ (i := k) (by rw [List.length_map]; have := HN.out; omega)
      obtain ⟨m, hm⟩ : ∃ m, l[k]'(by have := HN.out; omega) = m := ⟨_, rfl⟩
      rw [List.getElem_map, hm] at hcell
      have hs : fitsB wide (l.take (k + 1)) = (fitsB wide (l.take k) && (wide || decide (m < 4294967296))) := by
        rw [List.take_succ_eq_append_getElem (by have := HN.out; omega), hm]
        unfold fitsB
        cases wide <;> simp
      have hf : (wide || decide (m < 4294967296)) = false → fitsB wide l = false := fun h => by
        unfold fitsB
        have hw : wide = false := by cases wide <;> simp_all
        subst hw
        simp only [Bool.false_or, decide_eq_false_iff_not] at h ⊢
        rw [List.all_eq_false]
        exact ⟨m, by rw [← hm]; exact List.getElem_mem _, by simpa using h⟩
      have HM := Lib.hid hm
      have HS := Lib.hid hs
      have HF := Lib.hid hf
      clear hm hs hf
      cases wide with
      | true =>
        have HK2 : Hid (fitsB true (l.take (k + 1)) = true) := Lib.hid (by rw [HS.out, HK.out]; rfl)
        go_wp2
        go_round
        case rel => exact ⟨k + 1, by omega, by go_num, HK2⟩
        case measure => simp [intOf]; omega
      | false =>
        by_cases hm2 : m < 4294967296
        · have HK2 : Hid (fitsB false (l.take (k + 1)) = true) := Lib.hid (by rw [HS.out, HK.out]; simpa using hm2)
          have hm3 : decide ((4294967296 : Int) ≤ (m : Int)) = false := by rw [decide_eq_false_iff_not]; omega
          clear hm2
          go_wp2
          go_round
          case rel => exact ⟨k + 1, by omega, by go_num, HK2⟩
          case measure => simp [intOf]; omega
        · have HE : Hid (fitsB false l = false) := Lib.hid (HF.out (by simpa using hm2))
          have hm3 : (4294967296 : Int) ≤ (m : Int) := by omega
          clear hm2
          go_wp2
          go_ret
          exact ⟨by rw [HE.out]; rfl, (Below.refl _ _).alloc (Nat.le_refl _) _⟩
    · have HE : Hid (fitsB wide l = true) := Lib.hid (by
        have := HK.out
        rw [List.take_of_length_le (by have := HN.out; omega)] at this
        exact this)
      go_wp2
      go_ret
      exact ⟨by rw [HE.out]; rfl, (Below.refl _ _).alloc (Nat.le_refl _) _⟩
end Go.Proofs.Ytlgigipjgahecaa
