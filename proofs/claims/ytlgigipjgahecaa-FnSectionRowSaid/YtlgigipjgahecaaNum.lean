/- Numbers out of bytes: the contracts of ByteOrder.Uint16, Uint32, Uint64. -/
import Derived.Test.YtlgigipjgahecaaFix
import Derived.Deep.QuietTactic
import Derived.BigQuiet
import Derived.Deep.RegionWith
namespace Go.Proofs.Ytlgigipjgahecaa
open Go.RowKit
set_option linter.unusedVariables false

def leN : List UInt8 → Nat
  | [] => 0
  | b :: l => b.toNat + 256 * leN l
def numB (big : Bool) (l : List UInt8) : Nat := if big then leN l.reverse else leN l
theorem leN_append : ∀ (a b : List UInt8), leN (a ++ b) = leN a + 256 ^ a.length * leN b
  | [], b => by simp [leN]
  | x :: a, b => by
    simp only [List.cons_append, leN, leN_append a b, List.length_cons, Nat.pow_succ]
    rw [Nat.mul_add, Nat.add_assoc, ← Nat.mul_assoc, Nat.mul_comm 256 (256 ^ a.length)]
theorem leN_lt : ∀ (l : List UInt8), leN l < 256 ^ l.length
  | [] => by simp [leN]
  | b :: l => by
    have := leN_lt l
    have hb := b.toNat_lt
    simp only [leN, List.length_cons, Nat.pow_succ]
    omega
theorem numB_lt (big : Bool) (l : List UInt8) : numB big l < 256 ^ l.length := by
  unfold numB
  split
  · have := leN_lt l.reverse; simpa using this
  · exact leN_lt l
theorem numB_append_le (a b : List UInt8) : numB false (a ++ b) = numB false a + 256 ^ a.length * numB false b := by simp [numB, leN_append]
theorem numB_append_be (a b : List UInt8) : numB true (a ++ b) = numB true a * 256 ^ b.length + numB true b := by
  simp only [numB, if_true, List.reverse_append, leN_append, List.length_reverse]
  rw [Nat.mul_comm, Nat.add_comm]
theorem leN_leB : ∀ (k n : Nat), leN (leB n k) = n % 256 ^ k
  | 0, n => by simp [leB, leN, Nat.mod_one]
  | k + 1, n => by
    have e : (UInt8.ofNat n).toNat = n % 256 := by rw [UInt8.toNat_ofNat']
    simp only [leB, leN, leN_leB k (n / 256), e]
    rw [Nat.pow_succ, Nat.mul_comm (256 ^ k) 256, Nat.mod_mul]
/-- what was laid is read again -/
theorem numB_fixedB (n k : Nat) (big : Bool) : numB big (fixedB n k big) = n % 256 ^ k := by
  unfold numB fixedB
  cases big <;> simp [leN_leB]

def boV (big : Bool) : Value := .int .u8 (if big then 1 else 0)

theorem or_u16 (x y : Int) (h0 : 0 ≤ x) (h1 : x < 256) (h2 : 0 ≤ y) (h3 : y < 256) : bits .or .u16 x (y * 256) = x + y * 256 := by
  rw [u16_or x _ h0 (by omega) (by omega) (by omega), Nat.or_comm, nat_join 8 _ _ (by omega) (by omega)]; omega
theorem or_u32a (x y : Int) (h0 : 0 ≤ x) (h1 : x < 65536) (h2 : 0 ≤ y) (h3 : y < 65536) : bits .or .u32 x (y * 65536) = x + y * 65536 := by
  rw [u32_or x _ h0 (by omega) (by omega) (by omega), Nat.or_comm, nat_join 16 _ _ (by omega) (by omega)]; omega
theorem or_u32b (x y : Int) (h0 : 0 ≤ x) (h1 : x < 65536) (h2 : 0 ≤ y) (h3 : y < 65536) : bits .or .u32 (y * 65536) x = y * 65536 + x := by
  rw [u32_or _ x (by omega) (by omega) h0 (by omega), nat_join 16 _ _ (by omega) (by omega)]; omega
theorem or_u64a (x y : Int) (h0 : 0 ≤ x) (h1 : x < 4294967296) (h2 : 0 ≤ y) (h3 : y < 4294967296) : bits .or .u64 x (y * 4294967296) = x + y * 4294967296 := by
  rw [u64_or x _ h0 (by omega) (by omega) (by omega), Nat.or_comm, nat_join 32 _ _ (by omega) (by omega)]; omega
theorem or_u64b (x y : Int) (h0 : 0 ≤ x) (h1 : x < 4294967296) (h2 : 0 ≤ y) (h3 : y < 4294967296) : bits .or .u64 (y * 4294967296) x = y * 4294967296 + x := by
  rw [u64_or _ x (by omega) (by omega) h0 (by omega), nat_join 32 _ _ (by omega) (by omega)]; omega

/-- x[lo:] of bytes -/
theorem slice_u8_open (A : Option Addr) (n c lo : Nat) (h1 : lo ≤ n) (h2 : n ≤ c) :
    ∃ A', (∀ w, (Instr.slice 36 (.slice A n c) (some (.int .i64 (lo : Int))) none none).run Try.prog w = .ok (.slice A' (n - lo) (c - lo)) w) ∧
      ∀ (w : World) (l : List UInt8), n = l.length → Row w A (l.map Bv) → Row w A' ((l.drop lo).map Bv) := by
  obtain ⟨i0, hi, hz⟩ := size_u8
  refine ⟨if c = lo then A else A.map (·.add lo), fun w => ?_, fun w l hl h => ?_⟩
  · simp [Instr.slice, Instr.sliceBounds, Instr.sliceBound, asIntOf, run_underlying Try.underlying36, sizeOf, typeInfo, hi, hz, h1]
  · by_cases hc : c = lo
    · have : l.drop lo = [] := List.drop_eq_nil_of_le (by omega)
      rw [this]
      exact Row.nil _ _
    · rw [if_neg hc, List.map_drop]
      exact h.drop lo

set_option maxRecDepth 100000 in
set_option maxHeartbeats 1000000 in
theorem uint16_two (big : Bool) (b0 b1 : UInt8) (r : List UInt8) (A : Option Addr) (n c : Nat) (hn : 2 ≤ n) (w : World) (hr : Row w A ((b0 :: b1 :: r).map Bv)) :
    Calls Try.prog 57 #[boV big, .slice A n c] w fun e w' => e = .returned (.int .u16 (numB big [b0, b1] : Nat)) ∧ ∃ k, w' = w.drewN k := by
  obtain ⟨b, off, rfl, hc⟩ := hr.open_ (by simp)
  have hc0 : w.cell? ⟨b, off, none⟩ = some (.int .u8 (b0.toNat : Int)) := hc 0 (by simp)
  have hc1 : w.cell? ⟨b, off + 1, none⟩ = some (.int .u8 (b1.toNat : Int)) := hc 1 (by simp)
  have k0 := b0.toNat_lt
  have k1 := b1.toNat_lt
  have e : (numB big [b0, b1] : Int) = if big then (b1.toNat : Int) + b0.toNat * 256 else (b0.toNat : Int) + b1.toNat * 256 := by
    cases big <;> simp [numB, leN] <;> omega
  rw [e]
  obtain ⟨y0, hy0⟩ : ∃ y : Nat, b0.toNat = y := ⟨_, rfl⟩
  obtain ⟨y1, hy1⟩ : ∃ y : Nat, b1.toNat = y := ⟨_, rfl⟩
  rw [hy0] at hc0 k0 ⊢
  rw [hy1] at hc1 k1 ⊢
  have hor := or_u16 (y1 : Int) (y0 : Int) (by omega) (by omega) (by omega) (by omega)
  have hor2 := or_u16 (y0 : Int) (y1 : Int) (by omega) (by omega) (by omega) (by omega)
  clear hc e hy0 hy1 hr
  cases big with
  | true =>
    simp only [boV, if_true]
    go_enter Try.func57, Try.ntmps57
    go_wp2_with fail
    go_quiet (fail)
    go_wp2
    go_ret
    exact ⟨rfl, _, rfl⟩
  | false =>
    simp only [boV, if_false, Bool.false_eq_true]
    go_enter Try.func57, Try.ntmps57
    go_wp2_with fail
    go_quiet (fail)
    go_wp2
    go_ret
    exact ⟨rfl, _, rfl⟩

theorem two_front {l : List UInt8} (h : 2 ≤ l.length) : ∃ b0 b1 r, l = b0 :: b1 :: r := by
  match l, h with
  | b0 :: b1 :: r, _ => exact ⟨b0, b1, r, rfl⟩
theorem uint16_any (big : Bool) (l : List UInt8) (A : Option Addr) (n c : Nat) (hn : 2 ≤ n) (hl : n ≤ l.length) (w : World) (hr : Row w A (l.map Bv)) :
    Calls Try.prog 57 #[boV big, .slice A n c] w fun e w' => e = .returned (.int .u16 (numB big (l.take 2) : Nat)) ∧ ∃ k, w' = w.drewN k := by
  obtain ⟨b0, b1, r, rfl⟩ := two_front (l := l) (by omega)
  exact uint16_two big b0 b1 r A n c hn w hr

theorem row_drewN {w : World} {A : Option Addr} {cs : List Value} (h : Row w A cs) (k : Nat) : Row (w.drewN k) A cs := h

theorem numB_split (big : Bool) (l : List UInt8) (k : Nat) (h : 2 * k ≤ l.length) : (numB big (l.take (2 * k)) : Int) = if big then (numB true (l.take k) : Int) * 256 ^ k + numB true ((l.drop k).take k) else (numB false (l.take k) : Int) + numB false ((l.drop k).take k) * 256 ^ k := by
  have e : l.take (2 * k) = l.take k ++ (l.drop k).take k := by rw [Nat.two_mul, List.take_add]
  rw [e]
  cases big with
  | true =>
    rw [numB_append_be]
    have : ((l.drop k).take k).length = k := by simp; omega
    rw [this]
    simp
  | false =>
    rw [numB_append_le]
    have : (l.take k).length = k := by simp; omega
    rw [this]
    simp [Int.mul_comm]

theorem Row.drop_at {w : World} {b off : Nat} {cs : List Value} (h : Row w (some ⟨b, off, none⟩) cs) (k : Nat) : Row w (some ⟨b, off + k, none⟩) (cs.drop k) := by
  have := h.drop k
  simpa [addr_add] using this

set_option maxRecDepth 100000 in
set_option maxHeartbeats 1000000 in
theorem uint32_any (big : Bool) (l : List UInt8) (A : Option Addr) (n c : Nat) (hn : 4 ≤ n) (hl : n = l.length) (hnc : n ≤ c) (hc : c ≤ maxLen) (w : World) (hr : Row w A (l.map Bv)) :
    Calls Try.prog 56 #[boV big, .slice A n c] w fun e w' => e = .returned (.int .u32 (numB big (l.take 4) : Nat)) ∧ ∃ k, w' = w.drewN k := by
  unfold maxLen at hc
  obtain ⟨b, off, hA, hcell⟩ := hr.at_ (i := 3) (by simp; omega)
  subst hA
  have hr2 : Row w (some ⟨b, off + 2, none⟩) ((l.drop 2).map Bv) := by rw [List.map_drop]; exact hr.drop_at 2
  have H1 : Hid (∀ k, Calls Try.prog 57 #[boV big, .slice (some ⟨b, off, none⟩) n c] (w.drewN k) fun e w' => e = .returned (.int .u16 (numB big (l.take 2) : Nat)) ∧ ∃ m, w' = (w.drewN k).drewN m) := Lib.hid fun k => uint16_any big l (some ⟨b, off, none⟩) n c (by omega) (by omega) _ hr
  have H2 : Hid (∀ k, Calls Try.prog 57 #[boV big, .slice (some ⟨b, off + 2, none⟩) (n - 2) (c - 2)] (w.drewN k) fun e w' => e = .returned (.int .u16 (numB big ((l.drop 2).take 2) : Nat)) ∧ ∃ m, w' = (w.drewN k).drewN m) := Lib.hid fun k => uint16_any big (l.drop 2) (some ⟨b, off + 2, none⟩) (n - 2) (c - 2) (by omega) (by simp; omega) _ hr2
  have e := numB_split big l 2 (by omega)
  have b1 : numB big (l.take 2) < 65536 := by have := numB_lt big (l.take 2); simpa [show min 2 l.length = 2 by omega] using this
  have b2 : numB big ((l.drop 2).take 2) < 65536 := by have := numB_lt big ((l.drop 2).take 2); simpa [show min 2 (l.length - 2) = 2 by omega] using this
  obtain ⟨i, hi⟩ : ∃ i, numB big (l.take 2) = i := ⟨_, rfl⟩
  obtain ⟨j, hj⟩ : ∃ j, numB big ((l.drop 2).take 2) = j := ⟨_, rfl⟩
  rw [hi] at H1 b1
  rw [hj] at H2 b2
  obtain ⟨u, hu⟩ : ∃ u, w.cell? ⟨b, off + 3, none⟩ = some u := ⟨_, hcell⟩
  have o1 := or_u32a (i : Int) (j : Int) (by omega) (by omega) (by omega) (by omega)
  have o2 := or_u32b (j : Int) (i : Int) (by omega) (by omega) (by omega) (by omega)
  clear hcell hr hr2 hl
  cases big with
  | true =>
    rw [hi, hj] at e
    simp only [if_true] at e
    have e' : (numB true (l.take 4) : Int) = (i : Int) * 65536 + j := e
    rw [e']
    clear e e' hi hj
    simp only [boV, if_true] at H1 H2 ⊢
    go_enter Try.func56, Try.ntmps56
    go_wp2_with fail
    go_quiet ((first | (with_reducible exact Calls.quiet_of (H1.out _)) | (with_reducible exact Calls.quiet_of (H2.out _))))
    go_wp2
    go_ret
    exact ⟨rfl, _, rfl⟩
  | false =>
    rw [hi, hj] at e
    simp only [Bool.false_eq_true, if_false] at e
    have e' : (numB false (l.take 4) : Int) = (i : Int) + (j : Int) * 65536 := e
    rw [e']
    clear e e' hi hj
    simp only [boV, Bool.false_eq_true, if_false] at H1 H2 ⊢
    go_enter Try.func56, Try.ntmps56
    go_wp2_with fail
    go_quiet ((first | (with_reducible exact Calls.quiet_of (H1.out _)) | (with_reducible exact Calls.quiet_of (H2.out _))))
    go_wp2
    go_ret
    exact ⟨rfl, _, rfl⟩

set_option maxRecDepth 100000 in
set_option maxHeartbeats 1000000 in
theorem uint64_any (big : Bool) (l : List UInt8) (A : Option Addr) (n c : Nat) (hn : 8 ≤ n) (hl : n = l.length) (hnc : n ≤ c) (hc : c ≤ maxLen) (w : World) (hr : Row w A (l.map Bv)) :
    Calls Try.prog 59 #[boV big, .slice A n c] w fun e w' => e = .returned (.int .u64 (numB big (l.take 8) : Nat)) ∧ ∃ k, w' = w.drewN k := by
  unfold maxLen at hc
  obtain ⟨b, off, hA, hcell⟩ := hr.at_ (i := 7) (by simp; omega)
  subst hA
  have hr2 : Row w (some ⟨b, off + 4, none⟩) ((l.drop 4).map Bv) := by rw [List.map_drop]; exact hr.drop_at 4
  have H1 : Hid (∀ k, Calls Try.prog 56 #[boV big, .slice (some ⟨b, off, none⟩) n c] (w.drewN k) fun e w' => e = .returned (.int .u32 (numB big (l.take 4) : Nat)) ∧ ∃ m, w' = (w.drewN k).drewN m) := Lib.hid fun k => uint32_any big l (some ⟨b, off, none⟩) n c (by omega) hl (by omega) (by unfold maxLen; omega) _ hr
  have H2 : Hid (∀ k, Calls Try.prog 56 #[boV big, .slice (some ⟨b, off + 4, none⟩) (n - 4) (c - 4)] (w.drewN k) fun e w' => e = .returned (.int .u32 (numB big ((l.drop 4).take 4) : Nat)) ∧ ∃ m, w' = (w.drewN k).drewN m) := Lib.hid fun k => uint32_any big (l.drop 4) (some ⟨b, off + 4, none⟩) (n - 4) (c - 4) (by omega) (by simp; omega) (by omega) (by unfold maxLen; omega) _ hr2
  have e := numB_split big l 4 (by omega)
  have b1 : numB big (l.take 4) < 4294967296 := by have := numB_lt big (l.take 4); simpa [show min 4 l.length = 4 by omega] using this
  have b2 : numB big ((l.drop 4).take 4) < 4294967296 := by have := numB_lt big ((l.drop 4).take 4); simpa [show min 4 (l.length - 4) = 4 by omega] using this
  obtain ⟨i, hi⟩ : ∃ i, numB big (l.take 4) = i := ⟨_, rfl⟩
  obtain ⟨j, hj⟩ : ∃ j, numB big ((l.drop 4).take 4) = j := ⟨_, rfl⟩
  rw [hi] at H1 b1
  rw [hj] at H2 b2
  obtain ⟨u, hu⟩ : ∃ u, w.cell? ⟨b, off + 7, none⟩ = some u := ⟨_, hcell⟩
  have o1 := or_u64a (i : Int) (j : Int) (by omega) (by omega) (by omega) (by omega)
  have o2 := or_u64b (j : Int) (i : Int) (by omega) (by omega) (by omega) (by omega)
  clear hcell hr hr2 hl
  cases big with
  | true =>
    rw [hi, hj] at e
    simp only [if_true] at e
    have e' : (numB true (l.take 8) : Int) = (i : Int) * 4294967296 + j := e
    rw [e']
    clear e e' hi hj
    simp only [boV, if_true] at H1 H2 ⊢
    go_enter Try.func59, Try.ntmps59
    go_wp2_with fail
    go_quiet ((first | (with_reducible exact Calls.quiet_of (H1.out _)) | (with_reducible exact Calls.quiet_of (H2.out _))))
    go_wp2
    go_ret
    exact ⟨rfl, _, rfl⟩
  | false =>
    rw [hi, hj] at e
    simp only [Bool.false_eq_true, if_false] at e
    have e' : (numB false (l.take 8) : Int) = (i : Int) + (j : Int) * 4294967296 := e
    rw [e']
    clear e e' hi hj
    simp only [boV, Bool.false_eq_true, if_false] at H1 H2 ⊢
    go_enter Try.func59, Try.ntmps59
    go_wp2_with fail
    go_quiet ((first | (with_reducible exact Calls.quiet_of (H1.out _)) | (with_reducible exact Calls.quiet_of (H2.out _))))
    go_wp2
    go_ret
    exact ⟨rfl, _, rfl⟩
end Go.Proofs.Ytlgigipjgahecaa
