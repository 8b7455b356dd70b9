/- What is laid out is read again: the entries of tables of symbols. -/
import Derived.Test.YtlgigipjgahecaaNum
import Derived.Test.YtlgigipjgahecaaSymRow
namespace Go.Proofs.Ytlgigipjgahecaa
open Go.RowKit
set_option linter.unusedVariables false

theorem mid_take (a b c : List UInt8) (n k : Nat) (hn : a.length = n) (hk : b.length = k) : ((a ++ (b ++ c)).drop n).take k = b := by
  rw [List.drop_left' hn, List.take_left' hk]
theorem mid_get (a c : List UInt8) (x d : UInt8) (n : Nat) (hn : a.length = n) : (a ++ (x :: c)).getD n d = x := by
  rw [List.getD_eq_getElem?_getD, List.getElem?_append_right (by omega), hn, Nat.sub_self]
  rfl
theorem numB_fixed (n k : Nat) (big : Bool) (h : n < 256 ^ k) : numB big (fixedB n k big) = n := by rw [numB_fixedB, Nat.mod_eq_of_lt h]

section
variable (big : Bool) (name info other sec value size : Nat)
theorem symB32_name (h : name < 256 ^ 4) : numB big (((symB false big name info other sec value size).drop 0).take 4) = name := by
  have e : symB false big name info other sec value size = [] ++ (fixedB name 4 big ++ (fixedB value 4 big ++ (fixedB size 4 big ++ ([UInt8.ofNat info, UInt8.ofNat other] ++ fixedB sec 2 big)))) := by simp [symB]
  rw [e, mid_take _ _ _ 0 4 rfl (fixedB_length _ _ _), numB_fixed _ _ _ h]
theorem symB32_value (h : value < 256 ^ 4) : numB big (((symB false big name info other sec value size).drop 4).take 4) = value := by
  have e : symB false big name info other sec value size = fixedB name 4 big ++ (fixedB value 4 big ++ (fixedB size 4 big ++ ([UInt8.ofNat info, UInt8.ofNat other] ++ fixedB sec 2 big))) := by simp [symB]
  rw [e, mid_take _ _ _ 4 4 (fixedB_length _ _ _) (fixedB_length _ _ _), numB_fixed _ _ _ h]
theorem symB32_size (h : size < 256 ^ 4) : numB big (((symB false big name info other sec value size).drop 8).take 4) = size := by
  have e : symB false big name info other sec value size = (fixedB name 4 big ++ fixedB value 4 big) ++ (fixedB size 4 big ++ ([UInt8.ofNat info, UInt8.ofNat other] ++ fixedB sec 2 big)) := by simp [symB]
  rw [e, mid_take _ _ _ 8 4 (by simp [fixedB_length]) (fixedB_length _ _ _), numB_fixed _ _ _ h]
theorem symB32_info : (symB false big name info other sec value size).getD 12 0 = UInt8.ofNat info := by
  have e : symB false big name info other sec value size = (fixedB name 4 big ++ fixedB value 4 big ++ fixedB size 4 big) ++ (UInt8.ofNat info :: (UInt8.ofNat other :: fixedB sec 2 big)) := by simp [symB]
  rw [e, mid_get _ _ _ _ 12 (by simp [fixedB_length])]
theorem symB32_other : (symB false big name info other sec value size).getD 13 0 = UInt8.ofNat other := by
  have e : symB false big name info other sec value size = (fixedB name 4 big ++ fixedB value 4 big ++ fixedB size 4 big ++ [UInt8.ofNat info]) ++ (UInt8.ofNat other :: fixedB sec 2 big) := by simp [symB]
  rw [e, mid_get _ _ _ _ 13 (by simp [fixedB_length])]
theorem symB32_sec (h : sec < 256 ^ 2) : numB big (((symB false big name info other sec value size).drop 14).take 2) = sec := by
  have e : symB false big name info other sec value size = (fixedB name 4 big ++ fixedB value 4 big ++ fixedB size 4 big ++ [UInt8.ofNat info, UInt8.ofNat other]) ++ (fixedB sec 2 big ++ []) := by simp [symB]
  rw [e, mid_take _ _ _ 14 2 (by simp [fixedB_length]) (fixedB_length _ _ _), numB_fixed _ _ _ h]
theorem symB32_length : (symB false big name info other sec value size).length = 16 := by simp [symB, fixedB_length]

theorem symB64_name (h : name < 256 ^ 4) : numB big (((symB true big name info other sec value size).drop 0).take 4) = name := by
  have e : symB true big name info other sec value size = [] ++ (fixedB name 4 big ++ ([UInt8.ofNat info, UInt8.ofNat other] ++ (fixedB sec 2 big ++ (fixedB value 8 big ++ fixedB size 8 big)))) := by simp [symB]
  rw [e, mid_take _ _ _ 0 4 rfl (fixedB_length _ _ _), numB_fixed _ _ _ h]
theorem symB64_info : (symB true big name info other sec value size).getD 4 0 = UInt8.ofNat info := by
  have e : symB true big name info other sec value size = fixedB name 4 big ++ (UInt8.ofNat info :: (UInt8.ofNat other :: (fixedB sec 2 big ++ (fixedB value 8 big ++ fixedB size 8 big)))) := by simp [symB]
  rw [e, mid_get _ _ _ _ 4 (fixedB_length _ _ _)]
theorem symB64_other : (symB true big name info other sec value size).getD 5 0 = UInt8.ofNat other := by
  have e : symB true big name info other sec value size = (fixedB name 4 big ++ [UInt8.ofNat info]) ++ (UInt8.ofNat other :: (fixedB sec 2 big ++ (fixedB value 8 big ++ fixedB size 8 big))) := by simp [symB]
  rw [e, mid_get _ _ _ _ 5 (by simp [fixedB_length])]
theorem symB64_sec (h : sec < 256 ^ 2) : numB big (((symB true big name info other sec value size).drop 6).take 2) = sec := by
  have e : symB true big name info other sec value size = (fixedB name 4 big ++ [UInt8.ofNat info, UInt8.ofNat other]) ++ (fixedB sec 2 big ++ (fixedB value 8 big ++ fixedB size 8 big)) := by simp [symB]
  rw [e, mid_take _ _ _ 6 2 (by simp [fixedB_length]) (fixedB_length _ _ _), numB_fixed _ _ _ h]
theorem symB64_value (h : value < 256 ^ 8) : numB big (((symB true big name info other sec value size).drop 8).take 8) = value := by
  have e : symB true big name info other sec value size = (fixedB name 4 big ++ [UInt8.ofNat info, UInt8.ofNat other] ++ fixedB sec 2 big) ++ (fixedB value 8 big ++ fixedB size 8 big) := by simp [symB]
  rw [e, mid_take _ _ _ 8 8 (by simp [fixedB_length]) (fixedB_length _ _ _), numB_fixed _ _ _ h]
theorem symB64_size (h : size < 256 ^ 8) : numB big (((symB true big name info other sec value size).drop 16).take 8) = size := by
  have e : symB true big name info other sec value size = (fixedB name 4 big ++ [UInt8.ofNat info, UInt8.ofNat other] ++ fixedB sec 2 big ++ fixedB value 8 big) ++ (fixedB size 8 big ++ []) := by simp [symB]
  rw [e, mid_take _ _ _ 16 8 (by simp [fixedB_length]) (fixedB_length _ _ _), numB_fixed _ _ _ h]
theorem symB64_length : (symB true big name info other sec value size).length = 24 := by simp [symB, fixedB_length]
end
end Go.Proofs.Ytlgigipjgahecaa
