/- The contract of spec.Fixed: a number of so many bytes. -/
import Derived.Test.YtlgigipjgahecaaApp
namespace Go.Proofs.Ytlgigipjgahecaa
open Go.RowKit
set_option linter.unusedVariables false

/-- the bytes of a number, the smallest first -/
def leB : Nat → Nat → List UInt8
  | _, 0 => []
  | n, k + 1 => UInt8.ofNat n :: leB (n / 256) k
def fixedB (n size : Nat) (big : Bool) : List UInt8 := if big then (leB n size).reverse else leB n size
theorem leB_length : ∀ (k n : Nat), (leB n k).length = k
  | 0, _ => rfl
  | k + 1, n => by simp [leB, leB_length k]
theorem fixedB_length (n k : Nat) (b : Bool) : (fixedB n k b).length = k := by unfold fixedB; split <;> simp [leB_length]
theorem leB_get : ∀ (k n i : Nat) (h : i < (leB n k).length), (leB n k)[i] = UInt8.ofNat (n / 256 ^ i) := by
  intro k
  induction k with
  | zero => intro n i h; simp [leB] at h
  | succ k ih =>
    intro n i h
    cases i with
    | zero => simp [leB]
    | succ i =>
      simp only [leB, List.getElem_cons_succ]
      rw [ih (n / 256) i, Nat.div_div_eq_div_mul, Nat.pow_succ, Nat.mul_comm 256]

/-- where round k writes -/
def placeB (size : Nat) (big : Bool) (k : Nat) : Nat := if big then size - 1 - k else k
def partB (n size : Nat) (big : Bool) : Nat → List UInt8
  | 0 => List.replicate size 0
  | k + 1 => (partB n size big k).set (placeB size big k) (UInt8.ofNat (n / 256 ^ k))
theorem partB_length (n size : Nat) (big : Bool) : ∀ k, (partB n size big k).length = size
  | 0 => by simp [partB]
  | k + 1 => by simp [partB, partB_length n size big k]
theorem partB_get (n size : Nat) (big : Bool) : ∀ k, k ≤ size → ∀ j, j < size → (partB n size big k)[j]? = some (if placeB size big j < k then UInt8.ofNat (n / 256 ^ placeB size big j) else 0) := by
  intro k
  induction k with
  | zero => intro _ j hj; simp [partB, hj]
  | succ k ih =>
    intro hk j hj
    simp only [partB]
    rw [List.getElem?_set, partB_length, ih (by omega) j hj]
    have e : placeB size big k = j ↔ placeB size big j = k := by unfold placeB; split <;> omega
    have hp : placeB size big k < size := by unfold placeB; split <;> omega
    by_cases h : placeB size big k = j
    · have h' := e.1 h
      rw [if_pos h, if_pos hp, if_pos (by omega), h']
    · have h' : ¬ placeB size big j = k := fun x => h (e.2 x)
      rw [if_neg h]
      by_cases h2 : placeB size big j < k
      · rw [if_pos h2, if_pos (by omega)]
      · rw [if_neg h2, if_neg (by omega)]
theorem partB_all (n size : Nat) (big : Bool) : partB n size big size = fixedB n size big := by
  apply List.ext_getElem?
  intro j
  by_cases hj : j < size
  · rw [partB_get n size big size (Nat.le_refl _) j hj]
    have hp : placeB size big j < size := by unfold placeB; split <;> omega
    rw [if_pos hp]
    unfold fixedB placeB
    cases big
    · simp only [Bool.false_eq_true, if_false]
      rw [List.getElem?_eq_getElem (by rw [leB_length]; exact hj), leB_get]
    · simp only [if_true]
      rw [List.getElem?_reverse (by rw [leB_length]; exact hj), leB_length, List.getElem?_eq_getElem (by rw [leB_length]; omega), leB_get]
  · rw [List.getElem?_eq_none (by rw [partB_length]; omega), List.getElem?_eq_none (by rw [fixedB_length]; omega)]

theorem Bv_ofNat (m : Nat) : Bv (UInt8.ofNat m) = .int .u8 ((m : Int) % 256) := by
  unfold Bv
  rw [UInt8.toNat_ofNat']
  congr 1

theorem madeCells_u8 (n : Nat) : (madeCells #[.int .u8 0] n).toList = (List.replicate n (0 : UInt8)).map Bv := by
  rw [toList_madeCells_one, List.map_replicate]
  rfl

theorem set_map_Bv (l : List UInt8) (i : Nat) (b : UInt8) : (l.set i b).map Bv = (l.map Bv).set i (Bv b) := by rw [List.map_set]

set_option maxRecDepth 100000 in
set_option maxHeartbeats 1000000 in
theorem fixed_any (n size : Nat) (big : Bool) (h1 : size ≤ 1024) (w : World) :
    Calls Try.prog 58 #[.int .u64 n, .int .i64 size, .bool big] w fun e w' => ∃ v, e = .returned v ∧ w'.ownsRow w.heap.size 5 1 v size ((fixedB n size big).map Bv) ∧ Below w.heap.size w w' := by
  obtain ⟨i0, hi, hz0, hz1, hz2⟩ := info_parts info_u8
  have hs0 : (0 : Int) ≤ (size : Int) := Int.natCast_nonneg _
  go_enter Try.func58, Try.ntmps58
  go_wp2_with (refine wpList_make_full _ rfl _ _ 36 rfl w.heap.size 5 i0 (.int .u8 0) 1 Try.underlying36 hi hz0 hz1 .i64 .i64 _ _ size rfl rfl rfl rfl ?c1 ?c2 (Nat.le_refl _) ?_)
  case c1 => rw [hz2]; omega
  case c2 => unfold maxLen; omega
  intro w1 hown hgrow
  rw [madeCells_u8] at hown
  have hbel : Below w.heap.size w w1 := (Below.refl _ _).grown hgrow (Nat.le_refl _) (by simp)
  clear hgrow
  go_wp2
  go_loopw [0, 8, 9] (fun vn i at_ wr => ∃ k m : Nat, k ≤ size ∧ Hid (m = n / 256 ^ k) ∧ vn = .int .u64 m ∧ i = .int .i64 k ∧ wr.ownsRow w.heap.size 5 1 (.slice (some ⟨w.heap.size, 0, none⟩) size size) size ((partB n size big k).map Bv) ∧ Below w.heap.size w wr) (fun _ i _ _ => size - (intOf i).toNat)
  case atStart => exact ⟨0, n, by omega, Lib.hid (by simp), rfl, rfl, hown, hbel⟩
  case round =>
    obtain ⟨k, m, hk, HM, rfl, rfl, hown', hbel'⟩ := hrel
    clear hown hbel
    by_cases hlt : k < size
    · have hp : placeB size big k < size := by unfold placeB; split <;> omega
      have hcl : wr.cell? ⟨w.heap.size, placeB size big k, none⟩ = _ := hown'.cellAt (placeB size big k) (by omega)
      rw [List.getElem?_eq_getElem (by rw [List.length_map, partB_length]; exact hp)] at hcl
      obtain ⟨u, hu⟩ : ∃ u, wr.cell? ⟨w.heap.size, placeB size big k, none⟩ = some u := ⟨_, hcl⟩
      have hfz : wr.frozen? ⟨w.heap.size, placeB size big k, none⟩ = false := hown'.frozenAt _
      have hst := hown'.stored (placeB size big k) (Bv (UInt8.ofNat m))
      rw [Bv_ofNat] at hst
      have hown2 : (wr.setCell ⟨w.heap.size, placeB size big k, none⟩ (.int .u8 ((m : Int) % 256))).ownsRow w.heap.size 5 1 (.slice (some ⟨w.heap.size, 0, none⟩) size size) size ((partB n size big (k + 1)).map Bv) := by
        have := hst.1
        rw [← Bv_ofNat, ← set_map_Bv, HM.out] at this
        rw [HM.out]
        exact Bv_ofNat (n / 256 ^ k) ▸ this
      have hbel2 : Below w.heap.size w (wr.setCell ⟨w.heap.size, placeB size big k, none⟩ (.int .u8 ((m : Int) % 256))) := hbel'.setCell (Nat.le_refl _) _
      have HO := Lib.hid hown2
      have HB := Lib.hid hbel2
      have HM2 : Hid (m / 256 = n / 256 ^ (k + 1)) := Lib.hid (by rw [HM.out, Nat.div_div_eq_div_mul, Nat.pow_succ])
      clear hcl hst hown2 hbel2 hown' hbel' HM hi hz0 hz1 hz2
      cases big with
      | false =>
        have ep : placeB size false k = k := rfl
        rw [ep] at hu hfz HO HB
        clear ep
        go_wp2
        go_roundw
        case rel => exact ⟨k + 1, m / 256, by omega, HM2, by go_num, by go_num, HO.out, HB.out⟩
        case measure => simp [intOf]; omega
      | true =>
        have ep : placeB size true k = size - 1 - k := rfl
        rw [ep] at hu hfz HO HB
        clear ep
        go_wp2
        go_roundw
        case rel => exact ⟨k + 1, m / 256, by omega, HM2, by go_num, by go_num, HO.out, HB.out⟩
        case measure => simp [intOf]; omega
    · have hks : k = size := by omega
      have HF : Hid (wr.ownsRow w.heap.size 5 1 (.slice (some ⟨w.heap.size, 0, none⟩) size size) size ((fixedB n size big).map Bv)) := Lib.hid (by rw [← partB_all]; rw [hks] at hown'; exact hown')
      clear hks hown'
      go_wp2
      go_ret
      exact ⟨_, rfl, HF.out, hbel'⟩
end Go.Proofs.Ytlgigipjgahecaa
