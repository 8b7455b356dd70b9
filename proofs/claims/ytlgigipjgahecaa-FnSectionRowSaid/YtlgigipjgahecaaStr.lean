/- The contract of elf.getString: the text of a table that begins at a place. -/
import Derived.Test.YtlgigipjgahecaaMem
namespace Go.Proofs.Ytlgigipjgahecaa
open Go.RowKit
set_option linter.unusedVariables false

/-- the text at the front of l, up to a zero; none without one -/
def cutAt : List UInt8 → Option (List UInt8)
  | [] => none
  | b :: l => if b = 0 then some [] else (cutAt l).map (b :: ·)
theorem cutAt_split : ∀ (l p : List UInt8), cutAt l = some p → ∃ r, l = p ++ 0 :: r ∧ 0 ∉ p := by
  intro l
  induction l with
  | nil => intro p h; cases h
  | cons b l ih =>
    intro p h
    unfold cutAt at h
    split at h
    · rename_i hb; cases h; exact ⟨l, by simp [hb], by simp⟩
    · rename_i hb
      obtain ⟨q, hq, rfl⟩ := Option.map_eq_some_iff.1 h
      obtain ⟨r, e, hn⟩ := ih q hq
      refine ⟨r, by rw [e]; rfl, ?_⟩
      simp only [List.mem_cons, not_or]
      exact ⟨fun e => hb e.symm, hn⟩
theorem cutAt_of : ∀ (p r : List UInt8), 0 ∉ p → cutAt (p ++ 0 :: r) = some p := by
  intro p
  induction p with
  | nil => intro r _; simp [cutAt]
  | cons b p ih =>
    intro r h
    simp only [List.mem_cons, not_or] at h
    have : ¬ b = 0 := fun e => h.1 e.symm
    simp [cutAt, this, ih r h.2]
theorem cutAt_none : ∀ (l : List UInt8), cutAt l = none → 0 ∉ l := by
  intro l
  induction l with
  | nil => simp
  | cons b l ih =>
    intro h
    unfold cutAt at h
    split at h
    · cases h
    · rename_i hb
      simp only [Option.map_eq_none_iff] at h
      simp only [List.mem_cons, not_or]
      exact ⟨fun e => hb e.symm, ih h⟩
theorem cutAt_none_of : ∀ (l : List UInt8), 0 ∉ l → cutAt l = none := by
  intro l
  induction l with
  | nil => intro _; rfl
  | cons b l ih =>
    intro h
    simp only [List.mem_cons, not_or] at h
    have : ¬ b = 0 := fun e => h.1 e.symm
    simp [cutAt, this, ih h.2]

/-- what getString comes to -/
def strAt (l : List UInt8) (s : Nat) : Option (List UInt8) := cutAt (l.drop s)
theorem strAt_hit {l : List UInt8} {s k : Nat} (hsk : s ≤ k) (hk : k < l.length) (h0 : l[k] = 0) (hn : ∀ j (h : j < l.length), s ≤ j → j < k → l[j] ≠ 0) : strAt l s = some ((l.drop s).take (k - s)) := by
  have e : l.drop s = (l.drop s).take (k - s) ++ 0 :: l.drop (k + 1) := by
    conv => lhs; rw [← List.take_append_drop (k - s) (l.drop s)]
    congr 1
    rw [List.drop_drop, show s + (k - s) = k from by omega, List.drop_eq_getElem_cons hk, h0]
  unfold strAt
  rw [e, cutAt_of]
  · rw [← e]
  · intro hm
    obtain ⟨i, hi, he⟩ := List.getElem_of_mem hm
    rw [List.getElem_take, List.getElem_drop] at he
    simp only [List.length_take, List.length_drop] at hi
    exact hn (s + i) (by omega) (by omega) (by omega) he
theorem strAt_miss {l : List UInt8} {s : Nat} (hn : ∀ j (h : j < l.length), s ≤ j → l[j] ≠ 0) : strAt l s = none := by
  apply cutAt_none_of
  intro hm
  obtain ⟨i, hi, he⟩ := List.getElem_of_mem hm
  rw [List.getElem_drop] at he
  simp only [List.length_drop] at hi
  exact hn (s + i) (by omega) (by omega) he

theorem info_u8 : (Try.prog.info? 5).map (fun i => (i.zero, i.size, i.bytes)) = some (some (.int .u8 0), 1, 1) := by kernel_rfl
theorem size_u8 : ∃ i, Try.prog.info? 5 = some i ∧ i.size = 1 := by
  obtain ⟨i0, hi, _, hz1, _⟩ := info_parts info_u8
  exact ⟨i0, hi, hz1⟩

/-- x[lo:hi] of bytes -/
theorem slice_u8 (A : Option Addr) (n c lo hi' : Nat) (h1 : lo ≤ hi') (h2 : hi' ≤ c) :
    ∃ A', (∀ w, (Instr.slice 36 (.slice A n c) (some (.int .i64 (lo : Int))) (some (.int .i64 (hi' : Int))) none).run Try.prog w = .ok (.slice A' (hi' - lo) (c - lo)) w) ∧
      ∀ (w : World) (l : List UInt8), Row w A (l.map Bv) → Row w A' (((l.drop lo).take (hi' - lo)).map Bv) := by
  obtain ⟨i0, hi, hz⟩ := size_u8
  obtain ⟨A', ha, hb⟩ := run_slice_row (P := Try.prog) Try.underlying36 hi hz A n c lo hi' h1 h2
  refine ⟨A', ha, fun w l h => ?_⟩
  have := hb w _ h
  rw [Nat.mul_one, Nat.mul_one] at this
  simpa [List.map_take, List.map_drop] using this

def strRes (o : Option (List UInt8)) : Value := match o with
  | some p => .tuple #[.string ⟨p.toArray⟩, .bool true]
  | none => .tuple #[.string ⟨#[]⟩, .bool false]

set_option maxHeartbeats 400000 in
theorem getString_out (A : Option Addr) (n c : Nat) (s : Int) (hs : s < 0 ∨ (n : Int) ≤ s) (hn : n ≤ maxLen) (w : World) :
    Calls Try.prog 55 #[.slice A n c, .int .i64 s] w fun e w' => e = .returned (strRes none) ∧ w = w' := by
  unfold maxLen at hn
  by_cases h : s < 0
  · go_enter Try.func55, Try.ntmps55
    go_wp2
    go_ret2
    exact ⟨rfl, rfl⟩
  · have h2 : (n : Int) ≤ s := by omega
    go_enter Try.func55, Try.ntmps55
    go_wp2
    go_ret2
    exact ⟨rfl, rfl⟩

theorem Bv_zero {b : UInt8} : ((b.toNat : Int) == 0) = decide (b = 0) := by
  rw [Bool.eq_iff_iff]
  simp only [beq_iff_eq, decide_eq_true_eq]
  exact ⟨fun h => UInt8.toNat_inj.1 (by simpa using h), fun h => by rw [h]; rfl⟩

set_option maxRecDepth 100000 in
set_option maxHeartbeats 800000 in
theorem getString_in (A : Option Addr) (l : List UInt8) (n c : Nat) (s : Nat) (hn : n = l.length) (hc : n ≤ c) (hl : c ≤ maxLen) (hs : s < n) (w : World) (hr : Row w A (l.map Bv)) :
    Calls Try.prog 55 #[.slice A n c, .int .i64 s] w fun e w' => e = .returned (strRes (strAt l s)) ∧ w = w' := by
  subst hn
  unfold maxLen at hl
  have h1 : (0 : Int) ≤ (s : Int) := by omega
  go_enter Try.func55, Try.ntmps55
  go_wp2
  go_loop [6] (fun i => ∃ k : Nat, s ≤ k ∧ k ≤ l.length ∧ i = .int .i64 k ∧ ∀ j (h : j < l.length), s ≤ j → j < k → l[j] ≠ 0) (fun i => l.length - (intOf i).toNat)
  case atStart => exact ⟨s, by omega, by omega, rfl, fun j _ h1 h2 => by omega⟩
  case round =>
    obtain ⟨k, hk1, hk2, rfl, hno⟩ := hrel
    have HNO := Lib.hid hno
    clear hno
    by_cases hlt : k < l.length
    · obtain ⟨b, off, rfl, hcell⟩ := hr.at_ (i := k) (by simpa using hlt)
      obtain ⟨m, hx⟩ : ∃ m : Int, (l[k].toNat : Int) = m := ⟨_, rfl⟩
      simp only [List.getElem_map, Bv, hx] at hcell
      have hz := Bv_zero (b := l[k])
      rw [hx] at hz
      have HX := Lib.hid hx
      clear hx
      by_cases hm : m = 0
      · subst hm
        have HZ : Hid (l[k] = 0) := Lib.hid (by simpa using hz.symm)
        clear hz
        obtain ⟨A', hsl, hrow⟩ := slice_u8 (some ⟨b, off, none⟩) l.length c s k hk1 (by omega)
        have hcv := run_str_row (P := Try.prog) (src := 36) (dst := 9) Try.underlying36 Try.underlying5 Try.underlying9 (c := c - s) (n := k - s) (by simp; omega) (hrow w l hr)
        have HF : Hid (strAt l s = _) := Lib.hid (strAt_hit hk1 hlt HZ.out fun j h ha hb => HNO.out j h ha hb)
        clear hrow
        go_wp2
        go_ret2
        exact ⟨by rw [HF.out]; rfl, rfl⟩
      · have HZ : Hid (l[k] ≠ 0) := Lib.hid (by
          have e0 : (m == 0) = false := by simpa using hm
          rw [e0] at hz
          simpa using hz.symm)
        clear hz
        go_wp2
        go_round
        case rel => exact ⟨k + 1, by omega, by omega, by go_num, fun j h ha hb => by
          rcases Nat.lt_or_ge j k with hj | hj
          · exact HNO.out j h ha hj
          · obtain rfl : j = k := by omega
            exact HZ.out⟩
        case measure => simp [intOf]; omega
    · have hf : strAt l s = none := strAt_miss fun j h ha => HNO.out j h ha (by omega)
      have HF := Lib.hid hf
      clear hf
      go_wp2
      go_ret2
      exact ⟨by rw [HF.out]; rfl, rfl⟩

def strAtI (l : List UInt8) (s : Int) : Option (List UInt8) := if s < 0 then none else strAt l s.toNat
/-- getString, at every slice of bytes and every place -/
theorem getString_any (A : Option Addr) (l : List UInt8) (n c : Nat) (s : Int) (hn : n = l.length) (hc : n ≤ c) (hl : c ≤ maxLen) (w : World) (hr : Row w A (l.map Bv)) :
    Calls Try.prog 55 #[.slice A n c, .int .i64 s] w fun e w' => e = .returned (strRes (strAtI l s)) ∧ w = w' := by
  by_cases h0 : s < 0
  · have : strAtI l s = none := if_pos h0
    rw [this]
    exact getString_out A n c s (.inl h0) (by omega) w
  · obtain ⟨k, rfl⟩ := Int.eq_ofNat_of_zero_le (by omega : 0 ≤ s)
    have e : strAtI l (k : Int) = strAt l k := by unfold strAtI; rw [if_neg h0]; rfl
    rw [e]
    by_cases hk : k < n
    · exact getString_in A l n c k hn hc hl hk w hr
    · have : strAt l k = none := by unfold strAt; rw [List.drop_eq_nil_of_le (by omega)]; rfl
      rw [this]
      exact getString_out A n c k (.inr (by omega)) (by omega) w
end Go.Proofs.Ytlgigipjgahecaa
