/- The walk of the law on texts of a table. -/
import Derived.Test.YtlgigipjgahecaaApp
namespace Go.Proofs.Ytlgigipjgahecaa
open Go.RowKit
set_option linter.unusedVariables false

theorem strRes_cases (o : Option (List UInt8)) : ∃ (s : ByteArray) (b : Bool), strRes o = .tuple #[.string s, .bool b] ∧ b = o.isSome ∧ s = ⟨(o.getD []).toArray⟩ := by
  cases o with
  | none => exact ⟨_, _, rfl, rfl, rfl⟩
  | some p => exact ⟨_, _, rfl, rfl, rfl⟩

set_option maxRecDepth 100000 in
set_option maxHeartbeats 400000 in
theorem zzString_any (A : Option Addr) (l : List UInt8) (n c : Nat) (s : Int) (hn : n = l.length) (hc : n ≤ c) (hl : c ≤ maxLen) (w : World) (hr : Row w A (l.map Bv)) :
    Calls Try.prog 47 #[.slice A n c, .int .i64 s] w fun e w' => e = .returned (strRes (strAtI l s)) ∧ w = w' := by
  have hg := fun W => getString_any A l n c s hn hc hl W
  obtain ⟨t, b, e, -, -⟩ := strRes_cases (strAtI l s)
  rw [e] at hg ⊢
  have HG := Lib.hid hg
  clear hg e hn
  go_enter Try.func47, Try.ntmps47
  go_wp2_with (go_at_call 55; refine (HG.out _ hr).mono ?_; rintro e w' ⟨rfl, rfl⟩)
  go_ret2
  exact ⟨rfl, rfl⟩

set_option maxRecDepth 100000 in
set_option maxHeartbeats 400000 in
theorem textAt_any (A : Option Addr) (l : List UInt8) (n c : Nat) (s : Int) (hn : n = l.length) (hb : n ≤ 4294967296) (w : World) (hr : Row w A (l.map Bv)) :
    Calls Try.prog 24 #[.slice A n c, .int .i64 s] w fun e w' => e = .returned (strRes (strAtI l s)) ∧ Below w.heap.size w w' := by
  obtain ⟨i0, hi, hz0, hz1, hz2⟩ := info_parts info_u8
  obtain ⟨t, b, e, -, -⟩ := strRes_cases (strAtI l s)
  have hg := fun A' c' => zzString_any A' l n c' s hn
  rw [e] at hg ⊢
  have HG := Lib.hid hg
  clear hg e
  have HN := Lib.hid hn
  clear hn
  go_enter Try.func24, Try.ntmps24
  go_wp2_with (at_builtin; refine wpList_append_row _ rfl _ _ 36 rfl w.heap.size 5 i0 (.int .u8 0) 1 1 Try.underlying36 hi hz0 hz1 hz2 rfl (by omega) (.slice none 0 0) 0 [] rfl (World.ownsRow_nil _ _ _ _) A n c (l.map Bv) rfl ?c0 hr (Bv_one l) ?c1 ?c2 (Nat.le_refl _) ?_)
  case c0 => rw [HN.out]; simp
  case c1 => unfold maxLen; omega
  case c2 => omega
  intro v' w1 hown hgrow _
  obtain ⟨A', c', rfl, hnc, hrow, _⟩ := own_form hown
  have hcm : c' ≤ maxLen := by
    rcases hown.2 with ⟨e, _⟩ | ⟨g, cap, cur, e, _, _, _, hm, _⟩
    · injection e with _ _ e3; omega
    · injection e with _ _ e3; omega
  have hbel : Below w.heap.size w w1 := (Below.refl _ _).grown hgrow (Nat.le_refl _) (by simp [Value.ownBlock])
  have HB := Lib.hid hbel
  clear hown hgrow hbel
  go_wp2_with (go_at_call 47; refine (HG.out A' c' hnc hcm w1 hrow).mono ?_; rintro e w' ⟨rfl, rfl⟩)
  go_ret2
  exact ⟨rfl, HB.out⟩

theorem row_new1 (w : World) (b : UInt8) (e : TypeId) : Row (w.alloc (.cells #[Bv b] e)) (some ⟨w.heap.size, 0, none⟩) ([b].map Bv) :=
  Row.of_cells fun i hi => by
    have hi0 : i = 0 := by simpa using hi
    subst hi0
    have : (w.alloc (.cells #[Bv b] e)).heap[w.heap.size]? = some (.cells #[Bv b] e (0, 0)) := heap_alloc_new w _
    unfold World.cell?
    rw [this]
    rfl

set_option maxRecDepth 100000 in
set_option maxHeartbeats 1000000 in
theorem walk_textAt (A : Option Addr) (l : List UInt8) (n c : Nat) (s : Int) (hs0 : -9223372036854775808 ≤ s) (hs1 : s ≤ 9223372036854775807) (hn : n = l.length) (hc : n ≤ c) (hcm : c ≤ maxLen) (w : World) (hr : Row w A (l.map Bv)) :
    Calls Try.prog 9 #[.slice A n c, .int .i64 s] w fun e w' => e = .returned (.bool true) ∧ Below w.heap.size w w' := by
  unfold maxLen at hcm
  by_cases hbig : 65536 < n
  · have HN := Lib.hid hn
    clear hn
    by_cases hb2 : 2147483647 < n
    all_goals
      go_enter Try.func9, Try.ntmps9
      go_wp2
      go_ret
      exact ⟨rfl, Below.refl _ _⟩
  have h1 := textAt_any A l n c s hn (by omega) w hr
  have h2 := fun W : World => textAt_any (some ⟨W.heap.size, 0, none⟩) [0] 1 1 0 rfl (by omega) (W.alloc (.cells #[Bv 0] 5)) (row_new1 W 0 _)
  have e2 : strRes (strAtI [0] 0) = .tuple #[.string ⟨#[]⟩, .bool true] := rfl
  rw [e2] at h2
  obtain ⟨t, b, e, hb, ht⟩ := strRes_cases (strAtI l s)
  rw [e] at h1
  have H1 := Lib.hid h1
  have H2 := Lib.hid h2
  have HN := Lib.hid hn
  have HT := Lib.hid ht
  have HB := Lib.hid hb
  clear h1 h2 e e2 ht hb hn
  go_enter Try.func9, Try.ntmps9
  go_wp2_with fail
  refine H1.out.mono ?_
  rintro e w1 ⟨rfl, hb1⟩
  have HB1 := Lib.hid hb1
  clear hb1
  go_wp2_with fail
  refine (H2.out w1).mono ?_
  rintro e w2 ⟨rfl, hb2⟩
  have HB2 : Hid (Below w.heap.size w w2) := Lib.hid ((HB1.out.trans ((Below.refl _ _).alloc HB1.out.size _)).trans (hb2.mono (by have := HB1.out.size; simp; omega)))
  have hr2 : Row w2 A (l.map Bv) := hr.below HB2.out
  clear HB1 hb2 hr
  by_cases h0 : s < 0
  · have hbf : b = false := by rw [HB.out]; unfold strAtI; rw [if_pos h0]; rfl
    subst hbf
    go_wp2_with fail
    go_loop [9] (fun i => i = .int .i64 s) (fun i => 0)
    case atStart => rfl
    case round =>
      subst hrel
      go_wp2
      go_ret
      exact ⟨rfl, HB2.out⟩
  · obtain ⟨k0, rfl⟩ := Int.eq_ofNat_of_zero_le (by omega : 0 ≤ s)
    have hp : (0 : Int) ≤ (k0 : Int) := by omega
    have HE : Hid (strAtI l (k0 : Int) = strAt l k0) := Lib.hid (by unfold strAtI; rw [if_neg h0]; rfl)
    go_wp2_with fail
    go_loop [9] (fun i => ∃ k : Nat, k0 ≤ k ∧ (k ≤ n ∨ k = k0) ∧ i = .int .i64 k ∧ ∀ j (h : j < l.length), k0 ≤ j → j < k → l[j] ≠ 0) (fun i => l.length - (intOf i).toNat)
    case atStart => exact ⟨k0, by omega, by omega, rfl, fun j _ h1 h2 => by omega⟩
    case round =>
      obtain ⟨k, hk1, hk2, rfl, hno⟩ := hrel
      have HNO := Lib.hid hno
      clear hno
      by_cases hlt : k < n
      · obtain ⟨b', off, rfl, hcell⟩ := hr2.at_ (i := k) (by simp; have := HN.out; omega)
        obtain ⟨m, hx⟩ : ∃ m : Int, ((l[k]'(by have := HN.out; omega)).toNat : Int) = m := ⟨_, rfl⟩
        simp only [List.getElem_map, Bv, hx] at hcell
        have hz := Bv_zero (b := l[k]'(by have := HN.out; omega))
        rw [hx] at hz
        have HX := Lib.hid hx
        clear hx
        by_cases hm : m = 0
        · subst hm
          have hz0 : l[k]'(by have := HN.out; omega) = 0 := by simpa using hz.symm
          have hf : strAt l k0 = some _ := strAt_hit hk1 (by have := HN.out; omega) hz0 fun j h ha hb => HNO.out j h ha hb
          have hf2 := HE.out.trans hf
          have hbt : b = true := by rw [HB.out, hf2]; rfl
          have htt : t = ⟨((l.drop k0).take (k - k0)).toArray⟩ := by rw [HT.out, hf2]; rfl
          subst hbt htt
          clear hz hz0 hf hf2
          obtain ⟨A', hsl, hrow⟩ := slice_u8 (some ⟨b', off, none⟩) n c k0 k hk1 (by omega)
          have hcv := run_str_row (P := Try.prog) (src := 36) (dst := 9) Try.underlying36 Try.underlying5 Try.underlying9 (c := c - k0) (n := k - k0) (by simp; have := HN.out; omega) (hrow w2 l hr2)
          clear hrow
          go_wp2
          go_ret
          exact ⟨rfl, HB2.out⟩
        · have HZ : Hid (l[k]'(by have := HN.out; omega) ≠ 0) := Lib.hid (by
            have e0 : (m == 0) = false := by simpa using hm
            rw [e0] at hz
            simpa using hz.symm)
          clear hz
          go_wp2
          go_round
          case rel => exact ⟨k + 1, by omega, by omega, by go_num, fun j h ha hb => by
            rcases Nat.lt_or_ge j k with hj | hj
            · exact HNO.out j h ha hj
            · obtain rfl : j = k := by omega
              exact HZ.out⟩
          case measure => simp [intOf]; have := HN.out; omega
      · have hf : strAt l k0 = none := strAt_miss fun j h ha => HNO.out j h ha (by have := HN.out; omega)
        have hbf : b = false := by rw [HB.out, HE.out, hf]; rfl
        subst hbf
        clear hf
        go_wp2
        go_ret
        exact ⟨rfl, HB2.out⟩
end Go.Proofs.Ytlgigipjgahecaa
