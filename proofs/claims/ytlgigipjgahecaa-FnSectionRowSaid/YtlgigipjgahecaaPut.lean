/- The contract of (*spec.row).put: a number is laid behind the bytes of a row. -/
import Derived.Test.YtlgigipjgahecaaFix
namespace Go.Proofs.Ytlgigipjgahecaa
open Go.RowKit
set_option linter.unusedVariables false
attribute [local go_sem ↓] Go.wp_at_zero Go.wp_at_succ

/-- block g is a row that has gathered the bytes l -/
def RowObj (w : World) (g : Nat) (wide big : Bool) (l : List UInt8) : Prop :=
  ∃ v, w.heap[g]? = some (.cells #[.bool wide, .bool big, v] 87 (0, 0)) ∧ w.ownsRow (g + 1) 5 1 v l.length (l.map Bv)

theorem obj_lt {w : World} {g : Nat} {o : Obj} (h : w.heap[g]? = some o) : g < w.heap.size := by
  rcases Nat.lt_or_ge g w.heap.size with hlt | hge
  · exact hlt
  · rw [Array.getElem?_eq_none hge] at h; cases h
theorem obj_cell {w : World} {g : Nat} {cs : Array Value} {T : TypeId} (h : w.heap[g]? = some (.cells cs T (0, 0))) (i : Nat) : w.cell? ⟨g, i, none⟩ = cs[i]? := cell_of_row w g i cs T (0, 0) h
theorem obj_free {w : World} {g : Nat} {cs : Array Value} {T : TypeId} (h : w.heap[g]? = some (.cells cs T (0, 0))) (i : Nat) : w.frozen? ⟨g, i, none⟩ = false := frozen_of_row w g i cs T h
theorem obj_set {w : World} {g : Nat} {cs : Array Value} {T : TypeId} (h : w.heap[g]? = some (.cells cs T (0, 0))) (i : Nat) (u : Value) :
    (w.setCell ⟨g, i, none⟩ u).heap[g]? = some (.cells (cs.setIfInBounds i u) T (0, 0)) := by simp [World.setCell, Array.getElem?_modify, h]
theorem obj_below {w w' : World} {g B : Nat} {o : Obj} (h : w.heap[g]? = some o) (hb : Below B w w') (hg : g < B) : w'.heap[g]? = some o := (hb.block g hg).trans h
theorem obj_grown {w w' : World} {g : Nat} {o : Obj} {row : Option Nat} (h : w.heap[g]? = some o) (hb : w.grownBy w' row) (hg : some g ≠ row) : w'.heap[g]? = some o := (hb.block g (obj_lt h) hg).trans h

/-- an owned row stays owned where nothing from its base on was written -/
theorem own_keep {w w' : World} {base e size n B : Nat} {v : Value} {xs : List Value} (h : w.ownsRow base e size v n xs) (hb : Below B w w') (hB : w.heap.size ≤ B) : w'.ownsRow base e size v n xs := by
  refine ⟨h.1, ?_⟩
  rcases h.2 with h1 | ⟨g, cap, cur, h1, h2, h3, h4⟩
  · exact .inl h1
  · exact .inr ⟨g, cap, cur, h1, h2, obj_below h3 hb (Nat.lt_of_lt_of_le (obj_lt h3) hB), h4⟩

def szOf (wide : Bool) (s : Nat) : Nat := if s = 0 then (if wide then 8 else 4) else s

theorem put_close {w2 : World} {g : Nat} {wide big : Bool} {v v2 : Value} {l f : List UInt8} {n : Nat} (ho : w2.heap[g]? = some (.cells #[.bool wide, .bool big, v] 87 (0, 0)))
    (hown : w2.ownsRow (g + 1) 5 1 v2 n (l.map Bv ++ f.map Bv)) (hn : n = l.length + f.length) : RowObj (w2.setCell ⟨g, 2, none⟩ v2) g wide big (l ++ f) := by
  refine ⟨v2, obj_set ho 2 v2, ?_⟩
  rw [List.map_append, List.length_append, ← hn]
  exact ownsRow_setCell_below hown (Nat.lt_succ_self g) v2
theorem put_below {w w1 w2 : World} {g base : Nat} {v v2 : Value} {n : Nat} {xs : List Value} (hb : Below w.heap.size w w1) (hlt : g < w.heap.size) (hg : w1.grownBy w2 v.ownBlock) (hown : w.ownsRow (g + 1) base 1 v n xs) : Below g w (w2.setCell ⟨g, 2, none⟩ v2) := by
  refine ((hb.mono (Nat.le_of_lt hlt)).grown hg ?_ fun k hk => ?_).setCell (Nat.le_refl _) _
  · have := hb.size; omega
  · rcases hown.2 with ⟨rfl, _⟩ | ⟨g', cap, cur, rfl, hb', _⟩
    · simp [Value.ownBlock] at hk
    · simp [Value.ownBlock] at hk; omega

set_option maxRecDepth 100000 in
set_option maxHeartbeats 2000000 in
theorem put_core (g n s : Nat) (big : Bool) (wide : Bool) (l : List UInt8) (hs : s ≤ 8) (hs0 : 0 < s) (hl : l.length ≤ 4294967296) (w : World) (h : RowObj w g wide big l) :
    Calls Try.prog 50 #[.pointer (some ⟨g, 0, none⟩), .int .u64 n, .int .i64 s] w fun e w' => e = .returned (.tuple #[]) ∧ RowObj w' g wide big (l ++ fixedB n s big) ∧ Below g w w' := by
  obtain ⟨i0, hi, hz0, hz1, hz2⟩ := info_parts info_u8
  obtain ⟨v, ho, hown⟩ := h
  have c0 : w.cell? ⟨g, 0, none⟩ = some (.bool wide) := obj_cell ho 0
  have c1 : w.cell? ⟨g, 1, none⟩ = some (.bool big) := obj_cell ho 1
  have c2 : w.cell? ⟨g, 2, none⟩ = some v := obj_cell ho 2
  have hf : w.frozen? ⟨g, 2, none⟩ = false := obj_free ho 2
  have hlt := obj_lt ho
  have hvg : v.ownBlock ≠ some g := by
    rcases hown.2 with ⟨rfl, _⟩ | ⟨g', cap, cur, rfl, hb, _⟩
    · simp [Value.ownBlock]
    · simp [Value.ownBlock]; omega
  have hne : ((s : Int) == 0) = false := by rw [beq_eq_false_iff_ne]; omega
  have HO := Lib.hid ho
  have HW := Lib.hid hown
  clear ho hown
  go_enter Try.func50, Try.ntmps50
  go_wp2_with fail
  go_region_law (first
      | ((refine step_append_row _ (by rfl) _ _ _ (by rfl) (g + 1) 5 i0 _ 1 1 Try.underlying36 hi hz0 hz1 hz2 rfl (by omega) v l.length (l.map Bv) (by rfl) (own_keep HW.out hb1 (Nat.le_refl _)) A1 s cc1 ((fixedB n s big).map Bv) (by rfl) (by simp [fixedB_length]) hrow1 (Bv_one _) (by unfold maxLen; omega) (by omega) (by omega) ?_; intro v2 w2 hown2 hgrow hat; obtain ⟨A2, cc2, rfl, hnc2, hrow2, hbase2⟩ := own_form hown2; have x2 : w2.cell? ⟨g, 2, none⟩ = some v := (hgrow.cell_far _ hlt1 (Ne.symm hvg)).trans d2; have xf : w2.frozen? ⟨g, 2, none⟩ = false := (hgrow.frozen_far _ hlt1 (Ne.symm hvg)).trans df; have HO2 := Lib.hid (obj_grown HO1.out hgrow (Ne.symm hvg))))
      | ((refine step_call (by rfl) 58 _ _ (by rfl) Try.func58 (by kernel_rfl) (by kernel_rfl) #[.int .u64 n, .int .i64 s, .bool big] (by rfl) ?_; refine (fixed_any n s big (by omega) _).mono ?_; rintro e w1 ⟨v1, rfl, hown1, hb0⟩; refine ⟨_, rfl, ?_⟩; have hb1 := below_of_drew hb0; clear hb0; obtain ⟨A1, cc1, rfl, hnc1, hrow1, hbase1⟩ := own_form hown1; have hlt1 : g < w1.heap.size := Nat.lt_of_lt_of_le hlt hb1.size; have d0 : w1.cell? ⟨g, 0, none⟩ = some (.bool wide) := (hb1.cell (p := ⟨g, 0, none⟩) hlt).trans c0; have d1 : w1.cell? ⟨g, 1, none⟩ = some (.bool big) := (hb1.cell (p := ⟨g, 1, none⟩) hlt).trans c1; have d2 : w1.cell? ⟨g, 2, none⟩ = some v := (hb1.cell (p := ⟨g, 2, none⟩) hlt).trans c2; have df : w1.frozen? ⟨g, 2, none⟩ = false := (hb1.frozen (p := ⟨g, 2, none⟩) hlt).trans hf; have HO1 := Lib.hid (obj_below HO.out hb1 hlt))))
  all_goals go_wp2
  all_goals go_end0
  all_goals exact ⟨rfl, put_close HO2.out hown2 (by rw [fixedB_length]), put_below hb1 hlt hgrow HW.out⟩

set_option maxRecDepth 100000 in
set_option maxHeartbeats 2000000 in
theorem put_zero8 (g n : Nat) (big : Bool) (l : List UInt8) (hl : l.length ≤ 4294967296) (w : World) (h : RowObj w g true big l) :
    Calls Try.prog 50 #[.pointer (some ⟨g, 0, none⟩), .int .u64 n, .int .i64 0] w fun e w' => e = .returned (.tuple #[]) ∧ RowObj w' g true big (l ++ fixedB n 8 big) ∧ Below g w w' := by
  obtain ⟨i0, hi, hz0, hz1, hz2⟩ := info_parts info_u8
  obtain ⟨v, ho, hown⟩ := h
  have c0 : w.cell? ⟨g, 0, none⟩ = some (.bool true) := obj_cell ho 0
  have c1 : w.cell? ⟨g, 1, none⟩ = some (.bool big) := obj_cell ho 1
  have c2 : w.cell? ⟨g, 2, none⟩ = some v := obj_cell ho 2
  have hf : w.frozen? ⟨g, 2, none⟩ = false := obj_free ho 2
  have hlt := obj_lt ho
  have hvg : v.ownBlock ≠ some g := by
    rcases hown.2 with ⟨rfl, _⟩ | ⟨g', cap, cur, rfl, hb, _⟩
    · simp [Value.ownBlock]
    · simp [Value.ownBlock]; omega
  have HO := Lib.hid ho
  have HW := Lib.hid hown
  clear ho hown
  go_enter Try.func50, Try.ntmps50
  go_wp2_with fail
  go_region_law (first
      | ((refine step_append_row _ (by rfl) _ _ _ (by rfl) (g + 1) 5 i0 _ 1 1 Try.underlying36 hi hz0 hz1 hz2 rfl (by omega) v l.length (l.map Bv) (by rfl) (own_keep HW.out hb1 (Nat.le_refl _)) A1 8 cc1 ((fixedB n 8 big).map Bv) (by rfl) (by simp [fixedB_length]) hrow1 (Bv_one _) (by unfold maxLen; omega) (by omega) (by omega) ?_; intro v2 w2 hown2 hgrow hat; obtain ⟨A2, cc2, rfl, hnc2, hrow2, hbase2⟩ := own_form hown2; have x2 : w2.cell? ⟨g, 2, none⟩ = some v := (hgrow.cell_far _ hlt1 (Ne.symm hvg)).trans d2; have xf : w2.frozen? ⟨g, 2, none⟩ = false := (hgrow.frozen_far _ hlt1 (Ne.symm hvg)).trans df; have HO2 := Lib.hid (obj_grown HO1.out hgrow (Ne.symm hvg))))
      | ((refine step_call (by rfl) 58 _ _ (by rfl) Try.func58 (by kernel_rfl) (by kernel_rfl) #[.int .u64 n, .int .i64 8, .bool big] (by rfl) ?_; refine (fixed_any n 8 big (by omega) _).mono ?_; rintro e w1 ⟨v1, rfl, hown1, hb0⟩; refine ⟨_, rfl, ?_⟩; have hb1 := below_of_drew hb0; clear hb0; obtain ⟨A1, cc1, rfl, hnc1, hrow1, hbase1⟩ := own_form hown1; have hlt1 : g < w1.heap.size := Nat.lt_of_lt_of_le hlt hb1.size; have d0 : w1.cell? ⟨g, 0, none⟩ = some (.bool true) := (hb1.cell (p := ⟨g, 0, none⟩) hlt).trans c0; have d1 : w1.cell? ⟨g, 1, none⟩ = some (.bool big) := (hb1.cell (p := ⟨g, 1, none⟩) hlt).trans c1; have d2 : w1.cell? ⟨g, 2, none⟩ = some v := (hb1.cell (p := ⟨g, 2, none⟩) hlt).trans c2; have df : w1.frozen? ⟨g, 2, none⟩ = false := (hb1.frozen (p := ⟨g, 2, none⟩) hlt).trans hf; have HO1 := Lib.hid (obj_below HO.out hb1 hlt))))
  all_goals go_wp2
  all_goals go_end0
  all_goals exact ⟨rfl, put_close HO2.out hown2 (by rw [fixedB_length]), put_below hb1 hlt hgrow HW.out⟩

set_option maxRecDepth 100000 in
set_option maxHeartbeats 2000000 in
theorem put_zero4 (g n : Nat) (big : Bool) (l : List UInt8) (hl : l.length ≤ 4294967296) (w : World) (h : RowObj w g false big l) :
    Calls Try.prog 50 #[.pointer (some ⟨g, 0, none⟩), .int .u64 n, .int .i64 0] w fun e w' => e = .returned (.tuple #[]) ∧ RowObj w' g false big (l ++ fixedB n 4 big) ∧ Below g w w' := by
  obtain ⟨i0, hi, hz0, hz1, hz2⟩ := info_parts info_u8
  obtain ⟨v, ho, hown⟩ := h
  have c0 : w.cell? ⟨g, 0, none⟩ = some (.bool false) := obj_cell ho 0
  have c1 : w.cell? ⟨g, 1, none⟩ = some (.bool big) := obj_cell ho 1
  have c2 : w.cell? ⟨g, 2, none⟩ = some v := obj_cell ho 2
  have hf : w.frozen? ⟨g, 2, none⟩ = false := obj_free ho 2
  have hlt := obj_lt ho
  have hvg : v.ownBlock ≠ some g := by
    rcases hown.2 with ⟨rfl, _⟩ | ⟨g', cap, cur, rfl, hb, _⟩
    · simp [Value.ownBlock]
    · simp [Value.ownBlock]; omega
  have HO := Lib.hid ho
  have HW := Lib.hid hown
  clear ho hown
  go_enter Try.func50, Try.ntmps50
  go_wp2_with fail
  go_region_law (first
      | ((refine step_append_row _ (by rfl) _ _ _ (by rfl) (g + 1) 5 i0 _ 1 1 Try.underlying36 hi hz0 hz1 hz2 rfl (by omega) v l.length (l.map Bv) (by rfl) (own_keep HW.out hb1 (Nat.le_refl _)) A1 4 cc1 ((fixedB n 4 big).map Bv) (by rfl) (by simp [fixedB_length]) hrow1 (Bv_one _) (by unfold maxLen; omega) (by omega) (by omega) ?_; intro v2 w2 hown2 hgrow hat; obtain ⟨A2, cc2, rfl, hnc2, hrow2, hbase2⟩ := own_form hown2; have x2 : w2.cell? ⟨g, 2, none⟩ = some v := (hgrow.cell_far _ hlt1 (Ne.symm hvg)).trans d2; have xf : w2.frozen? ⟨g, 2, none⟩ = false := (hgrow.frozen_far _ hlt1 (Ne.symm hvg)).trans df; have HO2 := Lib.hid (obj_grown HO1.out hgrow (Ne.symm hvg))))
      | ((refine step_call (by rfl) 58 _ _ (by rfl) Try.func58 (by kernel_rfl) (by kernel_rfl) #[.int .u64 n, .int .i64 4, .bool big] (by rfl) ?_; refine (fixed_any n 4 big (by omega) _).mono ?_; rintro e w1 ⟨v1, rfl, hown1, hb0⟩; refine ⟨_, rfl, ?_⟩; have hb1 := below_of_drew hb0; clear hb0; obtain ⟨A1, cc1, rfl, hnc1, hrow1, hbase1⟩ := own_form hown1; have hlt1 : g < w1.heap.size := Nat.lt_of_lt_of_le hlt hb1.size; have d0 : w1.cell? ⟨g, 0, none⟩ = some (.bool false) := (hb1.cell (p := ⟨g, 0, none⟩) hlt).trans c0; have d1 : w1.cell? ⟨g, 1, none⟩ = some (.bool big) := (hb1.cell (p := ⟨g, 1, none⟩) hlt).trans c1; have d2 : w1.cell? ⟨g, 2, none⟩ = some v := (hb1.cell (p := ⟨g, 2, none⟩) hlt).trans c2; have df : w1.frozen? ⟨g, 2, none⟩ = false := (hb1.frozen (p := ⟨g, 2, none⟩) hlt).trans hf; have HO1 := Lib.hid (obj_below HO.out hb1 hlt))))
  all_goals go_wp2
  all_goals go_end0
  all_goals exact ⟨rfl, put_close HO2.out hown2 (by rw [fixedB_length]), put_below hb1 hlt hgrow HW.out⟩

/-- put, at every size (0: that of an address) -/
theorem put_any (g n s : Nat) (big : Bool) (wide : Bool) (l : List UInt8) (hs : s ≤ 8) (hl : l.length ≤ 4294967296) (w : World) (h : RowObj w g wide big l) :
    Calls Try.prog 50 #[.pointer (some ⟨g, 0, none⟩), .int .u64 n, .int .i64 s] w fun e w' => e = .returned (.tuple #[]) ∧ RowObj w' g wide big (l ++ fixedB n (szOf wide s) big) ∧ Below g w w' := by
  by_cases h0 : s = 0
  · subst h0
    cases wide with
    | true => exact put_zero8 g n big l hl w h
    | false => exact put_zero4 g n big l hl w h
  · have e : szOf wide s = s := if_neg h0
    rw [e]
    exact put_core g n s big wide l hs (by omega) hl w h
end Go.Proofs.Ytlgigipjgahecaa
