/- Words for the rows that spec lays: what a row object comes to behind its calls. -/
import Derived.Test.YtlgigipjgahecaaPut
namespace Go.Proofs.Ytlgigipjgahecaa
open Go.RowKit
set_option linter.unusedVariables false

theorem rowObj_new (w : World) (wide big : Bool) : RowObj (w.alloc (.cells #[.bool wide, .bool big, .slice none 0 0] 87)) w.heap.size wide big [] :=
  ⟨.slice none 0 0, heap_alloc_new w _, World.ownsRow_nil _ _ _ _⟩
theorem own_le {w : World} {base base' size n : Nat} {e : TypeId} {v : Value} {xs : List Value} (h : w.ownsRow base e size v n xs) (hb : base' ≤ base) : w.ownsRow base' e size v n xs := by
  refine ⟨h.1, ?_⟩
  rcases h.2 with h1 | ⟨g, cap, cur, h1, h2, h3⟩
  · exact .inl h1
  · exact .inr ⟨g, cap, cur, h1, by omega, h3⟩
theorem RowObj.below {w w' : World} {g : Nat} {wide big : Bool} {l : List UInt8} (h : RowObj w g wide big l) (hb : Below w.heap.size w w') : RowObj w' g wide big l := by
  obtain ⟨v, ho, hown⟩ := h
  exact ⟨v, obj_below ho hb (obj_lt ho), own_keep hown hb (Nat.le_refl _)⟩

/-- two boxes and a row object, just made -/
theorem start3 (w : World) (X S : Obj) (wide big : Bool) : (((w.alloc X).alloc S).alloc (.cells #[.bool wide, .bool big, .slice none 0 0] 87)).heap[w.heap.size]? = some X ∧
    (((w.alloc X).alloc S).alloc (.cells #[.bool wide, .bool big, .slice none 0 0] 87)).heap[w.heap.size + 1]? = some S ∧
    RowObj (((w.alloc X).alloc S).alloc (.cells #[.bool wide, .bool big, .slice none 0 0] 87)) (w.heap.size + 1 + 1) wide big [] ∧
    Below w.heap.size w (((w.alloc X).alloc S).alloc (.cells #[.bool wide, .bool big, .slice none 0 0] 87)) := by
  have e1 : (w.alloc X).heap.size = w.heap.size + 1 := by simp
  have e2 : ((w.alloc X).alloc S).heap.size = w.heap.size + 1 + 1 := by simp
  have a1 : (w.alloc X).heap[w.heap.size]? = some X := heap_alloc_new w X
  have a2 : ((w.alloc X).alloc S).heap[w.heap.size]? = some X := (Below.heap_alloc _ _ _ (by omega)).trans a1
  have b2 : ((w.alloc X).alloc S).heap[w.heap.size + 1]? = some S := by rw [← e1]; exact heap_alloc_new _ S
  refine ⟨(Below.heap_alloc _ _ _ (by omega)).trans a2, (Below.heap_alloc _ _ _ (by omega)).trans b2, ?_, (((Below.refl _ _).alloc (Nat.le_refl _) _).alloc (by omega) _).alloc (by omega) _⟩
  rw [← e2]
  exact rowObj_new _ wide big

theorem cells2 {w : World} {b : Nat} {T : TypeId} {a0 a1 a2 a3 a4 a5 a6 a7 a8 : Value} (h : w.heap[b]? = some (.cells #[a0, a1, a2, a3, a4, a5, a6, a7, a8] T (0, 0))) : w.cell? ⟨b, 0, none⟩ = some a0 ∧ w.cell? ⟨b, 1, none⟩ = some a1 := ⟨obj_cell h 0, obj_cell h 1⟩
theorem cells6 {w : World} {b : Nat} {T : TypeId} {a0 a1 a2 a3 a4 a5 : Value} (h : w.heap[b]? = some (.cells #[a0, a1, a2, a3, a4, a5] T (0, 0))) :
    w.cell? ⟨b, 0, none⟩ = some a0 ∧ w.cell? ⟨b, 1, none⟩ = some a1 ∧ w.cell? ⟨b, 2, none⟩ = some a2 ∧ w.cell? ⟨b, 3, none⟩ = some a3 ∧ w.cell? ⟨b, 4, none⟩ = some a4 ∧ w.cell? ⟨b, 5, none⟩ = some a5 :=
  ⟨obj_cell h 0, obj_cell h 1, obj_cell h 2, obj_cell h 3, obj_cell h 4, obj_cell h 5⟩
theorem cells7 {w : World} {b : Nat} {T : TypeId} {a0 a1 a2 a3 a4 a5 a6 : Value} (h : w.heap[b]? = some (.cells #[a0, a1, a2, a3, a4, a5, a6] T (0, 0))) :
    w.cell? ⟨b, 0, none⟩ = some a0 ∧ w.cell? ⟨b, 1, none⟩ = some a1 ∧ w.cell? ⟨b, 2, none⟩ = some a2 ∧ w.cell? ⟨b, 3, none⟩ = some a3 ∧ w.cell? ⟨b, 4, none⟩ = some a4 ∧ w.cell? ⟨b, 5, none⟩ = some a5 ∧ w.cell? ⟨b, 6, none⟩ = some a6 :=
  ⟨obj_cell h 0, obj_cell h 1, obj_cell h 2, obj_cell h 3, obj_cell h 4, obj_cell h 5, obj_cell h 6⟩
theorem cells10 {w : World} {b : Nat} {T : TypeId} {a0 a1 a2 a3 a4 a5 a6 a7 a8 a9 : Value} (h : w.heap[b]? = some (.cells #[a0, a1, a2, a3, a4, a5, a6, a7, a8, a9] T (0, 0))) :
    w.cell? ⟨b, 0, none⟩ = some a0 ∧ w.cell? ⟨b, 1, none⟩ = some a1 ∧ w.cell? ⟨b, 2, none⟩ = some a2 ∧ w.cell? ⟨b, 3, none⟩ = some a3 ∧ w.cell? ⟨b, 4, none⟩ = some a4 ∧ w.cell? ⟨b, 5, none⟩ = some a5 ∧ w.cell? ⟨b, 6, none⟩ = some a6 ∧ w.cell? ⟨b, 7, none⟩ = some a7 ∧ w.cell? ⟨b, 8, none⟩ = some a8 ∧ w.cell? ⟨b, 9, none⟩ = some a9 :=
  ⟨obj_cell h 0, obj_cell h 1, obj_cell h 2, obj_cell h 3, obj_cell h 4, obj_cell h 5, obj_cell h 6, obj_cell h 7, obj_cell h 8, obj_cell h 9⟩

theorem row_new2 (w : World) (a b : Value) (e : TypeId) : Row (w.alloc (.cells #[a, b] e)) (some ⟨w.heap.size, 0, none⟩) [a, b] :=
  Row.of_cells fun i hi => by
    have h : (w.alloc (.cells #[a, b] e)).heap[w.heap.size]? = some (.cells #[a, b] e (0, 0)) := heap_alloc_new w _
    rw [Nat.zero_add, obj_cell h i]
    simp at hi
    match i, hi with
    | 0, _ => rfl
    | 1, _ => rfl

/-- what is handed back: the bytes of a row object -/
theorem rowObj_end {w w' : World} {g : Nat} {wide big : Bool} {l : List UInt8} (h : RowObj w' g wide big l) (hg : w.heap.size ≤ g) : ∃ v, w'.cell? ⟨g, 2, none⟩ = some v ∧ w'.ownsRow w.heap.size 5 1 v l.length (l.map Bv) := by
  obtain ⟨v, ho, hown⟩ := h
  exact ⟨v, obj_cell ho 2, own_le hown (by omega)⟩
theorem szOf_le (wide : Bool) (s : Nat) (h : s ≤ 8) : szOf wide s ≤ 8 := by unfold szOf; split <;> (try split) <;> omega

section
variable {P : Program} {fn : Func} {p t u : Tmp} {ty T : TypeId} {g : Nat} {cs : Array Value} {fs : Array Field} {w : World} {tmps : Array Value}
/-- the result is a struct that lies in block g -/
theorem results_one_cell (h : fn.results = #[.cell p ty]) (hp : tmps.getD p undef = .pointer (some ⟨g, 0, none⟩)) (ho : w.heap[g]? = some (.cells cs T (0, 0))) (hu : P.underlying ty = some (.struct fs)) (hi : (P.info? ty).map (·.size) = some cs.size) :
    (results fn tmps).run P w = .ok (.agg cs) w := by
  have hl := run_loadVar_row (P := P) w g T ty cs (0, 0) _ ho hu rfl hi
  have hp' : tmps[p]?.getD undef = .pointer (some ⟨g, 0, none⟩) := by simpa using hp
  simp only [results, h]
  simp [hp', asAddr, hl]
theorem results_cell_tmp' (h : fn.results = #[.cell p ty, .tmp u]) (hp : tmps.getD p undef = .pointer (some ⟨g, 0, none⟩)) (ho : w.heap[g]? = some (.cells cs T (0, 0))) (hu : P.underlying ty = some (.struct fs)) (hi : (P.info? ty).map (·.size) = some cs.size) :
    (results fn tmps).run P w = .ok (.tuple #[.agg cs, tmps.getD u undef]) w := by
  have hl := run_loadVar_row (P := P) w g T ty cs (0, 0) _ ho hu rfl hi
  have hp' : tmps[p]?.getD undef = .pointer (some ⟨g, 0, none⟩) := by simpa using hp
  simp only [results, h]
  simp [hp', asAddr, hl]
theorem results_tmp_cell (h : fn.results = #[.tmp t, .cell p ty]) (hp : tmps.getD p undef = .pointer (some ⟨g, 0, none⟩)) (ho : w.heap[g]? = some (.cells cs T (0, 0))) (hu : P.underlying ty = some (.struct fs)) (hi : (P.info? ty).map (·.size) = some cs.size) :
    (results fn tmps).run P w = .ok (.tuple #[tmps.getD t undef, .agg cs]) w := by
  have hl := run_loadVar_row (P := P) w g T ty cs (0, 0) _ ho hu rfl hi
  have hp' : tmps[p]?.getD undef = .pointer (some ⟨g, 0, none⟩) := by simpa using hp
  simp only [results, h]
  simp [hp', asAddr, hl]
theorem results_tmp_cell_tmp (h : fn.results = #[.tmp t, .cell p ty, .tmp u]) (hp : tmps.getD p undef = .pointer (some ⟨g, 0, none⟩)) (ho : w.heap[g]? = some (.cells cs T (0, 0))) (hu : P.underlying ty = some (.struct fs)) (hi : (P.info? ty).map (·.size) = some cs.size) :
    (results fn tmps).run P w = .ok (.tuple #[tmps.getD t undef, .agg cs, tmps.getD u undef]) w := by
  have hl := run_loadVar_row (P := P) w g T ty cs (0, 0) _ ho hu rfl hi
  have hp' : tmps[p]?.getD undef = .pointer (some ⟨g, 0, none⟩) := by simpa using hp
  simp only [results, h]
  simp [hp', asAddr, hl]
end

/-- six cells of another block are written: a cell is as it was -/
theorem far1 {w : World} {g h : Nat} (hne : ¬ h = g) {v : Value} (i j : Nat) {u : Option Value} (hu : w.cell? ⟨g, j, none⟩ = u) : (w.setCell ⟨h, i, none⟩ v).cell? ⟨g, j, none⟩ = u :=
  (World.cell?_setCell_other w ⟨h, i, none⟩ ⟨g, j, none⟩ v (fun e => hne (by first | exact congrArg Addr.block e | exact (congrArg Addr.block e).symm))).trans hu
theorem far6 {w : World} {g h : Nat} (hne : ¬ h = g) {v0 v1 v2 v3 v4 v5 : Value} (j : Nat) {u : Option Value} (hu : w.cell? ⟨g, j, none⟩ = u) :
    ((((((w.setCell ⟨h, 0, none⟩ v0).setCell ⟨h, 1, none⟩ v1).setCell ⟨h, 2, none⟩ v2).setCell ⟨h, 3, none⟩ v3).setCell ⟨h, 4, none⟩ v4).setCell ⟨h, 5, none⟩ v5).cell? ⟨g, j, none⟩ = u :=
  far1 hne _ _ (far1 hne _ _ (far1 hne _ _ (far1 hne _ _ (far1 hne _ _ (far1 hne _ _ hu)))))
end Go.Proofs.Ytlgigipjgahecaa
