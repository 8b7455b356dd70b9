/- A struct that lies inside a greater block (an embedded field): stored and loaded as a whole, the block told as a row. -/
import Derived.Test.YtlgigipjgahecaaRows
import Derived.WalkKit
import Derived.Laws.CopyOwn
namespace Go.Proofs.Ytlgigipjgahecaa
open Go Go.RowKit
set_option linter.unusedVariables false

section
variable {P : Program}
theorem addr_add' (b off j : Nat) : (⟨b, off, none⟩ : Addr).add j = ⟨b, off + j, none⟩ := by
  unfold Addr.add
  split
  · rename_i h; subst h; rfl
  · rfl

theorem run_storeVar_mid (w : World) (g off : Nat) (t ty : TypeId) (old cells new : Array Value) (hg : w.heap[g]? = some (.cells old t (0, 0))) (hi : (P.info? ty).map (·.size) = some cells.size)
    (ho : off + cells.size ≤ old.size) (h1 : cells.toList.all (·.oneCell') = true) (hn : new.toList = old.toList.take off ++ cells.toList ++ old.toList.drop (off + cells.size)) :
    (storeVar ty ⟨g, off, none⟩ (.agg cells)).run P w = .ok () (w.setRow g new) := by
  have := run_storeCells_at P g off t cells.toList 0 old w hg (by simp; omega) (fun v hv => List.all_eq_true.1 h1 v hv)
  rw [Nat.add_zero, Array.length_toList, ← hn, Array.toArray_toList] at this
  cases hq : P.info? ty with
  | none => simp [hq] at hi
  | some i =>
    have hs : cells.size = i.size := by simp [hq] at hi; omega
    simp [storeVar, sizeOf, typeInfo, hq, Value.cells, hs, this]

theorem wp_store_mid {o : Oper} {a : Act} {w : World} {K : Act → World → Prop} {Q : Exit → Act → World → Prop} (ty : TypeId) (x y : Operand) (ho : o.op = .store ty x y)
    (g off : Nat) (cells : Array Value) (hx : a.eval x = .pointer (some ⟨g, off, none⟩)) (hy : a.eval y = .agg cells)
    (t : TypeId) (old new : Array Value) (hg : w.heap[g]? = some (.cells old t (0, 0))) (hi : (P.info? ty).map (·.size) = some cells.size)
    (hold : off + cells.size ≤ old.size) (h1 : cells.toList.all (·.oneCell') = true) (hn : new.toList = old.toList.take off ++ cells.toList ++ old.toList.drop (off + cells.size))
    (h : ∀ w', w'.heap[g]? = some (.cells new t (0, 0)) → (∀ k, k ≠ g → w'.heap[k]? = w.heap[k]?) → w'.heap.size = w.heap.size → (∀ B, B ≤ g → Below B w w') → K (a.put o.dst undef) w') : o.wp P a w K Q := by
  unfold Oper.wp execOp
  simp only [ho, hx, hy, Instr.storeAt, Instr.sureAddr, Sem.run_bind, Sem.run_pure, Result.andThen_ok, run_storeVar_mid w g off t ty old cells new hg hi hold h1 hn]
  exact h _ (setRow_heap w g old new t _ hg) (fun k hk => setRow_other w g k new hk) (by simp) (fun B hB => below_setRow (Below.refl _ _) hB _)

/-- a whole struct is stored at a place inside a block -/
theorem wpList_store_mid {ops : Array Oper} {rest : List Oper} {o : Oper} {a : Act} {w : World} {Q : Exit → Act → World → Prop} (hgd : o.guard = none) (ty : TypeId) (x y : Operand) (ho : o.op = .store ty x y)
    (g off : Nat) (cells : Array Value) (hx : a.eval x = .pointer (some ⟨g, off, none⟩)) (hy : a.eval y = .agg cells)
    (t : TypeId) (old new : Array Value) (hg : w.heap[g]? = some (.cells old t (0, 0))) (hi : (P.info? ty).map (·.size) = some cells.size)
    (hold : off + cells.size ≤ old.size) (h1 : cells.toList.all (·.oneCell') = true) (hn : new.toList = old.toList.take off ++ cells.toList ++ old.toList.drop (off + cells.size))
    (h : ∀ w', w'.heap[g]? = some (.cells new t (0, 0)) → (∀ k, k ≠ g → w'.heap[k]? = w.heap[k]?) → w'.heap.size = w.heap.size → (∀ B, B ≤ g → Below B w w') → wpList P ops Q rest (a.put o.dst undef) w') : wpList P ops Q (o :: rest) a w :=
  wpList_plain hgd fun _ hK => wp_store_mid ty x y ho g off cells hx hy t old new hg hi hold h1 hn fun w' c1 c2 c3 c4 => hK _ _ (h w' c1 c2 c3 c4)

theorem run_loadVar_mid (w : World) (g off : Nat) (t ty : TypeId) (cs sub : Array Value) (fr : Nat × Nat) (d : TypeDesc) (hg : w.heap[g]? = some (.cells cs t fr))
    (hu : P.underlying ty = some d) (hd : (match d with | .struct _ | .array _ _ => true | _ => false) = true) (hi : (P.info? ty).map (·.size) = some sub.size)
    (hsub : ∀ j v, sub.toList[j]? = some v → cs[off + j]? = some v) :
    (loadVar ty ⟨g, off, none⟩).run P w = .ok (.agg sub) w := by
  have hl : (loadCells ⟨g, off, none⟩ sub.toList.length).run P w = .ok sub.toList.toArray w :=
    run_loadCells_list (P := P) w ⟨g, off, none⟩ sub.toList (fun j v hv => by
      rw [addr_add', cell_of_row w g (off + j) cs t fr hg]
      exact hsub j v hv)
  cases hq : P.info? ty with
  | none => simp [hq] at hi
  | some i =>
    have hs : i.size = sub.size := by simpa [hq] using hi
    have hagg : (isAgg ty).run P w = .ok true w := by
      unfold isAgg
      rw [Sem.run_bind, run_underlying hu w]
      cases d <;> simp_all
    simp only [Array.length_toList, Array.toArray_toList] at hl
    simp [loadVar, Sem.run_bind, hagg, sizeOf, typeInfo, hq, hs, hl]

theorem sub_of {cs sub : Array Value} {off : Nat} (h : (cs.toList.drop off).take sub.size = sub.toList) : ∀ j v, sub.toList[j]? = some v → cs[off + j]? = some v := by
  intro j v hv
  rw [← h, List.getElem?_take] at hv
  split at hv
  · rw [List.getElem?_drop] at hv
    simpa using hv
  · cases hv

theorem wp_load_mid {o : Oper} {a : Act} {w : World} {K : Act → World → Prop} {Q : Exit → Act → World → Prop} (ty : TypeId) (x : Operand) (ho : o.op = .load ty x)
    (g off : Nat) (hx : a.eval x = .pointer (some ⟨g, off, none⟩)) (t : TypeId) (cs sub : Array Value) (fr : Nat × Nat) (d : TypeDesc) (hg : w.heap[g]? = some (.cells cs t fr))
    (hu : P.underlying ty = some d) (hd : (match d with | .struct _ | .array _ _ => true | _ => false) = true) (hi : (P.info? ty).map (·.size) = some sub.size)
    (hsub : (cs.toList.drop off).take sub.size = sub.toList) (h : K (a.put o.dst (.agg sub)) w) : o.wp P a w K Q := by
  unfold Oper.wp execOp
  simp only [ho, hx, Instr.loadAt, Instr.sureAddr, Sem.run_bind, Sem.run_pure, Result.andThen_ok, run_loadVar_mid w g off t ty cs sub fr d hg hu hd hi (sub_of hsub)]
  exact h

/-- a whole struct is loaded from a place inside a block -/
theorem wpList_load_mid {ops : Array Oper} {rest : List Oper} {o : Oper} {a : Act} {w : World} {Q : Exit → Act → World → Prop} (hgd : o.guard = none) (ty : TypeId) (x : Operand) (ho : o.op = .load ty x)
    (g off : Nat) (hx : a.eval x = .pointer (some ⟨g, off, none⟩)) (t : TypeId) (cs sub : Array Value) (fr : Nat × Nat) (d : TypeDesc) (hg : w.heap[g]? = some (.cells cs t fr))
    (hu : P.underlying ty = some d) (hd : (match d with | .struct _ | .array _ _ => true | _ => false) = true) (hi : (P.info? ty).map (·.size) = some sub.size)
    (hsub : (cs.toList.drop off).take sub.size = sub.toList) (h : wpList P ops Q rest (a.put o.dst (.agg sub)) w) : wpList P ops Q (o :: rest) a w :=
  wpList_plain hgd fun _ hK => wp_load_mid ty x ho g off hx t cs sub fr d hg hu hd hi hsub (hK _ _ h)
end
end Go.Proofs.Ytlgigipjgahecaa
