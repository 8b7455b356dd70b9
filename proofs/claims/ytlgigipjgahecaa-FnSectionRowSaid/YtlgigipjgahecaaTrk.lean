/- Memory told by a list of blocks that the call has made, and the walk's laws over such a list: allocations, loads, stores. -/
import Derived.Test.YtlgigipjgahecaaPart
import Derived.Test.YtlgigipjgahecaaMem
namespace Go.Proofs.Ytlgigipjgahecaa
open Go Go.RowKit
set_option linter.unusedVariables false

/-- what is known of memory: w is a later world of w0 that has turned new blocks only; of some new blocks (the newest first) it is told what they hold -/
def Mm (w0 w : World) (L : List (Nat × Obj)) : Prop :=
  Below w0.heap.size w0 w ∧ (∀ p ∈ L, w.heap[p.1]? = some p.2 ∧ w0.heap.size ≤ p.1) ∧ (L.map (·.1)).Pairwise (· > ·)

section
variable {w0 w w' : World} {L : List (Nat × Obj)}
theorem Mm.start (w : World) : Mm w w [] := ⟨Below.refl _ _, fun p h => absurd h (by simp), by simp⟩
theorem Mm.below (h : Mm w0 w L) : Below w0.heap.size w0 w := h.1
theorem Mm.get (h : Mm w0 w L) {i b : Nat} {o : Obj} (e : L[i]? = some (b, o)) : w.heap[b]? = some o := (h.2.1 _ (List.mem_of_getElem? e)).1
theorem Mm.ge (h : Mm w0 w L) {i b : Nat} {o : Obj} (e : L[i]? = some (b, o)) : w0.heap.size ≤ b := (h.2.1 _ (List.mem_of_getElem? e)).2
theorem lt_of_get {w : World} {b : Nat} {o : Obj} (h : w.heap[b]? = some o) : b < w.heap.size := by
  rcases Nat.lt_or_ge b w.heap.size with hlt | hge
  · exact hlt
  · rw [Array.getElem?_eq_none hge] at h; cases h
theorem Mm.lt (h : Mm w0 w L) {i b : Nat} {o : Obj} (e : L[i]? = some (b, o)) : b < w.heap.size := lt_of_get (h.get e)
theorem Mm.size (h : Mm w0 w L) : w0.heap.size ≤ w.heap.size := h.1.size
theorem Mm.call (h : Mm w0 w L) (hb : Below w.heap.size w w') : Mm w0 w' L :=
  ⟨h.1.trans (hb.mono h.1.size), fun p hp => ⟨(hb.block p.1 (lt_of_get (h.2.1 p hp).1)).trans (h.2.1 p hp).1, (h.2.1 p hp).2⟩, h.2.2⟩
/-- a block that a callee has made -/
theorem Mm.push (h : Mm w0 w L) (hb : Below w.heap.size w w') {b : Nat} {o : Obj} (hg : w.heap.size ≤ b) (ho : w'.heap[b]? = some o) : Mm w0 w' ((b, o) :: L) := by
  have h1 := h.call hb
  refine ⟨h1.1, fun p hp => ?_, ?_⟩
  · rcases List.mem_cons.1 hp with rfl | hp
    · exact ⟨ho, Nat.le_trans h.size hg⟩
    · exact h1.2.1 p hp
  · rw [List.map_cons, List.pairwise_cons]
    refine ⟨fun c hc => ?_, h1.2.2⟩
    obtain ⟨p, hp, rfl⟩ := List.mem_map.1 hc
    exact Nat.lt_of_lt_of_le (lt_of_get (h.2.1 p hp).1) hg
theorem Mm.alloc (h : Mm w0 w L) (o : Obj) : Mm w0 (w.alloc o) ((w.heap.size, o) :: L) :=
  h.push ((Below.refl _ _).alloc (Nat.le_refl _) o) (Nat.le_refl _) (heap_alloc_new w o)
theorem Mm.drewN (h : Mm w0 w L) (n : Nat) : Mm w0 (w.drewN n) L := ⟨below_drewN h.1 n, h.2.1, h.2.2⟩
theorem Mm.drew (h : Mm w0 w L) : Mm w0 w.drew L := ⟨h.1.drew, h.2.1, h.2.2⟩
theorem Mm.sub {K : List (Nat × Obj)} (h : Mm w0 w L) (hs : K.Sublist L) : Mm w0 w K := ⟨h.1, fun p hp => h.2.1 p (hs.subset hp), h.2.2.sublist (hs.map _)⟩
theorem Mm.ne (h : Mm w0 w L) {i j b c : Nat} {o p : Obj} (e : L[i]? = some (b, o)) (f : L[j]? = some (c, p)) (hij : i ≠ j) : b ≠ c := by
  have hp := h.2.2
  rw [List.pairwise_iff_getElem] at hp
  obtain ⟨h1, e1⟩ := List.getElem?_eq_some_iff.1 e
  obtain ⟨h2, e2⟩ := List.getElem?_eq_some_iff.1 f
  rcases Nat.lt_or_gt_of_ne hij with hlt | hgt
  · have := hp i j (by simpa using h1) (by simpa using h2) hlt
    simp only [List.getElem_map, e1, e2] at this
    omega
  · have := hp j i (by simpa using h2) (by simpa using h1) hgt
    simp only [List.getElem_map, e1, e2] at this
    omega
/-- a world that parts from w in one told block -/
theorem Mm.put (h : Mm w0 w L) {i b : Nat} {o o' : Obj} (e : L[i]? = some (b, o)) (h1 : w'.heap[b]? = some o') (h2 : ∀ k, k ≠ b → w'.heap[k]? = w.heap[k]?) (h3 : ∀ B, B ≤ b → Below B w w') : Mm w0 w' (L.set i (b, o')) := by
  have hge := h.ge e
  refine ⟨h.1.trans (h3 _ hge), fun p hp => ?_, ?_⟩
  · obtain ⟨j, hj⟩ := List.getElem?_of_mem hp
    rw [List.getElem?_set] at hj
    split at hj
    · split at hj
      · injection hj with hj; subst hj; exact ⟨h1, hge⟩
      · cases hj
    · rename_i hij
      have hj' : L[j]? = some (p.1, p.2) := hj
      have hne : p.1 ≠ b := h.ne hj' e (Ne.symm hij)
      exact ⟨(h2 _ hne).trans (h.get hj'), h.ge hj'⟩
  · rw [List.map_set]
    have : (L.map (·.1)).set i b = L.map (·.1) := by
      apply List.ext_getElem?
      intro j
      rw [List.getElem?_set]
      split
      · rename_i hij; subst hij
        have hi := (List.getElem?_eq_some_iff.1 e).1
        have e1 := (List.getElem?_eq_some_iff.1 e).2
        simp [hi, e1]
      · rfl
    rw [this]; exact h.2.2
theorem Mm.set (h : Mm w0 w L) {i b : Nat} {old : Array Value} {t : TypeId} (e : L[i]? = some (b, .cells old t (0, 0))) (new : Array Value) : Mm w0 (w.setRow b new) (L.set i (b, .cells new t (0, 0))) :=
  h.put e (setRow_heap w b old new t _ (h.get e)) (fun k hk => setRow_other w b k new hk) (fun B hB => below_setRow (Below.refl _ _) hB _)
theorem Mm.row (h : Mm w0 w L) {A : Option Addr} {cs : List Value} (hr : Row w0 A cs) : Row w A cs := hr.below h.1
/-- a told block reads as a row -/
theorem Mm.rowAt (h : Mm w0 w L) {i b : Nat} {cs : Array Value} {t : TypeId} {f : Nat × Nat} (e : L[i]? = some (b, .cells cs t f)) : Row w (some ⟨b, 0, none⟩) cs.toList :=
  Row.of_cells fun j hj => by
    rw [cell_of_row w b (0 + j) cs t f (h.get e), Nat.zero_add]
    have : j < cs.size := by simpa using hj
    simp [this]
end

section
variable {P : Program} {w0 w : World} {L : List (Nat × Obj)} {ops : Array Oper} {rest : List Oper} {o : Oper} {a : Act} {Q : Exit → Act → World → Prop}

theorem wpM_alloc (h : Mm w0 w L) (hgd : o.guard = none) (ty : TypeId) (ho : o.op = .alloc ty) (z : Value) (hz : (P.info? ty).bind (·.zero) = some z)
    (hK : ∀ b w', Mm w0 w' ((b, .cells z.cells ty (0, 0)) :: L) → w0.heap.size ≤ b → wpList P ops Q rest (a.put o.dst (.pointer (some ⟨b, 0, none⟩))) w') : wpList P ops Q (o :: rest) a w := by
  refine wpList_plain hgd fun K hK' => ?_
  obtain ⟨i, hi, hz2⟩ := Option.bind_eq_some_iff.1 hz
  unfold Oper.wp
  have hzv : (zeroValue ty).run P w = .ok z w := by simp [zeroValue, typeInfo, hi, hz2]
  have hn : (newVar ty z).run P w = .ok ⟨w.heap.size, 0, none⟩ (w.alloc (.cells z.cells ty (0, 0))) := rfl
  simp only [execOp, ho, Instr.alloc, Sem.run_bind, hzv, Result.andThen_ok, hn, Sem.run_pure]
  exact hK' _ _ (hK w.heap.size _ (h.alloc (.cells z.cells ty (0, 0))) h.size)

theorem wpM_box (h : Mm w0 w L) (hgd : o.guard = none) (ty : TypeId) (x : Operand) (ho : o.op = .box ty x) (v : Value) (hx : a.eval x = v)
    (hK : ∀ b w', Mm w0 w' ((b, .cells v.cells ty (0, 0)) :: L) → w0.heap.size ≤ b → wpList P ops Q rest (a.put o.dst (.pointer (some ⟨b, 0, none⟩))) w') : wpList P ops Q (o :: rest) a w := by
  refine wpList_plain hgd fun K hK' => ?_
  unfold Oper.wp
  subst hx
  have hn : (newVar ty (a.eval x)).run P w = .ok ⟨w.heap.size, 0, none⟩ (w.alloc (.cells (a.eval x).cells ty (0, 0))) := rfl
  simp only [execOp, ho, Instr.box, Sem.run_bind, Result.andThen_ok, hn, Sem.run_pure]
  exact hK' _ _ (hK w.heap.size _ (h.alloc (.cells (a.eval x).cells ty (0, 0))) h.size)

def flatT (P : Program) (ty : TypeId) : Bool := match P.underlying ty with
  | some (.struct _) | some (.array _ _) | none => false
  | _ => true
theorem run_loadVar_one {w : World} {ty : TypeId} {p : Addr} {v : Value} (hf : flatT P ty = true) (hc : w.cell? p = some v) : (loadVar ty p).run P w = .ok v w := by
  unfold flatT at hf
  cases hu : P.underlying ty with
  | none => rw [hu] at hf; cases hf
  | some d =>
    rw [hu] at hf
    have hagg : (isAgg ty).run P w = .ok false w := by
      unfold isAgg
      rw [Sem.run_bind, run_underlying hu w]
      cases d <;> simp_all
    simp [loadVar, Sem.run_bind, hagg, run_load, hc]

/-- one cell is loaded out of a told block -/
theorem wpM_load (h : Mm w0 w L) (hgd : o.guard = none) (ty : TypeId) (x : Operand) (ho : o.op = .load ty x) (b off : Nat) (hx : a.eval x = .pointer (some ⟨b, off, none⟩))
    (i : Nat) (cs : Array Value) (t : TypeId) (f : Nat × Nat) (e : L[i]? = some (b, .cells cs t f)) (v : Value) (hv : cs[off]? = some v) (hf : flatT P ty = true)
    (hK : wpList P ops Q rest (a.put o.dst v) w) : wpList P ops Q (o :: rest) a w := by
  refine wpList_plain hgd fun K hK' => ?_
  have hc : w.cell? ⟨b, off, none⟩ = some v := by rw [cell_of_row w b off cs t f (h.get e)]; exact hv
  unfold Oper.wp execOp
  simp only [ho, hx, Instr.loadAt, Instr.sureAddr, Sem.run_bind, Sem.run_pure, Result.andThen_ok, run_loadVar_one hf hc]
  exact hK' _ _ hK
/-- a struct is loaded out of a told block -/
theorem wpM_loads (h : Mm w0 w L) (hgd : o.guard = none) (ty : TypeId) (x : Operand) (ho : o.op = .load ty x) (b off : Nat) (hx : a.eval x = .pointer (some ⟨b, off, none⟩))
    (i : Nat) (cs : Array Value) (t : TypeId) (f : Nat × Nat) (e : L[i]? = some (b, .cells cs t f)) (sub : Array Value) (hsub : (cs.toList.drop off).take sub.size = sub.toList)
    (d : TypeDesc) (hu : P.underlying ty = some d) (hd : (match d with | .struct _ | .array _ _ => true | _ => false) = true) (hi : (P.info? ty).map (·.size) = some sub.size)
    (hK : wpList P ops Q rest (a.put o.dst (.agg sub)) w) : wpList P ops Q (o :: rest) a w :=
  wpList_load_mid hgd ty x ho b off hx t cs sub f d (h.get e) hu hd hi hsub hK
/-- a value is stored into a told block -/
theorem wpM_store (h : Mm w0 w L) (hgd : o.guard = none) (ty : TypeId) (x y : Operand) (ho : o.op = .store ty x y) (b off : Nat) (hx : a.eval x = .pointer (some ⟨b, off, none⟩)) (v : Value) (hy : a.eval y = v)
    (i : Nat) (old : Array Value) (t : TypeId) (e : L[i]? = some (b, .cells old t (0, 0))) (new : Array Value) (hn : new.toList = old.toList.take off ++ v.cells.toList ++ old.toList.drop (off + v.cells.size))
    (hi : (P.info? ty).map (·.size) = some v.cells.size) (hold : (off + v.cells.size).ble old.size = true) (h1 : v.cells.toList.all (·.oneCell') = true)
    (hK : ∀ w', Mm w0 w' (L.set i (b, .cells new t (0, 0))) → wpList P ops Q rest (a.put o.dst undef) w') : wpList P ops Q (o :: rest) a w := by
  refine wpList_plain hgd fun K hK' => ?_
  replace hold := Nat.le_of_ble_eq_true hold
  have := run_storeCells_at P b off t v.cells.toList 0 old w (h.get e) (by simp; omega) (fun u hu => List.all_eq_true.1 h1 u hu)
  rw [Nat.add_zero, Array.length_toList, ← hn, Array.toArray_toList] at this
  have hst : (storeVar ty ⟨b, off, none⟩ v).run P w = .ok () (w.setRow b new) := by
    cases hq : P.info? ty with
    | none => simp [hq] at hi
    | some j =>
      have hs : v.cells.size = j.size := by simp [hq] at hi; omega
      simp [storeVar, sizeOf, typeInfo, hq, hs, this]
  unfold Oper.wp execOp
  simp only [ho, hx, hy, Instr.storeAt, Instr.sureAddr, Sem.run_bind, Sem.run_pure, Result.andThen_ok, hst]
  exact hK' _ _ (hK _ (h.set e new))
end
end Go.Proofs.Ytlgigipjgahecaa
