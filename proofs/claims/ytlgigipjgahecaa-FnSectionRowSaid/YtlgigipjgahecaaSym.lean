/- A walk by reckoning: the operations of a region are carried out over a list of slots and a list of told blocks; the kernel reckons, one theorem says that this is sound. -/
import Derived.Test.YtlgigipjgahecaaTrk
import Derived.Test.YtlgigipjgahecaaTail
import Derived.Orders
import Derived.Test.YtlgigipjgahecaaApp
namespace Go.Proofs.Ytlgigipjgahecaa
open Go Go.RowKit
set_option linter.unusedVariables false

abbrev Slots := List (Nat × Value)
def lk : Slots → Nat → Option Value
  | [], _ => none
  | (i, v) :: r, t => bif Nat.beq i t then some v else lk r t
def delS (d : Nat) : Slots → Slots
  | [] => []
  | (i, v) :: r => bif Nat.beq i d then delS d r else (i, v) :: delS d r
def putS (S : Slots) (dst : Option Nat) (v : Value) : Slots := match dst with
  | none => S
  | some d => (d, v) :: delS d S
def ev (S : Slots) : Operand → Option Value
  | .tmp t => lk S t
  | .const v => some v
  | .global g => some (.pointer (some ⟨g, 0, none⟩))
  | .func f => some (.func (.func f) #[] #[])
def rho (S : Slots) (x : Operand) : Value := (ev S x).getD undef
/-- what is known of the slots -/
def Fr (N : Nat) (a : Act) (S : Slots) : Prop := a.defers = [] ∧ a.tmps.size = N ∧ ∀ p ∈ S, a.tmps[p.1]? = some p.2

theorem lk_mem : ∀ {S : Slots} {t : Nat} {v : Value}, lk S t = some v → (t, v) ∈ S
  | (i, u) :: r, t, v, h => by
    unfold lk at h
    cases hb : Nat.beq i t with
    | true =>
      rw [hb] at h
      obtain rfl := Nat.eq_of_beq_eq_true hb
      injection h with h
      subst h
      exact List.mem_cons_self
    | false => rw [hb] at h; exact List.mem_cons_of_mem _ (lk_mem h)
theorem delS_mem {d : Nat} : ∀ {S : Slots} {p : Nat × Value}, p ∈ delS d S → p ∈ S ∧ p.1 ≠ d
  | (i, v) :: r, p, h => by
    unfold delS at h
    cases hb : Nat.beq i d with
    | true => rw [hb] at h; have := delS_mem h; exact ⟨List.mem_cons_of_mem _ this.1, this.2⟩
    | false =>
      rw [hb] at h
      rcases List.mem_cons.1 h with rfl | h
      · exact ⟨List.mem_cons_self, fun e => by simp only at e; rw [e, Nat.beq_refl] at hb; cases hb⟩
      · have := delS_mem h; exact ⟨List.mem_cons_of_mem _ this.1, this.2⟩
section
variable {N : Nat} {a : Act} {S : Slots}
theorem Fr.lk (h : Fr N a S) {t : Nat} {v : Value} (e : lk S t = some v) : a.tmps[t]? = some v := h.2.2 _ (lk_mem e)
theorem Fr.getD (h : Fr N a S) {t : Nat} {v : Value} (e : Go.Proofs.Ytlgigipjgahecaa.lk S t = some v) : a.tmps.getD t undef = v := by
  have := h.lk e
  simp [Array.getD_eq_getD_getElem?, this]
theorem Fr.ev (h : Fr N a S) {x : Operand} {v : Value} (e : ev S x = some v) : a.eval x = v := by
  cases x with
  | tmp t => exact h.getD e
  | const u => injection e
  | global g => injection e
  | func f => injection e
theorem Fr.rho (h : Fr N a S) {x : Operand} (e : (Go.Proofs.Ytlgigipjgahecaa.ev S x).isSome = true) : a.eval x = Go.Proofs.Ytlgigipjgahecaa.rho S x := by
  obtain ⟨v, hv⟩ := Option.isSome_iff_exists.1 e
  rw [h.ev hv, Go.Proofs.Ytlgigipjgahecaa.rho, hv]
  rfl
theorem Fr.put (h : Fr N a S) (dst : Option Nat) (v : Value) (hd : ∀ d, dst = some d → d < N) : Fr N (a.put dst v) (putS S dst v) := by
  cases dst with
  | none => exact h
  | some d =>
    refine ⟨h.1, by simp [Act.put, h.2.1], fun p hp => ?_⟩
    have hs : d < a.tmps.size := by rw [h.2.1]; exact hd d rfl
    rcases List.mem_cons.1 hp with rfl | hp
    · simp [Act.put, hs]
    · have := delS_mem hp
      simp only [Act.put, Array.getElem?_setIfInBounds, if_neg (Ne.symm this.2)]
      exact h.2.2 p this.1
theorem Fr.sub (h : Fr N a S) (S' : Slots) (e : (S'.map fun p => Go.Proofs.Ytlgigipjgahecaa.lk S p.1) = S'.map fun p => some p.2) : Fr N a S' :=
  ⟨h.1, h.2.1, fun p hp => by
    have := (List.map_inj_left.1 e) p hp
    exact h.lk this⟩
end

structure SymR (α : Type) where
  val : α
  heap : List (Nat × Obj)
  cnt : Nat
  eqs : List (Nat × Nat)
  dirty : Bool
def pickO : List Nat → Nat × List Nat
  | [] => (0, [])
  | [k] => (k, [k])
  | k :: r => (k, r)
/-- the place, in the list, of told block number k (the oldest has number 0) -/
def plc (L : List (Nat × Obj)) (k : Nat) : Nat := L.length - 1 - k

def symS (P : Program) (z : Nat) {α : Type} : Sem α → List Nat → List (Nat × Obj) → Nat → List (Nat × Nat) → Bool → Option (SymR α)
  | .pure x, _, L, n, e, d => some ⟨x, L, n, e, d⟩
  | .program k, orc, L, n, e, d => symS P z (k P) orc L n e d
  | .mark _ k, orc, L, n, e, d => symS P z k orc L n e d
  | .load _ p k, orc, L, n, e, d =>
    match p.spot, L[plc L (pickO orc).1]? with
    | none, some (b', .cells cs _ _) => match cs[p.off]? with
      | some v => symS P z (k v) (pickO orc).2 L n ((p.block, b') :: e) d
      | none => none
    | _, _ => none
  | .store _ p v k, orc, L, n, e, d =>
    match p.spot, L[plc L (pickO orc).1]? with
    | none, some (b', .cells cs t (0, 0)) =>
      bif v.oneCell' && Nat.blt p.off cs.size then symS P z k (pickO orc).2 (L.set (plc L (pickO orc).1) (b', .cells (cs.setIfInBounds p.off v) t (0, 0))) n ((p.block, b') :: e) true else none
    | _, _ => none
  | .new o k, orc, L, n, e, d => symS P z (k (z + n)) orc ((z + n, o) :: L) (n + 1) e true
  | .frozen p k, orc, L, n, e, d =>
    match p.spot, L[plc L (pickO orc).1]? with
    | none, some (b', .cells cs t (0, 0)) => symS P z (k false) orc L n ((p.block, b') :: e) d
    | _, _ => none
  | _, _, _, _, _, _ => none

section
variable {P : Program} {z : Nat} {α : Type} {w0 : World}
theorem run_store_node {w : World} {m : Mode} {p : Addr} {v u : Value} {k : Sem α} (h1 : v.oneCell' = true) (hc : w.cell? p = some u) (hf : w.frozen? p = false) : (Sem.store m p v k).run P w = k.run P (w.setCell p v) := by
  cases v <;> first | (cases h1; done) | simp [Sem.run, hc, hf]

theorem symS_grow : ∀ (s : Sem α) (orc : List Nat) (L : List (Nat × Obj)) (n : Nat) (e : List (Nat × Nat)) (d : Bool) (r : SymR α), symS P z s orc L n e d = some r →
    (∀ p ∈ e, p ∈ r.eqs) ∧ (r.dirty = false → d = false) := by
  intro s
  induction s with
  | pure x =>
    intro orc L n e d r h
    injection h with h; subst h
    exact ⟨fun p hp => hp, fun h => h⟩
  | program k ih => intro orc L n e d r h; exact ih P orc L n e d r h
  | mark m k ih => intro orc L n e d r h; exact ih orc L n e d r h
  | load m p k ih =>
    intro orc L n e d r h
    simp only [symS] at h
    split at h
    · split at h
      · have := ih _ _ L n _ d r h
        exact ⟨fun p hp => this.1 p (List.mem_cons_of_mem _ hp), this.2⟩
      · cases h
    · cases h
  | store m p v k ih =>
    intro orc L n e d r h
    simp only [symS] at h
    split at h
    · rename_i b' cs t hs hL
      cases hb1 : (v.oneCell' && Nat.blt p.off cs.size) with
      | false => rw [hb1] at h; cases h
      | true =>
        rw [hb1] at h
        have := ih _ _ n _ true r h
        exact ⟨fun p hp => this.1 p (List.mem_cons_of_mem _ hp), fun hd => absurd (this.2 hd) (by simp)⟩
    · cases h
  | new o k ih =>
    intro orc L n e d r h
    have := ih (z + n) _ _ (n + 1) _ true r h
    exact ⟨this.1, fun hd => absurd (this.2 hd) (by simp)⟩
  | frozen p k ih =>
    intro orc L n e d r h
    simp only [symS] at h
    split at h
    · have := ih false _ L n _ d r h
      exact ⟨fun p hp => this.1 p (List.mem_cons_of_mem _ hp), this.2⟩
    · cases h
  | shape r k ih => intro orc L n e d r h; cases h
  | freeze a n k ih => intro orc L n e d r h; cases h
  | getObj r k ih => intro orc L n e d r h; cases h
  | setObj r o k ih => intro orc L n e d r h; cases h
  | choose q k ih => intro orc L n e d r h; cases h
  | sys c k ih => intro orc L n e d r h; cases h
  | halt h => intro orc L n e d r h; cases h

theorem symS_sound : ∀ (s : Sem α) (orc : List Nat) (L : List (Nat × Obj)) (n : Nat) (e : List (Nat × Nat)) (d : Bool) (r : SymR α) (w : World), symS P z s orc L n e d = some r →
    Mm w0 w L → w.heap.size = z + n → (∀ p ∈ r.eqs, p.1 = p.2) →
    ∃ w', s.run P w = .ok r.val w' ∧ Mm w0 w' r.heap ∧ w'.heap.size = z + r.cnt ∧ (r.dirty = false → w' = w) := by
  intro s
  induction s with
  | pure x =>
    intro orc L n e d r w h hM hz _
    injection h with h; subst h
    exact ⟨w, rfl, hM, hz, fun _ => rfl⟩
  | program k ih => intro orc L n e d r w h hM hz hq; exact ih P orc L n e d r w h hM hz hq
  | mark m k ih => intro orc L n e d r w h hM hz hq; exact ih orc L n e d r w h hM hz hq
  | load m p k ih =>
    intro orc L n e d r w h hM hz hq
    obtain ⟨b, off, spot⟩ := p
    simp only [symS] at h
    split at h
    · rename_i b' cs t f hL
      split at h
      · rename_i v hv
        have hb : b = b' := hq _ ((symS_grow _ _ _ _ _ _ _ h).1 _ List.mem_cons_self)
        subst hb
        have hc : w.cell? ⟨b, off, none⟩ = some v := by rw [cell_of_row w b off cs t f (hM.get hL)]; exact hv
        obtain ⟨w', hr, h2⟩ := ih v _ L n _ d r w h hM hz hq
        exact ⟨w', by simp only [Sem.run, hc]; exact hr, h2⟩
      · cases h
    · cases h
  | store m p v k ih =>
    intro orc L n e d r w h hM hz hq
    obtain ⟨b, off, spot⟩ := p
    simp only [symS] at h
    split at h
    · rename_i b' cs t hL
      cases hb1 : (v.oneCell' && Nat.blt off cs.size) with
      | false => rw [hb1] at h; cases h
      | true =>
        rw [hb1] at h
        obtain ⟨h1, h2⟩ := Bool.and_eq_true_iff.1 hb1
        have hlt : off < cs.size := Nat.le_of_ble_eq_true h2
        have hg := hM.get hL
        have hset : Mm w0 (w.setCell ⟨b', off, none⟩ v) (L.set (plc L (pickO orc).1) (b', .cells (cs.setIfInBounds off v) t (0, 0))) :=
          hM.put hL (heap_setCell_same w b' off cs t v hg) (fun k hk => heap_setCell_other w ⟨b', off, none⟩ k v hk) (fun B hB => (Below.refl _ _).setCell (p := ⟨b', off, none⟩) hB v)
        have hsz : (w.setCell ⟨b', off, none⟩ v).heap.size = z + n := by simpa [World.setCell] using hz
        have hgr := symS_grow _ _ _ _ _ _ _ h
        have hb : b = b' := hq _ (hgr.1 _ List.mem_cons_self)
        subst hb
        have hc : w.cell? ⟨b, off, none⟩ = some cs[off] := by rw [cell_of_row w b off cs t (0, 0) hg]; simp [hlt]
        have hf : w.frozen? ⟨b, off, none⟩ = false := frozen_of_row w b off cs t hg
        obtain ⟨w', hr, h3, h4, h5⟩ := ih _ _ n _ true r (w.setCell ⟨b, off, none⟩ v) h hset hsz hq
        exact ⟨w', by rw [run_store_node h1 hc hf]; exact hr, h3, h4, fun hd => absurd (hgr.2 hd) (by simp)⟩
    · cases h
  | new o k ih =>
    intro orc L n e d r w h hM hz hq
    have h' : symS P z (k (z + n)) orc ((z + n, o) :: L) (n + 1) e true = some r := h
    have hM2 := hM.alloc o
    rw [hz] at hM2
    obtain ⟨w', hr, h3, h4, h5⟩ := ih (z + n) _ _ (n + 1) _ true r (w.alloc o) h' hM2 (by simp [hz]; omega) hq
    refine ⟨w', ?_, h3, h4, fun hd => absurd ((symS_grow _ _ _ _ _ _ _ h').2 hd) (by simp)⟩
    simp only [Sem.run, hz]
    exact hr
  | frozen p k ih =>
    intro orc L n e d r w h hM hz hq
    obtain ⟨b, off, spot⟩ := p
    simp only [symS] at h
    split at h
    · rename_i b' cs t hL
      have hb : b = b' := hq _ ((symS_grow _ _ _ _ _ _ _ h).1 _ List.mem_cons_self)
      subst hb
      have hf : w.frozen? ⟨b, off, none⟩ = false := frozen_of_row w b off cs t (hM.get hL)
      obtain ⟨w', hr, h2⟩ := ih false _ L n _ d r w h hM hz hq
      exact ⟨w', by simp only [Sem.run, hf]; exact hr, h2⟩
    · cases h
  | shape r k ih => intro orc L n e d r w h; cases h
  | freeze a n k ih => intro orc L n e d r w h; cases h
  | getObj r k ih => intro orc L n e d r w h; cases h
  | setObj r o k ih => intro orc L n e d r w h; cases h
  | choose q k ih => intro orc L n e d r w h; cases h
  | sys c k ih => intro orc L n e d r w h; cases h
  | halt h => intro orc L n e d r w h; cases h
end

structure SymO where
  slots : Slots
  heap : List (Nat × Obj)
  cnt : Nat
  eqs : List (Nat × Nat)
  dirty : Bool
def wantS (ops : Array Oper) (S : Slots) (o : Oper) : Option Bool := match o.guard with
  | none => some true
  | some (j, want) => match (ops[j]?).bind (·.dst) with
    | none => some false
    | some d => match lk S d with
      | some (.bool b) => some (b == want)
      | some _ => some false
      | none => none
def okD (N : Nat) : Option Nat → Bool
  | none => true
  | some d => Nat.blt d N
def notSel : Op → Bool
  | .select _ _ => false
  | _ => true
def isMem : Op → Bool
  | .load _ _ | .store _ _ _ | .call _ => true
  | _ => false
def putR (r : SymO) (o : Oper) (v : Value) (L : List (Nat × Obj)) (n : Nat) (e : List (Nat × Nat)) (d : Bool) : SymO := ⟨putS r.slots o.dst v, L, n, e, d⟩
def symOp (P : Program) (N z : Nat) (orc : List Nat) (r : SymO) (o : Oper) : Option SymO :=
  bif okD N o.dst && notSel o.op && o.op.operands.toList.all (fun x => (ev r.slots x).isSome) then
    match symS P z (execOp (rho r.slots) o) orc r.heap r.cnt r.eqs r.dirty with
    | some ⟨.value v, L, n, e, d⟩ => some (putR r o v L n e d)
    | some ⟨.skip, L, n, e, d⟩ => some (putR r o undef L n e d)
    | _ => none
  else none
def symOps (P : Program) (ops : Array Oper) (N z : Nat) : List Oper → List (List Nat) → SymO → Option SymO
  | [], _, r => some r
  | o :: l, orcs, r => match wantS ops r.slots o with
    | none => none
    | some false => bif okD N o.dst then symOps P ops N z l orcs (putR r o undef r.heap r.cnt r.eqs r.dirty) else none
    | some true => match symOp P N z (orcs.headD []) r o with
      | none => none
      | some r' => symOps P ops N z l (bif isMem o.op then orcs.tail else orcs) r'

section
variable {P : Program} {ops : Array Oper} {N z : Nat} {w0 w : World} {a : Act}
theorem okD_spec {dst : Option Nat} (h : okD N dst = true) : ∀ d, dst = some d → d < N := by
  intro d hd; subst hd; exact Nat.le_of_ble_eq_true h
theorem wantS_sound {S : Slots} {o : Oper} {b : Bool} (h : wantS ops S o = some b) (HF : Fr N a S) : Region.wanted o (yielded ops a.tmps) = b := by
  unfold wantS at h
  unfold Region.wanted
  split at h
  · rename_i hg; rw [hg]; injection h
  · rename_i j want hg
    rw [hg]
    simp only [yielded]
    split at h
    · rename_i hd; rw [hd]; injection h
    · rename_i d hd
      rw [hd]
      split at h
      · rename_i b2 hl
        have := HF.lk hl
        simp only [Option.bind_some, this]
        injection h
      · rename_i u hne hl
        have := HF.lk hl
        simp only [Option.bind_some, this]
        have hb0 : b = false := (Option.some.inj h).symm
        subst hb0
        cases u <;> first | exact (hne _ rfl).elim | rfl
      · cases h
theorem notSel_spec {op : Op} (h : notSel op = true) : ∀ cs b, op ≠ .select cs b := by
  intro cs b e; subst e; cases h
theorem symOp_grow {orc : List Nat} {r r' : SymO} {o : Oper} (h : symOp P N z orc r o = some r') : (∀ p ∈ r.eqs, p ∈ r'.eqs) ∧ (r'.dirty = false → r.dirty = false) := by
  unfold symOp at h
  cases hc : (okD N o.dst && notSel o.op && o.op.operands.toList.all (fun x => (ev r.slots x).isSome)) with
  | false => rw [hc] at h; cases h
  | true =>
    rw [hc] at h
    simp only [cond_true] at h
    split at h
    · rename_i v L n e d hs
      injection h with h; subst h
      exact symS_grow _ _ _ _ _ _ _ hs
    · rename_i L n e d hs
      injection h with h; subst h
      exact symS_grow _ _ _ _ _ _ _ hs
    · cases h
theorem symOps_grow : ∀ (l : List Oper) (orcs : List (List Nat)) (r r' : SymO), symOps P ops N z l orcs r = some r' → (∀ p ∈ r.eqs, p ∈ r'.eqs) ∧ (r'.dirty = false → r.dirty = false) := by
  intro l
  induction l with
  | nil => intro orcs r r' h; injection h with h; subst h; exact ⟨fun p hp => hp, fun h => h⟩
  | cons o l ih =>
    intro orcs r r' h
    unfold symOps at h
    split at h
    · cases h
    · cases hd : okD N o.dst with
      | false => rw [hd] at h; cases h
      | true => rw [hd] at h; exact ih _ (putR r o undef r.heap r.cnt r.eqs r.dirty) _ h
    · split at h
      · cases h
      · rename_i r1 h1
        have q1 := symOp_grow h1
        have q2 := ih _ _ _ h
        exact ⟨fun p hp => q2.1 p (q1.1 p hp), fun hd => q1.2 (q2.2 hd)⟩
theorem symOp_sound {orc : List Nat} {r r' : SymO} {o : Oper} (h : symOp P N z orc r o = some r') (HF : Fr N a r.slots) (hq : ∀ p ∈ r'.eqs, p.1 = p.2) :
    ∃ v, Fr N (a.put o.dst v) r'.slots ∧ ∀ w, Mm w0 w r.heap → w.heap.size = z + r.cnt → ∃ w', ((execOp a.eval o).run P w = .ok (.value v) w' ∨ ((execOp a.eval o).run P w = .ok .skip w' ∧ v = undef)) ∧ Mm w0 w' r'.heap ∧ w'.heap.size = z + r'.cnt ∧ (r'.dirty = false → w' = w) := by
  unfold symOp at h
  cases hc : (okD N o.dst && notSel o.op && o.op.operands.toList.all (fun x => (ev r.slots x).isSome)) with
  | false => rw [hc] at h; cases h
  | true =>
    rw [hc] at h
    obtain ⟨h1, h3⟩ := Bool.and_eq_true_iff.1 hc
    obtain ⟨h1, h2⟩ := Bool.and_eq_true_iff.1 h1
    have he : execOp a.eval o = execOp (rho r.slots) o := execOp_congr o (notSel_spec h2) fun x hx => HF.rho (List.all_eq_true.1 h3 x (by simpa using hx))
    simp only [cond_true] at h
    split at h
    · rename_i v L n e d hs
      injection h with h; subst h
      refine ⟨v, HF.put _ _ (okD_spec h1), fun w HM hz => ?_⟩
      obtain ⟨w', hr, q3, q4, q5⟩ := symS_sound _ _ _ _ _ _ _ w hs HM hz hq
      exact ⟨w', .inl (by rw [he]; exact hr), q3, q4, q5⟩
    · rename_i L n e d hs
      injection h with h; subst h
      refine ⟨undef, HF.put _ _ (okD_spec h1), fun w HM hz => ?_⟩
      obtain ⟨w', hr, q3, q4, q5⟩ := symS_sound _ _ _ _ _ _ _ w hs HM hz hq
      exact ⟨w', .inr ⟨by rw [he]; exact hr, rfl⟩, q3, q4, q5⟩
    · cases h

theorem symOps_sound {Q : Exit → Act → World → Prop} {rest : List Oper} : ∀ (l : List Oper) (orcs : List (List Nat)) (r r' : SymO) (a : Act) (w : World), symOps P ops N z l orcs r = some r' → Fr N a r.slots → Mm w0 w r.heap → w.heap.size = z + r.cnt → (∀ p ∈ r'.eqs, p.1 = p.2) →
    (∀ a' w', Fr N a' r'.slots → Mm w0 w' r'.heap → w'.heap.size = z + r'.cnt → wpList P ops Q rest a' w') → wpList P ops Q (l ++ rest) a w := by
  intro l
  induction l with
  | nil => intro orcs r r' a w h HF HM hz hq hK; injection h with h; subst h; exact hK a w HF HM hz
  | cons o l ih =>
    intro orcs r r' a w h HF HM hz hq hK
    unfold symOps at h
    rw [List.cons_append]
    split at h
    · cases h
    · rename_i hw
      cases hd : okD N o.dst with
      | false => rw [hd] at h; cases h
      | true =>
        rw [hd] at h
        exact wpList_skip (wantS_sound hw HF) (ih _ (putR r o undef r.heap r.cnt r.eqs r.dirty) _ (a.put o.dst undef) w h (HF.put _ _ (okD_spec hd)) HM hz hq hK)
    · rename_i hw
      split at h
      · cases h
      · rename_i r1 h1
        have hq1 : ∀ p ∈ r1.eqs, p.1 = p.2 := fun p hp => hq p ((symOps_grow l _ _ _ h).1 p hp)
        obtain ⟨v, q3, hv0⟩ := symOp_sound (w0 := w0) h1 HF hq1
        obtain ⟨w', hr, q4, q5, q6⟩ := hv0 w HM hz
        refine wpList_step fun K hK' => ?_
        rw [wantS_sound hw HF, if_pos rfl]
        have := hK' _ _ (ih _ _ _ (a.put o.dst v) w' h q3 q4 q5 hq hK)
        unfold Oper.wp
        rcases hr with hr | ⟨hr, hv⟩
        · rw [hr]; exact this
        · rw [hr]; subst hv; exact this

/-- the answer of a reckoning, as the kernel is asked for it -/
def symT (P : Program) (ops : Array Oper) (N z : Nat) (l : List Oper) (orcs : List (List Nat)) (S : Slots) (L : List (Nat × Obj)) (S' : Slots) (L' : List (Nat × Obj)) : Option (List (Option Value) × List (Nat × Obj) × List Nat) :=
  (symOps P ops N z l orcs ⟨S, L, 0, [], false⟩).map fun r => (S'.map fun p => lk r.slots p.1, r.heap, r.eqs.map (·.1))
def symE (P : Program) (ops : Array Oper) (N z : Nat) (l : List Oper) (orcs : List (List Nat)) (S : Slots) (L : List (Nat × Obj)) (S' : Slots) (L' : List (Nat × Obj)) : Option (List (Option Value) × List (Nat × Obj) × List Nat) :=
  some (S'.map fun p => some p.2, L', ((symOps P ops N z l orcs ⟨S, L, 0, [], false⟩).map fun r => r.eqs.map (·.2)).getD [])

theorem symT_spec {l : List Oper} {orcs : List (List Nat)} {S : Slots} {L : List (Nat × Obj)} {S' : Slots} {L' : List (Nat × Obj)} (h : symT P ops N z l orcs S L S' L' = symE P ops N z l orcs S L S' L') :
    ∃ r', symOps P ops N z l orcs ⟨S, L, 0, [], false⟩ = some r' ∧ (S'.map fun p => lk r'.slots p.1) = (S'.map fun p => some p.2) ∧ r'.heap = L' ∧ ∀ p ∈ r'.eqs, p.1 = p.2 := by
  unfold symT symE at h
  cases hr : symOps P ops N z l orcs ⟨S, L, 0, [], false⟩ with
  | none => rw [hr] at h; cases h
  | some r' =>
    rw [hr] at h
    simp only [Option.map_some, Option.getD_some, Option.some.injEq, Prod.mk.injEq] at h
    exact ⟨r', rfl, h.1, h.2.1, fun p hp => (List.map_inj_left.1 h.2.2) p hp⟩

/-- k operations, reckoned -/
theorem wp_sym {Q : Exit → Act → World → Prop} {l : List Oper} {S : Slots} {L : List (Nat × Obj)} (HF : Fr N a S) (HM : Mm w0 w L) (hz : w.heap.size = z) (k : Nat) (orcs : List (List Nat)) (S' : Slots) (L' : List (Nat × Obj))
    (h : symT P ops N z (l.take k) orcs S L S' L' = symE P ops N z (l.take k) orcs S L S' L')
    (hK : ∀ a' w', Fr N a' S' → Mm w0 w' L' → wpList P ops Q (l.drop k) a' w') : wpList P ops Q l a w := by
  obtain ⟨r', hr, h1, h2, h3⟩ := symT_spec h
  have := symOps_sound (Q := Q) (rest := l.drop k) (l.take k) orcs ⟨S, L, 0, [], false⟩ r' a w hr HF HM (by simpa using hz) h3 fun a' w' hF hM _ => hK a' w' (hF.sub S' h1) (h2 ▸ hM)
  rwa [List.take_append_drop] at this
/-- a whole region of one order, reckoned -/
theorem reg_sym {id : Nat} {y : Code} {Q : Exit → Act → World → Prop} {l : List Oper} {S : Slots} {L : List (Nat × Obj)} (HF : Fr N a S) (HM : Mm w0 w L) (hz : w.heap.size = z) (orcs : List (List Nat)) (S' : Slots) (L' : List (Nat × Obj))
    (h : symT P l.toArray N z l orcs S L S' L' = symE P l.toArray N z l orcs S L S' L')
    (hK : ∀ a' w', Fr N a' S' → Mm w0 w' L' → y.wp P Q a' w') : (Code.seq (.region id l.toArray false) y).wp P Q a w := by
  refine wp_seq (wp_region_lit ?_)
  obtain ⟨r', hr, h1, h2, h3⟩ := symT_spec h
  have := symOps_sound (Q := Exit.then (y.wp P Q) Q) (rest := []) l orcs ⟨S, L, 0, [], false⟩ r' a w hr HF HM (by simpa using hz) h3 fun a' w' hF hM _ => wpList_nil (hK a' w' (hF.sub S' h1) (h2 ▸ hM))
  rwa [List.append_nil] at this
/-- likewise, where it is the last piece of code -/
theorem reg_sym1 {id : Nat} {Q : Exit → Act → World → Prop} {l : List Oper} {S : Slots} {L : List (Nat × Obj)} (HF : Fr N a S) (HM : Mm w0 w L) (hz : w.heap.size = z) (orcs : List (List Nat)) (S' : Slots) (L' : List (Nat × Obj))
    (h : symT P l.toArray N z l orcs S L S' L' = symE P l.toArray N z l orcs S L S' L')
    (hK : ∀ a' w', Fr N a' S' → Mm w0 w' L' → Q .normal a' w') : (Code.region id l.toArray false).wp P Q a w := by
  refine wp_region_lit ?_
  obtain ⟨r', hr, h1, h2, h3⟩ := symT_spec h
  have := symOps_sound (Q := Q) (rest := []) l orcs ⟨S, L, 0, [], false⟩ r' a w hr HF HM (by simpa using hz) h3 fun a' w' hF hM _ => wpList_nil (hK a' w' (hF.sub S' h1) (h2 ▸ hM))
  rwa [List.append_nil] at this

/-- a call of a Go function -/
theorem wp_call {Q : Exit → Act → World → Prop} {rest : List Oper} {o : Oper} {S : Slots} (HF : Fr N a S) (hgd : wantS ops S o = some true) (f : FuncId) (vals : Array Value)
    (hx : (okD N o.dst && notSel o.op && o.op.operands.toList.all (fun x => (ev S x).isSome)) = true) (hrun : ∀ w : World, (execOp (rho S) o).run P w = .ok (.enter f vals) w)
    (h : Calls P f vals w fun e w' => ∃ v, e = .returned v ∧ ∀ a', Fr N a' (putS S o.dst v) → wpList P ops Q rest a' w') : wpList P ops Q (o :: rest) a w := by
  obtain ⟨h1, h3⟩ := Bool.and_eq_true_iff.1 hx
  obtain ⟨h1, h2⟩ := Bool.and_eq_true_iff.1 h1
  have he : execOp a.eval o = execOp (rho S) o := execOp_congr o (notSel_spec h2) fun x hx => HF.rho (List.all_eq_true.1 h3 x (by simpa using hx))
  refine wpList_step fun K hK => ?_
  rw [wantS_sound hgd HF, if_pos rfl]
  unfold Oper.wp
  rw [he, hrun]
  exact h.mono fun e w' ⟨v, hv, hk⟩ => by subst hv; exact hK _ _ (hk _ (HF.put _ _ (okD_spec h1)))

theorem wp_condF {c : Operand} {x y : Code} {Q : Exit → Act → World → Prop} {S : Slots} (HF : Fr N a S) (hc : ev S c = some (.bool false)) (h : y.wp P Q a w) : (Code.cond c x y).wp P Q a w := wp_cond_false (HF.ev hc) h
theorem wp_condT {c : Operand} {x y : Code} {Q : Exit → Act → World → Prop} {S : Slots} (HF : Fr N a S) (hc : ev S c = some (.bool true)) (h : x.wp P Q a w) : (Code.cond c x y).wp P Q a w := wp_cond_true (HF.ev hc) h
/-- a test, then code: its way is 'skip' -/
theorem seq_condF {c : Operand} {x y : Code} {Q : Exit → Act → World → Prop} {S : Slots} (HF : Fr N a S) (hc : ev S c = some (.bool false)) (h : y.wp P Q a w) : (Code.seq (.cond c x .skip) y).wp P Q a w := wp_seq (wp_condF HF hc (wp_skip h))
theorem seq_condT {c : Operand} {x y : Code} {Q : Exit → Act → World → Prop} {S : Slots} (HF : Fr N a S) (hc : ev S c = some (.bool true)) (h : y.wp P Q a w) : (Code.seq (.cond c .skip x) y).wp P Q a w := wp_seq (wp_condT HF hc (wp_skip h))

theorem calls_start {f : FuncId} {fn : Func} {c : Code} {args : Array Value} {R : Ending → World → Prop} (hf : P.funcs[f]? = some fn) (hb : fn.body = some c) (hN : fn.ntmps = N) (S : Slots) (hS : (S.map fun p => args[p.1]?) = S.map fun p => some p.2) (hsz : args.size ≤ N)
    (h : ∀ a, Fr N a S → c.wp P (bodyPost P fn R) a w) : Calls P f args w R := by
  refine calls_of_wp hf hb (h _ ⟨rfl, by simp [hN]; omega, fun p hp => ?_⟩)
  have := (List.map_inj_left.1 hS) p hp
  have hlt := (Array.getElem?_eq_some_iff.1 this).1
  rw [Array.getElem?_append_left hlt]
  exact this

-- quiet
theorem symOps_quiet {Qf : Act → Prop} {rest : List Oper} : ∀ (l : List Oper) (orcs : List (List Nat)) (r r' : SymO) (a : Act), symOps P ops N z l orcs r = some r' → r'.dirty = false → Fr N a r.slots → Mm w0 w r.heap → w.heap.size = z + r.cnt → (∀ p ∈ r'.eqs, p.1 = p.2) →
    (∀ a', Fr N a' r'.slots → wpQuiet P ops (fun w' => ∃ n, w' = w.drewN n) Qf rest a') → wpQuiet P ops (fun w' => ∃ n, w' = w.drewN n) Qf (l ++ rest) a := by
  intro l
  induction l with
  | nil => intro orcs r r' a h _ HF _ _ _ hK; injection h with h; subst h; exact hK a HF
  | cons o l ih =>
    intro orcs r r' a h hdt HF HM hz hq hK
    unfold symOps at h
    rw [List.cons_append]
    split at h
    · cases h
    · rename_i hw
      cases hd : okD N o.dst with
      | false => rw [hd] at h; cases h
      | true =>
        rw [hd] at h
        have := ih _ (putR r o undef r.heap r.cnt r.eqs r.dirty) _ (a.put o.dst undef) h hdt (HF.put _ _ (okD_spec hd)) HM hz hq hK
        refine wpQuiet_step fun K hK' => ?_
        rw [wantS_sound hw HF, if_neg Bool.false_ne_true]
        exact hK' _ this
    · rename_i hw
      split at h
      · cases h
      · rename_i r1 h1
        have hgr := symOps_grow l _ _ _ h
        have hq1 : ∀ p ∈ r1.eqs, p.1 = p.2 := fun p hp => hq p (hgr.1 p hp)
        have hd1 := hgr.2 hdt
        obtain ⟨v, q3, hv0⟩ := symOp_sound (w0 := w0) h1 HF hq1
        obtain ⟨w', hr, q4, q5, q6⟩ := hv0 w HM hz
        obtain rfl := q6 hd1
        have hnext := ih _ r1 _ (a.put o.dst v) h hdt q3 q4 q5 hq hK
        refine wpQuiet_step fun K hK' => ?_
        rw [wantS_sound hw HF, if_pos rfl]
        refine ⟨v, ?_, hK' _ hnext⟩
        rintro _ ⟨j, rfl⟩
        obtain ⟨w2, hr, q4, q5, q6⟩ := hv0 (w'.drewN j) (HM.drewN j) hz
        obtain rfl := q6 hd1
        unfold Oper.quietAt
        rcases hr with hr | ⟨hr, hv⟩
        · rw [hr]; exact ⟨rfl, rfl⟩
        · rw [hr]; exact ⟨rfl, hv⟩

def symQ (P : Program) (ops : Array Oper) (N z : Nat) (l : List Oper) (orcs : List (List Nat)) (S : Slots) (L : List (Nat × Obj)) (S' : Slots) : Option (List (Option Value) × Bool × List Nat) :=
  (symOps P ops N z l orcs ⟨S, L, 0, [], false⟩).map fun r => (S'.map fun p => lk r.slots p.1, r.dirty, r.eqs.map (·.1))
def symF (P : Program) (ops : Array Oper) (N z : Nat) (l : List Oper) (orcs : List (List Nat)) (S : Slots) (L : List (Nat × Obj)) (S' : Slots) : Option (List (Option Value) × Bool × List Nat) :=
  some (S'.map fun p => some p.2, false, ((symOps P ops N z l orcs ⟨S, L, 0, [], false⟩).map fun r => r.eqs.map (·.2)).getD [])
/-- k operations of a quiet head, reckoned -/
theorem quiet_sym {Qf : Act → Prop} {l : List Oper} {S : Slots} {L : List (Nat × Obj)} (HF : Fr N a S) (HM : Mm w0 w L) (hz : w.heap.size = z) (k : Nat) (orcs : List (List Nat)) (S' : Slots)
    (h : symQ P ops N z (l.take k) orcs S L S' = symF P ops N z (l.take k) orcs S L S')
    (hK : ∀ a', Fr N a' S' → wpQuiet P ops (fun w' => ∃ n, w' = w.drewN n) Qf (l.drop k) a') : wpQuiet P ops (fun w' => ∃ n, w' = w.drewN n) Qf l a := by
  unfold symQ symF at h
  cases hr : symOps P ops N z (l.take k) orcs ⟨S, L, 0, [], false⟩ with
  | none => rw [hr] at h; cases h
  | some r' =>
    rw [hr] at h
    simp only [Option.map_some, Option.getD_some, Option.some.injEq, Prod.mk.injEq] at h
    have := symOps_quiet (Qf := Qf) (rest := l.drop k) (l.take k) orcs ⟨S, L, 0, [], false⟩ r' a hr h.2.1 HF HM (by simpa using hz) (fun p hp => (List.map_inj_left.1 h.2.2) p hp) fun a' hF => hK a' (hF.sub S' h.1)
    rwa [List.take_append_drop] at this
/-- a quiet call -/
theorem quiet_call {Qf : Act → Prop} {rest : List Oper} {o : Oper} {S : Slots} (HF : Fr N a S) (hgd : o.guard = none) (f : FuncId) (vals : Array Value) (v : Value)
    (hx : (okD N o.dst && notSel o.op && o.op.operands.toList.all (fun x => (ev S x).isSome)) = true) (hrun : ∀ w : World, (execOp (rho S) o).run P w = .ok (.enter f vals) w)
    (h : ∀ j, Calls P f vals (w.drewN j) fun e w' => e = .returned v ∧ ∃ n, w' = w.drewN n)
    (hK : ∀ a', Fr N a' (putS S o.dst v) → wpQuiet P ops (fun w' => ∃ n, w' = w.drewN n) Qf rest a') : wpQuiet P ops (fun w' => ∃ n, w' = w.drewN n) Qf (o :: rest) a := by
  obtain ⟨h1, h3⟩ := Bool.and_eq_true_iff.1 hx
  obtain ⟨h1, h2⟩ := Bool.and_eq_true_iff.1 h1
  have he : execOp a.eval o = execOp (rho S) o := execOp_congr o (notSel_spec h2) fun x hx => HF.rho (List.all_eq_true.1 h3 x (by simpa using hx))
  refine wpQuiet_step fun K hK' => ?_
  have hw : Region.wanted o (yielded ops a.tmps) = true := by simp [Region.wanted, hgd]
  rw [if_pos hw]
  refine ⟨v, ?_, hK' _ (hK _ (HF.put _ _ (okD_spec h1)))⟩
  rintro _ ⟨j, rfl⟩
  unfold Oper.quietAt
  rw [he, hrun]
  exact ⟨rfl, h j⟩
/-- a region that draws: the quiet head, then the forced tail -/
theorem reg_quiet {id : Nat} {y : Code} {Q : Exit → Act → World → Prop} {l : List Oper} (n : Nat) (hm : P.follows .mixedOrders = true) (hB : Region.lexTailB .any l.toArray n = true)
    (h : wpQuiet P l.toArray (fun w' => ∃ k, w' = w.drewN k) (fun a' => ∀ w', (∃ k, w' = w.drewN k) → wpList P l.toArray (Exit.then (y.wp P Q) Q) (l.drop n) a' w') (l.take n) a) : (Code.seq (.region id l.toArray true) y).wp P Q a w :=
  wp_seq (region_quiet_tail n hm hB h)
theorem reg_quiet1 {id : Nat} {Q : Exit → Act → World → Prop} {l : List Oper} (n : Nat) (hm : P.follows .mixedOrders = true) (hB : Region.lexTailB .any l.toArray n = true)
    (h : wpQuiet P l.toArray (fun w' => ∃ k, w' = w.drewN k) (fun a' => ∀ w', (∃ k, w' = w.drewN k) → wpList P l.toArray Q (l.drop n) a' w') (l.take n) a) : (Code.region id l.toArray true).wp P Q a w :=
  region_quiet_tail n hm hB h
theorem quiet_end {Qf : Act → Prop} (h : Qf a) : wpQuiet P ops (fun w' => ∃ n, w' = w.drewN n) Qf [] a := h
theorem nil_then {K : Act → World → Prop} {Q : Exit → Act → World → Prop} (h : K a w) : wpList P ops (Exit.then K Q) [] a w := h
theorem Fr.defers {S : Slots} (h : Fr N a S) : a.defers = [] := h.1
/-- one result, in a slot -/
theorem ret_one {fn : Func} {t : Tmp} {S : Slots} {v : Value} {R : Ending → World → Prop} (HF : Fr N a S) (h : fn.results = #[.tmp t]) (e : lk S t = some v) (hR : R (.returned v) w) : bodyPost P fn R .ret a w :=
  bodyPost_ret (results_tmp h _ _ _) HF.1 (by rw [HF.getD e]; exact hR)
theorem ret_two {fn : Func} {t u : Tmp} {S : Slots} {v x : Value} {R : Ending → World → Prop} (HF : Fr N a S) (h : fn.results = #[.tmp t, .tmp u]) (e : lk S t = some v) (e2 : lk S u = some x) (hR : R (.returned (.tuple #[v, x])) w) : bodyPost P fn R .ret a w :=
  bodyPost_ret (results_tmp2 h _ _ _) HF.1 (by rw [HF.getD e, HF.getD e2]; exact hR)
theorem ret_three {fn : Func} {t u s : Tmp} {S : Slots} {v x y : Value} {R : Ending → World → Prop} (HF : Fr N a S) (h : fn.results = #[.tmp t, .tmp u, .tmp s]) (e : lk S t = some v) (e2 : lk S u = some x) (e3 : lk S s = some y) (hR : R (.returned (.tuple #[v, x, y])) w) : bodyPost P fn R .ret a w :=
  bodyPost_ret (results_tmp3 h _ _ _) HF.1 (by rw [HF.getD e, HF.getD e2, HF.getD e3]; exact hR)
theorem ret_none {fn : Func} {S : Slots} {R : Ending → World → Prop} (HF : Fr N a S) (h : fn.results = #[]) (hR : R (.returned (.tuple #[])) w) : bodyPost P fn R .normal a w :=
  bodyPost_end (results_none h _ _ _) HF.1 hR
/-- one operation whose run is told -/
theorem wp_run {Q : Exit → Act → World → Prop} {rest : List Oper} {o : Oper} {S : Slots} (HF : Fr N a S) (hgd : wantS ops S o = some true) (v : Value)
    (hx : (okD N o.dst && notSel o.op && o.op.operands.toList.all (fun x => (ev S x).isSome)) = true) (hrun : (execOp (rho S) o).run P w = .ok (.value v) w)
    (hK : ∀ a', Fr N a' (putS S o.dst v) → wpList P ops Q rest a' w) : wpList P ops Q (o :: rest) a w := by
  obtain ⟨h1, h3⟩ := Bool.and_eq_true_iff.1 hx
  obtain ⟨h1, h2⟩ := Bool.and_eq_true_iff.1 h1
  have he : execOp a.eval o = execOp (rho S) o := execOp_congr o (notSel_spec h2) fun x hx => HF.rho (List.all_eq_true.1 h3 x (by simpa using hx))
  refine wpList_step fun K hK' => ?_
  rw [wantS_sound hgd HF, if_pos rfl]
  unfold Oper.wp
  rw [he, hrun]
  exact hK' _ _ (hK _ (HF.put _ _ (okD_spec h1)))
theorem quiet_run {Qf : Act → Prop} {rest : List Oper} {o : Oper} {S : Slots} (HF : Fr N a S) (hgd : o.guard = none) (v : Value)
    (hx : (okD N o.dst && notSel o.op && o.op.operands.toList.all (fun x => (ev S x).isSome)) = true) (hrun : ∀ j, (execOp (rho S) o).run P (w.drewN j) = .ok (.value v) (w.drewN j))
    (hK : ∀ a', Fr N a' (putS S o.dst v) → wpQuiet P ops (fun w' => ∃ n, w' = w.drewN n) Qf rest a') : wpQuiet P ops (fun w' => ∃ n, w' = w.drewN n) Qf (o :: rest) a := by
  obtain ⟨h1, h3⟩ := Bool.and_eq_true_iff.1 hx
  obtain ⟨h1, h2⟩ := Bool.and_eq_true_iff.1 h1
  have he : execOp a.eval o = execOp (rho S) o := execOp_congr o (notSel_spec h2) fun x hx => HF.rho (List.all_eq_true.1 h3 x (by simpa using hx))
  refine wpQuiet_step fun K hK' => ?_
  have hw : Region.wanted o (yielded ops a.tmps) = true := by simp [Region.wanted, hgd]
  rw [if_pos hw]
  refine ⟨v, ?_, hK' _ (hK _ (HF.put _ _ (okD_spec h1)))⟩
  rintro _ ⟨j, rfl⟩
  unfold Oper.quietAt
  rw [he, hrun]
  exact ⟨rfl, rfl⟩
/-- x[k:] of a slice -/
theorem run_open {t e : TypeId} {info : TypeInfo} (ht : P.underlying t = some (.slice e)) (hi : P.info? e = some info) (hs : info.size = 1) {ρ : Operand → Value} {o : Oper} {x lo : Operand} (ho : o.op = .slice t x (some lo) none none)
    {b off n c : Nat} (k : Nat) {kk : IntKind} (hx : ρ x = .slice (some ⟨b, off, none⟩) n c) (hl : ρ lo = .int kk (k : Int)) (h1 : k ≤ n) (h2 : n ≤ c) (h3 : k < c) (w : World) :
    (execOp ρ o).run P w = .ok (.value (.slice (some ⟨b, off + k, none⟩) (n - k) (c - k))) w := by
  have hne : ¬ c = k := by omega
  unfold execOp
  simp only [ho, Option.map_some, Option.map_none, hx, hl, Instr.sliceAt]
  by_cases h0 : k = 0
  · subst h0
    simp [Instr.slice, Instr.sliceBounds, Instr.sliceBound, asIntOf, run_underlying ht, sizeOf, typeInfo, hi, hs, hne, Addr.add]
  · simp [Instr.slice, Instr.sliceBounds, Instr.sliceBound, asIntOf, run_underlying ht, sizeOf, typeInfo, hi, hs, h1, hne, addr_add']
theorem run_load_one {ρ : Operand → Value} {o : Oper} {ty : TypeId} {x : Operand} (ho : o.op = .load ty x) {p : Addr} (hx : ρ x = .pointer (some p)) {v : Value} (hf : flatT P ty = true) (hc : w.cell? p = some v) : (execOp ρ o).run P w = .ok (.value v) w := by
  unfold execOp
  simp only [ho, hx, Instr.loadAt, Instr.sureAddr, Sem.run_bind, Sem.run_pure, Result.andThen_ok, run_loadVar_one hf hc]
theorem then_norm {K : Act → World → Prop} {Q : Exit → Act → World → Prop} (h : K a w) : Exit.then K Q .normal a w := h
theorem then_ret {K : Act → World → Prop} {Q : Exit → Act → World → Prop} (h : Q .ret a w) : Exit.then K Q .ret a w := h
theorem then_exit {K : Act → World → Prop} {Q : Exit → Act → World → Prop} {id : Nat} (h : Q (.exit id) a w) : Exit.then K Q (.exit id) a w := h
theorem inb_norm {id : Nat} {Q : Exit → Act → World → Prop} (h : Q .normal a w) : Exit.inBlock id Q .normal a w := h
theorem inb_ret {id : Nat} {Q : Exit → Act → World → Prop} (h : Q .ret a w) : Exit.inBlock id Q .ret a w := h
theorem inb_exit {id : Nat} {Q : Exit → Act → World → Prop} (h : Q .normal a w) : Exit.inBlock id Q (.exit id) a w := by
  show (if id = id then Q .normal a w else Q (.exit id) a w)
  rw [if_pos rfl]
  exact h
theorem inb_exit_other {id id' : Nat} {Q : Exit → Act → World → Prop} (hne : Nat.beq id' id = false) (h : Q (.exit id') a w) : Exit.inBlock id Q (.exit id') a w := by
  have : ¬ id' = id := fun e => by rw [e, Nat.beq_refl] at hne; cases hne
  show (if id' = id then Q .normal a w else Q (.exit id') a w)
  rw [if_neg this]
  exact h
/-- append to nil: a new row -/
theorem wp_append_new {Q : Exit → Act → World → Prop} {rest : List Oper} {o : Oper} {S : Slots} {L : List (Nat × Obj)} (HF : Fr N a S) (HM : Mm w0 w L) (hgd : o.guard = none) (s x : Operand) (t : TypeId)
    (ho : o.op = .call { callee := .builtin .append, args := #[s, x], argTypes := #[t, t] }) (hd : okD N o.dst = true)
    (e : TypeId) {z : Value} {size bytes : Nat} (ht : P.underlying t = some (.slice e)) (hi : (P.info? e).map (fun i => (i.zero, i.size, i.bytes)) = some (some z, size, bytes)) (hzs : z.cells.size = size) (hsz : 0 < size)
    (hs : ev S s = some (.slice none 0 0)) (A : Option Addr) (m c : Nat) (news : List Value) (hx : ev S x = some (.slice A m c)) (hm : news.length = m * size) (hm0 : 0 < m) (hr : Row w A news) (h1 : ∀ u ∈ news, u.oneCell' = true)
    (h63 : m ≤ maxLen) (hbytes : m * bytes ≤ 140737488355328)
    (hK : ∀ a' w' g cap cur, Mm w0 w' ((g, .cells cur e (0, 0)) :: L) → cur.toList.take (m * size) = news → cur.size = cap * size → m ≤ cap → cap ≤ maxLen → Below w.heap.size w w' → Fr N a' (putS S o.dst (.slice (some ⟨g, 0, none⟩) m cap)) → wpList P ops Q rest a' w') : wpList P ops Q (o :: rest) a w := by
  obtain ⟨i0, hi0, hz0, hz1, hz2⟩ := info_parts hi
  refine wpList_append_row w hgd s x t ho w.heap.size e i0 z size bytes ht hi0 hz0 hz1 hz2 hzs hsz (.slice none 0 0) 0 [] (HF.ev hs) (World.ownsRow_nil _ _ _ _) A m c news (HF.ev hx) hm hr h1 (by omega) (by rw [Nat.zero_add]; exact hbytes) (Nat.le_refl _) ?_
  intro v' w' hown hgrow hat
  rw [Nat.zero_add, List.nil_append] at hown
  have hb : Below w.heap.size w w' := (Below.refl _ _).grown hgrow (Nat.le_refl _) (by simp [Value.ownBlock])
  rcases hown.2 with ⟨_, hn⟩ | ⟨g, cap, cur, rfl, hg, hh, hmc, hcm, hcs, htk⟩
  · omega
  · exact hK _ w' g cap cur (HM.push hb hg hh) htk hcs hmc hcm hb (HF.put _ _ (okD_spec hd))
end
end Go.Proofs.Ytlgigipjgahecaa
