/- More laws of the walker: a field of an element of a row; an element of an own row, set. · A plan whose forced operations may come in two orders at one -/
import Derived.Test.YtdgehpocmfjbiaaDoorRd
import Derived.Test.YtdgehpocmfjbiaaDoorRb
import Derived.Test.YtdgehpocmfjbiaaDoorRg
import Derived.Test.YtdgehpocmfjbiaaDoorRa
import Derived.Laws.MakeOwn
set_option linter.unusedVariables false
set_option linter.unusedSimpArgs false
set_option maxRecDepth 100000
set_option maxHeartbeats 2000000
namespace Go.Proofs.YtdgehpocmfjbiaaDoor
open Go.RowKit
section
variable {P : Program} {w : World}
/-- the address of element j, the row's address laid open -/
theorem jy {t e : TypeId} {k : Nat} (ht : P.underlying t = some (.slice e)) (hi : (P.info? e).map (·.size) = some k) {ρ : Operand → Value} {o : Oper} {x ix : Operand} (ho : o.op = .indexAddr t x ix) {A : Option Addr} {n c : Nat} (j : Nat) {g off : Nat} (hA : A = some ⟨g, off, none⟩) {kk : IntKind} (hx : ρ x = .slice A n c) (hj : ρ ix = .int kk (j : Int)) (h : j < n) :
  (execOp ρ o).run P w = .ok (.value (.pointer (some ⟨g, off + j * k, none⟩))) w := by
 subst hA
 have := dS (w := w) ht hi ho j hx hj h (Option.some_ne_none _)
 rw [Option.map_some, zl] at this
 exact this
end
theorem JU {f g : Nat → List Value} : ∀ n, (∀ j, j < n → g j = f j) → (List.range n).flatMap g = (List.range n).flatMap f
 | 0, _ => rfl
 | n + 1, h => by rw [List.range_succ, List.flatMap_append, List.flatMap_append, List.flatMap_singleton, List.flatMap_singleton, JU n (fun j hj => h j (by omega)), h n (by omega)]
theorem LM {f g : Nat → List Value} {k c i : Nat} {v : Value} (hk : ∀ j, (f j).length = k) (hc : c < k) (he : ∀ j, j ≠ i → g j = f j) (hi : g i = (f i).set c v) : ∀ n, i < n → ((List.range n).flatMap f).set (i * k + c) v = (List.range n).flatMap g
 | 0, h => absurd h (Nat.not_lt_zero _)
 | n + 1, h => by
  rw [List.range_succ, List.flatMap_append, List.flatMap_append, List.flatMap_singleton, List.flatMap_singleton]
  have hl : ((List.range n).flatMap f).length = n * k := by rw [yJ hk, List.length_range]
  by_cases hn : i = n
  ·subst hn
   rw [List.set_append_right _ _ (by rw [hl]; omega), hl, Nat.add_sub_cancel_left, hi, JU i (fun j hj => he j (by omega))]
  ·have h1 : (i + 1) * k ≤ n * k := Nat.mul_le_mul_right _ (by omega)
   rw [Nat.succ_mul] at h1
   rw [List.set_append_left _ _ (by rw [hl]; omega), LM hk hc he hi n (by omega), he n (fun e => hn e.symm)]
end Go.Proofs.YtdgehpocmfjbiaaDoor
namespace Go.Proofs.YtdgehpocmfjbiaaDoor
open Go.RowKit

def E_ (ops : Array Oper) (k1 k2 : Nat) (q1 q2 : List (Nat × Bool)) : List Nat → Array Bool → Bool
 | [], listed => decide (Region.ready .any ops listed = [k1, k2]) && (zK .any ops q1 (listed.setIfInBounds k1 true) && zK .any ops q2 (listed.setIfInBounds k2 true))
 | k :: p, listed => (Region.ready .any ops listed).contains k && Region.free .any ops listed k && E_ ops k1 k2 q1 q2 p (listed.setIfInBounds k true)
def Ji (ops : Array Oper) (p : List Nat) (k1 k2 : Nat) (q1 q2 : List (Nat × Bool)) : Bool :=
 Region.noSelect ops && Nat.beq (p.length + (q1.length + 1)) ops.size && Nat.beq q2.length q1.length && E_ ops k1 k2 q1 q2 p (Array.replicate ops.size false)
section
variable {P : Program} {ops : Array Oper} {N : Nat} {G : List Nat} {w0 w : World} {a : Act} {S : World → Prop}
def two (P : Program) (ops : Array Oper) (S : World → Prop) (Q : Exit → Act → World → Prop) (k1 k2 : Nat) (q1 q2 : List (Nat × Bool)) : Exit → Act → World → Prop
 | .normal, a, w => iY P ops S Q ((k1, true) :: q1) a w ∧ iY P ops S Q ((k2, true) :: q2) a w
 | _, _, _ => True
theorem JH {Q : Exit → Act → World → Prop} {k : Nat} {p : List (Nat × Bool)} (h : iY P ops S (NoPanic Q) ((k, true) :: p) a w) : wpOp P ops (NoPanic Q) k (fun a' w' => S w' ∧ iY P ops S (NoPanic Q) p a' w') a w := by
 obtain ⟨o, ho, h⟩ := h
 unfold wpOp
 simp only [ho]
 unfold wpList at h
 split
 ·rename_i hw
  rw [if_pos hw] at h
  exact h.elim (fun h => .inl (H6 h)) fun h => (Hq h.2).elim
 ·rename_i hw
  rw [if_neg hw] at h
  exact h
theorem L8 {Q : Exit → Act → World → Prop} (hs : Region.noSelect ops = true) {k1 k2 : Nat} {q1 q2 : List (Nat × Bool)} (hl : q2.length = q1.length) : ∀ (p : List Nat) (listed : Array Bool) (a : Act) (w : World), E_ ops k1 k2 q1 q2 p listed = true → iY P ops S (two P ops S (NoPanic Q) k1 k2 q1 q2) (p.map fun k => (k, false)) a w →
  wpAnyH P .any ops (NoPanic Q) S (p.length + (q1.length + 1)) listed a w
 | [], listed, a, w, hB, h => by
  simp only [E_, Bool.and_eq_true, decide_eq_true_eq] at hB
  have h' : iY P ops S (NoPanic Q) ((k1, true) :: q1) a w ∧ iY P ops S (NoPanic Q) ((k2, true) :: q2) a w := h
  rw [show ([] : List Nat).length + (q1.length + 1) = q1.length + 1 from Nat.zero_add _]
  refine wpAnyH_all hB.1 (by simp) fun i hi => ?_
  simp only [List.mem_cons, List.not_mem_nil, or_false] at hi
  rcases hi with rfl | rfl
  ·exact wpOp_mono (fun a' w' h' => ⟨h'.1, yY hs q1 _ a' w' hB.2.1 h'.2⟩) (JH h'.1)
  ·exact wpOp_mono (fun a' w' h' => ⟨h'.1, hl ▸ yY hs q2 _ a' w' hB.2.2 h'.2⟩) (JH h'.2)
 | k :: p, listed, a, w, hB, h => by
  simp only [E_, Bool.and_eq_true] at hB
  obtain ⟨hSw, o, v, ho, hy, h⟩ := h
  rw [show (k :: p).length + (q1.length + 1) = p.length + (q1.length + 1) + 1 by simp only [List.length_cons]; omega]
  exact wpAnyH_take ho hs hB.1.2 hB.1.1 (fun c a w hc => hc) hy hSw (L8 hs hl p _ _ _ hB.2 h)
theorem QB {id : Nat} {Q : Exit → Act → World → Prop} {l : List Oper} (hm : P.follows .mixedOrders = true) (S : World → Prop) (p : List Nat) (k1 k2 : Nat) (q1 q2 : List (Nat × Bool)) (hB : Ji l.toArray p k1 k2 q1 q2 = true)
  (h : iY P l.toArray S (two P l.toArray S (NoPanic Q) k1 k2 q1 q2) (p.map fun k => (k, false)) a (w.drewN 1)) : (Code.region id l.toArray true).wp P Q a w := by
 simp only [Ji, Bool.and_eq_true] at hB
 refine wp_region_noPanic (wp_region_held (S := S) hm ?_)
 have := L8 hB.1.1.1 (Nat.eq_of_beq_eq_true hB.1.2) p _ a _ hB.2 h
 rw [Nat.eq_of_beq_eq_true hB.1.1.2] at this
 exact this
theorem RS {id : Nat} {Q : Exit → Act → World → Prop} {l : List Oper} {L : List (Nat × Obj)} (HM : Mm G w0 w L) (hm : P.follows .mixedOrders = true) (LS : List (Nat × Obj)) (p : List Nat) (p' : List (Nat × Bool)) (k1 k2 : Nat) (q1 q2 : List (Nat × Bool)) (hp : p.map (fun k => (k, false)) = p') (hB : Ji l.toArray p k1 k2 q1 q2 = true)
  (h : ∀ w', Mm G w0 w' L → iY P l.toArray (Told LS) (two P l.toArray (Told LS) (NoPanic Q) k1 k2 q1 q2) p' a w') : (Code.region id l.toArray true).wp P Q a w :=
 QB hm (Told LS) p k1 k2 q1 q2 hB (hp ▸ h _ (HM.drewN 1))
theorem QA {Q : Exit → Act → World → Prop} {k1 k2 : Nat} {q1 q2 : List (Nat × Bool)} (h1 : iY P ops S Q ((k1, true) :: q1) a w) (h2 : iY P ops S Q ((k2, true) :: q2) a w) : iY P ops S (two P ops S Q k1 k2 q1 q2) [] a w := ⟨h1, h2⟩
end
end Go.Proofs.YtdgehpocmfjbiaaDoor
namespace Go.Proofs.YtdgehpocmfjbiaaDoor
open Go Go.RowKit

theorem Q8 (z : Array Value) (k n : Nat) (hz : z.size = k) : (madeCells z (n * k)).toList = (List.range n).flatMap fun _ => z.toList := by
 have h0 : ∀ m, (madeCells z m).toList = (List.range m).map (fun i => z[i % z.size]!) := by intro m; simp [madeCells]
 rw [h0]
 induction n with
 | zero => simp
 | succ n ih =>
  rw [Nat.succ_mul, List.range_add, List.map_append, ih, List.range_succ, List.flatMap_append, List.flatMap_singleton, List.map_map]
  congr 1
  apply List.ext_getElem
  ·simp [hz]
  ·intro i h1 h2
   have hk : i < k := by simpa using h1
   have hm : (n * k + i) % k = i := by rw [Nat.mul_comm, Nat.mul_add_mod, Nat.mod_eq_of_lt hk]
   simp only [List.getElem_map, List.getElem_range, Function.comp_apply, hz, hm]
   rw [getElem!_pos z i (by omega)]
   simp
section
variable {P : Program} {N : Nat} {G : List Nat} {w0 w : World} {a : Act} {ops : Array Oper}
/-- make([]T, n) of elements of k cells -/
theorem AA {Q : Exit → Act → World → Prop} {rest : List Oper} {o : Oper} {S : Slots} {L : List (Nat × Obj)} (HF : Fr N a S) (HM : Mm G w0 w L) (hgd : o.guard = none) (l c : Operand) (t : TypeId)
  (ho : o.op = .makeSlice t l c) (hd : okD N o.dst = true) (e : TypeId) (z : Value) (k bytes : Nat) (ht : P.underlying t = some (.slice e)) (hi : (P.info? e).map (fun i => (i.zero, i.size, i.bytes)) = some (some z, k, bytes)) (hzk : z.cells.size = k)
  (kl kc : IntKind) (n : Nat) (hl : ev S l = some (.int kl (n : Int))) (hc : ev S c = some (.int kc (n : Int))) (hb : bytes * n ≤ 281474976710656) (h63 : n ≤ maxLen)
  (hK : ∀ a' w' g cur, cur.toList.take (n * k) = (List.range n).flatMap (fun _ => z.cells.toList) → cur.size = n * k → Mm G w0 w' ((g, .cells cur e (0, 0)) :: L) → Fr N a' (uy S o.dst (.slice (some ⟨g, 0, none⟩) n n)) → wpList P ops Q rest a' w') : wpList P ops Q (o :: rest) a w := by
 refine wpList_plain hgd fun K hK' => ?_
 obtain ⟨i, hinf, hzz⟩ := Option.map_eq_some_iff.1 hi
 simp only [Prod.mk.injEq] at hzz
 obtain ⟨hz, hs, hbt⟩ := hzz
 have hmx : (n : Int) ≤ 9223372036854775807 := by unfold maxLen at h63; omega
 have hb' : (i.bytes : Int) * (n : Int) ≤ 281474976710656 := by
  have h : ((i.bytes * n : Nat) : Int) ≤ 281474976710656 := by rw [hbt]; omega
  rwa [Int.natCast_mul] at h
 have hrun := run_make (P := P) w t e i z ht hinf hz kl kc n n (by omega) (Int.le_refl _) hb' hmx
 simp only [Int.toNat_natCast, hs] at hrun
 unfold Oper.wp
 simp only [execOp, ho, HF.ev hl, HF.ev hc, Sem.run_bind, hrun, Result.andThen_ok, Sem.run_pure]
 refine hK' _ _ (hK _ _ _ _ ?_ (size_madeCells _ _) (HM.alloc _) (HF.put _ _ (kU hd)))
 rw [← Q8 _ _ _ hzk, List.take_of_length_le (by rw [Array.length_toList, size_madeCells]; exact Nat.le_refl _)]
/-- x[k:m] of a slice of bytes -/
theorem wG {t e : TypeId} {info : TypeInfo} (ht : P.underlying t = some (.slice e)) (hi : P.info? e = some info) (hs : info.size = 1) {ρ : Operand → Value} {o : Oper} {x lo h : Operand} (ho : o.op = .slice t x (some lo) (some h) none)
  {b off n c : Nat} (k m r : Nat) {kk kh : IntKind} (hx : ρ x = .slice (some ⟨b, off, none⟩) n c) (hl : ρ lo = .int kk (k : Int)) (hh : ρ h = .int kh (m : Int)) (h1 : k + r = m) (h2 : m ≤ c) (h3 : k < c) (w : World) :
  (execOp ρ o).run P w = .ok (.value (.slice (some ⟨b, off + k, none⟩) r (c - k))) w := by
 have hne : ¬ c = k := by omega
 have hkm : k ≤ m := by omega
 have hr : m - k = r := by omega
 unfold execOp
 simp only [ho, Option.map_some, Option.map_none, hx, hl, hh, Instr.sliceAt]
 by_cases h0 : k = 0
 ·subst h0
  have hr' : m = r := by omega
  simp [Instr.slice, Instr.sliceBounds, Instr.sliceBound, asIntOf, run_underlying ht, sizeOf, typeInfo, hi, hs, hne, Addr.add, h2, hr']
  try omega
 ·simp [Instr.slice, Instr.sliceBounds, Instr.sliceBound, asIntOf, run_underlying ht, sizeOf, typeInfo, hi, hs, h2, hkm, hne, zl, hr]
/-- x[k:], to the end -/
theorem DN {t e : TypeId} {info : TypeInfo} (ht : P.underlying t = some (.slice e)) (hi : P.info? e = some info) (hs : info.size = 1) {ρ : Operand → Value} {o : Oper} {x lo : Operand} (ho : o.op = .slice t x (some lo) none none)
  {b off n c : Nat} (k r : Nat) {kk : IntKind} (hx : ρ x = .slice (some ⟨b, off, none⟩) n c) (hl : ρ lo = .int kk (k : Int)) (h0 : 0 < k) (h1 : k + r = n) (h2 : n = c) (w : World) :
  (execOp ρ o).run P w = .ok (.value (.slice (some ⟨b, if r = 0 then off else off + k, none⟩) r r)) w := by
 subst h2
 have hkn : k ≤ n := by omega
 have hr : n - k = r := by omega
 have h0' : ¬ k = 0 := by omega
 unfold execOp
 simp only [ho, Option.map_some, Option.map_none, hx, hl, Instr.sliceAt]
 by_cases hne : n = k
 ·have : r = 0 := by omega
  simp [Instr.slice, Instr.sliceBounds, Instr.sliceBound, asIntOf, run_underlying ht, sizeOf, typeInfo, hi, hs, hne, this]
 ·have : ¬ r = 0 := by omega
  simp [Instr.slice, Instr.sliceBounds, Instr.sliceBound, asIntOf, run_underlying ht, sizeOf, typeInfo, hi, hs, hkn, hne, zl, hr, this]
end
/-- the result is a struct that lies in block g -/
theorem J8 {P : Program} {fn : Func} {p : Tmp} {ty T : TypeId} {g : Nat} {cs : Array Value} {fs : Array Field} {w : World} {tmps : Array Value} (h : fn.results = #[.cell p ty]) (hp : tmps.getD p undef = .pointer (some ⟨g, 0, none⟩)) (ho : w.heap[g]? = some (.cells cs T (0, 0))) (hu : P.underlying ty = some (.struct fs)) (hi : (P.info? ty).map (·.size) = some cs.size) :
  (results fn tmps).run P w = .ok (.agg cs) w := by
 have hl := run_loadVar_row (P := P) w g T ty cs (0, 0) _ ho hu rfl hi
 have hp' : tmps[p]?.getD undef = .pointer (some ⟨g, 0, none⟩) := by simpa using hp
 simp only [results, h]
 simp [hp', asAddr, hl]
section
variable {w : World} {g : Nat} {X : List UInt8} {t : TypeId}
theorem Jg {w : World} {g : Nat} {X : List UInt8} {t : TypeId} (hg : w.heap[g]? = some (.cells (X.map Bv).toArray t (0, 0))) (k m : Nat) : Row w (some ⟨g, k, none⟩) (((X.drop k).take m).map Bv) := by
 have hr := (o_ hg).drop_at k
 rw [← List.map_drop, Nat.zero_add] at hr
 rw [List.map_take]
 exact hr.take m
/-- the number at place k of a told block, out of x[k:k+4] -/
theorem Oj (hg : w.heap[g]? = some (.cells (X.map Bv).toArray t (0, 0))) (big : Bool) (k c : Nat) (hk : k + 2 ≤ X.length) (v : Int) (hv : ((num big X k 2 : Nat) : Int) = v) :
  Calls Tryd.prog 94 #[aU big, .slice (some ⟨g, k, none⟩) 2 c] w fun e w' => e = .returned (.int .u16 v) ∧ ∃ i, w' = w.drewN i := by
 have h := zG big ((X.drop k).take 2) (some ⟨g, k, none⟩) 2 c (Nat.le_refl _) (by simp; omega) w (Jg hg k 2)
 rw [List.take_take, Nat.min_self] at h
 rw [← hv]; exact h
theorem Gg (hg : w.heap[g]? = some (.cells (X.map Bv).toArray t (0, 0))) (big : Bool) (k c : Nat) (hk : k + 4 ≤ X.length) (hc : 4 ≤ c) (hc2 : c ≤ maxLen) (v : Int) (hv : ((num big X k 4 : Nat) : Int) = v) :
  Calls Tryd.prog 87 #[aU big, .slice (some ⟨g, k, none⟩) 4 c] w fun e w' => e = .returned (.int .u32 v) ∧ ∃ i, w' = w.drewN i := by
 have h := zF big ((X.drop k).take 4) (some ⟨g, k, none⟩) 4 c (Nat.le_refl _) (by simp; omega) hc hc2 w (Jg hg k 4)
 rw [List.take_take, Nat.min_self] at h
 rw [← hv]; exact h
theorem Oi (hg : w.heap[g]? = some (.cells (X.map Bv).toArray t (0, 0))) (big : Bool) (k c : Nat) (hk : k + 8 ≤ X.length) (hc : 8 ≤ c) (hc2 : c ≤ maxLen) (v : Int) (hv : ((num big X k 8 : Nat) : Int) = v) :
  Calls Tryd.prog 88 #[aU big, .slice (some ⟨g, k, none⟩) 8 c] w fun e w' => e = .returned (.int .u64 v) ∧ ∃ i, w' = w.drewN i := by
 have h := H8 big ((X.drop k).take 8) (some ⟨g, k, none⟩) 8 c (Nat.le_refl _) (by simp; omega) hc hc2 w (Jg hg k 8)
 rw [List.take_take, Nat.min_self] at h
 rw [← hv]; exact h
end
theorem NH (n : Nat) : (List.range n).flatMap (fun _ => (Value.int .u8 0).cells.toList) = (List.replicate n (0 : UInt8)).map Bv := by
 induction n with
 | zero => rfl
 | succ n ih => rw [List.range_succ, List.flatMap_append, ih, List.replicate_succ', List.map_append]; rfl
theorem Sm : (Tryd.prog.info? 5).map (fun i => (i.zero, i.size, i.bytes)) = some (some (.int .u8 0), 1, 1) := by kernel_rfl
end Go.Proofs.YtdgehpocmfjbiaaDoor
namespace Go.Proofs.YtdgehpocmfjbiaaDoor
open Go.RowKit

structure SymM where
 name : List UInt8
 info : Nat
 other : Nat
 dH : Int
 value : Nat
 size : Nat
def SymM.cells (m : SymM) : List Value := [.string (⟨m.name.toArray⟩), .int .u8 ((m.info : Nat) : Int), .int .u8 ((m.other : Nat) : Int), .int .i64 m.dH, .int .u64 ((m.value : Nat) : Int), .int .u64 ((m.size : Nat) : Int)]
structure SymM.At (m : SymM) : Prop where
 nm : m.name.length ≤ maxLen
 info : m.info < 256
 other : m.other < 256
 value : m.value < 18446744073709551616
 size : m.size < 18446744073709551616
structure SymM.Ok (wide : Bool) (m : SymM) : Prop where
 fit : lZ wide [m.value, m.size] = true
 s0 : 0 ≤ m.dH
 s1 : m.dH < 65535
 name : m.name.length ≤ 1024
 Iq : 0 ∉ m.name

end Go.Proofs.YtdgehpocmfjbiaaDoor
namespace Go.Proofs.YtdgehpocmfjbiaaDoor
open Go.RowKit

theorem Nw (m : SymM) (w0 : World) : Calls Tryd.prog 51 #[.agg #[.string (⟨m.name.toArray⟩), aT m.info, aT m.other, .int .i64 m.dH, aI m.value, aI m.size]] w0 fun e w' => ∃ b, e = .returned (.bool b) ∧ Below w0.heap.size w0 w' := by
 obtain ⟨w, hw⟩ : ∃ w, w0 = w := ⟨_, rfl⟩
 have HM : Mm [] w0 w [] := hw ▸ Mm.start w0
 conv => arg 4; rw [hw]
 clear hw
 refine bI Tryd.func51 rfl Tryd.ntmps51 [(0, .agg #[.string (⟨m.name.toArray⟩), aT m.info, aT m.other, .int .i64 m.dH, aI m.value, aI m.size])] (by kernel_rfl) (Nat.le_of_ble_eq_true rfl) ?_
 intro a HF
 refine aN ?_
 obtain ⟨z1, hz1⟩ : ∃ z, w.heap.size = z := ⟨_, rfl⟩
 refine aP HF HM hz1 2 [] [(1, aA z1)] [(z1, .cells #[.string (⟨m.name.toArray⟩), aT m.info, aT m.other, .int .i64 m.dH, aI m.value, aI m.size] 40 (0, 0))] (by kernel_rfl) fun a w HF HM => ?_
 clear hz1
 refine aB ?_
 refine wp_seq ?_
 refine aN ?_
 refine wp_pure HF HM rfl 4 [[0]] [(6, .bool (decide (2147483647 < ((m.name.length : Nat) : Int))))] (by kernel_rfl) fun a HF => ?_
 refine aB ?_
 by_cases hc1 : 2147483647 < ((m.name.length : Nat) : Int)
 ·rw [show decide (2147483647 < ((m.name.length : Nat) : Int)) = true from dV (hc1)] at HF
  refine bC HF rfl ?_
  refine aN ?_
  refine wp_pure HF HM rfl 1 [] [(2, .bool false)] (by kernel_rfl) fun a HF => ?_
  refine aB ?_
  refine wp_ret ?_
  repeat first | refine bH ?_ | refine bM ?_
  exact dn HF rfl rfl ⟨false, rfl, HM.below⟩
 rw [show decide (2147483647 < ((m.name.length : Nat) : Int)) = false from dI (hc1)] at HF
 refine aZ HF rfl ?_
 refine wp_skip ?_
 repeat first | refine aK ?_ | refine aS ?_
 refine aN ?_
 refine wp_pure HF HM rfl 1 [] [(2, .bool true)] (by kernel_rfl) fun a HF => ?_
 refine aB ?_
 refine wp_ret ?_
 repeat first | refine bH ?_ | refine bM ?_
 exact dn HF rfl rfl ⟨true, rfl, HM.below⟩

abbrev jH := fun (A : Option Addr) (l : List SymM) (c : Nat) => ([(8, .slice A l.length c), (9, ay l.length)] : Slots)
theorem Ci (l : List SymM) (A : Option Addr) (c : Nat) (w0 : World) (hr : Row w0 A (l.flatMap SymM.cells)) : Calls Tryd.prog 21 #[.slice A l.length c] w0 fun e w' => ∃ b, e = .returned (.bool b) ∧ Below w0.heap.size w0 w' := by
 obtain ⟨w, hw⟩ : ∃ w, w0 = w := ⟨_, rfl⟩
 have HM : Mm [] w0 w [] := hw ▸ Mm.start w0
 conv => arg 4; rw [hw]
 clear hw
 refine bI Tryd.func21 rfl Tryd.ntmps21 [(0, .slice A l.length c)] (by kernel_rfl) (Nat.le_of_ble_eq_true rfl) ?_
 intro a HF
 refine aN ?_
 refine wp_pure HF HM rfl 1 [] [(0, .slice A l.length c)] (by kernel_rfl) fun a HF => ?_
 refine aB ?_
 refine wp_seq ?_
 refine aN ?_
 refine wp_pure HF HM rfl 3 [] [(0, .slice A l.length c), (7, .bool (decide (2147483647 < ((l.length : Nat) : Int))))] (by kernel_rfl) fun a HF => ?_
 refine aB ?_
 by_cases hc1 : 2147483647 < ((l.length : Nat) : Int)
 ·rw [show decide (2147483647 < ((l.length : Nat) : Int)) = true from dV (hc1)] at HF
  refine bC HF rfl ?_
  refine aN ?_
  refine wp_pure HF HM rfl 1 [] [(2, .bool false)] (by kernel_rfl) fun a HF => ?_
  refine aB ?_
  refine wp_ret ?_
  repeat first | refine bH ?_ | refine bM ?_
  exact dn HF rfl rfl ⟨false, rfl, HM.below⟩
 rw [show decide (2147483647 < ((l.length : Nat) : Int)) = false from dI (hc1)] at HF
 refine aZ HF rfl ?_
 refine wp_skip ?_
 repeat first | refine aK ?_ | refine aS ?_
 refine wp_seq ?_
 refine aN ?_
 refine wp_pure HF HM rfl 3 [] ((jH A l c) ++ [(10, aF 0)]) (by kernel_rfl) fun a HF => ?_
 refine aB ?_
 refine wp_block ?_
 refine jX (l.length) (fun i a w => (Mm [] w0 w [] ∧ Fr 18 a ((jH A l c) ++ [(10, ay i)]))) ?_ ?_ ?_
 ·exact ⟨HM, HF.sub ((jH A l c) ++ [(10, aF 0)]) (by kernel_rfl)⟩
 ·intro i a w KX hi hI KR
  obtain ⟨HM, HF⟩ := hI
  refine aN ?_
  refine wp_pure HF HM rfl 1 [] ((jH A l c) ++ [(10, ay i), (11, .bool (decide (((i : Nat) : Int) < ((l.length : Nat) : Int))))]) (by kernel_rfl) fun a HF => ?_
  refine aB ?_
  refine wp_seq ?_
  rw [show decide (((i : Nat) : Int) < ((l.length : Nat) : Int)) = true from dV (by omega)] at HF
  refine bC HF rfl ?_
  refine wp_skip ?_
  repeat first | refine aK ?_ | refine aS ?_
  refine wp_seq ?_
  refine wp_block ?_
  refine aN ?_
  obtain ⟨m2, hm2⟩ : ∃ m, l[i]? = some m := ⟨_, List.getElem?_eq_getElem (by omega)⟩
  refine bU HF (by kernel_rfl) (.pointer (Option.map (fun q : Addr => q.add (i * 6)) A)) (by kernel_rfl) (dS Tryd.underlying27 (by kernel_rfl) rfl i rfl rfl (by omega) (gQ (fH (f := SymM.cells) (k := 6) (fun _ => rfl) (HM.row hr) i hm2) (Nat.zero_lt_succ _))) fun a HF => ?_
  refine bU HF (by kernel_rfl) (.agg #[.string (⟨m2.name.toArray⟩), aT m2.info, aT m2.other, .int .i64 m2.dH, aI m2.value, aI m2.size]) (by kernel_rfl) (iC rfl rfl (fH (f := SymM.cells) (k := 6) (fun _ => rfl) (HM.row hr) i hm2) (Nat.zero_lt_succ _) Tryd.underlying40 rfl (by kernel_rfl)) fun a HF => ?_
  obtain ⟨z6, wO⟩ : ∃ z, w.heap.size = z := ⟨_, rfl⟩
  refine aP HF HM wO 2 [[0]] [(4, aA z6), (8, .slice A l.length c), (9, ay l.length), (10, ay i)] [(z6, .cells #[.string (⟨m2.name.toArray⟩), aT m2.info, aT m2.other, .int .i64 m2.dH, aI m2.value, aI m2.size] 40 (0, 0))] (by kernel_rfl) fun a w HF HM => ?_
  clear wO
  refine bT ?_
  refine wp_pure HF HM rfl 1 [[0]] ((jH A l c) ++ [(10, ay i), (14, .agg #[.string (⟨m2.name.toArray⟩), aT m2.info, aT m2.other, .int .i64 m2.dH, aI m2.value, aI m2.size])]) (by kernel_rfl) fun a HF => ?_
  refine bf HF (by kernel_rfl) 51 #[.agg #[.string (⟨m2.name.toArray⟩), aT m2.info, aT m2.other, .int .i64 m2.dH, aI m2.value, aI m2.size]] (by kernel_rfl) (fun w => by kernel_rfl) (Calls.mono (Nw m2 w) ?_)
  rintro _ w1 ⟨b3, rfl, hb⟩
  replace HM := HM.call hb
  clear hb
  refine ⟨_, rfl, ?_⟩; clear HF; intro a HF
  replace HF := HF.sub ((jH A l c) ++ [(10, ay i), (15, .bool b3)]) (by kernel_rfl)
  rcases gZ b3 with hc4 | hc4
  ·replace HF := Fr.sub (Fr.tell HF 15 rfl (congrArg Value.bool hc4)) ((jH A l c) ++ [(10, ay i), (15, .bool false)]) (by kernel_rfl)
   refine wp_pure HF HM rfl 1 [] ((jH A l c) ++ [(10, ay i), (16, .bool true)]) (by kernel_rfl) fun a HF => ?_
   refine aB ?_
   refine bC HF rfl ?_
   refine aN ?_
   refine wp_pure HF HM rfl 1 [] [(2, .bool false)] (by kernel_rfl) fun a HF => ?_
   refine aB ?_
   refine wp_ret ?_
   repeat first | refine bH ?_ | refine bM ?_
   exact dn HF rfl rfl ⟨false, rfl, HM.below⟩
  replace HF := Fr.sub (Fr.tell HF 15 rfl (congrArg Value.bool hc4)) ((jH A l c) ++ [(10, ay i), (15, .bool true)]) (by kernel_rfl)
  refine wp_pure HF HM rfl 1 [] ((jH A l c) ++ [(10, ay i), (16, .bool false)]) (by kernel_rfl) fun a HF => ?_
  refine aB ?_
  refine aZ HF rfl ?_
  refine wp_skip ?_
  repeat first | refine aK ?_ | refine aS ?_
  refine wp_region_lit ?_
  refine wp_pure HF HM rfl 1 [] ((jH A l c) ++ [(17, aF (IntKind.i64.wrap (((i : Nat) : Int) + 1)))]) (by kernel_rfl) fun a HF => ?_
  rw [show IntKind.i64.wrap (((i : Nat) : Int) + 1) = (((i + 1) : Nat) : Int) from (IntWalk.i64_in _ (by omega)).trans (by omega)] at HF
  refine wp_pure HF HM rfl 1 [] ((jH A l c) ++ [(10, ay (i + 1))]) (by kernel_rfl) fun a HF => ?_
  refine wpList_nil ?_
  repeat first | refine aK ?_ | refine aS ?_
  exact KR _ _ (⟨(HM.pick [] [] rfl (by decide)), HF.sub ((jH A l c) ++ [(10, ay (i + 1))]) (by kernel_rfl)⟩)
 ·intro a w KX hI
  obtain ⟨HM, HF⟩ := hI
  refine aN ?_
  refine wp_pure HF HM rfl 1 [] ((jH A l c) ++ [(10, ay l.length), (11, .bool (decide (((l.length : Nat) : Int) < ((l.length : Nat) : Int))))]) (by kernel_rfl) fun a HF => ?_
  refine aB ?_
  refine wp_seq ?_
  rw [show decide (((l.length : Nat) : Int) < ((l.length : Nat) : Int)) = false from dI (by omega)] at HF
  refine aZ HF rfl ?_
  refine wp_exit ?_
  repeat (first | refine fG ?_ | refine fA rfl ?_)
  refine iD ?_
  repeat first | refine aK ?_ | refine aS ?_
  refine aN ?_
  refine wp_pure HF HM rfl 1 [] [(2, .bool true)] (by kernel_rfl) fun a HF => ?_
  refine aB ?_
  refine wp_ret ?_
  repeat first | refine bH ?_ | refine bM ?_
  exact dn HF rfl rfl ⟨true, rfl, HM.below⟩

end Go.Proofs.YtdgehpocmfjbiaaDoor
namespace Go.Proofs.YtdgehpocmfjbiaaDoor
open Go.RowKit

abbrev qj := fun z1 (x : bZ) => ((z1, .cells #[.bool x.wide, .bool x.big, aT x.abi, aT x.aH, .int .i64 x.ty, .int .i64 x.machine, aI x.entry, .slice x.A x.ss.length x.c, .slice x.B x.ps.length x.d] 26 (0, 0)) : Nat × Obj)
abbrev iy := fun z1 (A : Option Addr) (l : List SymM) (c : Nat) => ([(2, aA z1), (10, .slice A l.length c), (11, ay l.length)] : Slots)
abbrev lT := fun z1 z6 (A : Option Addr) (l : List SymM) (c : Nat) i => ([(2, aA z1), (6, aA z6), (10, .slice A l.length c), (11, ay l.length), (12, ay i)] : Slots)
theorem yK (x : bZ) (l : List SymM) (A : Option Addr) (c : Nat) (w0 : World) (hr : Row w0 A (l.flatMap SymM.cells)) (hat : ∀ m ∈ l, SymM.At m) : Calls Tryd.prog 23 #[x.val, .slice A l.length c] w0 fun e w' => ∃ b, e = .returned (.bool b) ∧ Below w0.heap.size w0 w' ∧ (b = true → l.length ≤ 1024 ∧ ∀ m ∈ l, SymM.Ok x.wide m) := by
 obtain ⟨w, hw⟩ : ∃ w, w0 = w := ⟨_, rfl⟩
 have HM : Mm [] w0 w [] := hw ▸ Mm.start w0
 conv => arg 4; rw [hw]
 clear hw
 refine bI Tryd.func23 rfl Tryd.ntmps23 [(0, .agg #[.bool x.wide, .bool x.big, aT x.abi, aT x.aH, .int .i64 x.ty, .int .i64 x.machine, aI x.entry, .slice x.A x.ss.length x.c, .slice x.B x.ps.length x.d]), (1, .slice A l.length c)] (by kernel_rfl) (Nat.le_of_ble_eq_true rfl) ?_
 intro a HF
 refine aN ?_
 obtain ⟨z1, hz1⟩ : ∃ z, w.heap.size = z := ⟨_, rfl⟩
 refine aP HF HM hz1 2 [] [(1, .slice A l.length c), (2, aA z1)] [qj z1 x] (by kernel_rfl) fun a w HF HM => ?_
 clear hz1
 refine aB ?_
 refine wp_seq ?_
 refine aN ?_
 refine wp_pure HF HM rfl 3 [] [(1, .slice A l.length c), (2, aA z1), (9, .bool (decide (1024 < ((l.length : Nat) : Int))))] (by kernel_rfl) fun a HF => ?_
 refine aB ?_
 by_cases hc1 : 1024 < ((l.length : Nat) : Int)
 ·rw [show decide (1024 < ((l.length : Nat) : Int)) = true from dV (hc1)] at HF
  refine bC HF rfl ?_
  refine aN ?_
  refine wp_pure HF HM rfl 1 [] [(4, .bool false)] (by kernel_rfl) fun a HF => ?_
  refine aB ?_
  refine wp_ret ?_
  repeat first | refine bH ?_ | refine bM ?_
  exact dn HF rfl rfl ⟨false, rfl, HM.below, fun h => by cases h⟩
 rw [show decide (1024 < ((l.length : Nat) : Int)) = false from dI (hc1)] at HF
 refine aZ HF rfl ?_
 refine wp_skip ?_
 repeat first | refine aK ?_ | refine aS ?_
 refine wp_seq ?_
 refine aN ?_
 refine wp_pure HF HM rfl 3 [] ((iy z1 A l c) ++ [(12, aF 0)]) (by kernel_rfl) fun a HF => ?_
 refine aB ?_
 refine wp_block ?_
 refine jX (l.length) (fun i a w => ((∀ j m, j < i → l[j]? = some m → SymM.Ok x.wide m) ∧ Mm [] w0 w [qj z1 x] ∧ Fr 47 a ((iy z1 A l c) ++ [(12, ay i)]))) ?_ ?_ ?_
 ·exact ⟨fun j m hj => absurd hj (Nat.not_lt_zero j), HM, HF.sub ((iy z1 A l c) ++ [(12, aF 0)]) (by kernel_rfl)⟩
 ·intro i a w KX hi hI KR
  obtain ⟨PV, HM, HF⟩ := hI
  refine aN ?_
  refine wp_pure HF HM rfl 1 [] ((iy z1 A l c) ++ [(12, ay i), (13, .bool (decide (((i : Nat) : Int) < ((l.length : Nat) : Int))))]) (by kernel_rfl) fun a HF => ?_
  refine aB ?_
  refine wp_seq ?_
  rw [show decide (((i : Nat) : Int) < ((l.length : Nat) : Int)) = true from dV (by omega)] at HF
  refine bC HF rfl ?_
  refine wp_skip ?_
  repeat first | refine aK ?_ | refine aS ?_
  refine wp_seq ?_
  refine wp_block ?_
  refine aN ?_
  obtain ⟨m2, hm2⟩ : ∃ m, l[i]? = some m := ⟨_, List.getElem?_eq_getElem (by omega)⟩
  refine bU HF (by kernel_rfl) (.pointer (Option.map (fun q : Addr => q.add (i * 6)) A)) (by kernel_rfl) (dS Tryd.underlying27 (by kernel_rfl) rfl i rfl rfl (by omega) (gQ (fH (f := SymM.cells) (k := 6) (fun _ => rfl) (HM.row hr) i hm2) (Nat.zero_lt_succ _))) fun a HF => ?_
  refine bU HF (by kernel_rfl) (.agg #[.string (⟨m2.name.toArray⟩), aT m2.info, aT m2.other, .int .i64 m2.dH, aI m2.value, aI m2.size]) (by kernel_rfl) (iC rfl rfl (fH (f := SymM.cells) (k := 6) (fun _ => rfl) (HM.row hr) i hm2) (Nat.zero_lt_succ _) Tryd.underlying40 rfl (by kernel_rfl)) fun a HF => ?_
  obtain ⟨z6, wO⟩ : ∃ z, w.heap.size = z := ⟨_, rfl⟩
  refine aP HF HM wO 2 [[1]] (lT z1 z6 A l c i) [(z6, .cells #[.string (⟨m2.name.toArray⟩), aT m2.info, aT m2.other, .int .i64 m2.dH, aI m2.value, aI m2.size] 40 (0, 0)), qj z1 x] (by kernel_rfl) fun a w HF HM => ?_
  clear wO
  refine bT ?_
  obtain ⟨z7, wM⟩ : ∃ z, w.heap.size = z := ⟨_, rfl⟩
  refine aP HF HM wM 6 [[0], [1], [1]] ((lT z1 z6 A l c i) ++ [(16, .agg #[.bool x.wide, .bool x.big, aT x.abi, aT x.aH, .int .i64 x.ty, .int .i64 x.machine, aI x.entry, .slice x.A x.ss.length x.c, .slice x.B x.ps.length x.d]), (21, aC z7 2 2)]) [(z7, .cells #[aI m2.value, aI m2.size] 22 (0, 0)), (z6, .cells #[.string (⟨m2.name.toArray⟩), aT m2.info, aT m2.other, .int .i64 m2.dH, aI m2.value, aI m2.size] 40 (0, 0)), qj z1 x] (by kernel_rfl) fun a w HF HM => ?_
  clear wM
  refine bf HF (by kernel_rfl) 52 #[.agg #[.bool x.wide, .bool x.big, aT x.abi, aT x.aH, .int .i64 x.ty, .int .i64 x.machine, aI x.entry, .slice x.A x.ss.length x.c, .slice x.B x.ps.length x.d], aC z7 2 2] (by kernel_rfl) (fun w => by kernel_rfl) (Calls.mono (fits_any x.wide _ _ _ _ _ _ _ _ [m2.value, m2.size] _ _ _ rfl (by simp) w (HM.rowAt (i := 0) rfl)) ?_)
  rintro _ w1 ⟨rfl, hb⟩
  replace HM := HM.call hb
  clear hb
  refine ⟨_, rfl, ?_⟩; clear HF; intro a HF
  replace HF := HF.sub ((lT z1 z6 A l c i) ++ [(22, .bool (lZ x.wide [m2.value, m2.size]))]) (by kernel_rfl)
  rcases gZ (lZ x.wide [m2.value, m2.size]) with hc3 | hc3
  ·replace HF := Fr.sub (Fr.tell HF 22 rfl (congrArg Value.bool hc3)) ((lT z1 z6 A l c i) ++ [(22, .bool false)]) (by kernel_rfl)
   refine wp_pure HF HM rfl 23 [] ((iy z1 A l c) ++ [(12, ay i), (45, .bool true)]) (by kernel_rfl) fun a HF => ?_
   refine aB ?_
   refine bC HF rfl ?_
   refine aN ?_
   refine wp_pure HF HM rfl 1 [] [(4, .bool false)] (by kernel_rfl) fun a HF => ?_
   refine aB ?_
   refine wp_ret ?_
   repeat first | refine bH ?_ | refine bM ?_
   exact dn HF rfl rfl ⟨false, rfl, HM.below, fun h => by cases h⟩
  replace HF := Fr.sub (Fr.tell HF 22 rfl (congrArg Value.bool hc3)) ((lT z1 z6 A l c i) ++ [(22, .bool true)]) (by kernel_rfl)
  refine wp_pure HF HM rfl 7 [[1]] ((lT z1 z6 A l c i) ++ [(29, .bool (decide (m2.dH < 0)))]) (by kernel_rfl) fun a HF => ?_
  by_cases hc4 : m2.dH < 0
  ·rw [show decide (m2.dH < 0) = true from dV (hc4)] at HF
   refine wp_pure HF HM rfl 16 [] ((iy z1 A l c) ++ [(12, ay i), (45, .bool true)]) (by kernel_rfl) fun a HF => ?_
   refine aB ?_
   refine bC HF rfl ?_
   refine aN ?_
   refine wp_pure HF HM rfl 1 [] [(4, .bool false)] (by kernel_rfl) fun a HF => ?_
   refine aB ?_
   refine wp_ret ?_
   repeat first | refine bH ?_ | refine bM ?_
   exact dn HF rfl rfl ⟨false, rfl, HM.below, fun h => by cases h⟩
  rw [show decide (m2.dH < 0) = false from dI (hc4)] at HF
  refine wp_pure HF HM rfl 5 [[1]] ((lT z1 z6 A l c i) ++ [(34, .bool (decide (65535 ≤ m2.dH)))]) (by kernel_rfl) fun a HF => ?_
  by_cases hc5 : 65535 ≤ m2.dH
  ·rw [show decide (65535 ≤ m2.dH) = true from dV (hc5)] at HF
   refine wp_pure HF HM rfl 11 [] ((iy z1 A l c) ++ [(12, ay i), (45, .bool true)]) (by kernel_rfl) fun a HF => ?_
   refine aB ?_
   refine bC HF rfl ?_
   refine aN ?_
   refine wp_pure HF HM rfl 1 [] [(4, .bool false)] (by kernel_rfl) fun a HF => ?_
   refine aB ?_
   refine wp_ret ?_
   repeat first | refine bH ?_ | refine bM ?_
   exact dn HF rfl rfl ⟨false, rfl, HM.below, fun h => by cases h⟩
  rw [show decide (65535 ≤ m2.dH) = false from dI (hc5)] at HF
  refine wp_pure HF HM rfl 6 [[1]] ((lT z1 z6 A l c i) ++ [(40, .bool (decide (1024 < ((m2.name.length : Nat) : Int))))]) (by kernel_rfl) fun a HF => ?_
  by_cases hc6 : 1024 < ((m2.name.length : Nat) : Int)
  ·rw [show decide (1024 < ((m2.name.length : Nat) : Int)) = true from dV (hc6)] at HF
   refine wp_pure HF HM rfl 5 [] ((iy z1 A l c) ++ [(12, ay i), (45, .bool true)]) (by kernel_rfl) fun a HF => ?_
   refine aB ?_
   refine bC HF rfl ?_
   refine aN ?_
   refine wp_pure HF HM rfl 1 [] [(4, .bool false)] (by kernel_rfl) fun a HF => ?_
   refine aB ?_
   refine wp_ret ?_
   repeat first | refine bH ?_ | refine bM ?_
   exact dn HF rfl rfl ⟨false, rfl, HM.below, fun h => by cases h⟩
  rw [show decide (1024 < ((m2.name.length : Nat) : Int)) = false from dI (hc6)] at HF
  refine wp_pure HF HM rfl 2 [[1]] ((iy z1 A l c) ++ [(12, ay i), (40, .bool false), (42, .string (⟨m2.name.toArray⟩))]) (by kernel_rfl) fun a HF => ?_
  have hnm := (hat m2 (List.mem_of_getElem? hm2)).nm
  refine bf HF (by kernel_rfl) 53 #[.string (⟨m2.name.toArray⟩)] (by kernel_rfl) (fun w => by kernel_rfl) (Calls.mono (IC m2.name (by unfold maxLen at hnm; omega) w1) ?_)
  rintro _ w2 ⟨rfl, hq⟩
  replace hq := hq.symm; subst hq
  refine ⟨_, rfl, ?_⟩; clear HF; intro a HF
  replace HF := HF.sub ((iy z1 A l c) ++ [(12, ay i), (40, .bool false), (43, .bool (decide (0 ∉ m2.name)))]) (by kernel_rfl)
  by_cases uX : 0 ∉ m2.name
  ·rw [show decide (0 ∉ m2.name) = true from dV (uX)] at HF
   refine wp_pure HF HM rfl 2 [] ((iy z1 A l c) ++ [(12, ay i), (45, .bool false)]) (by kernel_rfl) fun a HF => ?_
   refine aB ?_
   refine aZ HF rfl ?_
   refine wp_skip ?_
   repeat first | refine aK ?_ | refine aS ?_
   refine wp_region_lit ?_
   refine wp_pure HF HM rfl 1 [] ((iy z1 A l c) ++ [(46, aF (IntKind.i64.wrap (((i : Nat) : Int) + 1)))]) (by kernel_rfl) fun a HF => ?_
   rw [show IntKind.i64.wrap (((i : Nat) : Int) + 1) = (((i + 1) : Nat) : Int) from (IntWalk.i64_in _ (by omega)).trans (by omega)] at HF
   refine wp_pure HF HM rfl 1 [] ((iy z1 A l c) ++ [(12, ay (i + 1))]) (by kernel_rfl) fun a HF => ?_
   refine wpList_nil ?_
   repeat first | refine aK ?_ | refine aS ?_
   exact KR _ _ (⟨fun j m hj hm => (Nat.lt_or_ge j i).elim (fun g => PV j m g hm) (fun g => by obtain rfl : j = i := (by omega); rw [hm2] at hm; obtain rfl := Option.some.inj hm; exact ⟨by assumption, by omega, by omega, by omega, by assumption⟩), (HM.pick [2] [qj z1 x] rfl (by decide)), HF.sub ((iy z1 A l c) ++ [(12, ay (i + 1))]) (by kernel_rfl)⟩)
  rw [show decide (0 ∉ m2.name) = false from dI (uX)] at HF
  refine wp_pure HF HM rfl 2 [] ((iy z1 A l c) ++ [(12, ay i), (45, .bool true)]) (by kernel_rfl) fun a HF => ?_
  refine aB ?_
  refine bC HF rfl ?_
  refine aN ?_
  refine wp_pure HF HM rfl 1 [] [(4, .bool false)] (by kernel_rfl) fun a HF => ?_
  refine aB ?_
  refine wp_ret ?_
  repeat first | refine bH ?_ | refine bM ?_
  exact dn HF rfl rfl ⟨false, rfl, HM.below, fun h => by cases h⟩
 ·intro a w KX hI
  obtain ⟨PV, HM, HF⟩ := hI
  refine aN ?_
  refine wp_pure HF HM rfl 1 [] ((iy z1 A l c) ++ [(12, ay l.length), (13, .bool (decide (((l.length : Nat) : Int) < ((l.length : Nat) : Int))))]) (by kernel_rfl) fun a HF => ?_
  refine aB ?_
  refine wp_seq ?_
  rw [show decide (((l.length : Nat) : Int) < ((l.length : Nat) : Int)) = false from dI (by omega)] at HF
  refine aZ HF rfl ?_
  refine wp_exit ?_
  repeat (first | refine fG ?_ | refine fA rfl ?_)
  refine iD ?_
  repeat first | refine aK ?_ | refine aS ?_
  refine aN ?_
  refine wp_pure HF HM rfl 1 [] [(4, .bool true)] (by kernel_rfl) fun a HF => ?_
  refine aB ?_
  refine wp_ret ?_
  repeat first | refine bH ?_ | refine bM ?_
  exact dn HF rfl rfl ⟨true, rfl, HM.below, fun _ => ⟨by omega, fun m hm => (List.getElem?_of_mem hm).elim fun j hj => PV j m (List.getElem?_eq_some_iff.1 hj).1 hj⟩⟩

end Go.Proofs.YtdgehpocmfjbiaaDoor
namespace Go.Proofs.YtdgehpocmfjbiaaDoor
open Go.RowKit

def gW (wide : Bool) : Nat := if wide then 24 else 16
def dF (l : List SymM) : List (List UInt8) := l.map (·.name)
theorem oL (l : List SymM) : (dF l).length = l.length := by simp [dF]
theorem rP (l : List SymM) (wide : Bool) (hn : l.length ≤ 1024) (hok : ∀ m ∈ l, SymM.Ok wide m) : (dB (dF l)).length ≤ 1049601 := by
 have hb := xX (fun n : List UInt8 => n ++ [0]) 1025 (dF l) (by
  intro n hn
  obtain ⟨m, hm, rfl⟩ := List.mem_map.1 hn
  have := (hok m hm).name
  simp; omega)
 rw [oL] at hb
 have h2 : l.length * 1025 ≤ 1024 * 1025 := Nat.mul_le_mul_right _ hn
 unfold dB
 rw [List.length_cons]
 omega
def kG (wide big : Bool) (l : List SymM) (i : Nat) (m : SymM) : List UInt8 := jQ wide big (nameAt (dF l) i) m.info m.other m.dH.toNat m.value m.size
def dN (wide big : Bool) (l : List SymM) (i : Nat) : List UInt8 := List.replicate (gW wide) 0 ++ fF (kG wide big l) 0 (l.take i)
theorem GI (wide big : Bool) (name info other sec value size : Nat) : (jQ wide big name info other sec value size).length = gW wide := by
 cases wide <;> simp [jQ, bD, gW]
theorem jh (wide big : Bool) (l : List SymM) (i : Nat) (m : SymM) : (kG wide big l i m).length = gW wide := GI ..
theorem ES (wide big : Bool) (l : List SymM) : dN wide big l 0 = List.replicate (gW wide) 0 := by simp [dN, fF]
theorem G7 (wide big : Bool) (l : List SymM) : gW wide = (dN wide big l 0).length := by rw [ES]; simp
theorem wR {wide big : Bool} {l : List SymM} {i : Nat} {m : SymM} (h : l[i]? = some m) : dN wide big l (i + 1) = dN wide big l i ++ kG wide big l i m := by
 obtain ⟨hl, e⟩ := List.getElem?_eq_some_iff.1 h
 unfold dN
 rw [zo _ _ _ hl, e, List.append_assoc]
theorem Cm (wide big : Bool) (l : List SymM) (i : Nat) (hi : i ≤ l.length) : (dN wide big l i).length = (i + 1) * gW wide := by
 unfold dN
 rw [List.length_append, List.length_replicate, lX (kG wide big l) (gW wide) _ _ fun j a _ => jh .., List.length_take, Nat.min_eq_left hi, Nat.succ_mul, Nat.add_comm]
theorem sS (wide : Bool) : gW wide ≤ 24 := by unfold gW; split <;> omega
theorem Gy (wide : Bool) : 16 ≤ gW wide := by unfold gW; split <;> omega
theorem DF (wide big : Bool) (l : List SymM) (i : Nat) (hn : l.length ≤ 1024) (hi : i ≤ l.length) : (dN wide big l i).length ≤ 24600 := by
 rw [Cm _ _ _ _ hi]
 have : (i + 1) * gW wide ≤ 1025 * 24 := Nat.mul_le_mul (by omega) (sS wide)
 omega
/-- spec.UQ, in either class -/
theorem Gz (wide big : Bool) (x2 x3 x4 x5 x6 x7 x8 : Value) (name info other value size : Nat) (sec : Int) (nm : ByteArray) (h1 : name ≤ 4294967295) (h2 : info < 256) (h3 : other < 256) (h4 : 0 ≤ sec) (h5 : sec < 65535) (w : World) :
  Calls Tryd.prog 82 #[.agg #[.bool wide, .bool big, x2, x3, x4, x5, x6, x7, x8], .int .i64 name, .agg #[.string nm, .int .u8 info, .int .u8 other, .int .i64 sec, .int .u64 value, .int .u64 size]] w
   fun e w' => ∃ g cap cur, e = .returned (aC g (jQ wide big name info other sec.toNat value size).length cap) ∧ Below w.heap.size w w' ∧ Own w.heap.size w' 5 1 g (jQ wide big name info other sec.toNat value size).length cap cur ((jQ wide big name info other sec.toNat value size).map Bv) := by
 obtain ⟨s, rfl⟩ := Int.eq_ofNat_of_zero_le h4
 rw [Int.toNat_natCast]
 have hp : 0 < (jQ wide big name info other s value size).length := by rw [GI]; have := Gy wide; omega
 cases wide with
 | true =>
  refine (I_ big x2 x3 x4 x5 x6 x7 x8 name info other s value size nm h1 h2 h3 (by omega) w).mono ?_
  rintro e w' ⟨v, rfl, ho, hb⟩
  obtain ⟨g, cap, cur, rfl, h⟩ := Fa ho hp
  exact ⟨g, cap, cur, rfl, hb, h⟩
 | false =>
  refine (Ja big x2 x3 x4 x5 x6 x7 x8 name info other s value size nm h1 h2 h3 (by omega) w).mono ?_
  rintro e w' ⟨v, rfl, ho, hb⟩
  obtain ⟨g, cap, cur, rfl, h⟩ := Fa ho hp
  exact ⟨g, cap, cur, rfl, hb, h⟩
theorem J6 (l : List SymM) : ((l.take l.length).map (fun m => nT m.name)) = (dF l).map nT := by
 rw [List.take_length]; unfold dF; rw [List.map_map]; rfl
theorem DI {l : List SymM} {i : Nat} (hi : i < l.length) (hb : (dB (dF l)).length ≤ 1049601) : nameAt (dF l) i ≤ 1049601 := by
 have := Cb (dF l) i (by rw [oL]; exact hi)
 omega

theorem CX (wide : Bool) (w0 : World) : Calls Tryd.prog 60 #[.bool wide] w0 fun e w' => e = .returned (ay (gW wide)) ∧ Below w0.heap.size w0 w' := by
 cases wide with
 | true =>
  obtain ⟨w, hw⟩ : ∃ w, w0 = w := ⟨_, rfl⟩
  have HM : Mm [] w0 w [] := hw ▸ Mm.start w0
  conv => arg 4; rw [hw]
  clear hw
  refine bI Tryd.func60 rfl Tryd.ntmps60 [(0, .bool true)] (by kernel_rfl) (Nat.le_of_ble_eq_true rfl) ?_
  intro a HF
  refine aN ?_
  obtain ⟨z1, hz1⟩ : ∃ z, w.heap.size = z := ⟨_, rfl⟩
  refine wp_pure HF HM hz1 1 [] [(0, .bool true)] (by kernel_rfl) fun a HF => ?_
  clear hz1
  refine aB ?_
  refine wp_seq ?_
  refine aN ?_
  obtain ⟨z2, hz2⟩ : ∃ z, w.heap.size = z := ⟨_, rfl⟩
  refine wp_pure HF HM hz2 1 [] [(3, .bool true)] (by kernel_rfl) fun a HF => ?_
  clear hz2
  refine aB ?_
  refine bC HF rfl ?_
  refine aN ?_
  obtain ⟨z3, hz3⟩ : ∃ z, w.heap.size = z := ⟨_, rfl⟩
  refine wp_pure HF HM hz3 1 [] [(2, .int .i64 24)] (by kernel_rfl) fun a HF => ?_
  clear hz3
  refine aB ?_
  refine wp_ret ?_
  repeat first | refine bH ?_ | refine bM ?_
  exact dn HF rfl rfl ⟨rfl, HM.below⟩
 | false =>
  obtain ⟨w, hw⟩ : ∃ w, w0 = w := ⟨_, rfl⟩
  have HM : Mm [] w0 w [] := hw ▸ Mm.start w0
  conv => arg 4; rw [hw]
  clear hw
  refine bI Tryd.func60 rfl Tryd.ntmps60 [(0, .bool false)] (by kernel_rfl) (Nat.le_of_ble_eq_true rfl) ?_
  intro a HF
  refine aN ?_
  refine wp_pure HF HM rfl 1 [] [(0, .bool false)] (by kernel_rfl) fun a HF => ?_
  refine aB ?_
  refine wp_seq ?_
  refine aN ?_
  refine wp_pure HF HM rfl 1 [] [(3, .bool false)] (by kernel_rfl) fun a HF => ?_
  refine aB ?_
  refine aZ HF rfl ?_
  refine wp_skip ?_
  repeat first | refine aK ?_ | refine aS ?_
  refine aN ?_
  refine wp_pure HF HM rfl 1 [] [(2, .int .i64 16)] (by kernel_rfl) fun a HF => ?_
  refine aB ?_
  refine wp_ret ?_
  repeat first | refine bH ?_ | refine bM ?_
  exact dn HF rfl rfl ⟨rfl, HM.below⟩

abbrev eG := fun z1 (x : bZ) => ((z1, .cells #[.bool x.wide, .bool x.big, aT x.abi, aT x.aH, .int .i64 x.ty, .int .i64 x.machine, aI x.entry, .slice x.A x.ss.length x.c, .slice x.B x.ps.length x.d] 26 (0, 0)) : Nat × Obj)
abbrev yU := fun (A : Option Addr) (l : List SymM) (c : Nat) z1 og i oc => ([(1, .slice A l.length c), (2, aA z1), (6, aC og i oc), (15, .slice A l.length c), (16, ay l.length), (17, ay i)] : Slots)
abbrev qV := fun (A : Option Addr) (l : List SymM) (c : Nat) z1 g2 i cap2 => ([(1, .slice A l.length c), (2, aA z1), (6, aC g2 (i + 1) cap2), (15, .slice A l.length c), (16, ay l.length)] : Slots)
abbrev oZ := fun (A : Option Addr) (l : List SymM) (c : Nat) z1 gu lq gp eY => ([(1, .slice A l.length c), (2, aA z1), (9, aC gu ((dB (dF l)).length) lq), (10, aC gp ((dF l).length) eY)] : Slots)
abbrev dX := fun z1 gu (l : List SymM) lq gp eY z13 (A : Option Addr) (c : Nat) => ([(2, aA z1), (9, aC gu ((dB (dF l)).length) lq), (10, aC gp ((dF l).length) eY), (11, aA z13), (45, .slice A l.length c), (46, ay l.length)] : Slots)
abbrev nX := fun z13 (x : bZ) rg (l : List SymM) i rc => ((z13, .cells #[.bool x.wide, .bool x.big, aC rg ((dN x.wide x.big l i).length) rc] 169 (0, 0)) : Nat × Obj)
abbrev yT := fun z1 gu (l : List SymM) lq gp eY z13 => ([(2, aA z1), (9, aC gu ((dB (dF l)).length) lq), (10, aC gp ((dF l).length) eY), (11, aA z13)] : Slots)
abbrev EP := fun z1 gu (l : List SymM) lq gp eY z13 uM (A : Option Addr) (c : Nat) i (x : bZ) => ((yT z1 gu l lq gp eY z13) ++ [(13, aA uM), (45, .slice A l.length c), (46, ay l.length), (47, ay i), (52, aA z13), (55, .pointer (some ⟨z13, 2, none⟩)), (57, .agg #[.bool x.wide, .bool x.big, aT x.abi, aT x.aH, .int .i64 x.ty, .int .i64 x.machine, aI x.entry, .slice x.A x.ss.length x.c, .slice x.B x.ps.length x.d])] : Slots)
abbrev yV := fun (x : bZ) => ((57, .agg #[.bool x.wide, .bool x.big, aT x.abi, aT x.aH, .int .i64 x.ty, .int .i64 x.machine, aI x.entry, .slice x.A x.ss.length x.c, .slice x.B x.ps.length x.d]) : Nat × Value)
theorem Ia (x : bZ) (l : List SymM) (A : Option Addr) (c : Nat) (w0 : World) (h : x.At w0) (hr : Row w0 A (l.flatMap SymM.cells)) (hat : ∀ m ∈ l, SymM.At m) (hn : l.length ≤ 1024) (hok : ∀ m ∈ l, SymM.Ok x.wide m) :
  Calls Tryd.prog 59 #[x.val, .slice A l.length c] w0 fun e w' => ∃ g cap cur g2 cap2 jY, e = .returned (.tuple #[aC g (dN x.wide x.big l l.length).length cap, aC g2 (dB (dF l)).length cap2]) ∧ Below w0.heap.size w0 w' ∧ Own w0.heap.size w' 5 1 g (dN x.wide x.big l l.length).length cap cur ((dN x.wide x.big l l.length).map Bv) ∧ Own w0.heap.size w' 5 1 g2 (dB (dF l)).length cap2 jY ((dB (dF l)).map Bv) ∧ g ≠ g2 := by
 have hnl := oL l
 have hnb := rP l x.wide hn hok
 have hsz := sS x.wide
 have hsp := Gy x.wide
 obtain ⟨w, hw⟩ : ∃ w, w0 = w := ⟨_, rfl⟩
 have HM : Mm [] w0 w [] := hw ▸ Mm.start w0
 conv => arg 4; rw [hw]
 clear hw
 refine bI Tryd.func59 rfl Tryd.ntmps59 [(0, .agg #[.bool x.wide, .bool x.big, aT x.abi, aT x.aH, .int .i64 x.ty, .int .i64 x.machine, aI x.entry, .slice x.A x.ss.length x.c, .slice x.B x.ps.length x.d]), (1, .slice A l.length c)] (by kernel_rfl) (Nat.le_of_ble_eq_true rfl) ?_
 intro a HF
 refine aN ?_
 obtain ⟨z1, hz1⟩ : ∃ z, w.heap.size = z := ⟨_, rfl⟩
 refine aP HF HM hz1 3 [] [(1, .slice A l.length c), (2, aA z1)] [eG z1 x] (by kernel_rfl) fun a w HF HM => ?_
 clear hz1
 refine bT ?_
 obtain ⟨z2, hz2⟩ : ∃ z, w.heap.size = z := ⟨_, rfl⟩
 refine aP HF HM hz2 2 [] [(1, .slice A l.length c), (2, aA z1), (6, aC z2 0 0)] [(z2, .cells #[] 9 (0, 0)), eG z1 x] (by kernel_rfl) fun a w HF HM => ?_
 clear hz2
 refine aB ?_
 refine wp_seq ?_
 refine aN ?_
 refine wp_pure HF HM rfl 3 [] [(1, .slice A l.length c), (2, aA z1), (6, aC z2 0 0), (15, .slice A l.length c), (16, ay l.length), (17, aF 0)] (by kernel_rfl) fun a HF => ?_
 refine aB ?_
 refine wp_block ?_
 refine jX (l.length) (fun i a w => (∃ og : Nat, ∃ oc : Nat, ∃ ok : Array Value, (ok.toList.take (i * 1) = (l.take i).map (fun m => nT m.name)) ∧ (ok.size = oc * 1) ∧ (i ≤ oc) ∧ (oc ≤ maxLen) ∧ Mm [] w0 w [(og, .cells ok 9 (0, 0)), eG z1 x] ∧ Fr 73 a (yU A l c z1 og i oc))) ?_ ?_ ?_
 ·exact ⟨z2, 0, #[], rfl, rfl, Nat.le_refl _, by unfold maxLen; omega, HM, HF.sub [(1, .slice A l.length c), (2, aA z1), (6, aC z2 0 0), (15, .slice A l.length c), (16, ay l.length), (17, aF 0)] (by kernel_rfl)⟩
 ·intro i a w KX hi hI KR
  obtain ⟨og, oc, ok, jV, oQ, lu, pV, HM, HF⟩ := hI
  refine aN ?_
  refine wp_pure HF HM rfl 1 [] ((yU A l c z1 og i oc) ++ [(18, .bool (decide (((i : Nat) : Int) < ((l.length : Nat) : Int))))]) (by kernel_rfl) fun a HF => ?_
  refine aB ?_
  refine wp_seq ?_
  rw [show decide (((i : Nat) : Int) < ((l.length : Nat) : Int)) = true from dV (by omega)] at HF
  refine bC HF rfl ?_
  refine wp_skip ?_
  repeat first | refine aK ?_ | refine aS ?_
  refine wp_seq ?_
  refine wp_block ?_
  refine aN ?_
  obtain ⟨m1, hm1⟩ : ∃ m, l[i]? = some m := ⟨_, List.getElem?_eq_getElem (by omega)⟩
  have Rj := List.mem_of_getElem? hm1; have hmo_m1 := hok m1 Rj; have hma_m1 := hat m1 Rj
  refine bU HF (by kernel_rfl) (.pointer (Option.map (fun q : Addr => q.add (i * 6)) A)) (by kernel_rfl) (dS Tryd.underlying27 (by kernel_rfl) rfl i rfl rfl (by omega) (gQ (fH (f := SymM.cells) (k := 6) (fun _ => rfl) (HM.row hr) i hm1) (Nat.zero_lt_succ _))) fun a HF => ?_
  refine bU HF (by kernel_rfl) (.agg #[.string (⟨m1.name.toArray⟩), aT m1.info, aT m1.other, .int .i64 m1.dH, aI m1.value, aI m1.size]) (by kernel_rfl) (iC rfl rfl (fH (f := SymM.cells) (k := 6) (fun _ => rfl) (HM.row hr) i hm1) (Nat.zero_lt_succ _) Tryd.underlying40 rfl (by kernel_rfl)) fun a HF => ?_
  obtain ⟨z5, uj⟩ : ∃ z, w.heap.size = z := ⟨_, rfl⟩
  refine aP HF HM uj 2 [[2]] [(1, .slice A l.length c), (2, aA z1), (6, aC og i oc), (8, aA z5), (15, .slice A l.length c), (16, ay l.length), (17, ay i)] [(z5, .cells #[.string (⟨m1.name.toArray⟩), aT m1.info, aT m1.other, .int .i64 m1.dH, aI m1.value, aI m1.size] 40 (0, 0)), (og, .cells ok 9 (0, 0)), eG z1 x] (by kernel_rfl) fun a w HF HM => ?_
  clear uj
  refine aB ?_
  refine wp_region_lit ?_
  obtain ⟨z6, wO⟩ : ∃ z, w.heap.size = z := ⟨_, rfl⟩
  refine aP HF HM wO 4 [[2]] [(1, .slice A l.length c), (2, aA z1), (15, .slice A l.length c), (16, ay l.length), (17, ay i), (21, aC og i oc), (24, aC z6 1 1)] [(z6, .cells #[.string (⟨m1.name.toArray⟩)] 9 (0, 0)), (z5, .cells #[.string (⟨m1.name.toArray⟩), aT m1.info, aT m1.other, .int .i64 m1.dH, aI m1.value, aI m1.size] 40 (0, 0)), (og, .cells ok 9 (0, 0)), eG z1 x] (by kernel_rfl) fun a w HF HM => ?_
  clear wO
  refine fU HF HM rfl _ _ 38 38 rfl rfl 9 (z := .string (⟨#[]⟩ : ByteArray)) (size := 1) (bytes := 16) Tryd.underlying38 (by kernel_rfl) rfl (by decide) 2 og i oc ok rfl rfl lu pV oQ ((l.take i).map (fun m => nT m.name)) jV (aC z6 1 1) 1 [.string (⟨m1.name.toArray⟩)] rfl (lF Tryd.underlying38 rfl (by decide) (HM.rowAt (i := 0) rfl) (lM rfl)) (by unfold maxLen; omega) (by omega) ?_
  intro a w1 g2 cap2 jY bJ tY hsz2 uU hcm2 HF2; clear HF HM
  replace tY : jY.toList.take ((i + 1) * 1) = (l.take (i + 1)).map (fun m => nT m.name) := tY.trans (by rw [oW hm1, List.map_append]; rfl)
  have HM : Mm [] w0 w1 [(z6, .cells #[.string (⟨m1.name.toArray⟩)] 9 (0, 0)), (z5, .cells #[.string (⟨m1.name.toArray⟩), aT m1.info, aT m1.other, .int .i64 m1.dH, aI m1.value, aI m1.size] 40 (0, 0)), (g2, .cells jY 9 (0, 0)), eG z1 x] := bJ
  have HF := HF2.sub [(1, .slice A l.length c), (2, aA z1), (15, .slice A l.length c), (16, ay l.length), (17, ay i), (25, aC g2 (i + 1) cap2)] (by kernel_rfl); clear bJ HF2
  refine wp_pure HF HM rfl 1 [] ((qV A l c z1 g2 i cap2) ++ [(17, ay i)]) (by kernel_rfl) fun a HF => ?_
  refine wpList_nil ?_
  repeat first | refine aK ?_ | refine aS ?_
  refine wp_region_lit ?_
  refine wp_pure HF HM rfl 1 [] ((qV A l c z1 g2 i cap2) ++ [(26, aF (IntKind.i64.wrap (((i : Nat) : Int) + 1)))]) (by kernel_rfl) fun a HF => ?_
  rw [show IntKind.i64.wrap (((i : Nat) : Int) + 1) = (((i + 1) : Nat) : Int) from (IntWalk.i64_in _ (by omega)).trans (by omega)] at HF
  refine wp_pure HF HM rfl 1 [] ((qV A l c z1 g2 i cap2) ++ [(17, ay (i + 1))]) (by kernel_rfl) fun a HF => ?_
  refine wpList_nil ?_
  repeat first | refine aK ?_ | refine aS ?_
  exact KR _ _ (⟨g2, cap2, jY, tY, hsz2, uU, hcm2, (HM.pick [2, 3] [(g2, .cells jY 9 (0, 0)), eG z1 x] rfl (by decide)), HF.sub ((qV A l c z1 g2 i cap2) ++ [(17, ay (i + 1))]) (by kernel_rfl)⟩)
 ·intro a w KX hI
  obtain ⟨og, oc, ok, jV, oQ, lu, pV, HM, HF⟩ := hI
  refine aN ?_
  refine wp_pure HF HM rfl 1 [] [(1, .slice A l.length c), (2, aA z1), (6, aC og l.length oc), (15, .slice A l.length c), (16, ay l.length), (17, ay l.length), (18, .bool (decide (((l.length : Nat) : Int) < ((l.length : Nat) : Int))))] (by kernel_rfl) fun a HF => ?_
  refine aB ?_
  refine wp_seq ?_
  rw [show decide (((l.length : Nat) : Int) < ((l.length : Nat) : Int)) = false from dI (by omega)] at HF
  refine aZ HF rfl ?_
  refine wp_exit ?_
  repeat (first | refine fG ?_ | refine fA rfl ?_)
  refine iD ?_
  repeat first | refine aK ?_ | refine aS ?_
  refine aN ?_
  refine wp_pure HF HM rfl 1 [] [(1, .slice A l.length c), (2, aA z1), (28, aC og l.length oc)] (by kernel_rfl) fun a HF => ?_
  refine bf HF (by kernel_rfl) 65 #[aC og l.length oc] (by kernel_rfl) (fun w => by kernel_rfl) (Calls.mono (Fz (dF l) _ _ _ hnl.symm w (HM.nH (i := 0) rfl (jV.trans (J6 l))) (by omega) (by omega)) ?_)
  rintro _ w2 ⟨gu, lq, uZ, gp, eY, uF, rfl, hb, hou, hop, hnu⟩
  replace HM : Mm [] w0 w2 [(gp, .cells uF 3 (0, 0)), (gu, .cells uZ 5 (0, 0)), (og, .cells ok 9 (0, 0)), eG z1 x] := HM.PD hb hou.new hou.obj hop.new hop.obj (dK hop.obj hou.obj (by decide))
  clear hb
  refine ⟨_, rfl, ?_⟩; clear HF; intro a HF
  refine wp_pure HF HM rfl 5 [] (oZ A l c z1 gu lq gp eY) (by kernel_rfl) fun a HF => ?_
  refine bT ?_
  obtain ⟨z13, FD⟩ : ∃ z, w2.heap.size = z := ⟨_, rfl⟩
  refine aP HF HM FD 7 [[0], [0]] ((oZ A l c z1 gu lq gp eY) ++ [(11, aA z13)]) [(z13, .cells #[.bool x.wide, .bool x.big, aQ] 169 (0, 0)), (gp, .cells uF 3 (0, 0)), (gu, .cells uZ 5 (0, 0)), (og, .cells ok 9 (0, 0)), eG z1 x] (by kernel_rfl) fun a w HF HM => ?_
  clear FD
  refine bT ?_
  refine wp_pure HF HM rfl 3 [[0]] ((oZ A l c z1 gu lq gp eY) ++ [(11, aA z13), (38, aA z13), (40, .bool x.wide)]) (by kernel_rfl) fun a HF => ?_
  refine bf HF (by kernel_rfl) 60 #[.bool x.wide] (by kernel_rfl) (fun w => by kernel_rfl) (Calls.mono (CX x.wide w) ?_)
  rintro _ w3 ⟨rfl, hb⟩
  replace HM := HM.call hb
  clear hb
  refine ⟨_, rfl, ?_⟩; clear HF; intro a HF
  refine AA HF HM rfl _ _ 33 rfl rfl 5 (aO 0) 1 1 Tryd.underlying33 Sm rfl .i64 .i64 (gW x.wide) rfl rfl (by omega) (by unfold maxLen; omega) ?_
  intro a2 w4 tg tk tkk tsz bJ HF2; clear HF HM; have HM := bJ; have HF := HF2; clear bJ HF2
  replace tkk := tkk.trans ((NH _).trans (by rw [ES] : _ = (dN x.wide x.big l 0).map Bv))
  have tnc : gW x.wide ≤ gW x.wide := Nat.le_refl _; have tcm : gW x.wide ≤ maxLen := by unfold maxLen; omega
  replace HF := HF.sub ((oZ A l c z1 gu lq gp eY) ++ [(11, aA z13), (38, aA z13), (42, aC tg (gW x.wide) (gW x.wide))]) (by kernel_rfl)
  have hz0 := G7 x.wide x.big l
  rw [show aC tg (gW x.wide) (gW x.wide) = Value.slice (some ⟨tg, 0, none⟩) (dN x.wide x.big l 0).length (gW x.wide) from congrArg (fun q => Value.slice (some ⟨tg, 0, none⟩) q (gW x.wide)) hz0] at HF
  replace tkk : tk.toList.take ((dN x.wide x.big l 0).length * 1) = (dN x.wide x.big l 0).map Bv := by rw [← hz0]; exact tkk
  replace tnc : (dN x.wide x.big l 0).length ≤ gW x.wide := by rw [← hz0]; exact tnc
  refine aP HF HM rfl 3 [[4]] ((oZ A l c z1 gu lq gp eY) ++ [(11, aA z13)]) [(tg, .cells tk 5 (0, 0)), (z13, .cells #[.bool x.wide, .bool x.big, aC tg ((dN x.wide x.big l 0).length) (gW x.wide)] 169 (0, 0)), (gp, .cells uF 3 (0, 0)), (gu, .cells uZ 5 (0, 0)), (og, .cells ok 9 (0, 0)), eG z1 x] (by kernel_rfl) fun a w HF HM => ?_
  refine aB ?_
  refine wp_seq ?_
  refine aN ?_
  refine wp_pure HF HM rfl 3 [] ((dX z1 gu l lq gp eY z13 A c) ++ [(47, aF 0)]) (by kernel_rfl) fun a HF => ?_
  refine aB ?_
  refine wp_block ?_
  replace HM := HM.pick [0, 1, 2, 3, 5] [(tg, .cells tk 5 (0, 0)), (z13, .cells #[.bool x.wide, .bool x.big, aC tg ((dN x.wide x.big l 0).length) (gW x.wide)] 169 (0, 0)), (gp, .cells uF 3 (0, 0)), (gu, .cells uZ 5 (0, 0)), eG z1 x] rfl (by decide)
  refine jX (l.length) (fun i a w => (∃ rg : Nat, ∃ rc : Nat, ∃ rk : Array Value, (rk.toList.take (((dN x.wide x.big l i).length) * 1) = (dN x.wide x.big l i).map Bv) ∧ (rk.size = rc * 1) ∧ (((dN x.wide x.big l i).length) ≤ rc) ∧ (rc ≤ maxLen) ∧ Mm [] w0 w [(rg, .cells rk 5 (0, 0)), nX z13 x rg l i rc, (gp, .cells uF 3 (0, 0)), (gu, .cells uZ 5 (0, 0)), eG z1 x] ∧ Fr 73 a ((dX z1 gu l lq gp eY z13 A c) ++ [(47, ay i)]))) ?_ ?_ ?_
  ·exact ⟨tg, (gW x.wide), tk, tkk, tsz, tnc, tcm, HM, HF.sub ((dX z1 gu l lq gp eY z13 A c) ++ [(47, aF 0)]) (by kernel_rfl)⟩
  ·intro i a w KX hi hI KR
   obtain ⟨rg, rc, rk, Oq, Ot, Ou, Ox, HM, HF⟩ := hI
   have hoz := DF x.wide x.big l i hn (by omega); have hoz2 := DF x.wide x.big l (i + 1) hn (by omega); have PX := DI (l := l) (i := i) (by omega) hnb
   refine aN ?_
   refine wp_pure HF HM rfl 1 [] ((dX z1 gu l lq gp eY z13 A c) ++ [(47, ay i), (48, .bool (decide (((i : Nat) : Int) < ((l.length : Nat) : Int))))]) (by kernel_rfl) fun a HF => ?_
   refine aB ?_
   refine wp_seq ?_
   rw [show decide (((i : Nat) : Int) < ((l.length : Nat) : Int)) = true from dV (by omega)] at HF
   refine bC HF rfl ?_
   refine wp_skip ?_
   repeat first | refine aK ?_ | refine aS ?_
   refine wp_seq ?_
   refine wp_block ?_
   refine aN ?_
   refine wp_pure HF HM rfl 1 [] ((dX z1 gu l lq gp eY z13 A c) ++ [(47, ay i), (49, ay i)]) (by kernel_rfl) fun a HF => ?_
   obtain ⟨m3, zk⟩ : ∃ m, l[i]? = some m := ⟨_, List.getElem?_eq_getElem (by omega)⟩
   have Ri := List.mem_of_getElem? zk; have IK := hok m3 Ri; have IL := hat m3 Ri
   refine bU HF (by kernel_rfl) (.pointer (Option.map (fun q : Addr => q.add (i * 6)) A)) (by kernel_rfl) (dS Tryd.underlying27 (by kernel_rfl) rfl i rfl rfl (by omega) (gQ (fH (f := SymM.cells) (k := 6) (fun _ => rfl) (HM.row hr) i zk) (Nat.zero_lt_succ _))) fun a HF => ?_
   refine bU HF (by kernel_rfl) (.agg #[.string (⟨m3.name.toArray⟩), aT m3.info, aT m3.other, .int .i64 m3.dH, aI m3.value, aI m3.size]) (by kernel_rfl) (iC rfl rfl (fH (f := SymM.cells) (k := 6) (fun _ => rfl) (HM.row hr) i zk) (Nat.zero_lt_succ _) Tryd.underlying40 rfl (by kernel_rfl)) fun a HF => ?_
   obtain ⟨uM, MG⟩ : ∃ z, w.heap.size = z := ⟨_, rfl⟩
   refine aP HF HM MG 3 [[5]] ((yT z1 gu l lq gp eY z13) ++ [(12, ay i), (13, aA uM), (45, .slice A l.length c), (46, ay l.length), (47, ay i)]) [(uM, .cells #[.string (⟨m3.name.toArray⟩), aT m3.info, aT m3.other, .int .i64 m3.dH, aI m3.value, aI m3.size] 40 (0, 0)), (rg, .cells rk 5 (0, 0)), nX z13 x rg l i rc, (gp, .cells uF 3 (0, 0)), (gu, .cells uZ 5 (0, 0)), eG z1 x] (by kernel_rfl) fun a w HF HM => ?_
   clear MG
   refine aB ?_
   refine RS HM (by kernel_rfl) [(uM, .cells #[.string (⟨m3.name.toArray⟩), aT m3.info, aT m3.other, .int .i64 m3.dH, aI m3.value, aI m3.size] 40 (0, 0)), (gp, .cells uF 3 (0, 0)), (gu, .cells uZ 5 (0, 0)), eG z1 x] [0, 1, 2, 3, 5, 6, 7, 8, 9, 10] [(0, false), (1, false), (2, false), (3, false), (5, false), (6, false), (7, false), (8, false), (9, false), (10, false)] 4 11 [(11, true), (12, true), (13, false), (14, false), (15, true)] [(4, true), (12, true), (13, false), (14, false), (15, true)] rfl (by kernel_rfl) fun w5 HM => ?_
   refine bK HF (HM.told [0, 3, 4, 5] rfl) 7 [[0]] ((EP z1 gu l lq gp eY z13 uM A c i x) ++ [(58, aC gp ((dF l).length) eY), (59, ay i)]) (by kernel_rfl) fun a HF => ?_
   refine eu rfl HF (HM.told [0, 3, 4, 5] rfl) rfl (.pointer (Option.map (fun q : Addr => q.add (i * 1)) (some ⟨gp, 0, none⟩))) (by kernel_rfl) (fun w hw => dS Tryd.underlying66 (by kernel_rfl) rfl i rfl rfl (by omega) (Option.some_ne_none _)) fun a HF => ?_
   refine eu rfl HF (HM.told [0, 3, 4, 5] rfl) rfl (ay (nameAt (dF l) i)) (by kernel_rfl) (fun w hw => mX rfl rfl (qB (Told.nH hw (i := 1) rfl hop.tk) i (List.getElem?_range (by omega))) (by kernel_rfl)) fun a HF => ?_
   refine bK HF (HM.told [0, 3, 4, 5] rfl) 1 [[3]] ((dX z1 gu l lq gp eY z13 A c) ++ [(47, ay i), (52, aA z13), (55, .pointer (some ⟨z13, 2, none⟩)), yV x, (61, ay (nameAt (dF l) i)), (62, .agg #[.string (⟨m3.name.toArray⟩), aT m3.info, aT m3.other, .int .i64 m3.dH, aI m3.value, aI m3.size])]) (by kernel_rfl) fun a HF => ?_
   refine QA ?_ ?_
   ·refine bQ rfl ?_
    refine wp_pure HF HM rfl 1 [[3]] ((dX z1 gu l lq gp eY z13 A c) ++ [(47, ay i), (52, aA z13), (56, aC rg ((dN x.wide x.big l i).length) rc), yV x, (61, ay (nameAt (dF l) i)), (62, .agg #[.string (⟨m3.name.toArray⟩), aT m3.info, aT m3.other, .int .i64 m3.dH, aI m3.value, aI m3.size])]) (by kernel_rfl) fun a HF => ?_
    refine dD (HM.told [0, 3, 4, 5] rfl) ?_
    refine bQ rfl ?_
    refine bf HF (by kernel_rfl) 82 #[.agg #[.bool x.wide, .bool x.big, aT x.abi, aT x.aH, .int .i64 x.ty, .int .i64 x.machine, aI x.entry, .slice x.A x.ss.length x.c, .slice x.B x.ps.length x.d], ay (nameAt (dF l) i), .agg #[.string (⟨m3.name.toArray⟩), aT m3.info, aT m3.other, .int .i64 m3.dH, aI m3.value, aI m3.size]] (by kernel_rfl) (fun w => by kernel_rfl) (Calls.mono (Gz x.wide x.big _ _ _ _ _ _ _ (nameAt (dF l) i) m3.info m3.other m3.value m3.size m3.dH ⟨m3.name.toArray⟩ (by omega) IL.info IL.other IK.s0 IK.s1 w5) ?_)
    rintro _ w6 ⟨gr, zy, curr, rfl, hb, hor⟩
    replace HM : Mm [] w0 w6 [(gr, .cells curr 5 (0, 0)), (uM, .cells #[.string (⟨m3.name.toArray⟩), aT m3.info, aT m3.other, .int .i64 m3.dH, aI m3.value, aI m3.size] 40 (0, 0)), (rg, .cells rk 5 (0, 0)), nX z13 x rg l i rc, (gp, .cells uF 3 (0, 0)), (gu, .cells uZ 5 (0, 0)), eG z1 x] := HM.push hb hor.new hor.obj
    have hrl : (kG x.wide x.big l i m3).length ≤ 24 := by rw [show (kG x.wide x.big l i m3).length = gW x.wide from jh ..]; exact sS _
    refine ⟨_, rfl, ?_⟩; clear HF; intro a HF
    replace HF := HF.sub ((dX z1 gu l lq gp eY z13 A c) ++ [(47, ay i), (52, aA z13), (56, aC rg ((dN x.wide x.big l i).length) rc), (63, aC gr ((kG x.wide x.big l i m3).length) zy)]) (by kernel_rfl)
    refine dD (HM.told [1, 4, 5, 6] rfl) ?_
    refine bQ rfl ?_
    refine fU HF HM rfl _ _ 33 33 rfl rfl 5 (z := aO 0) (size := 1) (bytes := 1) Tryd.underlying33 (by kernel_rfl) rfl (by decide) 2 rg ((dN x.wide x.big l i).length) rc rk rfl rfl Ou Ox Ot ((dN x.wide x.big l i).map Bv) Oq (aC gr ((kG x.wide x.big l i m3).length) zy) ((kG x.wide x.big l i m3).length) ((kG x.wide x.big l i m3).map Bv) rfl (lF Tryd.underlying33 (Dh hor.tk hor.sz hor.nc) (by decide) (HM.nH (i := 0) rfl hor.tk) (rM _)) (by unfold maxLen; omega) (by omega) ?_
    intro a w7 g4 cap4 lg bJ pX Bf uD CQ HF2; clear HF HM
    replace pX : lg.toList.take ((((dN x.wide x.big l i).length) + ((kG x.wide x.big l i m3).length)) * 1) = (dN x.wide x.big l (i + 1)).map Bv := pX.trans (by rw [wR zk, List.map_append])
    have HM : Mm [] w0 w7 [(gr, .cells curr 5 (0, 0)), (uM, .cells #[.string (⟨m3.name.toArray⟩), aT m3.info, aT m3.other, .int .i64 m3.dH, aI m3.value, aI m3.size] 40 (0, 0)), (g4, .cells lg 5 (0, 0)), nX z13 x rg l i rc, (gp, .cells uF 3 (0, 0)), (gu, .cells uZ 5 (0, 0)), eG z1 x] := bJ
    have HF := HF2.sub ((dX z1 gu l lq gp eY z13 A c) ++ [(47, ay i), (52, aA z13), (64, aC g4 (((dN x.wide x.big l i).length) + ((kG x.wide x.big l i m3).length)) cap4)]) (by kernel_rfl); clear bJ HF2
    refine dD (HM.told [1, 4, 5, 6] rfl) ?_
    rw [show (((dN x.wide x.big l i).length) + ((kG x.wide x.big l i m3).length)) = ((dN x.wide x.big l (i + 1)).length) from by rw [wR zk, List.length_append]] at HF pX uD
    refine bK HF (HM.told [1, 4, 5, 6] rfl) 2 [] ((dX z1 gu l lq gp eY z13 A c) ++ [(47, ay i), (64, aC g4 ((dN x.wide x.big l (i + 1)).length) cap4), (66, .pointer (some ⟨z13, 2, none⟩))]) (by kernel_rfl) fun a HF => ?_
    refine bQ rfl ?_
    refine aP HF HM rfl 1 [[3]] ((dX z1 gu l lq gp eY z13 A c) ++ [(47, ay i)]) [(gr, .cells curr 5 (0, 0)), (uM, .cells #[.string (⟨m3.name.toArray⟩), aT m3.info, aT m3.other, .int .i64 m3.dH, aI m3.value, aI m3.size] 40 (0, 0)), (g4, .cells lg 5 (0, 0)), (z13, .cells #[.bool x.wide, .bool x.big, aC g4 ((dN x.wide x.big l (i + 1)).length) cap4] 169 (0, 0)), (gp, .cells uF 3 (0, 0)), (gu, .cells uZ 5 (0, 0)), eG z1 x] (by kernel_rfl) fun a w HF HM => ?_
    refine dD (HM.told [1, 4, 5, 6] rfl) ?_
    refine jR ?_
    repeat first | refine aK ?_ | refine aS ?_
    refine wp_region_lit ?_
    refine wp_pure HF HM rfl 1 [] ((dX z1 gu l lq gp eY z13 A c) ++ [(67, aF (IntKind.i64.wrap (((i : Nat) : Int) + 1)))]) (by kernel_rfl) fun a HF => ?_
    rw [show IntKind.i64.wrap (((i : Nat) : Int) + 1) = (((i + 1) : Nat) : Int) from (IntWalk.i64_in _ (by omega)).trans (by omega)] at HF
    refine wp_pure HF HM rfl 1 [] ((dX z1 gu l lq gp eY z13 A c) ++ [(47, ay (i + 1))]) (by kernel_rfl) fun a HF => ?_
    refine wpList_nil ?_
    repeat first | refine aK ?_ | refine aS ?_
    exact KR _ _ (⟨g4, cap4, lg, pX, Bf, uD, CQ, (HM.pick [2, 3, 4, 5, 6] [(g4, .cells lg 5 (0, 0)), (z13, .cells #[.bool x.wide, .bool x.big, aC g4 ((dN x.wide x.big l (i + 1)).length) cap4] 169 (0, 0)), (gp, .cells uF 3 (0, 0)), (gu, .cells uZ 5 (0, 0)), eG z1 x] rfl (by decide)), HF.sub ((dX z1 gu l lq gp eY z13 A c) ++ [(47, ay (i + 1))]) (by kernel_rfl)⟩)
   refine bQ rfl ?_
   refine bf HF (by kernel_rfl) 82 #[.agg #[.bool x.wide, .bool x.big, aT x.abi, aT x.aH, .int .i64 x.ty, .int .i64 x.machine, aI x.entry, .slice x.A x.ss.length x.c, .slice x.B x.ps.length x.d], ay (nameAt (dF l) i), .agg #[.string (⟨m3.name.toArray⟩), aT m3.info, aT m3.other, .int .i64 m3.dH, aI m3.value, aI m3.size]] (by kernel_rfl) (fun w => by kernel_rfl) (Calls.mono (Gz x.wide x.big _ _ _ _ _ _ _ (nameAt (dF l) i) m3.info m3.other m3.value m3.size m3.dH ⟨m3.name.toArray⟩ (by omega) IL.info IL.other IK.s0 IK.s1 w5) ?_)
   rintro _ w8 ⟨gr, zy, curr, rfl, hb, hor⟩
   replace HM : Mm [] w0 w8 [(gr, .cells curr 5 (0, 0)), (uM, .cells #[.string (⟨m3.name.toArray⟩), aT m3.info, aT m3.other, .int .i64 m3.dH, aI m3.value, aI m3.size] 40 (0, 0)), (rg, .cells rk 5 (0, 0)), nX z13 x rg l i rc, (gp, .cells uF 3 (0, 0)), (gu, .cells uZ 5 (0, 0)), eG z1 x] := HM.push hb hor.new hor.obj
   have hrl : (kG x.wide x.big l i m3).length ≤ 24 := by rw [show (kG x.wide x.big l i m3).length = gW x.wide from jh ..]; exact sS _
   refine ⟨_, rfl, ?_⟩; clear HF; intro a HF
   replace HF := HF.sub ((dX z1 gu l lq gp eY z13 A c) ++ [(47, ay i), (52, aA z13), (55, .pointer (some ⟨z13, 2, none⟩)), (63, aC gr ((kG x.wide x.big l i m3).length) zy)]) (by kernel_rfl)
   refine dD (HM.told [1, 4, 5, 6] rfl) ?_
   refine bQ rfl ?_
   refine wp_pure HF HM rfl 1 [[3]] ((dX z1 gu l lq gp eY z13 A c) ++ [(47, ay i), (52, aA z13), (56, aC rg ((dN x.wide x.big l i).length) rc), (63, aC gr ((kG x.wide x.big l i m3).length) zy)]) (by kernel_rfl) fun a HF => ?_
   refine dD (HM.told [1, 4, 5, 6] rfl) ?_
   refine bQ rfl ?_
   refine fU HF HM rfl _ _ 33 33 rfl rfl 5 (z := aO 0) (size := 1) (bytes := 1) Tryd.underlying33 (by kernel_rfl) rfl (by decide) 2 rg ((dN x.wide x.big l i).length) rc rk rfl rfl Ou Ox Ot ((dN x.wide x.big l i).map Bv) Oq (aC gr ((kG x.wide x.big l i m3).length) zy) ((kG x.wide x.big l i m3).length) ((kG x.wide x.big l i m3).map Bv) rfl (lF Tryd.underlying33 (Dh hor.tk hor.sz hor.nc) (by decide) (HM.nH (i := 0) rfl hor.tk) (rM _)) (by unfold maxLen; omega) (by omega) ?_
   intro a w9 g5 cap5 nJ bJ xQ hsz5 Ey Jp HF2; clear HF HM
   replace xQ : nJ.toList.take ((((dN x.wide x.big l i).length) + ((kG x.wide x.big l i m3).length)) * 1) = (dN x.wide x.big l (i + 1)).map Bv := xQ.trans (by rw [wR zk, List.map_append])
   have HM : Mm [] w0 w9 [(gr, .cells curr 5 (0, 0)), (uM, .cells #[.string (⟨m3.name.toArray⟩), aT m3.info, aT m3.other, .int .i64 m3.dH, aI m3.value, aI m3.size] 40 (0, 0)), (g5, .cells nJ 5 (0, 0)), nX z13 x rg l i rc, (gp, .cells uF 3 (0, 0)), (gu, .cells uZ 5 (0, 0)), eG z1 x] := bJ
   have HF := HF2.sub ((dX z1 gu l lq gp eY z13 A c) ++ [(47, ay i), (52, aA z13), (64, aC g5 (((dN x.wide x.big l i).length) + ((kG x.wide x.big l i m3).length)) cap5)]) (by kernel_rfl); clear bJ HF2
   refine dD (HM.told [1, 4, 5, 6] rfl) ?_
   rw [show (((dN x.wide x.big l i).length) + ((kG x.wide x.big l i m3).length)) = ((dN x.wide x.big l (i + 1)).length) from by rw [wR zk, List.length_append]] at HF xQ Ey
   refine bK HF (HM.told [1, 4, 5, 6] rfl) 2 [] ((dX z1 gu l lq gp eY z13 A c) ++ [(47, ay i), (64, aC g5 ((dN x.wide x.big l (i + 1)).length) cap5), (66, .pointer (some ⟨z13, 2, none⟩))]) (by kernel_rfl) fun a HF => ?_
   refine bQ rfl ?_
   refine aP HF HM rfl 1 [[3]] ((dX z1 gu l lq gp eY z13 A c) ++ [(47, ay i)]) [(gr, .cells curr 5 (0, 0)), (uM, .cells #[.string (⟨m3.name.toArray⟩), aT m3.info, aT m3.other, .int .i64 m3.dH, aI m3.value, aI m3.size] 40 (0, 0)), (g5, .cells nJ 5 (0, 0)), (z13, .cells #[.bool x.wide, .bool x.big, aC g5 ((dN x.wide x.big l (i + 1)).length) cap5] 169 (0, 0)), (gp, .cells uF 3 (0, 0)), (gu, .cells uZ 5 (0, 0)), eG z1 x] (by kernel_rfl) fun a w HF HM => ?_
   refine dD (HM.told [1, 4, 5, 6] rfl) ?_
   refine jR ?_
   repeat first | refine aK ?_ | refine aS ?_
   refine wp_region_lit ?_
   refine wp_pure HF HM rfl 1 [] ((dX z1 gu l lq gp eY z13 A c) ++ [(67, aF (IntKind.i64.wrap (((i : Nat) : Int) + 1)))]) (by kernel_rfl) fun a HF => ?_
   rw [show IntKind.i64.wrap (((i : Nat) : Int) + 1) = (((i + 1) : Nat) : Int) from (IntWalk.i64_in _ (by omega)).trans (by omega)] at HF
   refine wp_pure HF HM rfl 1 [] ((dX z1 gu l lq gp eY z13 A c) ++ [(47, ay (i + 1))]) (by kernel_rfl) fun a HF => ?_
   refine wpList_nil ?_
   repeat first | refine aK ?_ | refine aS ?_
   exact KR _ _ (⟨g5, cap5, nJ, xQ, hsz5, Ey, Jp, (HM.pick [2, 3, 4, 5, 6] [(g5, .cells nJ 5 (0, 0)), (z13, .cells #[.bool x.wide, .bool x.big, aC g5 ((dN x.wide x.big l (i + 1)).length) cap5] 169 (0, 0)), (gp, .cells uF 3 (0, 0)), (gu, .cells uZ 5 (0, 0)), eG z1 x] rfl (by decide)), HF.sub ((dX z1 gu l lq gp eY z13 A c) ++ [(47, ay (i + 1))]) (by kernel_rfl)⟩)
  ·intro a w KX hI
   obtain ⟨rg, rc, rk, Oq, Ot, Ou, Ox, HM, HF⟩ := hI
   refine aN ?_
   refine wp_pure HF HM rfl 1 [] ((dX z1 gu l lq gp eY z13 A c) ++ [(47, ay l.length), (48, .bool (decide (((l.length : Nat) : Int) < ((l.length : Nat) : Int))))]) (by kernel_rfl) fun a HF => ?_
   refine aB ?_
   refine wp_seq ?_
   rw [show decide (((l.length : Nat) : Int) < ((l.length : Nat) : Int)) = false from dI (by omega)] at HF
   refine aZ HF rfl ?_
   refine wp_exit ?_
   repeat (first | refine fG ?_ | refine fA rfl ?_)
   refine iD ?_
   repeat first | refine aK ?_ | refine aS ?_
   refine aN ?_
   refine wp_pure HF HM rfl 7 [[3]] [(4, aC rg ((dN x.wide x.big l l.length).length) rc), (5, aC gu ((dB (dF l)).length) lq)] (by kernel_rfl) fun a HF => ?_
   refine aB ?_
   refine wp_ret ?_
   repeat first | refine bH ?_ | refine bM ?_
   exact jK HF rfl rfl rfl ⟨rg, rc, rk, gu, lq, uZ, rfl, HM.below, ⟨HM.ge (i := 0) rfl, HM.get (i := 0) rfl, Oq, Ot, Ou, Ox⟩, ⟨HM.ge (i := 3) rfl, HM.get (i := 3) rfl, hou.tk, hou.sz, hou.nc, hou.cm⟩, HM.ne (i := 0) (j := 3) rfl rfl (by decide)⟩

end Go.Proofs.YtdgehpocmfjbiaaDoor
namespace Go.Proofs.YtdgehpocmfjbiaaDoor
open Go.RowKit

/-- an image with two more parts ahead of the others -/
def bZ.more (x : bZ) (p q : dL) (g cap : Nat) : bZ := ⟨x.wide, x.big, x.abi, x.aH, x.ty, x.machine, x.entry, x.ss, x.A, x.c, p :: q :: x.ps, some ⟨g, 0, none⟩, cap⟩
theorem bZ.Ue {x : bZ} {w : World} {p q : dL} {g cap : Nat} (h : x.At w) (hp : p.At w) (hq : q.At w) (hr : Row w (some ⟨g, 0, none⟩) ((p :: q :: x.ps).flatMap dL.cells)) (h1 : x.ps.length + 2 ≤ cap) (h2 : cap ≤ maxLen) : (x.more p q g cap).At w where
 dJ := h.dJ
 parts := hr
 seg := h.seg
 part := fun m hm => by
  have hm' : m ∈ p :: q :: x.ps := hm
  rcases List.mem_cons.1 hm' with rfl | hm'
  ·exact hp
  ·rcases List.mem_cons.1 hm' with rfl | hm'
   ·exact hq
   ·exact h.part m hm'
 c1 := h.c1
 c2 := h.c2
 d1 := by show (p :: q :: x.ps).length ≤ cap; simp only [List.length_cons]; omega
 d2 := h2
 abi := h.abi
 aH := h.aH
 entry := h.entry
theorem bZ.Jl {x : bZ} {p q : dL} {g cap : Nat} (ok : x.Ok) (hf : x.ps.length ≤ 100) (hp : dL.Ok x.wide p) (hq : dL.Ok x.wide q) : (x.more p q g cap).Ok where
 K_ := ok.K_
 H_ := ok.H_
 mc0 := ok.mc0
 mc1 := ok.mc1
 fit := ok.fit
 dJ := ok.dJ
 parts := by show (p :: q :: x.ps).length ≤ 102; simp only [List.length_cons]; omega
 seg := ok.seg
 part := fun m hm => by
  have hm' : m ∈ p :: q :: x.ps := hm
  rcases List.mem_cons.1 hm' with rfl | hm'
  ·exact hp
  ·rcases List.mem_cons.1 hm' with rfl | hm'
   ·exact hq
   ·exact ok.part m hm'
/-- the two parts of a table of symbols -/
def rY (x : bZ) (kind : Nat) (l : List SymM) (g cap : Nat) : dL := ⟨[116, 97, 98, 108, 101], kind, 0, 0, 2, 0, 0, gW x.wide, 0, (dN x.wide x.big l l.length), some ⟨g, 0, none⟩, cap⟩
def su (l : List SymM) (g cap : Nat) : dL := ⟨[110, 97, 109, 101, 115], 3, 0, 0, 0, 0, 0, 0, 0, dB (dF l), some ⟨g, 0, none⟩, cap⟩
theorem IW {wide : Bool} {l : List Nat} (h : ∀ n ∈ l, n < 4294967296) : lZ wide l = true := by
 simp only [lZ, Bool.or_eq_true, List.all_eq_true, decide_eq_true_eq]
 exact .inr h
theorem wS (x : bZ) (kind : Nat) (l : List SymM) (g cap : Nat) (hn : l.length ≤ 1024) (hk : kind = 2 ∨ kind = 11) : dL.Ok x.wide (rY x kind l g cap) where
 fit := IW (by have := sS x.wide; show ∀ n ∈ [0, 0, gW x.wide, 0], n < 4294967296; intro n hn; simp only [List.mem_cons, List.not_mem_nil, or_false] at hn; omega)
 name := by show 5 ≤ 1024; omega
 Iq := by show (0 : UInt8) ∉ [116, 97, 98, 108, 101]; decide
 data := by have := DF x.wide x.big l l.length hn (Nat.le_refl _); show (dN x.wide x.big l l.length).length ≤ 1100000; omega
 K_ := by show kind ≠ 0; omega
 H_ := by show kind < 1610612736; omega
 zip := by show vX ⟨[116, 97, 98, 108, 101].toArray⟩ = false; decide
 flags := Ar
 bss := fun h => by have : kind = 8 := h; omega
 size := by show 0 < 4611686018427387904; omega
theorem Am (wide : Bool) (l : List SymM) (g cap : Nat) (hb : (dB (dF l)).length ≤ 1049601) : dL.Ok wide (su l g cap) where
 fit := IW (by show ∀ n ∈ [0, 0, 0, 0], n < 4294967296; intro n hn; simp only [List.mem_cons, List.not_mem_nil, or_false] at hn; omega)
 name := by show 5 ≤ 1024; omega
 Iq := by show (0 : UInt8) ∉ [110, 97, 109, 101, 115]; decide
 data := by show (dB (dF l)).length ≤ 1100000; omega
 K_ := by show 3 ≠ 0; omega
 H_ := by show 3 < 1610612736; omega
 zip := by show vX ⟨[110, 97, 109, 101, 115].toArray⟩ = false; decide
 flags := Ar
 bss := fun h => by have : 3 = 8 := h; omega
 size := by show 0 < 4611686018427387904; omega
theorem Pg {x : bZ} {kind : Nat} {l : List SymM} {g cap B : Nat} {cur : Array Value} {w : World} (hk : kind < 4294967296) (h : Own B w 5 1 g (dN x.wide x.big l l.length).length cap cur ((dN x.wide x.big l l.length).map Bv)) : (rY x kind l g cap).At w where
 row := h.row
 c1 := h.nc
 c2 := h.cm
 nm := by show 5 ≤ maxLen; unfold maxLen; omega
 ty := hk
 flags := by show 0 < 4294967296; omega
 addr := by show 0 < 18446744073709551616; omega
 link := by show 2 < 4294967296; omega
 info := by show 0 < 4294967296; omega
 align := by show 0 < 18446744073709551616; omega
 ent := by have := sS x.wide; show gW x.wide < 18446744073709551616; omega
 size := by show 0 < 18446744073709551616; omega
theorem PO {l : List SymM} {g cap B : Nat} {cur : Array Value} {w : World} (h : Own B w 5 1 g (dB (dF l)).length cap cur ((dB (dF l)).map Bv)) : (su l g cap).At w where
 row := h.row
 c1 := h.nc
 c2 := h.cm
 nm := by show 5 ≤ maxLen; unfold maxLen; omega
 ty := by show 3 < 4294967296; omega
 flags := by show 0 < 4294967296; omega
 addr := by show 0 < 18446744073709551616; omega
 link := by show 0 < 4294967296; omega
 info := by show 0 < 4294967296; omega
 align := by show 0 < 18446744073709551616; omega
 ent := by show 0 < 18446744073709551616; omega
 size := by show 0 < 18446744073709551616; omega

abbrev nV := fun z1 (x : bZ) => ((z1, .cells #[.bool x.wide, .bool x.big, aT x.abi, aT x.aH, .int .i64 x.ty, .int .i64 x.machine, aI x.entry, .slice x.A x.ss.length x.c, .slice x.B x.ps.length x.d] 26 (0, 0)) : Nat × Obj)
abbrev mg := fun z1 => (((z1 + 1), .cells #[.bool false, .bool false, aO 0, aO 0, aF 0, aF 0, bF 0, aQ, aQ] 26 (0, 0)) : Nat × Obj)
abbrev nU := fun z4 gn (l : List SymM) lW => ((z4, .cells #[.string (⟨#[110, 97, 109, 101, 115]⟩ : ByteArray), gV 3, gV 0, bF 0, gV 0, gV 0, bF 0, bF 0, bF 0, aC gn ((dB (dF l)).length) lW] 46 (0, 0)) : Nat × Obj)
abbrev qR := fun gn (l : List SymM) lW => ((26, .agg #[.string (⟨#[110, 97, 109, 101, 115]⟩ : ByteArray), gV 3, gV 0, bF 0, gV 0, gV 0, bF 0, bF 0, bF 0, aC gn ((dB (dF l)).length) lW]) : Nat × Value)
abbrev yS := fun z1 (x : bZ) g1 cap1 => ((z1, .cells #[.bool x.wide, .bool x.big, aT x.abi, aT x.aH, .int .i64 x.ty, .int .i64 x.machine, aI x.entry, .slice x.A x.ss.length x.c, aC g1 (x.ps.length + 2) cap1] 26 (0, 0)) : Nat × Obj)
theorem wP (x : bZ) (kind : Nat) (hk : kind < 4294967296) (l : List SymM) (A : Option Addr) (c : Nat) (w0 : World) (h : x.At w0) (hp : x.ps.length ≤ 100) (hr : Row w0 A (l.flatMap SymM.cells)) (hat : ∀ m ∈ l, SymM.At m) (hn : l.length ≤ 1024) (hok : ∀ m ∈ l, SymM.Ok x.wide m) :
  Calls Tryd.prog 26 #[x.val, aX kind, .slice A l.length c] w0 fun e w' => ∃ gt cu gn lW g cap, e = .returned (x.more (rY x kind l gt cu) (su l gn lW) g cap).val ∧ Below w0.heap.size w0 w' ∧ (x.more (rY x kind l gt cu) (su l gn lW) g cap).At w' := by
 have hsz := sS x.wide
 obtain ⟨w, hw⟩ : ∃ w, w0 = w := ⟨_, rfl⟩
 have HM : Mm [] w0 w [] := hw ▸ Mm.start w0
 conv => arg 4; rw [hw]
 clear hw
 refine bI Tryd.func26 rfl Tryd.ntmps26 [(0, .agg #[.bool x.wide, .bool x.big, aT x.abi, aT x.aH, .int .i64 x.ty, .int .i64 x.machine, aI x.entry, .slice x.A x.ss.length x.c, .slice x.B x.ps.length x.d]), (1, aX kind), (2, .slice A l.length c)] (by kernel_rfl) (Nat.le_of_ble_eq_true rfl) ?_
 intro a HF
 refine aN ?_
 obtain ⟨z1, hz1⟩ : ∃ z, w.heap.size = z := ⟨_, rfl⟩
 refine aP HF HM hz1 2 [] [(1, aX kind), (2, .slice A l.length c), (3, aA z1), (6, aA (z1 + 1))] [mg z1, nV z1 x] (by kernel_rfl) fun a w HF HM => ?_
 clear hz1
 refine bT ?_
 refine wp_pure HF HM rfl 2 [[0]] [(1, aX kind), (3, aA z1), (6, aA (z1 + 1)), (12, .agg #[.bool x.wide, .bool x.big, aT x.abi, aT x.aH, .int .i64 x.ty, .int .i64 x.machine, aI x.entry, .slice x.A x.ss.length x.c, .slice x.B x.ps.length x.d]), (13, .slice A l.length c)] (by kernel_rfl) fun a HF => ?_
 refine bf HF (by kernel_rfl) 59 #[.agg #[.bool x.wide, .bool x.big, aT x.abi, aT x.aH, .int .i64 x.ty, .int .i64 x.machine, aI x.entry, .slice x.A x.ss.length x.c, .slice x.B x.ps.length x.d], .slice A l.length c] (by kernel_rfl) (fun w => by kernel_rfl) (Calls.mono (Ia x l A c w (h.below HM.below) (HM.row hr) hat hn hok) ?_)
 rintro _ w1 ⟨gt, cu, iT, gn, lW, FQ, rfl, hb, hot, hon, hne⟩
 replace HM : Mm [] w0 w1 [(gn, .cells FQ 5 (0, 0)), (gt, .cells iT 5 (0, 0)), mg z1, nV z1 x] := HM.PD hb hot.new hot.obj hon.new hon.obj (Ne.symm hne)
 clear hb
 refine ⟨_, rfl, ?_⟩; clear HF; intro a HF
 refine wp_pure HF HM rfl 5 [] [(1, aX kind), (3, aA z1), (6, aA (z1 + 1)), (7, aC gt ((dN x.wide x.big l l.length).length) cu), (8, aC gn ((dB (dF l)).length) lW)] (by kernel_rfl) fun a HF => ?_
 refine bT ?_
 obtain ⟨z4, pY⟩ : ∃ z, w1.heap.size = z := ⟨_, rfl⟩
 refine aP HF HM pY 4 [[4]] [(1, aX kind), (3, aA z1), (6, aA (z1 + 1)), (7, aC gt ((dN x.wide x.big l l.length).length) cu), (9, aA z4)] [nU z4 gn l lW, (gn, .cells FQ 5 (0, 0)), (gt, .cells iT 5 (0, 0)), mg z1, nV z1 x] (by kernel_rfl) fun a w HF HM => ?_
 clear pY
 refine aB ?_
 refine nI HM (by kernel_rfl) [nU z4 gn l lW, (gn, .cells FQ 5 (0, 0)), (gt, .cells iT 5 (0, 0)), mg z1, nV z1 x] [(0, false), (1, false), (2, false), (5, false), (7, false), (3, true), (4, false), (6, false), (8, true), (9, false)] (by kernel_rfl) fun w2 HM => ?_
 refine bK HF (HM.told [0, 1, 2, 3, 4] rfl) 5 [[0], [4]] [(3, aA z1), (6, aA (z1 + 1)), (19, aX kind), (21, .bool x.wide), (24, aC gt ((dN x.wide x.big l l.length).length) cu), qR gn l lW] (by kernel_rfl) fun a HF => ?_
 refine bQ rfl ?_
 refine bf HF (by kernel_rfl) 60 #[.bool x.wide] (by kernel_rfl) (fun w => by kernel_rfl) (Calls.mono (CX x.wide w2) ?_)
 rintro _ w3 ⟨rfl, hb⟩
 replace HM := HM.call hb
 clear hb
 refine ⟨_, rfl, ?_⟩; clear HF; intro a HF
 replace HF := HF.sub [(3, aA z1), (6, aA (z1 + 1)), (19, aX kind), (22, ay (gW x.wide)), (24, aC gt ((dN x.wide x.big l l.length).length) cu), qR gn l lW] (by kernel_rfl)
 refine dD (HM.told [0, 1, 2, 3, 4] rfl) ?_
 refine bK HF (HM.told [0, 1, 2, 3, 4] rfl) 1 [] [(3, aA z1), (6, aA (z1 + 1)), (19, aX kind), (23, bF (IntKind.u64.wrap (((gW x.wide) : Nat) : Int))), (24, aC gt ((dN x.wide x.big l l.length).length) cu), qR gn l lW] (by kernel_rfl) fun a HF => ?_
 rw [show IntKind.u64.wrap (((gW x.wide) : Nat) : Int) = (((gW x.wide) : Nat) : Int) from IntWalk.u64_in _ (by omega)] at HF
 refine bK HF (HM.told [0, 1, 2, 3, 4] rfl) 1 [] [(3, aA z1), (6, aA (z1 + 1)), (25, .agg #[.string (⟨#[116, 97, 98, 108, 101]⟩ : ByteArray), aX kind, gV 0, bF 0, gV 2, gV 0, bF 0, aI (gW x.wide), bF 0, aC gt ((dN x.wide x.big l l.length).length) cu]), qR gn l lW] (by kernel_rfl) fun a HF => ?_
 refine bQ rfl ?_
 obtain ⟨z5, uj⟩ : ∃ z, w3.heap.size = z := ⟨_, rfl⟩
 refine aP HF HM uj 1 [] [(3, aA z1), (6, aA (z1 + 1)), (27, aC z5 2 2)] [(z5, .cells #[.string (⟨#[116, 97, 98, 108, 101]⟩ : ByteArray), aX kind, gV 0, bF 0, gV 2, gV 0, bF 0, aI (gW x.wide), bF 0, aC gt ((dN x.wide x.big l l.length).length) cu, .string (⟨#[110, 97, 109, 101, 115]⟩ : ByteArray), gV 3, gV 0, bF 0, gV 0, gV 0, bF 0, bF 0, bF 0, aC gn ((dB (dF l)).length) lW] 46 (0, 0)), nU z4 gn l lW, (gn, .cells FQ 5 (0, 0)), (gt, .cells iT 5 (0, 0)), mg z1, nV z1 x] (by kernel_rfl) fun a w HF HM => ?_
 clear uj
 refine dD (HM.told [1, 2, 3, 4, 5] rfl) ?_
 refine bK HF (HM.told [1, 2, 3, 4, 5] rfl) 1 [] [(3, aA z1), (6, aA (z1 + 1)), (10, aC z5 2 2)] (by kernel_rfl) fun a HF => ?_
 refine jR ?_
 refine aK ?_
 refine aN ?_
 refine wp_pure HF HM rfl 3 [[0]] [(3, aA z1), (6, aA (z1 + 1)), (28, aC z5 2 2), (30, .slice x.B x.ps.length x.d)] (by kernel_rfl) fun a HF => ?_
 refine fU HF HM rfl _ _ 24 24 rfl rfl 46 (z := .agg #[.string (⟨#[]⟩ : ByteArray), gV 0, gV 0, bF 0, gV 0, gV 0, bF 0, bF 0, bF 0, aQ]) (size := 10) (bytes := 88) Tryd.underlying24 (by kernel_rfl) rfl (by decide) 0 z5 2 2 #[.string (⟨#[116, 97, 98, 108, 101]⟩ : ByteArray), aX kind, gV 0, bF 0, gV 2, gV 0, bF 0, aI (gW x.wide), bF 0, aC gt ((dN x.wide x.big l l.length).length) cu, .string (⟨#[110, 97, 109, 101, 115]⟩ : ByteArray), gV 3, gV 0, bF 0, gV 0, gV 0, bF 0, bF 0, bF 0, aC gn ((dB (dF l)).length) lW] rfl rfl (Nat.le_refl _) (by unfold maxLen; omega) rfl ([.string (⟨#[116, 97, 98, 108, 101]⟩ : ByteArray), aX kind, gV 0, bF 0, gV 2, gV 0, bF 0, aI (gW x.wide), bF 0, aC gt ((dN x.wide x.big l l.length).length) cu, .string (⟨#[110, 97, 109, 101, 115]⟩ : ByteArray), gV 3, gV 0, bF 0, gV 0, gV 0, bF 0, bF 0, bF 0, aC gn ((dB (dF l)).length) lW]) rfl (.slice x.B x.ps.length x.d) x.ps.length (x.ps.flatMap dL.cells) rfl (lF Tryd.underlying24 (yJ (f := dL.cells) (k := 10) (fun _ => rfl) _) (by decide) (HM.row h.parts) (MX (fun _ => rfl) _)) (by unfold maxLen; omega) (by omega) ?_
 intro a w4 g1 cap1 nC bJ CP hsz1 Hw hcm1 HF2; clear HF HM
 rw [show 2 + x.ps.length = (x.ps.length + 2) from by omega] at HF2 CP Hw
 replace CP : nC.toList.take ((x.ps.length + 2) * 10) = ((rY x kind l gt cu) :: (su l gn lW) :: x.ps).flatMap dL.cells := CP.trans (by rw [List.flatMap_cons, List.flatMap_cons, ← List.append_assoc]; rfl)
 have HM : Mm [] w0 w4 [(g1, .cells nC 46 (0, 0)), nU z4 gn l lW, (gn, .cells FQ 5 (0, 0)), (gt, .cells iT 5 (0, 0)), mg z1, nV z1 x] := bJ
 have HF := HF2.sub [(3, aA z1), (6, aA (z1 + 1)), (31, aC g1 (x.ps.length + 2) cap1)] (by kernel_rfl); clear bJ HF2
 refine aP HF HM rfl 2 [[0]] [(3, aA z1), (6, aA (z1 + 1))] [(g1, .cells nC 46 (0, 0)), nU z4 gn l lW, (gn, .cells FQ 5 (0, 0)), (gt, .cells iT 5 (0, 0)), mg z1, yS z1 x g1 cap1] (by kernel_rfl) fun a w HF HM => ?_
 refine bT ?_
 refine aP HF HM rfl 2 [[0], [1]] [(6, aA (z1 + 1))] [(g1, .cells nC 46 (0, 0)), nU z4 gn l lW, (gn, .cells FQ 5 (0, 0)), (gt, .cells iT 5 (0, 0)), ((z1 + 1), .cells #[.bool x.wide, .bool x.big, aT x.abi, aT x.aH, .int .i64 x.ty, .int .i64 x.machine, aI x.entry, .slice x.A x.ss.length x.c, aC g1 (x.ps.length + 2) cap1] 26 (0, 0)), yS z1 x g1 cap1] (by kernel_rfl) fun a w HF HM => ?_
 refine aB ?_
 refine wp_ret ?_
 repeat first | refine bH ?_ | refine bM ?_
 exact bodyPost_ret (J8 rfl (HF.getD rfl) (HM.get (i := 4) rfl) Tryd.underlying26 (by kernel_rfl)) HF.1 ⟨gt, cu, gn, lW, g1, cap1, rfl, HM.below, bZ.Ue (h.below HM.below) (Pg hk (w := w) (cur := iT) (B := 0) ⟨Nat.zero_le _, HM.get (i := 3) rfl, hot.tk, hot.sz, hot.nc, hot.cm⟩) (PO (w := w) (cur := FQ) (B := 0) ⟨Nat.zero_le _, HM.get (i := 2) rfl, hon.tk, hon.sz, hon.nc, hon.cm⟩) (HM.nH (i := 0) rfl CP) (by omega) hcm1⟩

end Go.Proofs.YtdgehpocmfjbiaaDoor
namespace Go.Proofs.YtdgehpocmfjbiaaDoor
open Go.RowKit

abbrev iI := fun (A1 : Option Addr) (l : List SymM) (c1 : Nat) (A2 : Option Addr) (c2 : Nat) => ([(0, .slice A1 l.length c1), (1, .slice A2 l.length c2)] : Slots)
theorem C_ (l : List SymM) (A1 A2 : Option Addr) (c1 c2 : Nat) (hn : l.length ≤ 1000000) (w0 : World) (r1 : Row w0 A1 (l.flatMap SymM.cells)) (r2 : Row w0 A2 (l.flatMap SymM.cells)) : Calls Tryd.prog 27 #[.slice A1 l.length c1, .slice A2 l.length c2] w0 fun e w' => e = .returned (.bool true) ∧ Below w0.heap.size w0 w' := by
 obtain ⟨w, hw⟩ : ∃ w, w0 = w := ⟨_, rfl⟩
 have HM : Mm [] w0 w [] := hw ▸ Mm.start w0
 conv => arg 4; rw [hw]
 clear hw
 refine bI Tryd.func27 rfl Tryd.ntmps27 (iI A1 l c1 A2 c2) (by kernel_rfl) (Nat.le_of_ble_eq_true rfl) ?_
 intro a HF
 refine aN ?_
 refine wp_pure HF HM rfl 1 [] (iI A1 l c1 A2 c2) (by kernel_rfl) fun a HF => ?_
 refine aB ?_
 refine wp_seq ?_
 refine aN ?_
 refine wp_pure HF HM rfl 5 [] ((iI A1 l c1 A2 c2) ++ [(10, .bool (((l.length : Nat) : Int) != ((l.length : Nat) : Int)))]) (by kernel_rfl) fun a HF => ?_
 refine aB ?_
 rw [show (((l.length : Nat) : Int) != ((l.length : Nat) : Int)) = false from I4 (fun hq => hq rfl)] at HF
 refine aZ HF rfl ?_
 refine wp_skip ?_
 repeat first | refine aK ?_ | refine aS ?_
 refine wp_seq ?_
 refine aN ?_
 refine wp_pure HF HM rfl 3 [] ((iI A1 l c1 A2 c2) ++ [(12, ay l.length), (13, aF 0)]) (by kernel_rfl) fun a HF => ?_
 refine aB ?_
 refine wp_block ?_
 refine jX (l.length) (fun i a w => (Mm [] w0 w [] ∧ Fr 26 a ((iI A1 l c1 A2 c2) ++ [(12, ay l.length), (13, ay i)]))) ?_ ?_ ?_
 ·exact ⟨HM, HF.sub ((iI A1 l c1 A2 c2) ++ [(12, ay l.length), (13, aF 0)]) (by kernel_rfl)⟩
 ·intro i a w KX hi hI KR
  obtain ⟨HM, HF⟩ := hI
  refine aN ?_
  refine wp_pure HF HM rfl 1 [] ((iI A1 l c1 A2 c2) ++ [(12, ay l.length), (13, ay i), (14, .bool (decide (((i : Nat) : Int) < ((l.length : Nat) : Int))))]) (by kernel_rfl) fun a HF => ?_
  refine aB ?_
  refine wp_seq ?_
  rw [show decide (((i : Nat) : Int) < ((l.length : Nat) : Int)) = true from dV (by omega)] at HF
  refine bC HF rfl ?_
  refine wp_skip ?_
  repeat first | refine aK ?_ | refine aS ?_
  refine wp_seq ?_
  refine wp_block ?_
  refine aN ?_
  refine wp_pure HF HM rfl 2 [] ((iI A1 l c1 A2 c2) ++ [(5, ay i), (12, ay l.length), (13, ay i)]) (by kernel_rfl) fun a HF => ?_
  refine aB ?_
  refine qZ (by kernel_rfl) (by kernel_rfl) ?_
  refine oJ HF HM rfl 2 [] ((iI A1 l c1 A2 c2) ++ [(5, ay i), (12, ay l.length), (13, ay i), (16, .slice A1 l.length c1), (17, ay i)]) (by kernel_rfl) fun a HF => ?_
  obtain ⟨m1, hm1⟩ : ∃ m, l[i]? = some m := ⟨_, List.getElem?_eq_getElem (by omega)⟩
  refine pF HF rfl (.pointer (Option.map (fun q : Addr => q.add (i * 6)) A1)) (by kernel_rfl) (fun j => dS Tryd.underlying27 (by kernel_rfl) rfl i rfl rfl (by omega) (gQ (fH (f := SymM.cells) (k := 6) (fun _ => rfl) (HM.row r1) i hm1) (Nat.zero_lt_succ _))) fun a HF => ?_
  refine pF HF rfl (.agg #[.string (⟨m1.name.toArray⟩), aT m1.info, aT m1.other, .int .i64 m1.dH, aI m1.value, aI m1.size]) (by kernel_rfl) (fun j => iC rfl rfl (wH (fH (f := SymM.cells) (k := 6) (fun _ => rfl) (HM.row r1) i hm1) j) (Nat.zero_lt_succ _) Tryd.underlying40 rfl (by kernel_rfl)) fun a HF => ?_
  refine oJ HF HM rfl 2 [] ((iI A1 l c1 A2 c2) ++ [(12, ay l.length), (13, ay i), (19, .agg #[.string (⟨m1.name.toArray⟩), aT m1.info, aT m1.other, .int .i64 m1.dH, aI m1.value, aI m1.size]), (20, .slice A2 l.length c2), (21, ay i)]) (by kernel_rfl) fun a HF => ?_
  refine pF HF rfl (.pointer (Option.map (fun q : Addr => q.add (i * 6)) A2)) (by kernel_rfl) (fun j => dS Tryd.underlying27 (by kernel_rfl) rfl i rfl rfl (by omega) (gQ (fH (f := SymM.cells) (k := 6) (fun _ => rfl) (HM.row r2) i hm1) (Nat.zero_lt_succ _))) fun a HF => ?_
  refine pF HF rfl (.agg #[.string (⟨m1.name.toArray⟩), aT m1.info, aT m1.other, .int .i64 m1.dH, aI m1.value, aI m1.size]) (by kernel_rfl) (fun j => iC rfl rfl (wH (fH (f := SymM.cells) (k := 6) (fun _ => rfl) (HM.row r2) i hm1) j) (Nat.zero_lt_succ _) Tryd.underlying40 rfl (by kernel_rfl)) fun a HF => ?_
  refine pF HF rfl (.bool false) (by kernel_rfl) (fun j => Df rfl rfl rfl (Ko _ _ _ _ _) (Si _ _ _ _ _ _ _)) ?_
  clear HF; intro a HF; replace HF := HF.sub ((iI A1 l c1 A2 c2) ++ [(12, ay l.length), (13, ay i), (24, .bool false)]) (by kernel_rfl)
  refine sH ?_
  rintro w1 ⟨nq, hq⟩
  replace HM : Mm [] w0 w1 [] := by rw [hq]; exact HM.drewN nq
  clear hq nq
  refine aZ HF rfl ?_
  refine wp_skip ?_
  repeat first | refine aK ?_ | refine aS ?_
  refine wp_region_lit ?_
  refine wp_pure HF HM rfl 1 [] ((iI A1 l c1 A2 c2) ++ [(12, ay l.length), (25, aF (IntKind.i64.wrap (((i : Nat) : Int) + 1)))]) (by kernel_rfl) fun a HF => ?_
  rw [show IntKind.i64.wrap (((i : Nat) : Int) + 1) = (((i + 1) : Nat) : Int) from (IntWalk.i64_in _ (by omega)).trans (by omega)] at HF
  refine wp_pure HF HM rfl 1 [] ((iI A1 l c1 A2 c2) ++ [(12, ay l.length), (13, ay (i + 1))]) (by kernel_rfl) fun a HF => ?_
  refine wpList_nil ?_
  repeat first | refine aK ?_ | refine aS ?_
  exact KR _ _ (⟨HM, HF.sub ((iI A1 l c1 A2 c2) ++ [(12, ay l.length), (13, ay (i + 1))]) (by kernel_rfl)⟩)
 ·intro a w KX hI
  obtain ⟨HM, HF⟩ := hI
  refine aN ?_
  refine wp_pure HF HM rfl 1 [] ((iI A1 l c1 A2 c2) ++ [(12, ay l.length), (13, ay l.length), (14, .bool (decide (((l.length : Nat) : Int) < ((l.length : Nat) : Int))))]) (by kernel_rfl) fun a HF => ?_
  refine aB ?_
  refine wp_seq ?_
  rw [show decide (((l.length : Nat) : Int) < ((l.length : Nat) : Int)) = false from dI (by omega)] at HF
  refine aZ HF rfl ?_
  refine wp_exit ?_
  repeat (first | refine fG ?_ | refine fA rfl ?_)
  refine iD ?_
  repeat first | refine aK ?_ | refine aS ?_
  refine aN ?_
  refine wp_pure HF HM rfl 1 [] [(4, .bool true)] (by kernel_rfl) fun a HF => ?_
  refine aB ?_
  refine wp_ret ?_
  repeat first | refine bH ?_ | refine bM ?_
  exact dn HF rfl rfl ⟨rfl, HM.below⟩

abbrev jd := fun (A1 : Option Addr) (l : List (List UInt8)) (c1 : Nat) (A2 : Option Addr) (c2 : Nat) => ([(0, .slice A1 l.length c1), (1, .slice A2 l.length c2)] : Slots)
theorem LU (l : List (List UInt8)) (A1 A2 : Option Addr) (c1 c2 : Nat) (hn : l.length ≤ 1000000) (w0 : World) (r1 : Row w0 A1 (l.map nT)) (r2 : Row w0 A2 (l.map nT)) : Calls Tryd.prog 29 #[.slice A1 l.length c1, .slice A2 l.length c2] w0 fun e w' => e = .returned (.bool true) ∧ Below w0.heap.size w0 w' := by
 obtain ⟨w, hw⟩ : ∃ w, w0 = w := ⟨_, rfl⟩
 have HM : Mm [] w0 w [] := hw ▸ Mm.start w0
 conv => arg 4; rw [hw]
 clear hw
 refine bI Tryd.func29 rfl Tryd.ntmps29 (jd A1 l c1 A2 c2) (by kernel_rfl) (Nat.le_of_ble_eq_true rfl) ?_
 intro a HF
 refine aN ?_
 refine wp_pure HF HM rfl 1 [] (jd A1 l c1 A2 c2) (by kernel_rfl) fun a HF => ?_
 refine aB ?_
 refine wp_seq ?_
 refine aN ?_
 refine wp_pure HF HM rfl 5 [] ((jd A1 l c1 A2 c2) ++ [(10, .bool (((l.length : Nat) : Int) != ((l.length : Nat) : Int)))]) (by kernel_rfl) fun a HF => ?_
 refine aB ?_
 rw [show (((l.length : Nat) : Int) != ((l.length : Nat) : Int)) = false from I4 (fun hq => hq rfl)] at HF
 refine aZ HF rfl ?_
 refine wp_skip ?_
 repeat first | refine aK ?_ | refine aS ?_
 refine wp_seq ?_
 refine aN ?_
 refine wp_pure HF HM rfl 3 [] ((jd A1 l c1 A2 c2) ++ [(12, ay l.length), (13, aF 0)]) (by kernel_rfl) fun a HF => ?_
 refine aB ?_
 refine wp_block ?_
 refine jX (l.length) (fun i a w => (Mm [] w0 w [] ∧ Fr 26 a ((jd A1 l c1 A2 c2) ++ [(12, ay l.length), (13, ay i)]))) ?_ ?_ ?_
 ·exact ⟨HM, HF.sub ((jd A1 l c1 A2 c2) ++ [(12, ay l.length), (13, aF 0)]) (by kernel_rfl)⟩
 ·intro i a w KX hi hI KR
  obtain ⟨HM, HF⟩ := hI
  refine aN ?_
  refine wp_pure HF HM rfl 1 [] ((jd A1 l c1 A2 c2) ++ [(12, ay l.length), (13, ay i), (14, .bool (decide (((i : Nat) : Int) < ((l.length : Nat) : Int))))]) (by kernel_rfl) fun a HF => ?_
  refine aB ?_
  refine wp_seq ?_
  rw [show decide (((i : Nat) : Int) < ((l.length : Nat) : Int)) = true from dV (by omega)] at HF
  refine bC HF rfl ?_
  refine wp_skip ?_
  repeat first | refine aK ?_ | refine aS ?_
  refine wp_seq ?_
  refine wp_block ?_
  refine aN ?_
  refine wp_pure HF HM rfl 2 [] ((jd A1 l c1 A2 c2) ++ [(5, ay i), (12, ay l.length), (13, ay i)]) (by kernel_rfl) fun a HF => ?_
  refine aB ?_
  refine qZ (by kernel_rfl) (by kernel_rfl) ?_
  refine oJ HF HM rfl 2 [] ((jd A1 l c1 A2 c2) ++ [(5, ay i), (12, ay l.length), (13, ay i), (16, .slice A1 l.length c1), (17, ay i)]) (by kernel_rfl) fun a HF => ?_
  obtain ⟨m1, hm1⟩ : ∃ m, l[i]? = some m := ⟨_, List.getElem?_eq_getElem (by omega)⟩
  refine pF HF rfl (.pointer (Option.map (fun q : Addr => q.add (i * 1)) A1)) (by kernel_rfl) (fun j => dS Tryd.underlying38 (by kernel_rfl) rfl i rfl rfl (by omega) (gQ (qB (HM.row r1) i hm1) (Nat.zero_lt_succ _))) fun a HF => ?_
  refine pF HF rfl (.string (⟨m1.toArray⟩)) (by kernel_rfl) (fun j => mX rfl rfl (wH (qB (HM.row r1) i hm1) j) (by kernel_rfl)) fun a HF => ?_
  refine oJ HF HM rfl 2 [] ((jd A1 l c1 A2 c2) ++ [(12, ay l.length), (13, ay i), (19, .string (⟨m1.toArray⟩)), (20, .slice A2 l.length c2), (21, ay i)]) (by kernel_rfl) fun a HF => ?_
  refine pF HF rfl (.pointer (Option.map (fun q : Addr => q.add (i * 1)) A2)) (by kernel_rfl) (fun j => dS Tryd.underlying38 (by kernel_rfl) rfl i rfl rfl (by omega) (gQ (qB (HM.row r2) i hm1) (Nat.zero_lt_succ _))) fun a HF => ?_
  refine pF HF rfl (.string (⟨m1.toArray⟩)) (by kernel_rfl) (fun j => mX rfl rfl (wH (qB (HM.row r2) i hm1) j) (by kernel_rfl)) fun a HF => ?_
  refine oJ HF HM rfl 1 [] ((jd A1 l c1 A2 c2) ++ [(12, ay l.length), (13, ay i), (24, .bool (((⟨m1.toArray⟩ : ByteArray).toList) != ((⟨m1.toArray⟩ : ByteArray).toList)))]) (by kernel_rfl) fun a HF => ?_
  refine sH ?_
  rintro w1 ⟨nq, hq⟩
  replace HM : Mm [] w0 w1 [] := by rw [hq]; exact HM.drewN nq
  clear hq nq
  rw [show (((⟨m1.toArray⟩ : ByteArray).toList) != ((⟨m1.toArray⟩ : ByteArray).toList)) = false from I4 (fun hq => hq rfl)] at HF
  refine aZ HF rfl ?_
  refine wp_skip ?_
  repeat first | refine aK ?_ | refine aS ?_
  refine wp_region_lit ?_
  refine wp_pure HF HM rfl 1 [] ((jd A1 l c1 A2 c2) ++ [(12, ay l.length), (25, aF (IntKind.i64.wrap (((i : Nat) : Int) + 1)))]) (by kernel_rfl) fun a HF => ?_
  rw [show IntKind.i64.wrap (((i : Nat) : Int) + 1) = (((i + 1) : Nat) : Int) from (IntWalk.i64_in _ (by omega)).trans (by omega)] at HF
  refine wp_pure HF HM rfl 1 [] ((jd A1 l c1 A2 c2) ++ [(12, ay l.length), (13, ay (i + 1))]) (by kernel_rfl) fun a HF => ?_
  refine wpList_nil ?_
  repeat first | refine aK ?_ | refine aS ?_
  exact KR _ _ (⟨HM, HF.sub ((jd A1 l c1 A2 c2) ++ [(12, ay l.length), (13, ay (i + 1))]) (by kernel_rfl)⟩)
 ·intro a w KX hI
  obtain ⟨HM, HF⟩ := hI
  refine aN ?_
  refine wp_pure HF HM rfl 1 [] ((jd A1 l c1 A2 c2) ++ [(12, ay l.length), (13, ay l.length), (14, .bool (decide (((l.length : Nat) : Int) < ((l.length : Nat) : Int))))]) (by kernel_rfl) fun a HF => ?_
  refine aB ?_
  refine wp_seq ?_
  rw [show decide (((l.length : Nat) : Int) < ((l.length : Nat) : Int)) = false from dI (by omega)] at HF
  refine aZ HF rfl ?_
  refine wp_exit ?_
  repeat (first | refine fG ?_ | refine fA rfl ?_)
  refine iD ?_
  repeat first | refine aK ?_ | refine aS ?_
  refine aN ?_
  refine wp_pure HF HM rfl 1 [] [(4, .bool true)] (by kernel_rfl) fun a HF => ?_
  refine aB ?_
  refine wp_ret ?_
  repeat first | refine bH ?_ | refine bM ?_
  exact dn HF rfl rfl ⟨rfl, HM.below⟩

end Go.Proofs.YtdgehpocmfjbiaaDoor
