/- More laws of the walker: a field of an element of a row; an element of an own row, set. · A plan whose forced operations may come in two orders at one -/
import Derived.Test.YtdgehpocmfjbiaaDoorSd
import Derived.Test.YtdgehpocmfjbiaaDoorSb
import Derived.Test.YtdgehpocmfjbiaaDoorSg
import Derived.Test.YtdgehpocmfjbiaaDoorSa
import Derived.Laws.MakeOwn
set_option linter.unusedVariables false
set_option linter.unusedSimpArgs false
set_option maxRecDepth 100000
set_option maxHeartbeats 2000000
namespace Go.Proofs.YtdgehpocmfjbiaaDoor
open Go.RowKit
section
variable {P : Program} {w : World}
end
end Go.Proofs.YtdgehpocmfjbiaaDoor
namespace Go.Proofs.YtdgehpocmfjbiaaDoor
open Go.RowKit

section
variable {P : Program} {ops : Array Oper} {N : Nat} {G : List Nat} {w0 w : World} {a : Act} {S : World → Prop}
def two (P : Program) (ops : Array Oper) (S : World → Prop) (Q : Exit → Act → World → Prop) (k1 k2 : Nat) (q1 q2 : List (Nat × Bool)) : Exit → Act → World → Prop
 | .normal, a, w => j_ P ops S Q ((k1, true) :: q1) a w ∧ j_ P ops S Q ((k2, true) :: q2) a w
 | _, _, _ => True
end
end Go.Proofs.YtdgehpocmfjbiaaDoor
namespace Go.Proofs.YtdgehpocmfjbiaaDoor
open Go Go.RowKit

section
variable {P : Program} {N : Nat} {G : List Nat} {w0 w : World} {a : Act} {ops : Array Oper}
/-- x[k:m] of a slice of bytes -/
theorem oG {t e : TypeId} {info : TypeInfo} (ht : P.underlying t = some (.slice e)) (hi : P.info? e = some info) (hs : info.size = 1) {ρ : Operand → Value} {o : Oper} {x lo h : Operand} (ho : o.op = .slice t x (some lo) (some h) none)
  {b off n c : Nat} (k m r : Nat) {kk kh : IntKind} (hx : ρ x = .slice (some ⟨b, off, none⟩) n c) (hl : ρ lo = .int kk (k : Int)) (hh : ρ h = .int kh (m : Int)) (h1 : k + r = m) (h2 : m ≤ c) (h3 : k < c) (w : World) :
  (execOp ρ o).run P w = .ok (.value (.slice (some ⟨b, off + k, none⟩) r (c - k))) w := by
 have hne : ¬ c = k := by omega
 have hkm : k ≤ m := by omega
 have hr : m - k = r := by omega
 unfold execOp
 simp only [ho, Option.map_some, Option.map_none, hx, hl, hh, Instr.sliceAt]
 by_cases h0 : k = 0
 ·subst h0
  have hr' : m = r := by omega
  simp [Instr.slice, Instr.sliceBounds, Instr.sliceBound, asIntOf, run_underlying ht, sizeOf, typeInfo, hi, hs, hne, Addr.add, h2, hr']
  try omega
 ·simp [Instr.slice, Instr.sliceBounds, Instr.sliceBound, asIntOf, run_underlying ht, sizeOf, typeInfo, hi, hs, h2, hkm, hne, BX, hr]
/-- x[k:], to the end -/
theorem uO {t e : TypeId} {info : TypeInfo} (ht : P.underlying t = some (.slice e)) (hi : P.info? e = some info) (hs : info.size = 1) {ρ : Operand → Value} {o : Oper} {x lo : Operand} (ho : o.op = .slice t x (some lo) none none)
  {b off n c : Nat} (k r : Nat) {kk : IntKind} (hx : ρ x = .slice (some ⟨b, off, none⟩) n c) (hl : ρ lo = .int kk (k : Int)) (h0 : 0 < k) (h1 : k + r = n) (h2 : n = c) (w : World) :
  (execOp ρ o).run P w = .ok (.value (.slice (some ⟨b, if r = 0 then off else off + k, none⟩) r r)) w := by
 subst h2
 have hkn : k ≤ n := by omega
 have hr : n - k = r := by omega
 have h0' : ¬ k = 0 := by omega
 unfold execOp
 simp only [ho, Option.map_some, Option.map_none, hx, hl, Instr.sliceAt]
 by_cases hne : n = k
 ·have : r = 0 := by omega
  simp [Instr.slice, Instr.sliceBounds, Instr.sliceBound, asIntOf, run_underlying ht, sizeOf, typeInfo, hi, hs, hne, this]
 ·have : ¬ r = 0 := by omega
  simp [Instr.slice, Instr.sliceBounds, Instr.sliceBound, asIntOf, run_underlying ht, sizeOf, typeInfo, hi, hs, hkn, hne, BX, hr, this]
end
/-- the result is a struct that lies in block g -/
theorem Jy {P : Program} {fn : Func} {p : Tmp} {ty T : TypeId} {g : Nat} {cs : Array Value} {fs : Array Field} {w : World} {tmps : Array Value} (h : fn.results = #[.cell p ty]) (hp : tmps.getD p undef = .pointer (some ⟨g, 0, none⟩)) (ho : w.heap[g]? = some (.cells cs T (0, 0))) (hu : P.underlying ty = some (.struct fs)) (hi : (P.info? ty).map (·.size) = some cs.size) :
  (results fn tmps).run P w = .ok (.agg cs) w := by
 have hl := run_loadVar_row (P := P) w g T ty cs (0, 0) _ ho hu rfl hi
 have hp' : tmps[p]?.getD undef = .pointer (some ⟨g, 0, none⟩) := by simpa using hp
 simp only [results, h]
 simp [hp', asAddr, hl]
section
variable {w : World} {g : Nat} {X : List UInt8} {t : TypeId}
theorem MW {w : World} {g : Nat} {X : List UInt8} {t : TypeId} (hg : w.heap[g]? = some (.cells (X.map Bv).toArray t (0, 0))) (k m : Nat) : Row w (some ⟨g, k, none⟩) (((X.drop k).take m).map Bv) := by
 have hr := (nJ hg).drop_at k
 rw [← List.map_drop, Nat.zero_add] at hr
 rw [List.map_take]
 exact hr.take m
theorem wO (hg : w.heap[g]? = some (.cells (X.map Bv).toArray t (0, 0))) (big : Bool) (k c : Nat) (hk : k + 4 ≤ X.length) (hc : 4 ≤ c) (hc2 : c ≤ maxLen) (v : Int) (hv : ((num big X k 4 : Nat) : Int) = v) :
  Calls Tryd.prog 87 #[aS big, .slice (some ⟨g, k, none⟩) 4 c] w fun e w' => e = .returned (.int .u32 v) ∧ ∃ i, w' = w.drewN i := by
 have h := zo big ((X.drop k).take 4) (some ⟨g, k, none⟩) 4 c (Nat.le_refl _) (by simp; omega) hc hc2 w (MW hg k 4)
 rw [List.take_take, Nat.min_self] at h
 rw [← hv]; exact h
theorem wM (hg : w.heap[g]? = some (.cells (X.map Bv).toArray t (0, 0))) (big : Bool) (k c : Nat) (hk : k + 8 ≤ X.length) (hc : 8 ≤ c) (hc2 : c ≤ maxLen) (v : Int) (hv : ((num big X k 8 : Nat) : Int) = v) :
  Calls Tryd.prog 88 #[aS big, .slice (some ⟨g, k, none⟩) 8 c] w fun e w' => e = .returned (.int .u64 v) ∧ ∃ i, w' = w.drewN i := by
 have h := Hu big ((X.drop k).take 8) (some ⟨g, k, none⟩) 8 c (Nat.le_refl _) (by simp; omega) hc hc2 w (MW hg k 8)
 rw [List.take_take, Nat.min_self] at h
 rw [← hv]; exact h
end
end Go.Proofs.YtdgehpocmfjbiaaDoor
namespace Go.Proofs.YtdgehpocmfjbiaaDoor
open Go.RowKit

structure SymM where
 name : List UInt8
 info : Nat
 other : Nat
 Qh : Int
 value : Nat
 size : Nat
def SymM.cells (m : SymM) : List Value := [.string (⟨m.name.toArray⟩), .int .u8 ((m.info : Nat) : Int), .int .u8 ((m.other : Nat) : Int), .int .i64 m.Qh, .int .u64 ((m.value : Nat) : Int), .int .u64 ((m.size : Nat) : Int)]
structure SymM.At (m : SymM) : Prop where
 nm : m.name.length ≤ maxLen
 info : m.info < 256
 other : m.other < 256
 value : m.value < 18446744073709551616
 size : m.size < 18446744073709551616
structure SymM.Ok (wide : Bool) (m : SymM) : Prop where
 fit : lY wide [m.value, m.size] = true
 s0 : 0 ≤ m.Qh
 s1 : m.Qh < 65535
 name : m.name.length ≤ 1024
 EM : 0 ∉ m.name

end Go.Proofs.YtdgehpocmfjbiaaDoor
namespace Go.Proofs.YtdgehpocmfjbiaaDoor
open Go.RowKit

structure fK where
 tag : Int
 val : Nat
def fK.cells (m : fK) : List Value := [.int .i64 m.tag, .int .u64 ((m.val : Nat) : Int)]
structure fK.At (m : fK) : Prop where
 t0 : -9223372036854775808 ≤ m.tag
 t1 : m.tag ≤ 9223372036854775807
 val : m.val < 18446744073709551616
structure fK.Ok (wide : Bool) (tag : Int) (m : fK) : Prop where
 t1 : 1 ≤ m.tag
 t2 : m.tag < 2147483648
 ne : m.tag ≠ tag
 fit : lY wide [m.val] = true
structure yZ (s : List UInt8) : Prop where
 len : s.length ≤ 1024
 EM : 0 ∉ s
theorem rM (l : List (List UInt8)) (hn : l.length ≤ 1024) (hok : ∀ s ∈ l, yZ s) : (aZ l).length ≤ 1049601 := by
 have hb := yg (fun n : List UInt8 => n ++ [0]) 1025 l (by
  intro n hn
  have := (hok n hn).len
  simp; omega)
 have h2 : l.length * 1025 ≤ 1024 * 1025 := Nat.mul_le_mul_right _ hn
 unfold aZ
 rw [List.length_cons]
 omega
/-- two numbers, each as wide as an address -/
def Bq (wide big : Bool) (p : Nat × Nat) : List UInt8 := dR p.1 (jw wide 0) big ++ dR p.2 (jw wide 0) big
def lM (wide big : Bool) (ps : List (Nat × Nat)) : List UInt8 := ps.flatMap (Bq wide big)
/-- the entries of a dynamic section: those of the texts, and others -/
def ql (tag : Nat) (ts : List (List UInt8)) (i : Nat) : List (Nat × Nat) := (List.range i).map fun j => (tag, nameAt ts j)
def u_ (l : List fK) (i : Nat) : List (Nat × Nat) := (l.take i).map fun e => (e.tag.toNat, e.val)
theorem MV (wide big : Bool) (a b : List (Nat × Nat)) : lM wide big (a ++ b) = lM wide big a ++ lM wide big b := List.flatMap_append
theorem QL (wide big : Bool) (p : Nat × Nat) : lM wide big [p] = Bq wide big p := List.append_nil _
theorem P5 (tag : Nat) (ts : List (List UInt8)) (i : Nat) : ql tag ts (i + 1) = ql tag ts i ++ [(tag, nameAt ts i)] := by
 unfold ql
 rw [List.range_succ, List.map_append]; rfl
theorem P7 {l : List fK} {i : Nat} {m : fK} (h : l[i]? = some m) : u_ l (i + 1) = u_ l i ++ [(m.tag.toNat, m.val)] := by
 unfold u_
 rw [qW h, List.map_append]; rfl
theorem GR (wide : Bool) : jw wide 0 = 4 ∨ jw wide 0 = 8 := by cases wide <;> simp [jw]
theorem KA (wide big : Bool) (p : Nat × Nat) : (Bq wide big p).length = 2 * jw wide 0 := by unfold Bq; rw [List.length_append, bK, bK]; omega
theorem rV (wide big : Bool) (ps : List (Nat × Nat)) : (lM wide big ps).length = ps.length * (2 * jw wide 0) := by
 induction ps with
 | nil => simp [lM]
 | cons p ps ih =>
  rw [show lM wide big (p :: ps) = Bq wide big p ++ lM wide big ps from List.flatMap_cons, List.length_append, ih, KA, List.length_cons, Nat.add_mul ps.length 1, Nat.one_mul, Nat.add_comm]
theorem Gh (wide big : Bool) (ps : List (Nat × Nat)) (n : Nat) (h : ps.length ≤ n) : (lM wide big ps).length ≤ n * 16 := by
 rw [rV]
 have hz : 2 * jw wide 0 ≤ 16 := by rcases GR wide with h | h <;> omega
 exact Nat.mul_le_mul h hz
theorem yQ (tag : Nat) (ts : List (List UInt8)) (i : Nat) : (ql tag ts i).length = i := by simp [ql]
theorem CB (l : List fK) (i : Nat) (hi : i ≤ l.length) : (u_ l i).length = i := by simp [u_]; omega
/-- the pairs of a whole dynamic section -/
def kQ (tag : Nat) (ts : List (List UInt8)) (l : List fK) : List (Nat × Nat) := ql tag ts ts.length ++ u_ l l.length ++ [(0, 0)]

end Go.Proofs.YtdgehpocmfjbiaaDoor
namespace Go.Proofs.YtdgehpocmfjbiaaDoor
open Go.RowKit

abbrev mZ := fun (A : Option Addr) (ts : List (List UInt8)) (c : Nat) => ([(8, .slice A ts.length c), (9, ay ts.length)] : Slots)
theorem Gu (ts : List (List UInt8)) (A : Option Addr) (c : Nat) (w0 : World) (hrt : Row w0 A (ts.map lq)) : Calls Tryd.prog 45 #[.slice A ts.length c] w0 fun e w' => ∃ b, e = .returned (.bool b) ∧ Below w0.heap.size w0 w' := by
 obtain ⟨w, hw⟩ : ∃ w, w0 = w := ⟨_, rfl⟩
 have HM : Mm [] w0 w [] := hw ▸ Mm.start w0
 conv => arg 4; rw [hw]
 clear hw
 refine cu Tryd.func45 rfl Tryd.ntmps45 [(0, .slice A ts.length c)] (by kernel_rfl) (Nat.le_of_ble_eq_true rfl) ?_
 intro a HF
 refine aO ?_
 refine wp_pure HF HM rfl 1 [] [(0, .slice A ts.length c)] (by kernel_rfl) fun a HF => ?_
 refine aA ?_
 refine wp_seq ?_
 refine aO ?_
 refine wp_pure HF HM rfl 3 [] [(0, .slice A ts.length c), (7, .bool (decide (2147483647 < ((ts.length : Nat) : Int))))] (by kernel_rfl) fun a HF => ?_
 refine aA ?_
 by_cases hc1 : 2147483647 < ((ts.length : Nat) : Int)
 ·rw [show decide (2147483647 < ((ts.length : Nat) : Int)) = true from dK (hc1)] at HF
  refine bD HF rfl ?_
  refine aO ?_
  refine wp_pure HF HM rfl 1 [] [(2, .bool false)] (by kernel_rfl) fun a HF => ?_
  refine aA ?_
  refine wp_ret ?_
  repeat first | refine bJ ?_ | refine bM ?_
  exact bQ HF rfl rfl ⟨false, rfl, HM.below⟩
 rw [show decide (2147483647 < ((ts.length : Nat) : Int)) = false from cZ (hc1)] at HF
 refine aY HF rfl ?_
 refine wp_skip ?_
 repeat first | refine aK ?_ | refine aP ?_
 refine wp_seq ?_
 refine aO ?_
 refine wp_pure HF HM rfl 3 [] ((mZ A ts c) ++ [(10, aF 0)]) (by kernel_rfl) fun a HF => ?_
 refine aA ?_
 refine wp_block ?_
 refine kC (ts.length) (fun i a w => (Mm [] w0 w [] ∧ Fr 18 a ((mZ A ts c) ++ [(10, ay i)]))) ?_ ?_ ?_
 ·exact ⟨HM, HF.sub ((mZ A ts c) ++ [(10, aF 0)]) (by kernel_rfl)⟩
 ·intro i a w KX hi hI KR
  obtain ⟨HM, HF⟩ := hI
  refine aO ?_
  refine wp_pure HF HM rfl 1 [] ((mZ A ts c) ++ [(10, ay i), (11, .bool (decide (((i : Nat) : Int) < ((ts.length : Nat) : Int))))]) (by kernel_rfl) fun a HF => ?_
  refine aA ?_
  refine wp_seq ?_
  rw [show decide (((i : Nat) : Int) < ((ts.length : Nat) : Int)) = true from dK (by omega)] at HF
  refine bD HF rfl ?_
  refine wp_skip ?_
  repeat first | refine aK ?_ | refine aP ?_
  refine wp_seq ?_
  refine wp_block ?_
  refine aO ?_
  obtain ⟨wo, IL⟩ : ∃ m, ts[i]? = some m := ⟨_, List.getElem?_eq_getElem (by omega)⟩
  refine dG HF (by kernel_rfl) (.pointer (Option.map (fun q : Addr => q.add (i * 1)) A)) (by kernel_rfl) (fD Tryd.underlying38 (by kernel_rfl) rfl i rfl rfl (by omega) (ji (kU (HM.row hrt) i IL) (Nat.zero_lt_succ _))) fun a HF => ?_
  refine dG HF (by kernel_rfl) (.string (⟨wo.toArray⟩)) (by kernel_rfl) (lI rfl rfl (kU (HM.row hrt) i IL) (by kernel_rfl)) fun a HF => ?_
  refine wp_pure HF HM rfl 1 [] [(4, .string (⟨wo.toArray⟩)), (8, .slice A ts.length c), (9, ay ts.length), (10, ay i)] (by kernel_rfl) fun a HF => ?_
  refine dF ?_
  refine wp_pure HF HM rfl 3 [] ((mZ A ts c) ++ [(10, ay i), (16, .bool (decide (2147483647 < ((wo.length : Nat) : Int))))]) (by kernel_rfl) fun a HF => ?_
  refine aA ?_
  by_cases hc3 : 2147483647 < ((wo.length : Nat) : Int)
  ·rw [show decide (2147483647 < ((wo.length : Nat) : Int)) = true from dK (hc3)] at HF
   refine bD HF rfl ?_
   refine aO ?_
   refine wp_pure HF HM rfl 1 [] [(2, .bool false)] (by kernel_rfl) fun a HF => ?_
   refine aA ?_
   refine wp_ret ?_
   repeat first | refine bJ ?_ | refine bM ?_
   exact bQ HF rfl rfl ⟨false, rfl, HM.below⟩
  rw [show decide (2147483647 < ((wo.length : Nat) : Int)) = false from cZ (hc3)] at HF
  refine aY HF rfl ?_
  refine wp_skip ?_
  repeat first | refine aK ?_ | refine aP ?_
  refine wp_region_lit ?_
  refine wp_pure HF HM rfl 1 [] ((mZ A ts c) ++ [(17, aF (IntKind.i64.wrap (((i : Nat) : Int) + 1)))]) (by kernel_rfl) fun a HF => ?_
  rw [show IntKind.i64.wrap (((i : Nat) : Int) + 1) = (((i + 1) : Nat) : Int) from (IntWalk.i64_in _ (by omega)).trans (by omega)] at HF
  refine wp_pure HF HM rfl 1 [] ((mZ A ts c) ++ [(10, ay (i + 1))]) (by kernel_rfl) fun a HF => ?_
  refine wpList_nil ?_
  repeat first | refine aK ?_ | refine aP ?_
  exact KR _ _ (⟨HM, HF.sub ((mZ A ts c) ++ [(10, ay (i + 1))]) (by kernel_rfl)⟩)
 ·intro a w KX hI
  obtain ⟨HM, HF⟩ := hI
  refine aO ?_
  refine wp_pure HF HM rfl 1 [] ((mZ A ts c) ++ [(10, ay ts.length), (11, .bool (decide (((ts.length : Nat) : Int) < ((ts.length : Nat) : Int))))]) (by kernel_rfl) fun a HF => ?_
  refine aA ?_
  refine wp_seq ?_
  rw [show decide (((ts.length : Nat) : Int) < ((ts.length : Nat) : Int)) = false from cZ (by omega)] at HF
  refine aY HF rfl ?_
  refine wp_exit ?_
  repeat (first | refine eH ?_ | refine dY rfl ?_)
  refine gZ ?_
  repeat first | refine aK ?_ | refine aP ?_
  refine aO ?_
  refine wp_pure HF HM rfl 1 [] [(2, .bool true)] (by kernel_rfl) fun a HF => ?_
  refine aA ?_
  refine wp_ret ?_
  repeat first | refine bJ ?_ | refine bM ?_
  exact bQ HF rfl rfl ⟨true, rfl, HM.below⟩

end Go.Proofs.YtdgehpocmfjbiaaDoor
namespace Go.Proofs.YtdgehpocmfjbiaaDoor
open Go.RowKit
attribute [local go_sem ↓] Go.wp_at_zero Go.wp_at_succ

/-- every other block that is no row of bytes holds what it held -/
def Others (g : Nat) (w w' : World) : Prop := ∀ (k : Nat) (cs : Array Value) (t : TypeId) (f : Nat × Nat), k ≠ g → w.heap[k]? = some (.cells cs t f) → t ≠ 5 → w'.heap[k]? = some (.cells cs t f)
theorem Dn {w w1 w2 : World} {g : Nat} {v v2 : Value} {n : Nat} {xs : List Value} (hb : Below w.heap.size w w1) (hg : w1.grownBy w2 v.ownBlock) (hown : w.ownsRow (g + 1) 5 1 v n xs) : Others g w (w2.setCell ⟨g, 2, none⟩ v2) := by
 intro k cs t f hk ho ht
 have hlt := qL ho
 have h1 : w1.heap[k]? = some (.cells cs t f) := (hb.block k hlt).trans ho
 have h2 : w2.heap[k]? = some (.cells cs t f) := by
  refine (hg.block k (qL h1) fun e => ?_).trans h1
  rcases hown.2 with ⟨rfl, _⟩ | ⟨g', cap, cur, rfl, _, hh, _⟩
  ·simp [Value.ownBlock] at e
  ·simp only [Value.ownBlock, Option.some.injEq] at e
   subst e
   rw [ho] at hh
   injection hh with hh
   injection hh with _ hh _
   exact ht hh
 exact (Below.heap_setCell w2 ⟨g, 2, none⟩ v2 k (by simpa using hk)).trans h2
section
variable {G : List Nat} {w0 w w' : World} {L : List (Nat × Obj)} {g : Nat}
theorem Mm.putRow (h : Mm G w0 w L) (hb : Below g w w') (ho : Others g w w') (hg : w0.heap.size ≤ g) (hL : ∀ p ∈ L, p.1 < g ∨ (p.1 ≠ g ∧ ∃ cs t f, p.2 = .cells cs t f ∧ t ≠ 5)) : Mm G w0 w' L := by
 have hk : Keep G w0 w' := (Mm.rH (L := []) ⟨h.1, fun p hp => absurd hp (by simp), by simp⟩ hb (fun p hp => absurd hp (by simp)) hg).1
 refine ⟨hk, fun p hp => ⟨?_, (h.2.1 p hp).2⟩, h.2.2⟩
 rcases hL p hp with h1 | ⟨h1, cs, t, f, e, ht⟩
 ·exact (hb.block p.1 h1).trans (h.2.1 p hp).1
 ·have h3 := (h.2.1 p hp).1
  rw [e] at h3 ⊢
  exact ho p.1 cs t f h1 h3 ht
theorem Mm.SX (h : Mm G w0 w L) {b : Nat} {o : Obj} (ho : w.heap[b]? = some o) (hge : w0.heap.size ≤ b) (hne : ∀ p ∈ L, b ≠ p.1) : Mm G w0 w ((b, o) :: L) := by
 refine ⟨h.1, fun p hp => ?_, ?_⟩
 ·rcases List.mem_cons.1 hp with rfl | hp
  ·exact ⟨ho, .inl hge⟩
  ·exact h.2.1 p hp
 ·rw [List.map_cons, List.pairwise_cons]
  exact ⟨fun q hq => by obtain ⟨p, hp, rfl⟩ := List.mem_map.1 hq; exact hne p hp, h.2.2⟩
end

theorem O6 (g n s : Nat) (big : Bool) (wide : Bool) (l : List UInt8) (hs : s ≤ 8) (hs0 : 0 < s) (hl : l.length ≤ 4294967296) (w : World) (h : je w g wide big l) :
  Calls Tryd.prog 73 #[.pointer (some ⟨g, 0, none⟩), .int .u64 n, .int .i64 s] w fun e w' => e = .returned (.tuple #[]) ∧ je w' g wide big (l ++ dR n s big) ∧ Below g w w' ∧ Others g w w' := by
 obtain ⟨i0, hi, hz0, hz1, hz2⟩ := info_parts w_
 obtain ⟨v, ho, hown⟩ := h
 have c0 : w.cell? ⟨g, 0, none⟩ = some (.bool wide) := fO ho 0
 have c1 : w.cell? ⟨g, 1, none⟩ = some (.bool big) := fO ho 1
 have c2 : w.cell? ⟨g, 2, none⟩ = some v := fO ho 2
 have hf : w.frozen? ⟨g, 2, none⟩ = false := yJ ho 2
 have hlt := qL ho
 have uU : v.ownBlock ≠ some g := by
  rcases hown.2 with ⟨rfl, _⟩ | ⟨g', cap, cur, rfl, hb, _⟩
  ·simp [Value.ownBlock]
  ·simp [Value.ownBlock]; omega
 have hne : ((s : Int) == 0) = false := by rw [beq_eq_false_iff_ne]; omega
 have HO := Lib.hid ho
 have HW := Lib.hid hown
 clear ho hown
 go_enter Tryd.func73, Tryd.ntmps73
 go_wp2_with fail
 go_region_law (first
   | ((refine o_ _ (by rfl) _ _ _ (by rfl) (g + 1) 5 i0 _ 1 1 Tryd.underlying33 hi hz0 hz1 hz2 rfl (by omega) v l.length (l.map Bv) (by rfl) (uQ HW.out hb1 (Nat.le_refl _)) A1 s Fj ((dR n s big).map Bv) (by rfl) (by simp [bK]) hrow1 (sS _) (by unfold maxLen; omega) (by omega) (by omega) ?_; intro v2 w2 hown2 hgrow hat; obtain ⟨A2, cc2, rfl, qQ, hrow2, Fb⟩ := pO hown2; have x2 : w2.cell? ⟨g, 2, none⟩ = some v := (hgrow.cell_far _ hlt1 (Ne.symm uU)).trans d2; have xf : w2.frozen? ⟨g, 2, none⟩ = false := (hgrow.frozen_far _ hlt1 (Ne.symm uU)).trans df; have FV := Lib.hid (wX FW.out hgrow (Ne.symm uU))))
   | ((refine wP (by rfl) 89 _ _ (by rfl) Tryd.func89 (by kernel_rfl) (by kernel_rfl) #[.int .u64 n, .int .i64 s, .bool big] (by rfl) ?_; refine (xk n s big (by omega) _).mono ?_; rintro e w1 ⟨v1, rfl, hown1, hb0⟩; refine ⟨_, rfl, ?_⟩; have hb1 := qR hb0; clear hb0; obtain ⟨A1, Fj, rfl, E8, hrow1, Fe⟩ := pO hown1; have hlt1 : g < w1.heap.size := Nat.lt_of_lt_of_le hlt hb1.size; have d0 : w1.cell? ⟨g, 0, none⟩ = some (.bool wide) := (hb1.cell (p := ⟨g, 0, none⟩) hlt).trans c0; have d1 : w1.cell? ⟨g, 1, none⟩ = some (.bool big) := (hb1.cell (p := ⟨g, 1, none⟩) hlt).trans c1; have d2 : w1.cell? ⟨g, 2, none⟩ = some v := (hb1.cell (p := ⟨g, 2, none⟩) hlt).trans c2; have df : w1.frozen? ⟨g, 2, none⟩ = false := (hb1.frozen (p := ⟨g, 2, none⟩) hlt).trans hf; have FW := Lib.hid (dw HO.out hb1 hlt))))
 all_goals go_wp2
 all_goals go_end0
 all_goals exact ⟨rfl, wS FV.out hown2 (by rw [bK]), wU hb1 hlt hgrow HW.out, Dn hb1 hgrow HW.out⟩

theorem NY (g n : Nat) (big : Bool) (l : List UInt8) (hl : l.length ≤ 4294967296) (w : World) (h : je w g true big l) :
  Calls Tryd.prog 73 #[.pointer (some ⟨g, 0, none⟩), .int .u64 n, .int .i64 0] w fun e w' => e = .returned (.tuple #[]) ∧ je w' g true big (l ++ dR n 8 big) ∧ Below g w w' ∧ Others g w w' := by
 obtain ⟨i0, hi, hz0, hz1, hz2⟩ := info_parts w_
 obtain ⟨v, ho, hown⟩ := h
 have c0 : w.cell? ⟨g, 0, none⟩ = some (.bool true) := fO ho 0
 have c1 : w.cell? ⟨g, 1, none⟩ = some (.bool big) := fO ho 1
 have c2 : w.cell? ⟨g, 2, none⟩ = some v := fO ho 2
 have hf : w.frozen? ⟨g, 2, none⟩ = false := yJ ho 2
 have hlt := qL ho
 have uU : v.ownBlock ≠ some g := by
  rcases hown.2 with ⟨rfl, _⟩ | ⟨g', cap, cur, rfl, hb, _⟩
  ·simp [Value.ownBlock]
  ·simp [Value.ownBlock]; omega
 have HO := Lib.hid ho
 have HW := Lib.hid hown
 clear ho hown
 go_enter Tryd.func73, Tryd.ntmps73
 go_wp2_with fail
 go_region_law (first
   | ((refine o_ _ (by rfl) _ _ _ (by rfl) (g + 1) 5 i0 _ 1 1 Tryd.underlying33 hi hz0 hz1 hz2 rfl (by omega) v l.length (l.map Bv) (by rfl) (uQ HW.out hb1 (Nat.le_refl _)) A1 8 Fj ((dR n 8 big).map Bv) (by rfl) (by simp [bK]) hrow1 (sS _) (by unfold maxLen; omega) (by omega) (by omega) ?_; intro v2 w2 hown2 hgrow hat; obtain ⟨A2, cc2, rfl, qQ, hrow2, Fb⟩ := pO hown2; have x2 : w2.cell? ⟨g, 2, none⟩ = some v := (hgrow.cell_far _ hlt1 (Ne.symm uU)).trans d2; have xf : w2.frozen? ⟨g, 2, none⟩ = false := (hgrow.frozen_far _ hlt1 (Ne.symm uU)).trans df; have FV := Lib.hid (wX FW.out hgrow (Ne.symm uU))))
   | ((refine wP (by rfl) 89 _ _ (by rfl) Tryd.func89 (by kernel_rfl) (by kernel_rfl) #[.int .u64 n, .int .i64 8, .bool big] (by rfl) ?_; refine (xk n 8 big (by omega) _).mono ?_; rintro e w1 ⟨v1, rfl, hown1, hb0⟩; refine ⟨_, rfl, ?_⟩; have hb1 := qR hb0; clear hb0; obtain ⟨A1, Fj, rfl, E8, hrow1, Fe⟩ := pO hown1; have hlt1 : g < w1.heap.size := Nat.lt_of_lt_of_le hlt hb1.size; have d0 : w1.cell? ⟨g, 0, none⟩ = some (.bool true) := (hb1.cell (p := ⟨g, 0, none⟩) hlt).trans c0; have d1 : w1.cell? ⟨g, 1, none⟩ = some (.bool big) := (hb1.cell (p := ⟨g, 1, none⟩) hlt).trans c1; have d2 : w1.cell? ⟨g, 2, none⟩ = some v := (hb1.cell (p := ⟨g, 2, none⟩) hlt).trans c2; have df : w1.frozen? ⟨g, 2, none⟩ = false := (hb1.frozen (p := ⟨g, 2, none⟩) hlt).trans hf; have FW := Lib.hid (dw HO.out hb1 hlt))))
 all_goals go_wp2
 all_goals go_end0
 all_goals exact ⟨rfl, wS FV.out hown2 (by rw [bK]), wU hb1 hlt hgrow HW.out, Dn hb1 hgrow HW.out⟩

theorem NZ (g n : Nat) (big : Bool) (l : List UInt8) (hl : l.length ≤ 4294967296) (w : World) (h : je w g false big l) :
  Calls Tryd.prog 73 #[.pointer (some ⟨g, 0, none⟩), .int .u64 n, .int .i64 0] w fun e w' => e = .returned (.tuple #[]) ∧ je w' g false big (l ++ dR n 4 big) ∧ Below g w w' ∧ Others g w w' := by
 obtain ⟨i0, hi, hz0, hz1, hz2⟩ := info_parts w_
 obtain ⟨v, ho, hown⟩ := h
 have c0 : w.cell? ⟨g, 0, none⟩ = some (.bool false) := fO ho 0
 have c1 : w.cell? ⟨g, 1, none⟩ = some (.bool big) := fO ho 1
 have c2 : w.cell? ⟨g, 2, none⟩ = some v := fO ho 2
 have hf : w.frozen? ⟨g, 2, none⟩ = false := yJ ho 2
 have hlt := qL ho
 have uU : v.ownBlock ≠ some g := by
  rcases hown.2 with ⟨rfl, _⟩ | ⟨g', cap, cur, rfl, hb, _⟩
  ·simp [Value.ownBlock]
  ·simp [Value.ownBlock]; omega
 have HO := Lib.hid ho
 have HW := Lib.hid hown
 clear ho hown
 go_enter Tryd.func73, Tryd.ntmps73
 go_wp2_with fail
 go_region_law (first
   | ((refine o_ _ (by rfl) _ _ _ (by rfl) (g + 1) 5 i0 _ 1 1 Tryd.underlying33 hi hz0 hz1 hz2 rfl (by omega) v l.length (l.map Bv) (by rfl) (uQ HW.out hb1 (Nat.le_refl _)) A1 4 Fj ((dR n 4 big).map Bv) (by rfl) (by simp [bK]) hrow1 (sS _) (by unfold maxLen; omega) (by omega) (by omega) ?_; intro v2 w2 hown2 hgrow hat; obtain ⟨A2, cc2, rfl, qQ, hrow2, Fb⟩ := pO hown2; have x2 : w2.cell? ⟨g, 2, none⟩ = some v := (hgrow.cell_far _ hlt1 (Ne.symm uU)).trans d2; have xf : w2.frozen? ⟨g, 2, none⟩ = false := (hgrow.frozen_far _ hlt1 (Ne.symm uU)).trans df; have FV := Lib.hid (wX FW.out hgrow (Ne.symm uU))))
   | ((refine wP (by rfl) 89 _ _ (by rfl) Tryd.func89 (by kernel_rfl) (by kernel_rfl) #[.int .u64 n, .int .i64 4, .bool big] (by rfl) ?_; refine (xk n 4 big (by omega) _).mono ?_; rintro e w1 ⟨v1, rfl, hown1, hb0⟩; refine ⟨_, rfl, ?_⟩; have hb1 := qR hb0; clear hb0; obtain ⟨A1, Fj, rfl, E8, hrow1, Fe⟩ := pO hown1; have hlt1 : g < w1.heap.size := Nat.lt_of_lt_of_le hlt hb1.size; have d0 : w1.cell? ⟨g, 0, none⟩ = some (.bool false) := (hb1.cell (p := ⟨g, 0, none⟩) hlt).trans c0; have d1 : w1.cell? ⟨g, 1, none⟩ = some (.bool big) := (hb1.cell (p := ⟨g, 1, none⟩) hlt).trans c1; have d2 : w1.cell? ⟨g, 2, none⟩ = some v := (hb1.cell (p := ⟨g, 2, none⟩) hlt).trans c2; have df : w1.frozen? ⟨g, 2, none⟩ = false := (hb1.frozen (p := ⟨g, 2, none⟩) hlt).trans hf; have FW := Lib.hid (dw HO.out hb1 hlt))))
 all_goals go_wp2
 all_goals go_end0
 all_goals exact ⟨rfl, wS FV.out hown2 (by rw [bK]), wU hb1 hlt hgrow HW.out, Dn hb1 hgrow HW.out⟩

/-- put, at every size (0: that of an address) -/
theorem yI (g n s : Nat) (big : Bool) (wide : Bool) (l : List UInt8) (hs : s ≤ 8) (hl : l.length ≤ 4294967296) (w : World) (h : je w g wide big l) :
  Calls Tryd.prog 73 #[.pointer (some ⟨g, 0, none⟩), .int .u64 n, .int .i64 s] w fun e w' => e = .returned (.tuple #[]) ∧ je w' g wide big (l ++ dR n (jw wide s) big) ∧ Below g w w' ∧ Others g w w' := by
 by_cases h0 : s = 0
 ·subst h0
  cases wide with
  | true => exact NY g n big l hl w h
  | false => exact NZ g n big l hl w h
 ·have e : jw wide s = s := if_neg h0
  rw [e]
  exact O6 g n s big wide l hs (by omega) hl w h
end Go.Proofs.YtdgehpocmfjbiaaDoor
namespace Go.Proofs.YtdgehpocmfjbiaaDoor
open Go.RowKit

abbrev jE := fun (A : Option Addr) (ts : List (List UInt8)) (c : Nat) => ([(0, .slice A ts.length c), (8, .slice A ts.length c), (9, ay ts.length)] : Slots)
theorem vw (ts : List (List UInt8)) (A : Option Addr) (c : Nat) (w0 : World) (hrt : Row w0 A (ts.map lq)) : Calls Tryd.prog 46 #[.slice A ts.length c] w0 fun e w' => ∃ b, e = .returned (.bool b) ∧ Below w0.heap.size w0 w' ∧ (b = true → ts.length ≤ 1024 ∧ ∀ s ∈ ts, yZ s) := by
 obtain ⟨w, hw⟩ : ∃ w, w0 = w := ⟨_, rfl⟩
 have HM : Mm [] w0 w [] := hw ▸ Mm.start w0
 conv => arg 4; rw [hw]
 clear hw
 refine cu Tryd.func46 rfl Tryd.ntmps46 [(0, .slice A ts.length c)] (by kernel_rfl) (Nat.le_of_ble_eq_true rfl) ?_
 intro a HF
 refine aO ?_
 refine wp_pure HF HM rfl 1 [] [(0, .slice A ts.length c)] (by kernel_rfl) fun a HF => ?_
 refine aA ?_
 refine wp_seq ?_
 refine aO ?_
 refine wp_pure HF HM rfl 3 [] [(0, .slice A ts.length c), (7, .bool (decide (1024 < ((ts.length : Nat) : Int))))] (by kernel_rfl) fun a HF => ?_
 refine aA ?_
 by_cases hc1 : 1024 < ((ts.length : Nat) : Int)
 ·rw [show decide (1024 < ((ts.length : Nat) : Int)) = true from dK (hc1)] at HF
  refine bD HF rfl ?_
  refine aO ?_
  refine wp_pure HF HM rfl 1 [] [(2, .bool false)] (by kernel_rfl) fun a HF => ?_
  refine aA ?_
  refine wp_ret ?_
  repeat first | refine bJ ?_ | refine bM ?_
  exact bQ HF rfl rfl ⟨false, rfl, HM.below, fun h => by cases h⟩
 rw [show decide (1024 < ((ts.length : Nat) : Int)) = false from cZ (hc1)] at HF
 refine aY HF rfl ?_
 refine wp_skip ?_
 repeat first | refine aK ?_ | refine aP ?_
 refine wp_seq ?_
 refine aO ?_
 refine wp_pure HF HM rfl 3 [] ((jE A ts c) ++ [(10, aF 0)]) (by kernel_rfl) fun a HF => ?_
 refine aA ?_
 refine wp_block ?_
 refine kC (ts.length) (fun i a w => ((∀ j m, j < i → ts[j]? = some m → yZ m) ∧ Mm [] w0 w [] ∧ Fr 26 a ((jE A ts c) ++ [(10, ay i)]))) ?_ ?_ ?_
 ·exact ⟨fun j m hj => absurd hj (Nat.not_lt_zero j), HM, HF.sub ((jE A ts c) ++ [(10, aF 0)]) (by kernel_rfl)⟩
 ·intro i a w KX hi hI KR
  obtain ⟨htx, HM, HF⟩ := hI
  refine aO ?_
  refine wp_pure HF HM rfl 1 [] ((jE A ts c) ++ [(10, ay i), (11, .bool (decide (((i : Nat) : Int) < ((ts.length : Nat) : Int))))]) (by kernel_rfl) fun a HF => ?_
  refine aA ?_
  refine wp_seq ?_
  rw [show decide (((i : Nat) : Int) < ((ts.length : Nat) : Int)) = true from dK (by omega)] at HF
  refine bD HF rfl ?_
  refine wp_skip ?_
  repeat first | refine aK ?_ | refine aP ?_
  refine wp_seq ?_
  refine wp_block ?_
  refine aO ?_
  obtain ⟨wo, IL⟩ : ∃ m, ts[i]? = some m := ⟨_, List.getElem?_eq_getElem (by omega)⟩
  refine dG HF (by kernel_rfl) (.pointer (Option.map (fun q : Addr => q.add (i * 1)) A)) (by kernel_rfl) (fD Tryd.underlying38 (by kernel_rfl) rfl i rfl rfl (by omega) (ji (kU (HM.row hrt) i IL) (Nat.zero_lt_succ _))) fun a HF => ?_
  refine dG HF (by kernel_rfl) (.string (⟨wo.toArray⟩)) (by kernel_rfl) (lI rfl rfl (kU (HM.row hrt) i IL) (by kernel_rfl)) fun a HF => ?_
  refine wp_pure HF HM rfl 1 [] [(0, .slice A ts.length c), (4, .string (⟨wo.toArray⟩)), (8, .slice A ts.length c), (9, ay ts.length), (10, ay i)] (by kernel_rfl) fun a HF => ?_
  refine dF ?_
  refine wp_pure HF HM rfl 4 [] [(0, .slice A ts.length c), (4, .string (⟨wo.toArray⟩)), (8, .slice A ts.length c), (9, ay ts.length), (10, ay i), (17, .bool (decide (1024 < ((wo.length : Nat) : Int))))] (by kernel_rfl) fun a HF => ?_
  by_cases hc3 : 1024 < ((wo.length : Nat) : Int)
  ·rw [show decide (1024 < ((wo.length : Nat) : Int)) = true from dK (hc3)] at HF
   refine wp_pure HF HM rfl 4 [] ((jE A ts c) ++ [(10, ay i), (21, .bool true)]) (by kernel_rfl) fun a HF => ?_
   refine aA ?_
   refine bD HF rfl ?_
   refine aO ?_
   refine wp_pure HF HM rfl 1 [] [(2, .bool false)] (by kernel_rfl) fun a HF => ?_
   refine aA ?_
   refine wp_ret ?_
   repeat first | refine bJ ?_ | refine bM ?_
   exact bQ HF rfl rfl ⟨false, rfl, HM.below, fun h => by cases h⟩
  rw [show decide (1024 < ((wo.length : Nat) : Int)) = false from cZ (hc3)] at HF
  refine wp_pure HF HM rfl 1 [] ((jE A ts c) ++ [(10, ay i), (17, .bool false), (18, .string (⟨wo.toArray⟩))]) (by kernel_rfl) fun a HF => ?_
  refine bf HF (by kernel_rfl) 53 #[.string (⟨wo.toArray⟩)] (by kernel_rfl) (fun w => by kernel_rfl) (Calls.mono (Ig wo (by omega) w) ?_)
  rintro _ w1 ⟨rfl, hq⟩
  replace hq := hq.symm; subst hq
  refine ⟨_, rfl, ?_⟩; clear HF; intro a HF
  replace HF := HF.sub ((jE A ts c) ++ [(10, ay i), (17, .bool false), (19, .bool (decide (0 ∉ wo)))]) (by kernel_rfl)
  by_cases hc4 : 0 ∉ wo
  ·rw [show decide (0 ∉ wo) = true from dK (hc4)] at HF
   refine wp_pure HF HM rfl 2 [] ((jE A ts c) ++ [(10, ay i), (21, .bool false)]) (by kernel_rfl) fun a HF => ?_
   refine aA ?_
   refine aY HF rfl ?_
   refine wp_skip ?_
   repeat first | refine aK ?_ | refine aP ?_
   refine wp_region_lit ?_
   refine wp_pure HF HM rfl 1 [] ((jE A ts c) ++ [(22, aF (IntKind.i64.wrap (((i : Nat) : Int) + 1)))]) (by kernel_rfl) fun a HF => ?_
   rw [show IntKind.i64.wrap (((i : Nat) : Int) + 1) = (((i + 1) : Nat) : Int) from (IntWalk.i64_in _ (by omega)).trans (by omega)] at HF
   refine wp_pure HF HM rfl 1 [] ((jE A ts c) ++ [(10, ay (i + 1))]) (by kernel_rfl) fun a HF => ?_
   refine wpList_nil ?_
   repeat first | refine aK ?_ | refine aP ?_
   exact KR _ _ (⟨fun j m hj hm => (Nat.lt_or_ge j i).elim (fun g => htx j m g hm) (fun g => by obtain rfl : j = i := (by omega); rw [IL] at hm; obtain rfl := Option.some.inj hm; exact ⟨by omega, by assumption⟩), HM, HF.sub ((jE A ts c) ++ [(10, ay (i + 1))]) (by kernel_rfl)⟩)
  rw [show decide (0 ∉ wo) = false from cZ (hc4)] at HF
  refine wp_pure HF HM rfl 2 [] ((jE A ts c) ++ [(10, ay i), (21, .bool true)]) (by kernel_rfl) fun a HF => ?_
  refine aA ?_
  refine bD HF rfl ?_
  refine aO ?_
  refine wp_pure HF HM rfl 1 [] [(2, .bool false)] (by kernel_rfl) fun a HF => ?_
  refine aA ?_
  refine wp_ret ?_
  repeat first | refine bJ ?_ | refine bM ?_
  exact bQ HF rfl rfl ⟨false, rfl, HM.below, fun h => by cases h⟩
 ·intro a w KX hI
  obtain ⟨htx, HM, HF⟩ := hI
  refine aO ?_
  refine wp_pure HF HM rfl 1 [] ((jE A ts c) ++ [(10, ay ts.length), (11, .bool (decide (((ts.length : Nat) : Int) < ((ts.length : Nat) : Int))))]) (by kernel_rfl) fun a HF => ?_
  refine aA ?_
  refine wp_seq ?_
  rw [show decide (((ts.length : Nat) : Int) < ((ts.length : Nat) : Int)) = false from cZ (by omega)] at HF
  refine aY HF rfl ?_
  refine wp_exit ?_
  repeat (first | refine eH ?_ | refine dY rfl ?_)
  refine gZ ?_
  repeat first | refine aK ?_ | refine aP ?_
  refine aO ?_
  refine wp_pure HF HM rfl 4 [] [(2, .bool (decide (((ts.length : Nat) : Int) ≤ 1024)))] (by kernel_rfl) fun a HF => ?_
  refine aA ?_
  refine wp_ret ?_
  repeat first | refine bJ ?_ | refine bM ?_
  exact bQ HF rfl rfl ⟨_, rfl, HM.below, fun _ => ⟨by omega, fun m hm => (List.getElem?_of_mem hm).elim fun j hj => htx j m (List.getElem?_eq_some_iff.1 hj).1 hj⟩⟩

abbrev pW := fun z1 (x : b_) => ((z1, .cells #[.bool x.wide, .bool x.big, aX x.abi, aX x.aH, .int .i64 x.ty, .int .i64 x.machine, aI x.entry, .slice x.A x.ss.length x.c, .slice x.B x.ps.length x.d] 26 (0, 0)) : Nat × Obj)
abbrev gy := fun (tg : Int) z1 (A : Option Addr) (l : List fK) (c : Nat) => ([(1, .int .i64 tg), (3, aB z1), (12, .slice A l.length c), (13, ay l.length)] : Slots)
abbrev su := fun (tg : Int) z1 z6 (A : Option Addr) (l : List fK) (c : Nat) i => ([(1, .int .i64 tg), (3, aB z1), (8, aB z6), (12, .slice A l.length c), (13, ay l.length), (14, ay i)] : Slots)
theorem qH (x : b_) (tg : Int) (l : List fK) (A : Option Addr) (c : Nat) (w0 : World) (hr : Row w0 A (l.flatMap fK.cells)) : Calls Tryd.prog 42 #[x.val, .int .i64 tg, .slice A l.length c] w0 fun e w' => ∃ b, e = .returned (.bool b) ∧ Below w0.heap.size w0 w' ∧ (b = true → l.length ≤ 1024 ∧ ∀ m ∈ l, fK.Ok x.wide tg m) := by
 obtain ⟨w, hw⟩ : ∃ w, w0 = w := ⟨_, rfl⟩
 have HM : Mm [] w0 w [] := hw ▸ Mm.start w0
 conv => arg 4; rw [hw]
 clear hw
 refine cu Tryd.func42 rfl Tryd.ntmps42 [(0, .agg #[.bool x.wide, .bool x.big, aX x.abi, aX x.aH, .int .i64 x.ty, .int .i64 x.machine, aI x.entry, .slice x.A x.ss.length x.c, .slice x.B x.ps.length x.d]), (1, .int .i64 tg), (2, .slice A l.length c)] (by kernel_rfl) (Nat.le_of_ble_eq_true rfl) ?_
 intro a HF
 refine aO ?_
 obtain ⟨z1, hz1⟩ : ∃ z, w.heap.size = z := ⟨_, rfl⟩
 refine aT HF HM hz1 2 [] [(1, .int .i64 tg), (2, .slice A l.length c), (3, aB z1)] [pW z1 x] (by kernel_rfl) fun a w HF HM => ?_
 clear hz1
 refine aA ?_
 refine wp_seq ?_
 refine aO ?_
 refine wp_pure HF HM rfl 3 [] [(1, .int .i64 tg), (2, .slice A l.length c), (3, aB z1), (11, .bool (decide (1024 < ((l.length : Nat) : Int))))] (by kernel_rfl) fun a HF => ?_
 refine aA ?_
 by_cases hc1 : 1024 < ((l.length : Nat) : Int)
 ·rw [show decide (1024 < ((l.length : Nat) : Int)) = true from dK (hc1)] at HF
  refine bD HF rfl ?_
  refine aO ?_
  refine wp_pure HF HM rfl 1 [] [(6, .bool false)] (by kernel_rfl) fun a HF => ?_
  refine aA ?_
  refine wp_ret ?_
  repeat first | refine bJ ?_ | refine bM ?_
  exact bQ HF rfl rfl ⟨false, rfl, HM.below, fun h => by cases h⟩
 rw [show decide (1024 < ((l.length : Nat) : Int)) = false from cZ (hc1)] at HF
 refine aY HF rfl ?_
 refine wp_skip ?_
 repeat first | refine aK ?_ | refine aP ?_
 refine wp_seq ?_
 refine aO ?_
 refine wp_pure HF HM rfl 3 [] ((gy tg z1 A l c) ++ [(14, aF 0)]) (by kernel_rfl) fun a HF => ?_
 refine aA ?_
 refine wp_block ?_
 refine kC (l.length) (fun i a w => ((∀ j m, j < i → l[j]? = some m → fK.Ok x.wide tg m) ∧ Mm [] w0 w [pW z1 x] ∧ Fr 41 a ((gy tg z1 A l c) ++ [(14, ay i)]))) ?_ ?_ ?_
 ·exact ⟨fun j m hj => absurd hj (Nat.not_lt_zero j), HM, HF.sub ((gy tg z1 A l c) ++ [(14, aF 0)]) (by kernel_rfl)⟩
 ·intro i a w KX hi hI KR
  obtain ⟨hent, HM, HF⟩ := hI
  refine aO ?_
  refine wp_pure HF HM rfl 1 [] ((gy tg z1 A l c) ++ [(14, ay i), (15, .bool (decide (((i : Nat) : Int) < ((l.length : Nat) : Int))))]) (by kernel_rfl) fun a HF => ?_
  refine aA ?_
  refine wp_seq ?_
  rw [show decide (((i : Nat) : Int) < ((l.length : Nat) : Int)) = true from dK (by omega)] at HF
  refine bD HF rfl ?_
  refine wp_skip ?_
  repeat first | refine aK ?_ | refine aP ?_
  refine wp_seq ?_
  refine wp_block ?_
  refine aO ?_
  obtain ⟨vX, QE⟩ : ∃ m, l[i]? = some m := ⟨_, List.getElem?_eq_getElem (by omega)⟩
  refine dG HF (by kernel_rfl) (.pointer (Option.map (fun q : Addr => q.add (i * 2)) A)) (by kernel_rfl) (fD Tryd.underlying81 (by kernel_rfl) rfl i rfl rfl (by omega) (ji (ku (f := fK.cells) (k := 2) (fun _ => rfl) (HM.row hr) i QE) (Nat.zero_lt_succ _))) fun a HF => ?_
  refine dG HF (by kernel_rfl) (.agg #[.int .i64 vX.tag, aI vX.val]) (by kernel_rfl) (lJ rfl rfl (ku (f := fK.cells) (k := 2) (fun _ => rfl) (HM.row hr) i QE) (Nat.zero_lt_succ _) Tryd.underlying85 rfl (by kernel_rfl)) fun a HF => ?_
  obtain ⟨z6, EX⟩ : ∃ z, w.heap.size = z := ⟨_, rfl⟩
  refine aT HF HM EX 2 [[1]] (su tg z1 z6 A l c i) [(z6, .cells #[.int .i64 vX.tag, aI vX.val] 85 (0, 0)), pW z1 x] (by kernel_rfl) fun a w HF HM => ?_
  clear EX
  refine dF ?_
  refine wp_pure HF HM rfl 4 [[1]] ((su tg z1 z6 A l c i) ++ [(21, .bool (decide (vX.tag < 1)))]) (by kernel_rfl) fun a HF => ?_
  by_cases hc3 : vX.tag < 1
  ·rw [show decide (vX.tag < 1) = true from dK (hc3)] at HF
   refine wp_pure HF HM rfl 18 [] ((gy tg z1 A l c) ++ [(14, ay i), (39, .bool true)]) (by kernel_rfl) fun a HF => ?_
   refine aA ?_
   refine bD HF rfl ?_
   refine aO ?_
   refine wp_pure HF HM rfl 1 [] [(6, .bool false)] (by kernel_rfl) fun a HF => ?_
   refine aA ?_
   refine wp_ret ?_
   repeat first | refine bJ ?_ | refine bM ?_
   exact bQ HF rfl rfl ⟨false, rfl, HM.below, fun h => by cases h⟩
  rw [show decide (vX.tag < 1) = false from cZ (hc3)] at HF
  refine wp_pure HF HM rfl 5 [[1]] ((su tg z1 z6 A l c i) ++ [(26, .bool (decide (2147483648 ≤ vX.tag)))]) (by kernel_rfl) fun a HF => ?_
  by_cases hc4 : 2147483648 ≤ vX.tag
  ·rw [show decide (2147483648 ≤ vX.tag) = true from dK (hc4)] at HF
   refine wp_pure HF HM rfl 13 [] ((gy tg z1 A l c) ++ [(14, ay i), (39, .bool true)]) (by kernel_rfl) fun a HF => ?_
   refine aA ?_
   refine bD HF rfl ?_
   refine aO ?_
   refine wp_pure HF HM rfl 1 [] [(6, .bool false)] (by kernel_rfl) fun a HF => ?_
   refine aA ?_
   refine wp_ret ?_
   repeat first | refine bJ ?_ | refine bM ?_
   exact bQ HF rfl rfl ⟨false, rfl, HM.below, fun h => by cases h⟩
  rw [show decide (2147483648 ≤ vX.tag) = false from cZ (hc4)] at HF
  refine wp_pure HF HM rfl 6 [[1]] ((su tg z1 z6 A l c i) ++ [(32, .bool (vX.tag == tg))]) (by kernel_rfl) fun a HF => ?_
  by_cases hc5 : vX.tag = tg
  ·rw [show (vX.tag == tg) = true from nZ (hc5)] at HF
   refine wp_pure HF HM rfl 7 [] ((gy tg z1 A l c) ++ [(14, ay i), (39, .bool true)]) (by kernel_rfl) fun a HF => ?_
   refine aA ?_
   refine bD HF rfl ?_
   refine aO ?_
   refine wp_pure HF HM rfl 1 [] [(6, .bool false)] (by kernel_rfl) fun a HF => ?_
   refine aA ?_
   refine wp_ret ?_
   repeat first | refine bJ ?_ | refine bM ?_
   exact bQ HF rfl rfl ⟨false, rfl, HM.below, fun h => by cases h⟩
  rw [show (vX.tag == tg) = false from oM (hc5)] at HF
  obtain ⟨zk, EY⟩ : ∃ z, w.heap.size = z := ⟨_, rfl⟩
  refine aT HF HM EY 4 [[0], [1]] ((gy tg z1 A l c) ++ [(14, ay i), (32, .bool false), (33, .agg #[.bool x.wide, .bool x.big, aX x.abi, aX x.aH, .int .i64 x.ty, .int .i64 x.machine, aI x.entry, .slice x.A x.ss.length x.c, .slice x.B x.ps.length x.d]), (36, aC zk 1 1)]) [(zk, .cells #[aI vX.val] 22 (0, 0)), (z6, .cells #[.int .i64 vX.tag, aI vX.val] 85 (0, 0)), pW z1 x] (by kernel_rfl) fun a w HF HM => ?_
  clear EY
  refine bf HF (by kernel_rfl) 52 #[.agg #[.bool x.wide, .bool x.big, aX x.abi, aX x.aH, .int .i64 x.ty, .int .i64 x.machine, aI x.entry, .slice x.A x.ss.length x.c, .slice x.B x.ps.length x.d], aC zk 1 1] (by kernel_rfl) (fun w => by kernel_rfl) (Calls.mono (fits_any x.wide _ _ _ _ _ _ _ _ [vX.val] _ _ _ rfl (by simp) w (HM.rowAt (i := 0) rfl)) ?_)
  rintro _ w1 ⟨rfl, hb⟩
  replace HM := HM.call hb
  clear hb
  refine ⟨_, rfl, ?_⟩; clear HF; intro a HF
  replace HF := HF.sub ((gy tg z1 A l c) ++ [(14, ay i), (32, .bool false), (37, .bool (lY x.wide [vX.val]))]) (by kernel_rfl)
  rcases dZ (lY x.wide [vX.val]) with hc6 | hc6
  ·replace HF := Fr.sub (Fr.tell HF 37 rfl (congrArg Value.bool hc6)) ((gy tg z1 A l c) ++ [(14, ay i), (32, .bool false), (37, .bool false)]) (by kernel_rfl)
   refine wp_pure HF HM rfl 2 [] ((gy tg z1 A l c) ++ [(14, ay i), (39, .bool true)]) (by kernel_rfl) fun a HF => ?_
   refine aA ?_
   refine bD HF rfl ?_
   refine aO ?_
   refine wp_pure HF HM rfl 1 [] [(6, .bool false)] (by kernel_rfl) fun a HF => ?_
   refine aA ?_
   refine wp_ret ?_
   repeat first | refine bJ ?_ | refine bM ?_
   exact bQ HF rfl rfl ⟨false, rfl, HM.below, fun h => by cases h⟩
  replace HF := Fr.sub (Fr.tell HF 37 rfl (congrArg Value.bool hc6)) ((gy tg z1 A l c) ++ [(14, ay i), (32, .bool false), (37, .bool true)]) (by kernel_rfl)
  refine wp_pure HF HM rfl 2 [] ((gy tg z1 A l c) ++ [(14, ay i), (39, .bool false)]) (by kernel_rfl) fun a HF => ?_
  refine aA ?_
  refine aY HF rfl ?_
  refine wp_skip ?_
  repeat first | refine aK ?_ | refine aP ?_
  refine wp_region_lit ?_
  refine wp_pure HF HM rfl 1 [] ((gy tg z1 A l c) ++ [(40, aF (IntKind.i64.wrap (((i : Nat) : Int) + 1)))]) (by kernel_rfl) fun a HF => ?_
  rw [show IntKind.i64.wrap (((i : Nat) : Int) + 1) = (((i + 1) : Nat) : Int) from (IntWalk.i64_in _ (by omega)).trans (by omega)] at HF
  refine wp_pure HF HM rfl 1 [] ((gy tg z1 A l c) ++ [(14, ay (i + 1))]) (by kernel_rfl) fun a HF => ?_
  refine wpList_nil ?_
  repeat first | refine aK ?_ | refine aP ?_
  exact KR _ _ (⟨fun j m hj hm => (Nat.lt_or_ge j i).elim (fun g => hent j m g hm) (fun g => by obtain rfl : j = i := (by omega); rw [QE] at hm; obtain rfl := Option.some.inj hm; exact ⟨by omega, by omega, by assumption, by assumption⟩), (HM.pick [2] [pW z1 x] rfl (by decide)), HF.sub ((gy tg z1 A l c) ++ [(14, ay (i + 1))]) (by kernel_rfl)⟩)
 ·intro a w KX hI
  obtain ⟨hent, HM, HF⟩ := hI
  refine aO ?_
  refine wp_pure HF HM rfl 1 [] ((gy tg z1 A l c) ++ [(14, ay l.length), (15, .bool (decide (((l.length : Nat) : Int) < ((l.length : Nat) : Int))))]) (by kernel_rfl) fun a HF => ?_
  refine aA ?_
  refine wp_seq ?_
  rw [show decide (((l.length : Nat) : Int) < ((l.length : Nat) : Int)) = false from cZ (by omega)] at HF
  refine aY HF rfl ?_
  refine wp_exit ?_
  repeat (first | refine eH ?_ | refine dY rfl ?_)
  refine gZ ?_
  repeat first | refine aK ?_ | refine aP ?_
  refine aO ?_
  refine wp_pure HF HM rfl 1 [] [(6, .bool true)] (by kernel_rfl) fun a HF => ?_
  refine aA ?_
  refine wp_ret ?_
  repeat first | refine bJ ?_ | refine bM ?_
  exact bQ HF rfl rfl ⟨true, rfl, HM.below, fun _ => ⟨by omega, fun m hm => (List.getElem?_of_mem hm).elim fun j hj => hent j m (List.getElem?_eq_some_iff.1 hj).1 hj⟩⟩

end Go.Proofs.YtdgehpocmfjbiaaDoor
namespace Go.Proofs.YtdgehpocmfjbiaaDoor
open Go.RowKit

end Go.Proofs.YtdgehpocmfjbiaaDoor
namespace Go.Proofs.YtdgehpocmfjbiaaDoor
open Go.RowKit

/-- an image with two more parts ahead of the others -/
def b_.more (x : b_) (p q : dP) (g cap : Nat) : b_ := ⟨x.wide, x.big, x.abi, x.aH, x.ty, x.machine, x.entry, x.ss, x.A, x.c, p :: q :: x.ps, some ⟨g, 0, none⟩, cap⟩
theorem b_.RS {x : b_} {w : World} {p q : dP} {g cap : Nat} (h : x.At w) (hp : p.At w) (hq : q.At w) (hr : Row w (some ⟨g, 0, none⟩) ((p :: q :: x.ps).flatMap dP.cells)) (h1 : x.ps.length + 2 ≤ cap) (h2 : cap ≤ maxLen) : (x.more p q g cap).At w where
 dA := h.dA
 parts := hr
 seg := h.seg
 part := fun m hm => by
  have hm' : m ∈ p :: q :: x.ps := hm
  rcases List.mem_cons.1 hm' with rfl | hm'
  ·exact hp
  ·rcases List.mem_cons.1 hm' with rfl | hm'
   ·exact hq
   ·exact h.part m hm'
 c1 := h.c1
 c2 := h.c2
 d1 := by show (p :: q :: x.ps).length ≤ cap; simp only [List.length_cons]; omega
 d2 := h2
 abi := h.abi
 aH := h.aH
 entry := h.entry
theorem b_.Ag {x : b_} {p q : dP} {g cap : Nat} (ok : x.Ok) (hf : x.ps.length ≤ 100) (hp : dP.Ok x.wide p) (hq : dP.Ok x.wide q) : (x.more p q g cap).Ok where
 J7 := ok.J7
 J6 := ok.J6
 mc0 := ok.mc0
 mc1 := ok.mc1
 fit := ok.fit
 dA := ok.dA
 parts := by show (p :: q :: x.ps).length ≤ 102; simp only [List.length_cons]; omega
 seg := ok.seg
 part := fun m hm => by
  have hm' : m ∈ p :: q :: x.ps := hm
  rcases List.mem_cons.1 hm' with rfl | hm'
  ·exact hp
  ·rcases List.mem_cons.1 hm' with rfl | hm'
   ·exact hq
   ·exact ok.part m hm'
end Go.Proofs.YtdgehpocmfjbiaaDoor
namespace Go.Proofs.YtdgehpocmfjbiaaDoor
open Go.RowKit

abbrev iL := fun (A1 : Option Addr) (l : List (List UInt8)) (c1 : Nat) (A2 : Option Addr) (c2 : Nat) => ([(0, .slice A1 l.length c1), (1, .slice A2 l.length c2)] : Slots)
theorem uN (l : List (List UInt8)) (A1 A2 : Option Addr) (c1 c2 : Nat) (hn : l.length ≤ 1000000) (w0 : World) (r1 : Row w0 A1 (l.map lq)) (r2 : Row w0 A2 (l.map lq)) : Calls Tryd.prog 29 #[.slice A1 l.length c1, .slice A2 l.length c2] w0 fun e w' => e = .returned (.bool true) ∧ Below w0.heap.size w0 w' := by
 obtain ⟨w, hw⟩ : ∃ w, w0 = w := ⟨_, rfl⟩
 have HM : Mm [] w0 w [] := hw ▸ Mm.start w0
 conv => arg 4; rw [hw]
 clear hw
 refine cu Tryd.func29 rfl Tryd.ntmps29 (iL A1 l c1 A2 c2) (by kernel_rfl) (Nat.le_of_ble_eq_true rfl) ?_
 intro a HF
 refine aO ?_
 refine wp_pure HF HM rfl 1 [] (iL A1 l c1 A2 c2) (by kernel_rfl) fun a HF => ?_
 refine aA ?_
 refine wp_seq ?_
 refine aO ?_
 refine wp_pure HF HM rfl 5 [] ((iL A1 l c1 A2 c2) ++ [(10, .bool (((l.length : Nat) : Int) != ((l.length : Nat) : Int)))]) (by kernel_rfl) fun a HF => ?_
 refine aA ?_
 rw [show (((l.length : Nat) : Int) != ((l.length : Nat) : Int)) = false from yS (fun hq => hq rfl)] at HF
 refine aY HF rfl ?_
 refine wp_skip ?_
 repeat first | refine aK ?_ | refine aP ?_
 refine wp_seq ?_
 refine aO ?_
 refine wp_pure HF HM rfl 3 [] ((iL A1 l c1 A2 c2) ++ [(12, ay l.length), (13, aF 0)]) (by kernel_rfl) fun a HF => ?_
 refine aA ?_
 refine wp_block ?_
 refine kC (l.length) (fun i a w => (Mm [] w0 w [] ∧ Fr 26 a ((iL A1 l c1 A2 c2) ++ [(12, ay l.length), (13, ay i)]))) ?_ ?_ ?_
 ·exact ⟨HM, HF.sub ((iL A1 l c1 A2 c2) ++ [(12, ay l.length), (13, aF 0)]) (by kernel_rfl)⟩
 ·intro i a w KX hi hI KR
  obtain ⟨HM, HF⟩ := hI
  refine aO ?_
  refine wp_pure HF HM rfl 1 [] ((iL A1 l c1 A2 c2) ++ [(12, ay l.length), (13, ay i), (14, .bool (decide (((i : Nat) : Int) < ((l.length : Nat) : Int))))]) (by kernel_rfl) fun a HF => ?_
  refine aA ?_
  refine wp_seq ?_
  rw [show decide (((i : Nat) : Int) < ((l.length : Nat) : Int)) = true from dK (by omega)] at HF
  refine bD HF rfl ?_
  refine wp_skip ?_
  repeat first | refine aK ?_ | refine aP ?_
  refine wp_seq ?_
  refine wp_block ?_
  refine aO ?_
  refine wp_pure HF HM rfl 2 [] ((iL A1 l c1 A2 c2) ++ [(5, ay i), (12, ay l.length), (13, ay i)]) (by kernel_rfl) fun a HF => ?_
  refine aA ?_
  refine vF (by kernel_rfl) (by kernel_rfl) ?_
  refine oU HF HM rfl 2 [] ((iL A1 l c1 A2 c2) ++ [(5, ay i), (12, ay l.length), (13, ay i), (16, .slice A1 l.length c1), (17, ay i)]) (by kernel_rfl) fun a HF => ?_
  obtain ⟨m1, hm1⟩ : ∃ m, l[i]? = some m := ⟨_, List.getElem?_eq_getElem (by omega)⟩
  refine sU HF rfl (.pointer (Option.map (fun q : Addr => q.add (i * 1)) A1)) (by kernel_rfl) (fun j => fD Tryd.underlying38 (by kernel_rfl) rfl i rfl rfl (by omega) (ji (kU (HM.row r1) i hm1) (Nat.zero_lt_succ _))) fun a HF => ?_
  refine sU HF rfl (.string (⟨m1.toArray⟩)) (by kernel_rfl) (fun j => lI rfl rfl (Bj (kU (HM.row r1) i hm1) j) (by kernel_rfl)) fun a HF => ?_
  refine oU HF HM rfl 2 [] ((iL A1 l c1 A2 c2) ++ [(12, ay l.length), (13, ay i), (19, .string (⟨m1.toArray⟩)), (20, .slice A2 l.length c2), (21, ay i)]) (by kernel_rfl) fun a HF => ?_
  refine sU HF rfl (.pointer (Option.map (fun q : Addr => q.add (i * 1)) A2)) (by kernel_rfl) (fun j => fD Tryd.underlying38 (by kernel_rfl) rfl i rfl rfl (by omega) (ji (kU (HM.row r2) i hm1) (Nat.zero_lt_succ _))) fun a HF => ?_
  refine sU HF rfl (.string (⟨m1.toArray⟩)) (by kernel_rfl) (fun j => lI rfl rfl (Bj (kU (HM.row r2) i hm1) j) (by kernel_rfl)) fun a HF => ?_
  refine oU HF HM rfl 1 [] ((iL A1 l c1 A2 c2) ++ [(12, ay l.length), (13, ay i), (24, .bool (((⟨m1.toArray⟩ : ByteArray).toList) != ((⟨m1.toArray⟩ : ByteArray).toList)))]) (by kernel_rfl) fun a HF => ?_
  refine wR ?_
  rintro w1 ⟨nq, hq⟩
  replace HM : Mm [] w0 w1 [] := by rw [hq]; exact HM.drewN nq
  clear hq nq
  rw [show (((⟨m1.toArray⟩ : ByteArray).toList) != ((⟨m1.toArray⟩ : ByteArray).toList)) = false from yS (fun hq => hq rfl)] at HF
  refine aY HF rfl ?_
  refine wp_skip ?_
  repeat first | refine aK ?_ | refine aP ?_
  refine wp_region_lit ?_
  refine wp_pure HF HM rfl 1 [] ((iL A1 l c1 A2 c2) ++ [(12, ay l.length), (25, aF (IntKind.i64.wrap (((i : Nat) : Int) + 1)))]) (by kernel_rfl) fun a HF => ?_
  rw [show IntKind.i64.wrap (((i : Nat) : Int) + 1) = (((i + 1) : Nat) : Int) from (IntWalk.i64_in _ (by omega)).trans (by omega)] at HF
  refine wp_pure HF HM rfl 1 [] ((iL A1 l c1 A2 c2) ++ [(12, ay l.length), (13, ay (i + 1))]) (by kernel_rfl) fun a HF => ?_
  refine wpList_nil ?_
  repeat first | refine aK ?_ | refine aP ?_
  exact KR _ _ (⟨HM, HF.sub ((iL A1 l c1 A2 c2) ++ [(12, ay l.length), (13, ay (i + 1))]) (by kernel_rfl)⟩)
 ·intro a w KX hI
  obtain ⟨HM, HF⟩ := hI
  refine aO ?_
  refine wp_pure HF HM rfl 1 [] ((iL A1 l c1 A2 c2) ++ [(12, ay l.length), (13, ay l.length), (14, .bool (decide (((l.length : Nat) : Int) < ((l.length : Nat) : Int))))]) (by kernel_rfl) fun a HF => ?_
  refine aA ?_
  refine wp_seq ?_
  rw [show decide (((l.length : Nat) : Int) < ((l.length : Nat) : Int)) = false from cZ (by omega)] at HF
  refine aY HF rfl ?_
  refine wp_exit ?_
  repeat (first | refine eH ?_ | refine dY rfl ?_)
  refine gZ ?_
  repeat first | refine aK ?_ | refine aP ?_
  refine aO ?_
  refine wp_pure HF HM rfl 1 [] [(4, .bool true)] (by kernel_rfl) fun a HF => ?_
  refine aA ?_
  refine wp_ret ?_
  repeat first | refine bJ ?_ | refine bM ?_
  exact bQ HF rfl rfl ⟨rfl, HM.below⟩

end Go.Proofs.YtdgehpocmfjbiaaDoor
