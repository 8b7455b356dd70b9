/- Words for memory that all walks of this seat use: a slice that reads as a list of cells, bytes as cells, the laws of slicing and of turning bytes into a string. -/
import Derived.Test.YtlgigipjgahecaaProg
import Derived.WalkKit
import Derived.WalkSpells
import Derived.WalkLawsBesides
import Derived.Laws.BitsAllLaws
import Derived.Laws.BytesArg
import Derived.Lib.Hide
namespace Go.Proofs.Ytlgigipjgahecaa
open Go.RowKit
set_option linter.unusedVariables false

/-- a byte as a cell -/
def Bv (b : UInt8) : Value := .int .u8 (b.toNat : Int)

/-- the slice value that begins at A reads as the cells cs -/
def Row (w : World) (A : Option Addr) (cs : List Value) : Prop :=
  ∀ (i : Nat) (v : Value), cs[i]? = some v → ∃ b off, A = some ⟨b, off, none⟩ ∧ w.cell? ⟨b, off + i, none⟩ = some v

section
variable {w w' : World} {A : Option Addr} {cs : List Value}
theorem Row.nil (w : World) (A : Option Addr) : Row w A [] := fun i v h => by simp at h
theorem cell_lt {p : Addr} {v : Value} (h : w.cell? p = some v) : p.block < w.heap.size := by
  rcases Nat.lt_or_ge p.block w.heap.size with hl | hg
  · exact hl
  · simp [World.cell?, Array.getElem?_eq_none hg] at h
theorem Row.below (h : Row w A cs) (hb : Below w.heap.size w w') : Row w' A cs := fun i v hi => by
  obtain ⟨b, off, e, hc⟩ := h i v hi
  exact ⟨b, off, e, (hb.cell (p := ⟨b, off + i, none⟩) (cell_lt hc)).trans hc⟩
theorem Row.keep {B : Nat} (h : Row w A cs) (hB : w.heap.size ≤ B) (hb : Below B w w') : Row w' A cs := h.below (hb.mono hB)
theorem Row.drop (h : Row w A cs) (k : Nat) : Row w (A.map (·.add k)) (cs.drop k) := fun i v hi => by
  rw [List.getElem?_drop] at hi
  obtain ⟨b, off, e, hc⟩ := h _ v hi
  refine ⟨b, off + k, ?_, by rw [Nat.add_assoc]; exact hc⟩
  subst e
  simp only [Option.map_some, Addr.add]
  split
  · rename_i hk; subst hk; rfl
  · rfl
theorem Row.take (h : Row w A cs) (k : Nat) : Row w A (cs.take k) := fun i v hi => by
  rw [List.getElem?_take] at hi
  split at hi
  · exact h i v hi
  · cases hi
theorem Row.at_ (h : Row w A cs) {i : Nat} (hi : i < cs.length) : ∃ b off, A = some ⟨b, off, none⟩ ∧ w.cell? ⟨b, off + i, none⟩ = some (cs[i]'hi) :=
  h i _ (List.getElem?_eq_getElem hi)
/-- a row that is not empty, laid open -/
theorem Row.open_ (h : Row w A cs) (hne : 0 < cs.length) : ∃ b off, A = some ⟨b, off, none⟩ ∧ ∀ i (hi : i < cs.length), w.cell? ⟨b, off + i, none⟩ = some (cs[i]'hi) := by
  obtain ⟨b, off, e, _⟩ := h.at_ hne
  refine ⟨b, off, e, fun i hi => ?_⟩
  obtain ⟨b', off', e', hc⟩ := h.at_ hi
  rw [e] at e'
  injection e' with e'
  injection e' with e1 e2
  subst e1 e2
  exact hc
theorem Row.of_cells {b off : Nat} (h : ∀ i (hi : i < cs.length), w.cell? ⟨b, off + i, none⟩ = some (cs[i]'hi)) : Row w (some ⟨b, off, none⟩) cs := fun i v hv => by
  obtain ⟨hl, e⟩ := List.getElem?_eq_some_iff.1 hv
  exact ⟨b, off, rfl, by rw [← e]; exact h i hl⟩
end

section
variable {P : Program}
/-- x[lo:hi] of a slice: some address from which what was there from lo on is read -/
theorem run_slice_row {t e : TypeId} {size : Nat} {info : TypeInfo} (ht : P.underlying t = some (.slice e)) (hi : P.info? e = some info) (hs : info.size = size) (A : Option Addr) (n c lo hi' : Nat) (h1 : lo ≤ hi') (h2 : hi' ≤ c) :
    ∃ A', (∀ w, (Instr.slice t (.slice A n c) (some (.int .i64 (lo : Int))) (some (.int .i64 (hi' : Int))) none).run P w = .ok (.slice A' (hi' - lo) (c - lo)) w) ∧
      ∀ (w : World) (cs : List Value), Row w A cs → Row w A' ((cs.drop (lo * size)).take ((hi' - lo) * size)) := by
  refine ⟨if c = lo then A else A.map (·.add (lo * size)), fun w => ?_, fun w cs h => ?_⟩
  · have a1 : (0 : Int) ≤ (hi' : Int) ∧ (hi' : Int) ≤ (c : Int) := by omega
    have a2 : (0 : Int) ≤ (lo : Int) ∧ (lo : Int) ≤ (hi' : Int) := by omega
    simp [Instr.slice, Instr.sliceBounds, Instr.sliceBound, asIntOf, run_underlying ht, sizeOf, typeInfo, hi, hs, h1, h2]
  · by_cases hc : c = lo
    · rw [if_pos hc]
      have : hi' - lo = 0 := by omega
      rw [this, Nat.zero_mul, List.take_zero]
      exact Row.nil _ _
    · rw [if_neg hc]
      exact (h.drop _).take _
/-- string(b) of a slice of bytes -/
theorem run_str_row {src dst e : TypeId} (hs : P.underlying src = some (.slice e)) (he : P.underlying e = some (.int .u8)) (hd : P.underlying dst = some .string) {w : World} {A : Option Addr} {l : List UInt8} {n c : Nat}
    (hn : n = l.length) (h : Row w A (l.map Bv)) : (convert src dst (.slice A n c)).run P w = .ok (.string ⟨l.toArray⟩) w := by
  subst hn
  rcases A with _ | ⟨b, off, spot⟩
  · have : l = [] := by
      rcases l with _ | ⟨x, l⟩
      · rfl
      · obtain ⟨b, off, e, _⟩ := h 0 (Bv x) rfl
        cases e
    subst this
    exact run_convert_bytes_nil w src e hs he _ _ dst hd
  · by_cases hl : l = []
    · subst hl
      rw [run_convert_bytes_string w src dst e _ _ c hs he hd]
      simp [Conv.bytesToString, loadCells]
      rfl
    · have hp : 0 < (l.map Bv).length := by simp; exact List.length_pos_iff.2 hl
      obtain ⟨b', off', e1, hc⟩ := h.open_ hp
      injection e1 with e1
      injection e1 with e1 e2 e3
      subst e1 e2 e3
      have := run_convert_bytes_arg w src e hs he b off l.length c (l.map fun x => (x.toNat : Int)) (by simp) (fun i hi => by
        rw [hc i (by simpa using hi)]
        simp [Bv, hi]) dst hd
      rw [this]
      congr 2
      simp [strOfNums]
      congr 1
      exact (List.map_congr_left (fun x _ => by simp)).trans (List.map_id l)
end
end Go.Proofs.Ytlgigipjgahecaa
