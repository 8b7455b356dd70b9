/- A struct by value, opened: each field's own reading, whatever the number of one-cell fields. -/
import Derived.Test.YtlgigipjgahecaaRows
import Derived.WalkKit
import Derived.ProofKit
import Derived.OpenShut
import Derived.ShutString
import Derived.ChangeOld
import Derived.Below
import Derived.Deep.Slices
import Derived.Deep.Fields
namespace Go.Proofs.Ytlgigipjgahecaa
open Go.ChangeShapes Go.WideShapes Go.ChangeAt Go.RowKit Go.Deep
set_option linter.unusedVariables false

theorem open_fields {H : Type} {enc : TypeId × Value → H} {P : Program} {w : World} {base : Nat} {spare : Nat → Bool} {held : Bool} {r : Reach} {b0 : Nat} {t : TypeId} {fs : Array Field} {v : Value} {d : DataW H} {p : List MemPlace}
    (hs : P.underlying t = some (.struct fs)) (hone : oneCellFields P fs = true) (hC : P.cellsOf t = fs.size) (hv : Value.okWide P w r b0 t v) (h : DataW.Trod enc P w base spare held t v d p) :
    ∃ (cs : Array Value) (n : Nat), v = .agg cs ∧ cs.size = fs.size ∧ ∀ (j : Nat) (f : Field), fs[j]? = some f → ∃ (u : Value) (y : DataW H × List MemPlace), cs[j]? = some u ∧ DataW.trod enc P w base spare held n f.type [u] = some y := by
  obtain ⟨cs, rfl, hsz⟩ := okWide_struct hs hv
  obtain ⟨fuel, hf⟩ := h
  obtain ⟨xs, n, _, hx, _, hlen, hg⟩ := DataW.trod_struct hs hf
  refine ⟨cs, n, rfl, hsz.trans hC, fun j f hj => ?_⟩
  obtain ⟨ho, hk⟩ := hone_of hone j f hj
  have h1 := hg j f hj
  rw [ho, hk] at h1
  have hj1 : j < fs.size := (Array.getElem?_eq_some_iff.1 hj).1
  have hj2 : j < xs.length := by omega
  have hj3 : j < cs.size := by omega
  have e : ((Value.cells (.agg cs)).toList.drop j).take 1 = [cs[j]] := by
    have : Value.cells (.agg cs) = cs := by simp [Value.cells]
    rw [this, List.drop_eq_getElem_cons (by simpa using hj3)]
    simp
  rw [e, List.getElem?_eq_getElem hj2] at h1
  exact ⟨cs[j], xs[j], Array.getElem?_eq_getElem hj3, h1⟩

theorem agg6_of {cs : Array Value} (h : cs.size = 6) : ∃ a b c d e f, cs = #[a, b, c, d, e, f] := by
  obtain ⟨l⟩ := cs
  match l, h with
  | [a, b, c, d, e, f], _ => exact ⟨a, b, c, d, e, f, rfl⟩
end Go.Proofs.Ytlgigipjgahecaa
