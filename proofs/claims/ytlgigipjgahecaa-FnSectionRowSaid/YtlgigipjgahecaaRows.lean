/-
  No cell of these rows narrows 'for every input' (looked for: loops, veiled, ifaces, maps, wideKeys, modest, calm, conditions, laid).
  DERIVED. THE GIVEN ROWS OF THIS SEAT. 11 by the template 'for every input the law returns true; each argument reads behind the call as it read before'; 0 by the template 'total and deterministic' (their statements: YtlgigipjgahecaaTotals.lean).
  GIVEN WITH THE SEED: the statements are not yours to turn. If you find one false, say at which input.
  Laid BY PROGRAM, IN A SANDBOX (cutbox-rows.mjs): the forced cells as the released guide's own fill.sh prints them over the translation 9fe3a6f5fa18af89… (all of the seat's roots in one cut). By AI agents, Wed Nov 11 2026. No macro, syntax, notation, axiom, sorry.
-/
import Derived.Test.YtlgigipjgahecaaChecked
import GoSem.Claim
import GoSem.ClaimJoined
import GoSem.ClaimMapViews
import Derived.JoinedTies
import Derived.KernelRfl
namespace Go.Proofs.Ytlgigipjgahecaa
/- THE CELL 'sum', in the pinned program and in every row, IS THE sha256 OF THE DUMP (.gsa) THAT YtlgigipjgahecaaProg.lean LOADS. Nothing in Lean hashes anything: it is a label: what it is worth is what the hold of that sum in a sandbox is worth. -/
noncomputable def Try.pinned : Pinned := { name := "ytlgigipjgahecaa", sum := "9fe3a6f5fa18af89502ba305d3e9237ebcb4c2cf8eb40f5f90f036a728112568", checked := Try.checked }
namespace Rows
def none {H : Type} : Left H := { results := [], args := [] }

/-- 'laws.FnVisibility': WHATEVER THE INPUT: true; the input reads as it did. -/
def fnVisibilitySpec : ChangeSpec := { name := "fnVisibility", fn := fun _ => fun
  | [d] => { results := [.lit (.bool true)], args := [d] }
  | _ => none }
def fnVisibilityRow : OpenClaim := { program := "ytlgigipjgahecaa", sum := "9fe3a6f5fa18af89502ba305d3e9237ebcb4c2cf8eb40f5f90f036a728112568", func := "loop.example/pub-g03028/laws.FnVisibility", spec := "fnVisibility", apart := false }
def FnVisibilitySaid : Prop := fnVisibilityRow.holds Try.pinned (OpenSpec.ofChange fnVisibilitySpec)

/-- ITS FALSE NEIGHBOUR: 'it returns false'. Refute it at one input. -/
def fnVisibilityWrong : ChangeSpec := { name := "fnVisibility", fn := fun _ => fun
  | [d] => { results := [.lit (.bool false)], args := [d] }
  | _ => none }
def FnVisibilityWrongFalsely : Prop := fnVisibilityRow.holds Try.pinned (OpenSpec.ofChange fnVisibilityWrong)

/-- 'laws.FnInfo32': WHATEVER THE INPUT: true; the input reads as it did. -/
def fnInfo32Spec : ChangeSpec := { name := "fnInfo32", fn := fun _ => fun
  | [d1, d2] => { results := [.lit (.bool true)], args := [d1, d2] }
  | _ => none }
def fnInfo32Row : OpenClaim := { program := "ytlgigipjgahecaa", sum := "9fe3a6f5fa18af89502ba305d3e9237ebcb4c2cf8eb40f5f90f036a728112568", func := "loop.example/pub-g03028/laws.FnInfo32", spec := "fnInfo32", apart := false }
def FnInfo32Said : Prop := fnInfo32Row.holds Try.pinned (OpenSpec.ofChange fnInfo32Spec)

/-- ITS FALSE NEIGHBOUR: 'it returns false'. Refute it at one input. -/
def fnInfo32Wrong : ChangeSpec := { name := "fnInfo32", fn := fun _ => fun
  | [d1, d2] => { results := [.lit (.bool false)], args := [d1, d2] }
  | _ => none }
def FnInfo32WrongFalsely : Prop := fnInfo32Row.holds Try.pinned (OpenSpec.ofChange fnInfo32Wrong)

/-- 'laws.FnInfo32Back': WHATEVER THE INPUT: true; the input reads as it did. -/
def fnInfo32BackSpec : ChangeSpec := { name := "fnInfo32Back", fn := fun _ => fun
  | [d] => { results := [.lit (.bool true)], args := [d] }
  | _ => none }
def fnInfo32BackRow : OpenClaim := { program := "ytlgigipjgahecaa", sum := "9fe3a6f5fa18af89502ba305d3e9237ebcb4c2cf8eb40f5f90f036a728112568", func := "loop.example/pub-g03028/laws.FnInfo32Back", spec := "fnInfo32Back", apart := false }
def FnInfo32BackSaid : Prop := fnInfo32BackRow.holds Try.pinned (OpenSpec.ofChange fnInfo32BackSpec)

/-- ITS FALSE NEIGHBOUR: 'it returns false'. Refute it at one input. -/
def fnInfo32BackWrong : ChangeSpec := { name := "fnInfo32Back", fn := fun _ => fun
  | [d] => { results := [.lit (.bool false)], args := [d] }
  | _ => none }
def FnInfo32BackWrongFalsely : Prop := fnInfo32BackRow.holds Try.pinned (OpenSpec.ofChange fnInfo32BackWrong)

/-- 'laws.FnInfo64': WHATEVER THE INPUT: true; the input reads as it did. -/
def fnInfo64Spec : ChangeSpec := { name := "fnInfo64", fn := fun _ => fun
  | [d1, d2] => { results := [.lit (.bool true)], args := [d1, d2] }
  | _ => none }
def fnInfo64Row : OpenClaim := { program := "ytlgigipjgahecaa", sum := "9fe3a6f5fa18af89502ba305d3e9237ebcb4c2cf8eb40f5f90f036a728112568", func := "loop.example/pub-g03028/laws.FnInfo64", spec := "fnInfo64", apart := false }
def FnInfo64Said : Prop := fnInfo64Row.holds Try.pinned (OpenSpec.ofChange fnInfo64Spec)

/-- ITS FALSE NEIGHBOUR: 'it returns false'. Refute it at one input. -/
def fnInfo64Wrong : ChangeSpec := { name := "fnInfo64", fn := fun _ => fun
  | [d1, d2] => { results := [.lit (.bool false)], args := [d1, d2] }
  | _ => none }
def FnInfo64WrongFalsely : Prop := fnInfo64Row.holds Try.pinned (OpenSpec.ofChange fnInfo64Wrong)

/-- 'laws.FnInfo64Back': WHATEVER THE INPUT: true; the input reads as it did. -/
def fnInfo64BackSpec : ChangeSpec := { name := "fnInfo64Back", fn := fun _ => fun
  | [d] => { results := [.lit (.bool true)], args := [d] }
  | _ => none }
def fnInfo64BackRow : OpenClaim := { program := "ytlgigipjgahecaa", sum := "9fe3a6f5fa18af89502ba305d3e9237ebcb4c2cf8eb40f5f90f036a728112568", func := "loop.example/pub-g03028/laws.FnInfo64Back", spec := "fnInfo64Back", apart := false }
def FnInfo64BackSaid : Prop := fnInfo64BackRow.holds Try.pinned (OpenSpec.ofChange fnInfo64BackSpec)

/-- ITS FALSE NEIGHBOUR: 'it returns false'. Refute it at one input. -/
def fnInfo64BackWrong : ChangeSpec := { name := "fnInfo64Back", fn := fun _ => fun
  | [d] => { results := [.lit (.bool false)], args := [d] }
  | _ => none }
def FnInfo64BackWrongFalsely : Prop := fnInfo64BackRow.holds Try.pinned (OpenSpec.ofChange fnInfo64BackWrong)

/-- 'laws.FnSymbolInfo': WHATEVER THE INPUT: true; the input reads as it did. -/
def fnSymbolInfoSpec : ChangeSpec := { name := "fnSymbolInfo", fn := fun _ => fun
  | [d1, d2] => { results := [.lit (.bool true)], args := [d1, d2] }
  | _ => none }
def fnSymbolInfoRow : OpenClaim := { program := "ytlgigipjgahecaa", sum := "9fe3a6f5fa18af89502ba305d3e9237ebcb4c2cf8eb40f5f90f036a728112568", func := "loop.example/pub-g03028/laws.FnSymbolInfo", spec := "fnSymbolInfo", apart := false }
def FnSymbolInfoSaid : Prop := fnSymbolInfoRow.holds Try.pinned (OpenSpec.ofChange fnSymbolInfoSpec)

/-- ITS FALSE NEIGHBOUR: 'it returns false'. Refute it at one input. -/
def fnSymbolInfoWrong : ChangeSpec := { name := "fnSymbolInfo", fn := fun _ => fun
  | [d1, d2] => { results := [.lit (.bool false)], args := [d1, d2] }
  | _ => none }
def FnSymbolInfoWrongFalsely : Prop := fnSymbolInfoRow.holds Try.pinned (OpenSpec.ofChange fnSymbolInfoWrong)

/-- 'laws.FnTextAt': WHATEVER THE INPUT: true; the input reads as it did. -/
def fnTextAtSpec : ChangeSpec := { name := "fnTextAt", fn := fun _ => fun
  | [d1, d2] => { results := [.lit (.bool true)], args := [d1, d2] }
  | _ => none }
def fnTextAtRow : OpenClaim := { program := "ytlgigipjgahecaa", sum := "9fe3a6f5fa18af89502ba305d3e9237ebcb4c2cf8eb40f5f90f036a728112568", func := "loop.example/pub-g03028/laws.FnTextAt", spec := "fnTextAt", apart := false }
def FnTextAtSaid : Prop := fnTextAtRow.holds Try.pinned (OpenSpec.ofChange fnTextAtSpec)

/-- ITS FALSE NEIGHBOUR: 'it returns false'. Refute it at one input. -/
def fnTextAtWrong : ChangeSpec := { name := "fnTextAt", fn := fun _ => fun
  | [d1, d2] => { results := [.lit (.bool false)], args := [d1, d2] }
  | _ => none }
def FnTextAtWrongFalsely : Prop := fnTextAtRow.holds Try.pinned (OpenSpec.ofChange fnTextAtWrong)

/-- 'laws.FnSymbolRow32': WHATEVER THE INPUT: true; the input reads as it did. -/
def fnSymbolRow32Spec : ChangeSpec := { name := "fnSymbolRow32", fn := fun _ => fun
  | [d1, d2, d3] => { results := [.lit (.bool true)], args := [d1, d2, d3] }
  | _ => none }
def fnSymbolRow32Row : OpenClaim := { program := "ytlgigipjgahecaa", sum := "9fe3a6f5fa18af89502ba305d3e9237ebcb4c2cf8eb40f5f90f036a728112568", func := "loop.example/pub-g03028/laws.FnSymbolRow32", spec := "fnSymbolRow32", apart := false }
def FnSymbolRow32Said : Prop := fnSymbolRow32Row.holds Try.pinned (OpenSpec.ofChange fnSymbolRow32Spec)

/-- ITS FALSE NEIGHBOUR: 'it returns false'. Refute it at one input. -/
def fnSymbolRow32Wrong : ChangeSpec := { name := "fnSymbolRow32", fn := fun _ => fun
  | [d1, d2, d3] => { results := [.lit (.bool false)], args := [d1, d2, d3] }
  | _ => none }
def FnSymbolRow32WrongFalsely : Prop := fnSymbolRow32Row.holds Try.pinned (OpenSpec.ofChange fnSymbolRow32Wrong)

/-- 'laws.FnSymbolRow64': WHATEVER THE INPUT: true; the input reads as it did. -/
def fnSymbolRow64Spec : ChangeSpec := { name := "fnSymbolRow64", fn := fun _ => fun
  | [d1, d2, d3] => { results := [.lit (.bool true)], args := [d1, d2, d3] }
  | _ => none }
def fnSymbolRow64Row : OpenClaim := { program := "ytlgigipjgahecaa", sum := "9fe3a6f5fa18af89502ba305d3e9237ebcb4c2cf8eb40f5f90f036a728112568", func := "loop.example/pub-g03028/laws.FnSymbolRow64", spec := "fnSymbolRow64", apart := false }
def FnSymbolRow64Said : Prop := fnSymbolRow64Row.holds Try.pinned (OpenSpec.ofChange fnSymbolRow64Spec)

/-- ITS FALSE NEIGHBOUR: 'it returns false'. Refute it at one input. -/
def fnSymbolRow64Wrong : ChangeSpec := { name := "fnSymbolRow64", fn := fun _ => fun
  | [d1, d2, d3] => { results := [.lit (.bool false)], args := [d1, d2, d3] }
  | _ => none }
def FnSymbolRow64WrongFalsely : Prop := fnSymbolRow64Row.holds Try.pinned (OpenSpec.ofChange fnSymbolRow64Wrong)

/-- 'laws.FnProgRow': WHATEVER THE INPUT: true; the input reads as it did. -/
def fnProgRowSpec : ChangeSpec := { name := "fnProgRow", fn := fun _ => fun
  | [d1, d2, d3, d4] => { results := [.lit (.bool true)], args := [d1, d2, d3, d4] }
  | _ => none }
def fnProgRowRow : OpenClaim := { program := "ytlgigipjgahecaa", sum := "9fe3a6f5fa18af89502ba305d3e9237ebcb4c2cf8eb40f5f90f036a728112568", func := "loop.example/pub-g03028/laws.FnProgRow", spec := "fnProgRow", apart := false }
def FnProgRowSaid : Prop := fnProgRowRow.holds Try.pinned (OpenSpec.ofChange fnProgRowSpec)

/-- ITS FALSE NEIGHBOUR: 'it returns false'. Refute it at one input. -/
def fnProgRowWrong : ChangeSpec := { name := "fnProgRow", fn := fun _ => fun
  | [d1, d2, d3, d4] => { results := [.lit (.bool false)], args := [d1, d2, d3, d4] }
  | _ => none }
def FnProgRowWrongFalsely : Prop := fnProgRowRow.holds Try.pinned (OpenSpec.ofChange fnProgRowWrong)

/-- 'laws.FnSectionRow': WHATEVER THE INPUT: true; the input reads as it did. -/
def fnSectionRowSpec : ChangeSpec := { name := "fnSectionRow", fn := fun _ => fun
  | [d1, d2, d3, d4, d5] => { results := [.lit (.bool true)], args := [d1, d2, d3, d4, d5] }
  | _ => none }
def fnSectionRowRow : OpenClaim := { program := "ytlgigipjgahecaa", sum := "9fe3a6f5fa18af89502ba305d3e9237ebcb4c2cf8eb40f5f90f036a728112568", func := "loop.example/pub-g03028/laws.FnSectionRow", spec := "fnSectionRow", apart := false }
def FnSectionRowSaid : Prop := fnSectionRowRow.holds Try.pinned (OpenSpec.ofChange fnSectionRowSpec)

/-- ITS FALSE NEIGHBOUR: 'it returns false'. Refute it at one input. -/
def fnSectionRowWrong : ChangeSpec := { name := "fnSectionRow", fn := fun _ => fun
  | [d1, d2, d3, d4, d5] => { results := [.lit (.bool false)], args := [d1, d2, d3, d4, d5] }
  | _ => none }
def FnSectionRowWrongFalsely : Prop := fnSectionRowRow.holds Try.pinned (OpenSpec.ofChange fnSectionRowWrong)

/- THE SECOND FORM. 'bulk': how many values and letters a reading holds, each counted each time it is reached (what is shared counts as often as it is met; a slice's spare places count too). A statement '..UptoSaid' is the law's where the arguments, and the package variables that the reading takes, are together of bulk at most 1048576: NARROWER than '..Said'. Prove '..Said' where nothing that the law and all that it calls make is longer than what came in: it says more and counts as full. Else prove '..UptoSaid'. A law counts once. -/
mutual
def uptoBulk {H : Type} : DataW H → Nat
  | .lit (.string bytes) => bytes.length + 1
  | .lit _ => 1
  | .nil => 1
  | .ptr d => uptoBulk d + 1
  | .slice elems spare => uptoBulkAll elems + uptoBulkAll spare + 1
  | .agg parts => uptoBulkAll parts + 1
  | .iface _ d => uptoBulk d + 1
  | .map entries => uptoBulkEntries entries + 1
  | .held _ => 1
def uptoBulkAll {H : Type} : List (DataW H) → Nat
  | [] => 0
  | d :: r => uptoBulk d + uptoBulkAll r
def uptoBulkEntries {H : Type} : List (Lit × DataW H) → Nat
  | [] => 0
  | x :: r => uptoBulkEntry x + uptoBulkEntries r
def uptoBulkEntry {H : Type} : Lit × DataW H → Nat
  | (.string bytes, d) => bytes.length + uptoBulk d + 1
  | (_, d) => uptoBulk d + 1
 end
def uptoSmall : (H : Type) → List (DataW H) → Bool := fun _ ds => decide (uptoBulkAll ds ≤ 1048576)
def OpenSpec.upto (s : _root_.Go.ChangeSpec) : _root_.Go.OpenSpec := { _root_.Go.OpenSpec.ofChange s with cond := some uptoSmall }

/-- 'laws.FnVisibility', WHERE WHAT IT READS IS OF BULK AT MOST 1048576: true; the input reads as it did. -/
def fnVisibilityUptoRow : OpenClaim := { program := "ytlgigipjgahecaa", sum := "9fe3a6f5fa18af89502ba305d3e9237ebcb4c2cf8eb40f5f90f036a728112568", func := "loop.example/pub-g03028/laws.FnVisibility", spec := "fnVisibility", apart := false, narrowed := true }
def FnVisibilityUptoSaid : Prop := fnVisibilityUptoRow.holds Try.pinned (OpenSpec.upto fnVisibilitySpec)

/-- 'laws.FnInfo32', WHERE WHAT IT READS IS OF BULK AT MOST 1048576: true; the input reads as it did. -/
def fnInfo32UptoRow : OpenClaim := { program := "ytlgigipjgahecaa", sum := "9fe3a6f5fa18af89502ba305d3e9237ebcb4c2cf8eb40f5f90f036a728112568", func := "loop.example/pub-g03028/laws.FnInfo32", spec := "fnInfo32", apart := false, narrowed := true }
def FnInfo32UptoSaid : Prop := fnInfo32UptoRow.holds Try.pinned (OpenSpec.upto fnInfo32Spec)

/-- 'laws.FnInfo32Back', WHERE WHAT IT READS IS OF BULK AT MOST 1048576: true; the input reads as it did. -/
def fnInfo32BackUptoRow : OpenClaim := { program := "ytlgigipjgahecaa", sum := "9fe3a6f5fa18af89502ba305d3e9237ebcb4c2cf8eb40f5f90f036a728112568", func := "loop.example/pub-g03028/laws.FnInfo32Back", spec := "fnInfo32Back", apart := false, narrowed := true }
def FnInfo32BackUptoSaid : Prop := fnInfo32BackUptoRow.holds Try.pinned (OpenSpec.upto fnInfo32BackSpec)

/-- 'laws.FnInfo64', WHERE WHAT IT READS IS OF BULK AT MOST 1048576: true; the input reads as it did. -/
def fnInfo64UptoRow : OpenClaim := { program := "ytlgigipjgahecaa", sum := "9fe3a6f5fa18af89502ba305d3e9237ebcb4c2cf8eb40f5f90f036a728112568", func := "loop.example/pub-g03028/laws.FnInfo64", spec := "fnInfo64", apart := false, narrowed := true }
def FnInfo64UptoSaid : Prop := fnInfo64UptoRow.holds Try.pinned (OpenSpec.upto fnInfo64Spec)

/-- 'laws.FnInfo64Back', WHERE WHAT IT READS IS OF BULK AT MOST 1048576: true; the input reads as it did. -/
def fnInfo64BackUptoRow : OpenClaim := { program := "ytlgigipjgahecaa", sum := "9fe3a6f5fa18af89502ba305d3e9237ebcb4c2cf8eb40f5f90f036a728112568", func := "loop.example/pub-g03028/laws.FnInfo64Back", spec := "fnInfo64Back", apart := false, narrowed := true }
def FnInfo64BackUptoSaid : Prop := fnInfo64BackUptoRow.holds Try.pinned (OpenSpec.upto fnInfo64BackSpec)

/-- 'laws.FnSymbolInfo', WHERE WHAT IT READS IS OF BULK AT MOST 1048576: true; the input reads as it did. -/
def fnSymbolInfoUptoRow : OpenClaim := { program := "ytlgigipjgahecaa", sum := "9fe3a6f5fa18af89502ba305d3e9237ebcb4c2cf8eb40f5f90f036a728112568", func := "loop.example/pub-g03028/laws.FnSymbolInfo", spec := "fnSymbolInfo", apart := false, narrowed := true }
def FnSymbolInfoUptoSaid : Prop := fnSymbolInfoUptoRow.holds Try.pinned (OpenSpec.upto fnSymbolInfoSpec)

/-- 'laws.FnTextAt', WHERE WHAT IT READS IS OF BULK AT MOST 1048576: true; the input reads as it did. -/
def fnTextAtUptoRow : OpenClaim := { program := "ytlgigipjgahecaa", sum := "9fe3a6f5fa18af89502ba305d3e9237ebcb4c2cf8eb40f5f90f036a728112568", func := "loop.example/pub-g03028/laws.FnTextAt", spec := "fnTextAt", apart := false, narrowed := true }
def FnTextAtUptoSaid : Prop := fnTextAtUptoRow.holds Try.pinned (OpenSpec.upto fnTextAtSpec)

/-- 'laws.FnSymbolRow32', WHERE WHAT IT READS IS OF BULK AT MOST 1048576: true; the input reads as it did. -/
def fnSymbolRow32UptoRow : OpenClaim := { program := "ytlgigipjgahecaa", sum := "9fe3a6f5fa18af89502ba305d3e9237ebcb4c2cf8eb40f5f90f036a728112568", func := "loop.example/pub-g03028/laws.FnSymbolRow32", spec := "fnSymbolRow32", apart := false, narrowed := true }
def FnSymbolRow32UptoSaid : Prop := fnSymbolRow32UptoRow.holds Try.pinned (OpenSpec.upto fnSymbolRow32Spec)

/-- 'laws.FnSymbolRow64', WHERE WHAT IT READS IS OF BULK AT MOST 1048576: true; the input reads as it did. -/
def fnSymbolRow64UptoRow : OpenClaim := { program := "ytlgigipjgahecaa", sum := "9fe3a6f5fa18af89502ba305d3e9237ebcb4c2cf8eb40f5f90f036a728112568", func := "loop.example/pub-g03028/laws.FnSymbolRow64", spec := "fnSymbolRow64", apart := false, narrowed := true }
def FnSymbolRow64UptoSaid : Prop := fnSymbolRow64UptoRow.holds Try.pinned (OpenSpec.upto fnSymbolRow64Spec)

/-- 'laws.FnProgRow', WHERE WHAT IT READS IS OF BULK AT MOST 1048576: true; the input reads as it did. -/
def fnProgRowUptoRow : OpenClaim := { program := "ytlgigipjgahecaa", sum := "9fe3a6f5fa18af89502ba305d3e9237ebcb4c2cf8eb40f5f90f036a728112568", func := "loop.example/pub-g03028/laws.FnProgRow", spec := "fnProgRow", apart := false, narrowed := true }
def FnProgRowUptoSaid : Prop := fnProgRowUptoRow.holds Try.pinned (OpenSpec.upto fnProgRowSpec)

/-- 'laws.FnSectionRow', WHERE WHAT IT READS IS OF BULK AT MOST 1048576: true; the input reads as it did. -/
def fnSectionRowUptoRow : OpenClaim := { program := "ytlgigipjgahecaa", sum := "9fe3a6f5fa18af89502ba305d3e9237ebcb4c2cf8eb40f5f90f036a728112568", func := "loop.example/pub-g03028/laws.FnSectionRow", spec := "fnSectionRow", apart := false, narrowed := true }
def FnSectionRowUptoSaid : Prop := fnSectionRowUptoRow.holds Try.pinned (OpenSpec.upto fnSectionRowSpec)

end Rows
end Go.Proofs.Ytlgigipjgahecaa
