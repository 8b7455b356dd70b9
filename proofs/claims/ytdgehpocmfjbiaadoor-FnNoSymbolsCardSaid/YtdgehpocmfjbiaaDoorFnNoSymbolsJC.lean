/- A part JC of the closed facts that the card of FnNoSymbols asks of the program, one by one. -/
import Derived.Test.YtdgehpocmfjbiaaDoorCards
import Derived.Test.YtdgehpocmfjbiaaDoorTie
import Derived.LaidMore
import Derived.LaidLaws
import Derived.Stop.Joined
import Derived.SevenTiedAt
import Derived.ProofKit
import Derived.OpenShut
import Derived.ChangeOld
import Derived.Below
set_option linter.unusedVariables false
set_option linter.unusedSimpArgs false
namespace Go.Proofs.YtdgehpocmfjbiaaDoor.fnNoSymbols
open Go Go.ChangeShapes Go.WideShapes Go.ChangeAt
theorem l9 : ((Rows.fnNoSymbolsRow.inPlace == Tryd.pinned.checked.prog.inPlace (5 : FuncId))) = true := by kernel_rfl
theorem l10 : ((Rows.fnNoSymbolsRow.unfollowed == Tryd.pinned.checked.prog.unfollowed (5 : FuncId))) = true := by kernel_rfl
theorem l11 : ((Rows.fnNoSymbolsRow.recurses == Tryd.pinned.checked.prog.recurses (5 : FuncId))) = true := by kernel_rfl
theorem l12 : ((Rows.fnNoSymbolsRow.named == Tryd.pinned.checked.prog.varsNamed (5 : FuncId))) = true := by kernel_rfl
theorem c1 : OpenClaim.wfByText (OpenSpec.ofChange Rows.fnNoSymbolsSpec) Rows.fnNoSymbolsRow = true := by kernel_rfl
theorem c3 : false = Rows.fnNoSymbolsRow.goesBy Tryd.pinned.checked.prog := by kernel_rfl
theorem c5 : Tryd.prog.funcNamed "loop.example/pub-g03028/laws.FnNoSymbols" = some 5 := by kernel_rfl
end Go.Proofs.YtdgehpocmfjbiaaDoor.fnNoSymbols
