/- A part JC of the closed facts that the card of FnDynamicSymbols asks of the program, one by one. -/
import Derived.Test.YtdgehpocmfjbiaaDoorCards
import Derived.Test.YtdgehpocmfjbiaaDoorTie
import Derived.LaidMore
import Derived.LaidLaws
import Derived.Stop.Joined
import Derived.SevenTiedAt
import Derived.ProofKit
import Derived.OpenShut
import Derived.ChangeOld
import Derived.Below
set_option linter.unusedVariables false
set_option linter.unusedSimpArgs false
namespace Go.Proofs.YtdgehpocmfjbiaaDoor.fnDynamicSymbols
open Go Go.ChangeShapes Go.WideShapes Go.ChangeAt
theorem l9 : ((Rows.fnDynamicSymbolsRow.inPlace == Tryd.pinned.checked.prog.inPlace (3 : FuncId))) = true := by kernel_rfl
theorem l10 : ((Rows.fnDynamicSymbolsRow.unfollowed == Tryd.pinned.checked.prog.unfollowed (3 : FuncId))) = true := by kernel_rfl
theorem l11 : ((Rows.fnDynamicSymbolsRow.recurses == Tryd.pinned.checked.prog.recurses (3 : FuncId))) = true := by kernel_rfl
theorem l12 : ((Rows.fnDynamicSymbolsRow.named == Tryd.pinned.checked.prog.varsNamed (3 : FuncId))) = true := by kernel_rfl
theorem c1 : OpenClaim.wfByText (OpenSpec.ofChange Rows.fnDynamicSymbolsSpec) Rows.fnDynamicSymbolsRow = true := by kernel_rfl
theorem c3 : false = Rows.fnDynamicSymbolsRow.goesBy Tryd.pinned.checked.prog := by kernel_rfl
theorem c5 : Tryd.prog.funcNamed "loop.example/pub-g03028/laws.FnDynamicSymbols" = some 3 := by kernel_rfl
end Go.Proofs.YtdgehpocmfjbiaaDoor.fnDynamicSymbols
