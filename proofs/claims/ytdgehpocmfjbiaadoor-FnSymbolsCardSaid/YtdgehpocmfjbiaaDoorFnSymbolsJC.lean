/- A part JC of the closed facts that the card of FnSymbols asks of the program, one by one. -/
import Derived.Test.YtdgehpocmfjbiaaDoorCards
import Derived.Test.YtdgehpocmfjbiaaDoorTie
import Derived.LaidMore
import Derived.LaidLaws
import Derived.Stop.Joined
import Derived.SevenTiedAt
import Derived.ProofKit
import Derived.OpenShut
import Derived.ChangeOld
import Derived.Below
set_option linter.unusedVariables false
set_option linter.unusedSimpArgs false
namespace Go.Proofs.YtdgehpocmfjbiaaDoor.fnSymbols
open Go Go.ChangeShapes Go.WideShapes Go.ChangeAt
theorem l9 : ((Rows.fnSymbolsRow.inPlace == Tryd.pinned.checked.prog.inPlace (19 : FuncId))) = true := by kernel_rfl
theorem l10 : ((Rows.fnSymbolsRow.unfollowed == Tryd.pinned.checked.prog.unfollowed (19 : FuncId))) = true := by kernel_rfl
theorem l11 : ((Rows.fnSymbolsRow.recurses == Tryd.pinned.checked.prog.recurses (19 : FuncId))) = true := by kernel_rfl
theorem l12 : ((Rows.fnSymbolsRow.named == Tryd.pinned.checked.prog.varsNamed (19 : FuncId))) = true := by kernel_rfl
theorem c1 : OpenClaim.wfByText (OpenSpec.ofChange Rows.fnSymbolsSpec) Rows.fnSymbolsRow = true := by kernel_rfl
theorem c3 : false = Rows.fnSymbolsRow.goesBy Tryd.pinned.checked.prog := by kernel_rfl
theorem c5 : Tryd.prog.funcNamed "loop.example/pub-g03028/laws.FnSymbols" = some 19 := by kernel_rfl
end Go.Proofs.YtdgehpocmfjbiaaDoor.fnSymbols
