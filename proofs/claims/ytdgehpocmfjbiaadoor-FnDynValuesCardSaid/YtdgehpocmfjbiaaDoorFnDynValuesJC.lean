/- A part JC of the closed facts that the card of FnDynValues asks of the program, one by one. -/
import Derived.Test.YtdgehpocmfjbiaaDoorCards
import Derived.Test.YtdgehpocmfjbiaaDoorTie
import Derived.LaidMore
import Derived.LaidLaws
import Derived.Stop.Joined
import Derived.SevenTiedAt
import Derived.ProofKit
import Derived.OpenShut
import Derived.ChangeOld
import Derived.Below
set_option linter.unusedVariables false
set_option linter.unusedSimpArgs false
namespace Go.Proofs.YtdgehpocmfjbiaaDoor.fnDynValues
open Go Go.ChangeShapes Go.WideShapes Go.ChangeAt
theorem l9 : ((Rows.fnDynValuesRow.inPlace == Tryd.pinned.checked.prog.inPlace (16 : FuncId))) = true := by kernel_rfl
theorem l10 : ((Rows.fnDynValuesRow.unfollowed == Tryd.pinned.checked.prog.unfollowed (16 : FuncId))) = true := by kernel_rfl
theorem l11 : ((Rows.fnDynValuesRow.recurses == Tryd.pinned.checked.prog.recurses (16 : FuncId))) = true := by kernel_rfl
theorem l12 : ((Rows.fnDynValuesRow.named == Tryd.pinned.checked.prog.varsNamed (16 : FuncId))) = true := by kernel_rfl
theorem c1 : OpenClaim.wfByText (OpenSpec.ofChange Rows.fnDynValuesSpec) Rows.fnDynValuesRow = true := by kernel_rfl
theorem c3 : false = Rows.fnDynValuesRow.goesBy Tryd.pinned.checked.prog := by kernel_rfl
theorem c5 : Tryd.prog.funcNamed "loop.example/pub-g03028/laws.FnDynValues" = some 16 := by kernel_rfl
end Go.Proofs.YtdgehpocmfjbiaaDoor.fnDynValues
