/- A part JC of the closed facts that the card of FnDynStrings asks of the program, one by one. -/
import Derived.Test.YtdgehpocmfjbiaaDoorCards
import Derived.Test.YtdgehpocmfjbiaaDoorTie
import Derived.LaidMore
import Derived.LaidLaws
import Derived.Stop.Joined
import Derived.SevenTiedAt
import Derived.ProofKit
import Derived.OpenShut
import Derived.ChangeOld
import Derived.Below
set_option linter.unusedVariables false
set_option linter.unusedSimpArgs false
namespace Go.Proofs.YtdgehpocmfjbiaaDoor.fnDynStrings
open Go Go.ChangeShapes Go.WideShapes Go.ChangeAt
theorem l9 : ((Rows.fnDynStringsRow.inPlace == Tryd.pinned.checked.prog.inPlace (17 : FuncId))) = true := by kernel_rfl
theorem l10 : ((Rows.fnDynStringsRow.unfollowed == Tryd.pinned.checked.prog.unfollowed (17 : FuncId))) = true := by kernel_rfl
theorem l11 : ((Rows.fnDynStringsRow.recurses == Tryd.pinned.checked.prog.recurses (17 : FuncId))) = true := by kernel_rfl
theorem l12 : ((Rows.fnDynStringsRow.named == Tryd.pinned.checked.prog.varsNamed (17 : FuncId))) = true := by kernel_rfl
theorem c1 : OpenClaim.wfByText (OpenSpec.ofChange Rows.fnDynStringsSpec) Rows.fnDynStringsRow = true := by kernel_rfl
theorem c3 : false = Rows.fnDynStringsRow.goesBy Tryd.pinned.checked.prog := by kernel_rfl
theorem c5 : Tryd.prog.funcNamed "loop.example/pub-g03028/laws.FnDynStrings" = some 17 := by kernel_rfl
end Go.Proofs.YtdgehpocmfjbiaaDoor.fnDynStrings
