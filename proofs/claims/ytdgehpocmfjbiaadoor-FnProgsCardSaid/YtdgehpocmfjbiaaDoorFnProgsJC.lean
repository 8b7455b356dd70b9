/- A part JC of the closed facts that the card of FnProgs asks of the program, one by one. -/
import Derived.Test.YtdgehpocmfjbiaaDoorCards
import Derived.Test.YtdgehpocmfjbiaaDoorTie
import Derived.LaidMore
import Derived.LaidLaws
import Derived.Stop.Joined
import Derived.SevenTiedAt
import Derived.ProofKit
import Derived.OpenShut
import Derived.ChangeOld
import Derived.Below
set_option linter.unusedVariables false
set_option linter.unusedSimpArgs false
namespace Go.Proofs.YtdgehpocmfjbiaaDoor.fnProgs
open Go Go.ChangeShapes Go.WideShapes Go.ChangeAt
theorem l9 : ((Rows.fnProgsRow.inPlace == Tryd.pinned.checked.prog.inPlace (12 : FuncId))) = true := by kernel_rfl
theorem l10 : ((Rows.fnProgsRow.unfollowed == Tryd.pinned.checked.prog.unfollowed (12 : FuncId))) = true := by kernel_rfl
theorem l11 : ((Rows.fnProgsRow.recurses == Tryd.pinned.checked.prog.recurses (12 : FuncId))) = true := by kernel_rfl
theorem l12 : ((Rows.fnProgsRow.named == Tryd.pinned.checked.prog.varsNamed (12 : FuncId))) = true := by kernel_rfl
theorem c1 : OpenClaim.wfByText (OpenSpec.ofChange Rows.fnProgsSpec) Rows.fnProgsRow = true := by kernel_rfl
theorem c3 : false = Rows.fnProgsRow.goesBy Tryd.pinned.checked.prog := by kernel_rfl
theorem c5 : Tryd.prog.funcNamed "loop.example/pub-g03028/laws.FnProgs" = some 12 := by kernel_rfl
end Go.Proofs.YtdgehpocmfjbiaaDoor.fnProgs
