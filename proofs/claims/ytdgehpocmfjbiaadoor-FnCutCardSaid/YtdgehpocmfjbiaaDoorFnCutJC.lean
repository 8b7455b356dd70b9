/- A part JC of the closed facts that the card of FnCut asks of the program, one by one. -/
import Derived.Test.YtdgehpocmfjbiaaDoorCards
import Derived.Test.YtdgehpocmfjbiaaDoorTie
import Derived.LaidMore
import Derived.LaidLaws
import Derived.Stop.Joined
import Derived.SevenTiedAt
import Derived.ProofKit
import Derived.OpenShut
import Derived.ChangeOld
import Derived.Below
set_option linter.unusedVariables false
set_option linter.unusedSimpArgs false
namespace Go.Proofs.YtdgehpocmfjbiaaDoor.fnCut
open Go Go.ChangeShapes Go.WideShapes Go.ChangeAt
theorem l9 : ((Rows.fnCutRow.inPlace == Tryd.pinned.checked.prog.inPlace (6 : FuncId))) = true := by kernel_rfl
theorem l10 : ((Rows.fnCutRow.unfollowed == Tryd.pinned.checked.prog.unfollowed (6 : FuncId))) = true := by kernel_rfl
theorem l11 : ((Rows.fnCutRow.recurses == Tryd.pinned.checked.prog.recurses (6 : FuncId))) = true := by kernel_rfl
theorem l12 : ((Rows.fnCutRow.named == Tryd.pinned.checked.prog.varsNamed (6 : FuncId))) = true := by kernel_rfl
theorem c1 : OpenClaim.wfByText (OpenSpec.ofChange Rows.fnCutSpec) Rows.fnCutRow = true := by kernel_rfl
theorem c3 : false = Rows.fnCutRow.goesBy Tryd.pinned.checked.prog := by kernel_rfl
theorem c5 : Tryd.prog.funcNamed "loop.example/pub-g03028/laws.FnCut" = some 6 := by kernel_rfl
end Go.Proofs.YtdgehpocmfjbiaaDoor.fnCut
