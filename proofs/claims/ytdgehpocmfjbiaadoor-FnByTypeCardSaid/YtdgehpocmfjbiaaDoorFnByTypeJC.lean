/- A part JC of the closed facts that the card of FnByType asks of the program, one by one. -/
import Derived.Test.YtdgehpocmfjbiaaDoorCards
import Derived.Test.YtdgehpocmfjbiaaDoorTie
import Derived.LaidMore
import Derived.LaidLaws
import Derived.Stop.Joined
import Derived.SevenTiedAt
import Derived.ProofKit
import Derived.OpenShut
import Derived.ChangeOld
import Derived.Below
set_option linter.unusedVariables false
set_option linter.unusedSimpArgs false
namespace Go.Proofs.YtdgehpocmfjbiaaDoor.fnByType
open Go Go.ChangeShapes Go.WideShapes Go.ChangeAt
theorem l9 : ((Rows.fnByTypeRow.inPlace == Tryd.pinned.checked.prog.inPlace (15 : FuncId))) = true := by kernel_rfl
theorem l10 : ((Rows.fnByTypeRow.unfollowed == Tryd.pinned.checked.prog.unfollowed (15 : FuncId))) = true := by kernel_rfl
theorem l11 : ((Rows.fnByTypeRow.recurses == Tryd.pinned.checked.prog.recurses (15 : FuncId))) = true := by kernel_rfl
theorem l12 : ((Rows.fnByTypeRow.named == Tryd.pinned.checked.prog.varsNamed (15 : FuncId))) = true := by kernel_rfl
theorem c1 : OpenClaim.wfByText (OpenSpec.ofChange Rows.fnByTypeSpec) Rows.fnByTypeRow = true := by kernel_rfl
theorem c3 : false = Rows.fnByTypeRow.goesBy Tryd.pinned.checked.prog := by kernel_rfl
theorem c5 : Tryd.prog.funcNamed "loop.example/pub-g03028/laws.FnByType" = some 15 := by kernel_rfl
end Go.Proofs.YtdgehpocmfjbiaaDoor.fnByType
