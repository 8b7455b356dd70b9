/- A part JC of the closed facts that the card of FnByName asks of the program, one by one. -/
import Derived.Test.YtdgehpocmfjbiaaDoorCards
import Derived.Test.YtdgehpocmfjbiaaDoorTie
import Derived.LaidMore
import Derived.LaidLaws
import Derived.Stop.Joined
import Derived.SevenTiedAt
import Derived.ProofKit
import Derived.OpenShut
import Derived.ChangeOld
import Derived.Below
set_option linter.unusedVariables false
set_option linter.unusedSimpArgs false
namespace Go.Proofs.YtdgehpocmfjbiaaDoor.fnByName
open Go Go.ChangeShapes Go.WideShapes Go.ChangeAt
theorem l9 : ((Rows.fnByNameRow.inPlace == Tryd.pinned.checked.prog.inPlace (14 : FuncId))) = true := by kernel_rfl
theorem l10 : ((Rows.fnByNameRow.unfollowed == Tryd.pinned.checked.prog.unfollowed (14 : FuncId))) = true := by kernel_rfl
theorem l11 : ((Rows.fnByNameRow.recurses == Tryd.pinned.checked.prog.recurses (14 : FuncId))) = true := by kernel_rfl
theorem l12 : ((Rows.fnByNameRow.named == Tryd.pinned.checked.prog.varsNamed (14 : FuncId))) = true := by kernel_rfl
theorem c1 : OpenClaim.wfByText (OpenSpec.ofChange Rows.fnByNameSpec) Rows.fnByNameRow = true := by kernel_rfl
theorem c3 : false = Rows.fnByNameRow.goesBy Tryd.pinned.checked.prog := by kernel_rfl
theorem c5 : Tryd.prog.funcNamed "loop.example/pub-g03028/laws.FnByName" = some 14 := by kernel_rfl
end Go.Proofs.YtdgehpocmfjbiaaDoor.fnByName
