/- A part JC of the closed facts that the card of FnImported asks of the program, one by one. -/
import Derived.Test.YtdgehpocmfjbiaaDoorCards
import Derived.Test.YtdgehpocmfjbiaaDoorTie
import Derived.LaidMore
import Derived.LaidLaws
import Derived.Stop.Joined
import Derived.SevenTiedAt
import Derived.ProofKit
import Derived.OpenShut
import Derived.ChangeOld
import Derived.Below
set_option linter.unusedVariables false
set_option linter.unusedSimpArgs false
namespace Go.Proofs.YtdgehpocmfjbiaaDoor.fnImported
open Go Go.ChangeShapes Go.WideShapes Go.ChangeAt
theorem l9 : ((Rows.fnImportedRow.inPlace == Tryd.pinned.checked.prog.inPlace (4 : FuncId))) = true := by kernel_rfl
theorem l10 : ((Rows.fnImportedRow.unfollowed == Tryd.pinned.checked.prog.unfollowed (4 : FuncId))) = true := by kernel_rfl
theorem l11 : ((Rows.fnImportedRow.recurses == Tryd.pinned.checked.prog.recurses (4 : FuncId))) = true := by kernel_rfl
theorem l12 : ((Rows.fnImportedRow.named == Tryd.pinned.checked.prog.varsNamed (4 : FuncId))) = true := by kernel_rfl
theorem c1 : OpenClaim.wfByText (OpenSpec.ofChange Rows.fnImportedSpec) Rows.fnImportedRow = true := by kernel_rfl
theorem c3 : false = Rows.fnImportedRow.goesBy Tryd.pinned.checked.prog := by kernel_rfl
theorem c5 : Tryd.prog.funcNamed "loop.example/pub-g03028/laws.FnImported" = some 4 := by kernel_rfl
end Go.Proofs.YtdgehpocmfjbiaaDoor.fnImported
