/- A part JC of the closed facts that the card of FnClasses asks of the program, one by one. -/
import Derived.Test.YtdgehpocmfjbiaaDoorCards
import Derived.Test.YtdgehpocmfjbiaaDoorTie
import Derived.LaidMore
import Derived.LaidLaws
import Derived.Stop.Joined
import Derived.SevenTiedAt
import Derived.ProofKit
import Derived.OpenShut
import Derived.ChangeOld
import Derived.Below
set_option linter.unusedVariables false
set_option linter.unusedSimpArgs false
namespace Go.Proofs.YtdgehpocmfjbiaaDoor.fnClasses
open Go Go.ChangeShapes Go.WideShapes Go.ChangeAt
theorem l9 : ((Rows.fnClassesRow.inPlace == Tryd.pinned.checked.prog.inPlace (11 : FuncId))) = true := by kernel_rfl
theorem l10 : ((Rows.fnClassesRow.unfollowed == Tryd.pinned.checked.prog.unfollowed (11 : FuncId))) = true := by kernel_rfl
theorem l11 : ((Rows.fnClassesRow.recurses == Tryd.pinned.checked.prog.recurses (11 : FuncId))) = true := by kernel_rfl
theorem l12 : ((Rows.fnClassesRow.named == Tryd.pinned.checked.prog.varsNamed (11 : FuncId))) = true := by kernel_rfl
theorem c1 : OpenClaim.wfByText (OpenSpec.ofChange Rows.fnClassesSpec) Rows.fnClassesRow = true := by kernel_rfl
theorem c3 : false = Rows.fnClassesRow.goesBy Tryd.pinned.checked.prog := by kernel_rfl
theorem c5 : Tryd.prog.funcNamed "loop.example/pub-g03028/laws.FnClasses" = some 11 := by kernel_rfl
end Go.Proofs.YtdgehpocmfjbiaaDoor.fnClasses
