/- A part JC of the closed facts that the card of FnProgBytes asks of the program, one by one. -/
import Derived.Test.YtdgehpocmfjbiaaDoorCards
import Derived.Test.YtdgehpocmfjbiaaDoorTie
import Derived.LaidMore
import Derived.LaidLaws
import Derived.Stop.Joined
import Derived.SevenTiedAt
import Derived.ProofKit
import Derived.OpenShut
import Derived.ChangeOld
import Derived.Below
set_option linter.unusedVariables false
set_option linter.unusedSimpArgs false
namespace Go.Proofs.YtdgehpocmfjbiaaDoor.fnProgBytes
open Go Go.ChangeShapes Go.WideShapes Go.ChangeAt
theorem l9 : ((Rows.fnProgBytesRow.inPlace == Tryd.pinned.checked.prog.inPlace (10 : FuncId))) = true := by kernel_rfl
theorem l10 : ((Rows.fnProgBytesRow.unfollowed == Tryd.pinned.checked.prog.unfollowed (10 : FuncId))) = true := by kernel_rfl
theorem l11 : ((Rows.fnProgBytesRow.recurses == Tryd.pinned.checked.prog.recurses (10 : FuncId))) = true := by kernel_rfl
theorem l12 : ((Rows.fnProgBytesRow.named == Tryd.pinned.checked.prog.varsNamed (10 : FuncId))) = true := by kernel_rfl
theorem c1 : OpenClaim.wfByText (OpenSpec.ofChange Rows.fnProgBytesSpec) Rows.fnProgBytesRow = true := by kernel_rfl
theorem c3 : false = Rows.fnProgBytesRow.goesBy Tryd.pinned.checked.prog := by kernel_rfl
theorem c5 : Tryd.prog.funcNamed "loop.example/pub-g03028/laws.FnProgBytes" = some 10 := by kernel_rfl
end Go.Proofs.YtdgehpocmfjbiaaDoor.fnProgBytes
