/- A part JC of the closed facts that the card of FnSectionBytes asks of the program, one by one. -/
import Derived.Test.YtdgehpocmfjbiaaDoorCards
import Derived.Test.YtdgehpocmfjbiaaDoorTie
import Derived.LaidMore
import Derived.LaidLaws
import Derived.Stop.Joined
import Derived.SevenTiedAt
import Derived.ProofKit
import Derived.OpenShut
import Derived.ChangeOld
import Derived.Below
set_option linter.unusedVariables false
set_option linter.unusedSimpArgs false
namespace Go.Proofs.YtdgehpocmfjbiaaDoor.fnSectionBytes
open Go Go.ChangeShapes Go.WideShapes Go.ChangeAt
theorem l9 : ((Rows.fnSectionBytesRow.inPlace == Tryd.pinned.checked.prog.inPlace (9 : FuncId))) = true := by kernel_rfl
theorem l10 : ((Rows.fnSectionBytesRow.unfollowed == Tryd.pinned.checked.prog.unfollowed (9 : FuncId))) = true := by kernel_rfl
theorem l11 : ((Rows.fnSectionBytesRow.recurses == Tryd.pinned.checked.prog.recurses (9 : FuncId))) = true := by kernel_rfl
theorem l12 : ((Rows.fnSectionBytesRow.named == Tryd.pinned.checked.prog.varsNamed (9 : FuncId))) = true := by kernel_rfl
theorem c1 : OpenClaim.wfByText (OpenSpec.ofChange Rows.fnSectionBytesSpec) Rows.fnSectionBytesRow = true := by kernel_rfl
theorem c3 : false = Rows.fnSectionBytesRow.goesBy Tryd.pinned.checked.prog := by kernel_rfl
theorem c5 : Tryd.prog.funcNamed "loop.example/pub-g03028/laws.FnSectionBytes" = some 9 := by kernel_rfl
end Go.Proofs.YtdgehpocmfjbiaaDoor.fnSectionBytes
