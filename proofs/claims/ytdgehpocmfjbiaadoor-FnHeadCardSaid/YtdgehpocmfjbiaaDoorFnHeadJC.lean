/- A part JC of the closed facts that the card of FnHead asks of the program, one by one. -/
import Derived.Test.YtdgehpocmfjbiaaDoorCards
import Derived.Test.YtdgehpocmfjbiaaDoorTie
import Derived.LaidMore
import Derived.LaidLaws
import Derived.Stop.Joined
import Derived.SevenTiedAt
import Derived.ProofKit
import Derived.OpenShut
import Derived.ChangeOld
import Derived.Below
set_option linter.unusedVariables false
set_option linter.unusedSimpArgs false
namespace Go.Proofs.YtdgehpocmfjbiaaDoor.fnHead
open Go Go.ChangeShapes Go.WideShapes Go.ChangeAt
theorem l9 : ((Rows.fnHeadRow.inPlace == Tryd.pinned.checked.prog.inPlace (7 : FuncId))) = true := by kernel_rfl
theorem l10 : ((Rows.fnHeadRow.unfollowed == Tryd.pinned.checked.prog.unfollowed (7 : FuncId))) = true := by kernel_rfl
theorem l11 : ((Rows.fnHeadRow.recurses == Tryd.pinned.checked.prog.recurses (7 : FuncId))) = true := by kernel_rfl
theorem l12 : ((Rows.fnHeadRow.named == Tryd.pinned.checked.prog.varsNamed (7 : FuncId))) = true := by kernel_rfl
theorem c1 : OpenClaim.wfByText (OpenSpec.ofChange Rows.fnHeadSpec) Rows.fnHeadRow = true := by kernel_rfl
theorem c2 : true = Tryd.pinned.checked.prog.looks [] := by kernel_rfl
theorem c3 : false = Rows.fnHeadRow.goesBy Tryd.pinned.checked.prog := by kernel_rfl
theorem c4 : Tryd.pinned.checked.prog.mainIs = some (true, "ed888367449acd6afd80057b2906ce1b79ec16b7beef13a0a9ac5f630eedede4".toList) := by kernel_rfl
theorem c5 : Tryd.prog.funcNamed "loop.example/pub-g03028/laws.FnHead" = some 7 := by kernel_rfl
end Go.Proofs.YtdgehpocmfjbiaaDoor.fnHead
