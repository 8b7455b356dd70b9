/- A part JC of the closed facts that the card of FnLibraries asks of the program, one by one. -/
import Derived.Test.YtdgehpocmfjbiaaDoorCards
import Derived.Test.YtdgehpocmfjbiaaDoorTie
import Derived.LaidMore
import Derived.LaidLaws
import Derived.Stop.Joined
import Derived.SevenTiedAt
import Derived.ProofKit
import Derived.OpenShut
import Derived.ChangeOld
import Derived.Below
set_option linter.unusedVariables false
set_option linter.unusedSimpArgs false
namespace Go.Proofs.YtdgehpocmfjbiaaDoor.fnLibraries
open Go Go.ChangeShapes Go.WideShapes Go.ChangeAt
theorem l9 : ((Rows.fnLibrariesRow.inPlace == Tryd.pinned.checked.prog.inPlace (18 : FuncId))) = true := by kernel_rfl
theorem l10 : ((Rows.fnLibrariesRow.unfollowed == Tryd.pinned.checked.prog.unfollowed (18 : FuncId))) = true := by kernel_rfl
theorem l11 : ((Rows.fnLibrariesRow.recurses == Tryd.pinned.checked.prog.recurses (18 : FuncId))) = true := by kernel_rfl
theorem l12 : ((Rows.fnLibrariesRow.named == Tryd.pinned.checked.prog.varsNamed (18 : FuncId))) = true := by kernel_rfl
theorem c1 : OpenClaim.wfByText (OpenSpec.ofChange Rows.fnLibrariesSpec) Rows.fnLibrariesRow = true := by kernel_rfl
theorem c3 : false = Rows.fnLibrariesRow.goesBy Tryd.pinned.checked.prog := by kernel_rfl
theorem c5 : Tryd.prog.funcNamed "loop.example/pub-g03028/laws.FnLibraries" = some 18 := by kernel_rfl
end Go.Proofs.YtdgehpocmfjbiaaDoor.fnLibraries
