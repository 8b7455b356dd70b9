/- A part JC of the closed facts that the card of FnMagic asks of the program, one by one. -/
import Derived.Test.YtdgehpocmfjbiaaDoorCards
import Derived.Test.YtdgehpocmfjbiaaDoorTie
import Derived.LaidMore
import Derived.LaidLaws
import Derived.Stop.Joined
import Derived.SevenTiedAt
import Derived.ProofKit
import Derived.OpenShut
import Derived.ChangeOld
import Derived.Below
set_option linter.unusedVariables false
set_option linter.unusedSimpArgs false
namespace Go.Proofs.YtdgehpocmfjbiaaDoor.fnMagic
open Go Go.ChangeShapes Go.WideShapes Go.ChangeAt
theorem l9 : ((Rows.fnMagicRow.inPlace == Tryd.pinned.checked.prog.inPlace (8 : FuncId))) = true := by kernel_rfl
theorem l10 : ((Rows.fnMagicRow.unfollowed == Tryd.pinned.checked.prog.unfollowed (8 : FuncId))) = true := by kernel_rfl
theorem l11 : ((Rows.fnMagicRow.recurses == Tryd.pinned.checked.prog.recurses (8 : FuncId))) = true := by kernel_rfl
theorem l12 : ((Rows.fnMagicRow.named == Tryd.pinned.checked.prog.varsNamed (8 : FuncId))) = true := by kernel_rfl
theorem c1 : OpenClaim.wfByText (OpenSpec.ofChange Rows.fnMagicSpec) Rows.fnMagicRow = true := by kernel_rfl
theorem c3 : false = Rows.fnMagicRow.goesBy Tryd.pinned.checked.prog := by kernel_rfl
theorem c5 : Tryd.prog.funcNamed "loop.example/pub-g03028/laws.FnMagic" = some 8 := by kernel_rfl
end Go.Proofs.YtdgehpocmfjbiaaDoor.fnMagic
