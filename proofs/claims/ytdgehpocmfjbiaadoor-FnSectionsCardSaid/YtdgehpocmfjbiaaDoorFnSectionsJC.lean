/- A part JC of the closed facts that the card of FnSections asks of the program, one by one. -/
import Derived.Test.YtdgehpocmfjbiaaDoorCards
import Derived.Test.YtdgehpocmfjbiaaDoorTie
import Derived.LaidMore
import Derived.LaidLaws
import Derived.Stop.Joined
import Derived.SevenTiedAt
import Derived.ProofKit
import Derived.OpenShut
import Derived.ChangeOld
import Derived.Below
set_option linter.unusedVariables false
set_option linter.unusedSimpArgs false
namespace Go.Proofs.YtdgehpocmfjbiaaDoor.fnSections
open Go Go.ChangeShapes Go.WideShapes Go.ChangeAt
theorem l9 : ((Rows.fnSectionsRow.inPlace == Tryd.pinned.checked.prog.inPlace (13 : FuncId))) = true := by kernel_rfl
theorem l10 : ((Rows.fnSectionsRow.unfollowed == Tryd.pinned.checked.prog.unfollowed (13 : FuncId))) = true := by kernel_rfl
theorem l11 : ((Rows.fnSectionsRow.recurses == Tryd.pinned.checked.prog.recurses (13 : FuncId))) = true := by kernel_rfl
theorem l12 : ((Rows.fnSectionsRow.named == Tryd.pinned.checked.prog.varsNamed (13 : FuncId))) = true := by kernel_rfl
theorem c1 : OpenClaim.wfByText (OpenSpec.ofChange Rows.fnSectionsSpec) Rows.fnSectionsRow = true := by kernel_rfl
theorem c3 : false = Rows.fnSectionsRow.goesBy Tryd.pinned.checked.prog := by kernel_rfl
theorem c5 : Tryd.prog.funcNamed "loop.example/pub-g03028/laws.FnSections" = some 13 := by kernel_rfl
end Go.Proofs.YtdgehpocmfjbiaaDoor.fnSections
