/- A part Qa of the closed facts that the card of the laws asks of the program, one by one. -/
import Derived.Test.YtdgehpocmfjbiaaDoorCards
import Derived.Test.YtdgehpocmfjbiaaDoorTie
import Derived.LaidMore
import Derived.LaidLaws
import Derived.Stop.Joined
import Derived.SevenTiedAt
import Derived.ProofKit
import Derived.OpenShut
import Derived.ChangeOld
import Derived.Below
set_option linter.unusedVariables false
set_option linter.unusedSimpArgs false
namespace Go.Proofs.YtdgehpocmfjbiaaDoor
open Go Go.ChangeShapes Go.WideShapes Go.ChangeAt
theorem q26 : ((Rows.fnHeadRow.lifted == Tryd.pinned.checked.prog.liftsFinal)) = true := by kernel_rfl
end Go.Proofs.YtdgehpocmfjbiaaDoor
