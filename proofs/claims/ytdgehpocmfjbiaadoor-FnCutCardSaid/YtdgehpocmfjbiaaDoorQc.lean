/- A part Qc of the closed facts that the card of the laws asks of the program, one by one. -/
import Derived.Test.YtdgehpocmfjbiaaDoorCards
import Derived.Test.YtdgehpocmfjbiaaDoorTie
import Derived.LaidMore
import Derived.LaidLaws
import Derived.Stop.Joined
import Derived.SevenTiedAt
import Derived.ProofKit
import Derived.OpenShut
import Derived.ChangeOld
import Derived.Below
set_option linter.unusedVariables false
set_option linter.unusedSimpArgs false
namespace Go.Proofs.YtdgehpocmfjbiaaDoor
open Go Go.ChangeShapes Go.WideShapes Go.ChangeAt
theorem q1 : (laidOutB Tryd.pinned.checked.prog) = true := by kernel_rfl
theorem q2 : (mapsRowed Tryd.pinned.checked.prog) = true := by kernel_rfl
theorem q22 : ((Rows.fnHeadRow.plainKeys == Tryd.pinned.checked.prog.plainKeys)) = true := by kernel_rfl
theorem q24 : (Tryd.pinned.checked.prog.stopsHeard) = true := by kernel_rfl
theorem q25 : (Tryd.pinned.checked.prog.mayEnter) = true := by kernel_rfl
theorem qc2 : true = Tryd.pinned.checked.prog.looks [] := by kernel_rfl
theorem qc4 : Tryd.pinned.checked.prog.mainIs = some (true, "ed888367449acd6afd80057b2906ce1b79ec16b7beef13a0a9ac5f630eedede4".toList) := by kernel_rfl
end Go.Proofs.YtdgehpocmfjbiaaDoor
