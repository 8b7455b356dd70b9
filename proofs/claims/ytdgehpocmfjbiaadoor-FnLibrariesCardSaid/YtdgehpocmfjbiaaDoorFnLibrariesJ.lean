/- A part J of the closed facts that the card of FnLibraries asks of the program, one by one. -/
import Derived.Test.YtdgehpocmfjbiaaDoorCards
import Derived.Test.YtdgehpocmfjbiaaDoorTie
import Derived.Test.YtdgehpocmfjbiaaDoorQa
import Derived.Test.YtdgehpocmfjbiaaDoorQb
import Derived.Test.YtdgehpocmfjbiaaDoorQc
import Derived.LaidMore
import Derived.LaidLaws
import Derived.Stop.Joined
import Derived.SevenTiedAt
import Derived.ProofKit
import Derived.OpenShut
import Derived.ChangeOld
import Derived.Below
set_option linter.unusedVariables false
set_option linter.unusedSimpArgs false
namespace Go.Proofs.YtdgehpocmfjbiaaDoor.fnLibraries
open Go Go.ChangeShapes Go.WideShapes Go.ChangeAt
theorem and_t {a b : Bool} (h : a = true) (g : b = true) : (a && b) = true := by rw [h, g]; rfl
theorem l0 : (Rows.fnLibrariesRow.wf (OpenSpec.ofChange Rows.fnLibrariesSpec)) = true := by kernel_rfl
theorem l1 : (laidOutB Tryd.pinned.checked.prog) = true := q1
theorem l2 : (mapsRowed Tryd.pinned.checked.prog) = true := q2
theorem l3 : (Tryd.f18.params.all (Tryd.pinned.checked.prog.readableRec ·)) = true := by kernel_rfl
theorem l4 : (namedTie Tryd.pinned.checked.prog Rows.fnLibrariesRow.named Rows.fnLibrariesSpec.vars) = true := by kernel_rfl
theorem l5 : ((Rows.fnLibrariesRow.stops == [])) = true := by kernel_rfl
theorem l6 : ((Tryd.pinned.checked.prog.stops == [])) = true := by kernel_rfl
theorem l7 : ((Rows.fnLibrariesRow.knobs == [])) = true := by kernel_rfl
theorem l8 : ((Tryd.pinned.checked.prog.stopKnobs == [])) = true := by kernel_rfl
theorem l13 : ((Rows.fnLibrariesRow.maps == (Tryd.f18.params.toList ++ Rows.fnLibrariesSpec.plain.varTypes Tryd.pinned.checked.prog).any (Tryd.pinned.checked.prog.mapsRec ·))) = true := by kernel_rfl
theorem l14 : ((Rows.fnLibrariesRow.ifaces == (Tryd.f18.params.toList ++ Rows.fnLibrariesSpec.plain.varTypes Tryd.pinned.checked.prog).any (Tryd.pinned.checked.prog.ifacesRec ·))) = true := by kernel_rfl
theorem l15 : ((Rows.fnLibrariesRow.mapsOut == Tryd.pinned.checked.prog.mapsAmong Tryd.f18.resultTypes.toList)) = true := by kernel_rfl
theorem l16 : ((Rows.fnLibrariesRow.loops == (Tryd.f18.params.toList ++ Rows.fnLibrariesSpec.plain.varTypes Tryd.pinned.checked.prog).any (Tryd.pinned.checked.prog.loopsFrom ·))) = true := by kernel_rfl
theorem l17 : ((Rows.fnLibrariesRow.wideKeys == (Tryd.f18.params.toList ++ Rows.fnLibrariesSpec.plain.varTypes Tryd.pinned.checked.prog ++ Tryd.f18.resultTypes.toList).any (Tryd.pinned.checked.prog.wideKeysFrom ·))) = true := by kernel_rfl
theorem l18 : (Rows.fnLibrariesSpec.vars.all (Tryd.pinned.checked.prog.varReadable ·)) = true := by kernel_rfl
theorem l19 : (Tryd.f18.resultTypes.all (fun t => Tryd.pinned.checked.prog.readableRec t && decide (t < Tryd.pinned.checked.prog.types.size))) = true := by kernel_rfl
theorem l20 : ((Rows.fnLibrariesRow.ifacesOut == Tryd.f18.resultTypes.toList.any (Tryd.pinned.checked.prog.ifacesRec ·))) = true := by kernel_rfl
theorem l21 : ((Rows.fnLibrariesRow.loopsOut == Tryd.f18.resultTypes.toList.any (Tryd.pinned.checked.prog.loopsFrom ·))) = true := by kernel_rfl
theorem l22 : ((Rows.fnLibrariesRow.plainKeys == Tryd.pinned.checked.prog.plainKeys)) = true := q22
theorem l23 : (Rows.fnLibrariesRow.shortTexts.isNone) = true := by kernel_rfl
theorem l24 : (Tryd.pinned.checked.prog.stopsHeard) = true := q24
theorem l25 : (Tryd.pinned.checked.prog.mayEnter) = true := q25
theorem l26 : ((Rows.fnLibrariesRow.lifted == Tryd.pinned.checked.prog.liftsFinal)) = true := q26
theorem l27 : ((Tryd.pinned.checked.prog.make == some Rows.fnLibrariesRow.make)) = true := q27
theorem l28 : ((Rows.fnLibrariesRow.kinds == (if Rows.fnLibrariesRow.domain.isEmpty then [] else Tryd.f18.params.toList.map fun t => match Tryd.pinned.checked.prog.underlying t with | some (.int k) => some k | _ => none))) = true := by kernel_rfl
theorem l29 : ((Rows.fnLibrariesRow.pinned == Rows.fnLibrariesRow.pinnedBy)) = true := by kernel_rfl
theorem l30 : ((Rows.fnLibrariesRow.veiled == (Tryd.f18.params.toList ++ Rows.fnLibrariesSpec.plain.varTypes Tryd.pinned.checked.prog ++ Tryd.f18.resultTypes.toList).any (Tryd.pinned.checked.prog.veiledRec ·))) = true := by kernel_rfl
theorem l31 : (Rows.fnLibrariesRow.veiledFits Tryd.pinned.checked.prog Tryd.f18.params.toList (Tryd.f18.params.toList ++ Rows.fnLibrariesSpec.plain.varTypes Tryd.pinned.checked.prog ++ Tryd.f18.resultTypes.toList)) = true := by kernel_rfl
end Go.Proofs.YtdgehpocmfjbiaaDoor.fnLibraries
