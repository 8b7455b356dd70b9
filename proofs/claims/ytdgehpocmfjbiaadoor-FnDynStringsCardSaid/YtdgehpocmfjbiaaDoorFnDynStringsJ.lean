/- A part J of the closed facts that the card of FnDynStrings asks of the program, one by one. -/
import Derived.Test.YtdgehpocmfjbiaaDoorCards
import Derived.Test.YtdgehpocmfjbiaaDoorTie
import Derived.Test.YtdgehpocmfjbiaaDoorQa
import Derived.Test.YtdgehpocmfjbiaaDoorQb
import Derived.Test.YtdgehpocmfjbiaaDoorQc
import Derived.LaidMore
import Derived.LaidLaws
import Derived.Stop.Joined
import Derived.SevenTiedAt
import Derived.ProofKit
import Derived.OpenShut
import Derived.ChangeOld
import Derived.Below
set_option linter.unusedVariables false
set_option linter.unusedSimpArgs false
namespace Go.Proofs.YtdgehpocmfjbiaaDoor.fnDynStrings
open Go Go.ChangeShapes Go.WideShapes Go.ChangeAt
theorem and_t {a b : Bool} (h : a = true) (g : b = true) : (a && b) = true := by rw [h, g]; rfl
theorem l0 : (Rows.fnDynStringsRow.wf (OpenSpec.ofChange Rows.fnDynStringsSpec)) = true := by kernel_rfl
theorem l1 : (laidOutB Tryd.pinned.checked.prog) = true := q1
theorem l2 : (mapsRowed Tryd.pinned.checked.prog) = true := q2
theorem l3 : (Tryd.f17.params.all (Tryd.pinned.checked.prog.readableRec ·)) = true := by kernel_rfl
theorem l4 : (namedTie Tryd.pinned.checked.prog Rows.fnDynStringsRow.named Rows.fnDynStringsSpec.vars) = true := by kernel_rfl
theorem l5 : ((Rows.fnDynStringsRow.stops == [])) = true := by kernel_rfl
theorem l6 : ((Tryd.pinned.checked.prog.stops == [])) = true := by kernel_rfl
theorem l7 : ((Rows.fnDynStringsRow.knobs == [])) = true := by kernel_rfl
theorem l8 : ((Tryd.pinned.checked.prog.stopKnobs == [])) = true := by kernel_rfl
theorem l13 : ((Rows.fnDynStringsRow.maps == (Tryd.f17.params.toList ++ Rows.fnDynStringsSpec.plain.varTypes Tryd.pinned.checked.prog).any (Tryd.pinned.checked.prog.mapsRec ·))) = true := by kernel_rfl
theorem l14 : ((Rows.fnDynStringsRow.ifaces == (Tryd.f17.params.toList ++ Rows.fnDynStringsSpec.plain.varTypes Tryd.pinned.checked.prog).any (Tryd.pinned.checked.prog.ifacesRec ·))) = true := by kernel_rfl
theorem l15 : ((Rows.fnDynStringsRow.mapsOut == Tryd.pinned.checked.prog.mapsAmong Tryd.f17.resultTypes.toList)) = true := by kernel_rfl
theorem l16 : ((Rows.fnDynStringsRow.loops == (Tryd.f17.params.toList ++ Rows.fnDynStringsSpec.plain.varTypes Tryd.pinned.checked.prog).any (Tryd.pinned.checked.prog.loopsFrom ·))) = true := by kernel_rfl
theorem l17 : ((Rows.fnDynStringsRow.wideKeys == (Tryd.f17.params.toList ++ Rows.fnDynStringsSpec.plain.varTypes Tryd.pinned.checked.prog ++ Tryd.f17.resultTypes.toList).any (Tryd.pinned.checked.prog.wideKeysFrom ·))) = true := by kernel_rfl
theorem l18 : (Rows.fnDynStringsSpec.vars.all (Tryd.pinned.checked.prog.varReadable ·)) = true := by kernel_rfl
theorem l19 : (Tryd.f17.resultTypes.all (fun t => Tryd.pinned.checked.prog.readableRec t && decide (t < Tryd.pinned.checked.prog.types.size))) = true := by kernel_rfl
theorem l20 : ((Rows.fnDynStringsRow.ifacesOut == Tryd.f17.resultTypes.toList.any (Tryd.pinned.checked.prog.ifacesRec ·))) = true := by kernel_rfl
theorem l21 : ((Rows.fnDynStringsRow.loopsOut == Tryd.f17.resultTypes.toList.any (Tryd.pinned.checked.prog.loopsFrom ·))) = true := by kernel_rfl
theorem l22 : ((Rows.fnDynStringsRow.plainKeys == Tryd.pinned.checked.prog.plainKeys)) = true := q22
theorem l23 : (Rows.fnDynStringsRow.shortTexts.isNone) = true := by kernel_rfl
theorem l24 : (Tryd.pinned.checked.prog.stopsHeard) = true := q24
theorem l25 : (Tryd.pinned.checked.prog.mayEnter) = true := q25
theorem l26 : ((Rows.fnDynStringsRow.lifted == Tryd.pinned.checked.prog.liftsFinal)) = true := q26
theorem l27 : ((Tryd.pinned.checked.prog.make == some Rows.fnDynStringsRow.make)) = true := q27
theorem l28 : ((Rows.fnDynStringsRow.kinds == (if Rows.fnDynStringsRow.domain.isEmpty then [] else Tryd.f17.params.toList.map fun t => match Tryd.pinned.checked.prog.underlying t with | some (.int k) => some k | _ => none))) = true := by kernel_rfl
theorem l29 : ((Rows.fnDynStringsRow.pinned == Rows.fnDynStringsRow.pinnedBy)) = true := by kernel_rfl
theorem l30 : ((Rows.fnDynStringsRow.veiled == (Tryd.f17.params.toList ++ Rows.fnDynStringsSpec.plain.varTypes Tryd.pinned.checked.prog ++ Tryd.f17.resultTypes.toList).any (Tryd.pinned.checked.prog.veiledRec ·))) = true := by kernel_rfl
theorem l31 : (Rows.fnDynStringsRow.veiledFits Tryd.pinned.checked.prog Tryd.f17.params.toList (Tryd.f17.params.toList ++ Rows.fnDynStringsSpec.plain.varTypes Tryd.pinned.checked.prog ++ Tryd.f17.resultTypes.toList)) = true := by kernel_rfl
end Go.Proofs.YtdgehpocmfjbiaaDoor.fnDynStrings
