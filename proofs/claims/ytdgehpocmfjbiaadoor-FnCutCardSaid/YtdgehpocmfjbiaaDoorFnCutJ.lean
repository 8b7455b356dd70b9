/- A part J of the closed facts that the card of FnCut asks of the program, one by one. -/
import Derived.Test.YtdgehpocmfjbiaaDoorCards
import Derived.Test.YtdgehpocmfjbiaaDoorTie
import Derived.Test.YtdgehpocmfjbiaaDoorQa
import Derived.Test.YtdgehpocmfjbiaaDoorQb
import Derived.Test.YtdgehpocmfjbiaaDoorQc
import Derived.LaidMore
import Derived.LaidLaws
import Derived.Stop.Joined
import Derived.SevenTiedAt
import Derived.ProofKit
import Derived.OpenShut
import Derived.ChangeOld
import Derived.Below
set_option linter.unusedVariables false
set_option linter.unusedSimpArgs false
namespace Go.Proofs.YtdgehpocmfjbiaaDoor.fnCut
open Go Go.ChangeShapes Go.WideShapes Go.ChangeAt
theorem and_t {a b : Bool} (h : a = true) (g : b = true) : (a && b) = true := by rw [h, g]; rfl
theorem l0 : (Rows.fnCutRow.wf (OpenSpec.ofChange Rows.fnCutSpec)) = true := by kernel_rfl
theorem l1 : (laidOutB Tryd.pinned.checked.prog) = true := q1
theorem l2 : (mapsRowed Tryd.pinned.checked.prog) = true := q2
theorem l3 : (Tryd.f6.params.all (Tryd.pinned.checked.prog.readableRec ·)) = true := by kernel_rfl
theorem l4 : (namedTie Tryd.pinned.checked.prog Rows.fnCutRow.named Rows.fnCutSpec.vars) = true := by kernel_rfl
theorem l5 : ((Rows.fnCutRow.stops == [])) = true := by kernel_rfl
theorem l6 : ((Tryd.pinned.checked.prog.stops == [])) = true := by kernel_rfl
theorem l7 : ((Rows.fnCutRow.knobs == [])) = true := by kernel_rfl
theorem l8 : ((Tryd.pinned.checked.prog.stopKnobs == [])) = true := by kernel_rfl
theorem l13 : ((Rows.fnCutRow.maps == (Tryd.f6.params.toList ++ Rows.fnCutSpec.plain.varTypes Tryd.pinned.checked.prog).any (Tryd.pinned.checked.prog.mapsRec ·))) = true := by kernel_rfl
theorem l14 : ((Rows.fnCutRow.ifaces == (Tryd.f6.params.toList ++ Rows.fnCutSpec.plain.varTypes Tryd.pinned.checked.prog).any (Tryd.pinned.checked.prog.ifacesRec ·))) = true := by kernel_rfl
theorem l15 : ((Rows.fnCutRow.mapsOut == Tryd.pinned.checked.prog.mapsAmong Tryd.f6.resultTypes.toList)) = true := by kernel_rfl
theorem l16 : ((Rows.fnCutRow.loops == (Tryd.f6.params.toList ++ Rows.fnCutSpec.plain.varTypes Tryd.pinned.checked.prog).any (Tryd.pinned.checked.prog.loopsFrom ·))) = true := by kernel_rfl
theorem l17 : ((Rows.fnCutRow.wideKeys == (Tryd.f6.params.toList ++ Rows.fnCutSpec.plain.varTypes Tryd.pinned.checked.prog ++ Tryd.f6.resultTypes.toList).any (Tryd.pinned.checked.prog.wideKeysFrom ·))) = true := by kernel_rfl
theorem l18 : (Rows.fnCutSpec.vars.all (Tryd.pinned.checked.prog.varReadable ·)) = true := by kernel_rfl
theorem l19 : (Tryd.f6.resultTypes.all (fun t => Tryd.pinned.checked.prog.readableRec t && decide (t < Tryd.pinned.checked.prog.types.size))) = true := by kernel_rfl
theorem l20 : ((Rows.fnCutRow.ifacesOut == Tryd.f6.resultTypes.toList.any (Tryd.pinned.checked.prog.ifacesRec ·))) = true := by kernel_rfl
theorem l21 : ((Rows.fnCutRow.loopsOut == Tryd.f6.resultTypes.toList.any (Tryd.pinned.checked.prog.loopsFrom ·))) = true := by kernel_rfl
theorem l22 : ((Rows.fnCutRow.plainKeys == Tryd.pinned.checked.prog.plainKeys)) = true := q22
theorem l23 : (Rows.fnCutRow.shortTexts.isNone) = true := by kernel_rfl
theorem l24 : (Tryd.pinned.checked.prog.stopsHeard) = true := q24
theorem l25 : (Tryd.pinned.checked.prog.mayEnter) = true := q25
theorem l26 : ((Rows.fnCutRow.lifted == Tryd.pinned.checked.prog.liftsFinal)) = true := q26
theorem l27 : ((Tryd.pinned.checked.prog.make == some Rows.fnCutRow.make)) = true := q27
theorem l28 : ((Rows.fnCutRow.kinds == (if Rows.fnCutRow.domain.isEmpty then [] else Tryd.f6.params.toList.map fun t => match Tryd.pinned.checked.prog.underlying t with | some (.int k) => some k | _ => none))) = true := by kernel_rfl
theorem l29 : ((Rows.fnCutRow.pinned == Rows.fnCutRow.pinnedBy)) = true := by kernel_rfl
theorem l30 : ((Rows.fnCutRow.veiled == (Tryd.f6.params.toList ++ Rows.fnCutSpec.plain.varTypes Tryd.pinned.checked.prog ++ Tryd.f6.resultTypes.toList).any (Tryd.pinned.checked.prog.veiledRec ·))) = true := by kernel_rfl
theorem l31 : (Rows.fnCutRow.veiledFits Tryd.pinned.checked.prog Tryd.f6.params.toList (Tryd.f6.params.toList ++ Rows.fnCutSpec.plain.varTypes Tryd.pinned.checked.prog ++ Tryd.f6.resultTypes.toList)) = true := by kernel_rfl
end Go.Proofs.YtdgehpocmfjbiaaDoor.fnCut
