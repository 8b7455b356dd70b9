/- A part J of the closed facts that the card of FnHead asks of the program, one by one. -/
import Derived.Test.YtdgehpocmfjbiaaDoorCards
import Derived.Test.YtdgehpocmfjbiaaDoorTie
import Derived.LaidMore
import Derived.LaidLaws
import Derived.Stop.Joined
import Derived.SevenTiedAt
import Derived.ProofKit
import Derived.OpenShut
import Derived.ChangeOld
import Derived.Below
set_option linter.unusedVariables false
set_option linter.unusedSimpArgs false
namespace Go.Proofs.YtdgehpocmfjbiaaDoor.fnHead
open Go Go.ChangeShapes Go.WideShapes Go.ChangeAt
theorem and_t {a b : Bool} (h : a = true) (g : b = true) : (a && b) = true := by rw [h, g]; rfl
theorem l0 : (Rows.fnHeadRow.wf (OpenSpec.ofChange Rows.fnHeadSpec)) = true := by kernel_rfl
theorem l1 : (laidOutB Tryd.pinned.checked.prog) = true := by kernel_rfl
theorem l2 : (mapsRowed Tryd.pinned.checked.prog) = true := by kernel_rfl
theorem l3 : (Tryd.f7.params.all (Tryd.pinned.checked.prog.readableRec ·)) = true := by kernel_rfl
theorem l4 : (namedTie Tryd.pinned.checked.prog Rows.fnHeadRow.named Rows.fnHeadSpec.vars) = true := by kernel_rfl
theorem l5 : ((Rows.fnHeadRow.stops == [])) = true := by kernel_rfl
theorem l6 : ((Tryd.pinned.checked.prog.stops == [])) = true := by kernel_rfl
theorem l7 : ((Rows.fnHeadRow.knobs == [])) = true := by kernel_rfl
theorem l8 : ((Tryd.pinned.checked.prog.stopKnobs == [])) = true := by kernel_rfl
theorem l13 : ((Rows.fnHeadRow.maps == (Tryd.f7.params.toList ++ Rows.fnHeadSpec.plain.varTypes Tryd.pinned.checked.prog).any (Tryd.pinned.checked.prog.mapsRec ·))) = true := by kernel_rfl
theorem l14 : ((Rows.fnHeadRow.ifaces == (Tryd.f7.params.toList ++ Rows.fnHeadSpec.plain.varTypes Tryd.pinned.checked.prog).any (Tryd.pinned.checked.prog.ifacesRec ·))) = true := by kernel_rfl
theorem l15 : ((Rows.fnHeadRow.mapsOut == Tryd.pinned.checked.prog.mapsAmong Tryd.f7.resultTypes.toList)) = true := by kernel_rfl
theorem l16 : ((Rows.fnHeadRow.loops == (Tryd.f7.params.toList ++ Rows.fnHeadSpec.plain.varTypes Tryd.pinned.checked.prog).any (Tryd.pinned.checked.prog.loopsFrom ·))) = true := by kernel_rfl
theorem l17 : ((Rows.fnHeadRow.wideKeys == (Tryd.f7.params.toList ++ Rows.fnHeadSpec.plain.varTypes Tryd.pinned.checked.prog ++ Tryd.f7.resultTypes.toList).any (Tryd.pinned.checked.prog.wideKeysFrom ·))) = true := by kernel_rfl
theorem l18 : (Rows.fnHeadSpec.vars.all (Tryd.pinned.checked.prog.varReadable ·)) = true := by kernel_rfl
theorem l19 : (Tryd.f7.resultTypes.all (fun t => Tryd.pinned.checked.prog.readableRec t && decide (t < Tryd.pinned.checked.prog.types.size))) = true := by kernel_rfl
theorem l20 : ((Rows.fnHeadRow.ifacesOut == Tryd.f7.resultTypes.toList.any (Tryd.pinned.checked.prog.ifacesRec ·))) = true := by kernel_rfl
theorem l21 : ((Rows.fnHeadRow.loopsOut == Tryd.f7.resultTypes.toList.any (Tryd.pinned.checked.prog.loopsFrom ·))) = true := by kernel_rfl
theorem l22 : ((Rows.fnHeadRow.plainKeys == Tryd.pinned.checked.prog.plainKeys)) = true := by kernel_rfl
theorem l23 : (Rows.fnHeadRow.shortTexts.isNone) = true := by kernel_rfl
theorem l24 : (Tryd.pinned.checked.prog.stopsHeard) = true := by kernel_rfl
theorem l25 : (Tryd.pinned.checked.prog.mayEnter) = true := by kernel_rfl
theorem l28 : ((Rows.fnHeadRow.kinds == (if Rows.fnHeadRow.domain.isEmpty then [] else Tryd.f7.params.toList.map fun t => match Tryd.pinned.checked.prog.underlying t with | some (.int k) => some k | _ => none))) = true := by kernel_rfl
theorem l29 : ((Rows.fnHeadRow.pinned == Rows.fnHeadRow.pinnedBy)) = true := by kernel_rfl
theorem l30 : ((Rows.fnHeadRow.veiled == (Tryd.f7.params.toList ++ Rows.fnHeadSpec.plain.varTypes Tryd.pinned.checked.prog ++ Tryd.f7.resultTypes.toList).any (Tryd.pinned.checked.prog.veiledRec ·))) = true := by kernel_rfl
theorem l31 : (Rows.fnHeadRow.veiledFits Tryd.pinned.checked.prog Tryd.f7.params.toList (Tryd.f7.params.toList ++ Rows.fnHeadSpec.plain.varTypes Tryd.pinned.checked.prog ++ Tryd.f7.resultTypes.toList)) = true := by kernel_rfl
end Go.Proofs.YtdgehpocmfjbiaaDoor.fnHead
