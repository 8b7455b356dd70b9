/- Proved: without a table of symbols there is the error of none, for both kinds, at every argument. No condition. -/
import Derived.Test.YtdgehpocmfjbiaaDoorRq
import Derived.Test.YtdgehpocmfjbiaaDoorRg
import Derived.LaidEqlPtr
import Derived.Test.YtdgehpocmfjbiaaDoorRh
import Derived.Test.YtdgehpocmfjbiaaDoorCards
import Derived.Test.YtdgehpocmfjbiaaDoorTie
import Derived.Test.YtdgehpocmfjbiaaDoorRp
import Derived.Test.YtdgehpocmfjbiaaDoorFnNoSymbolsJ
import Derived.Test.YtdgehpocmfjbiaaDoorFnNoSymbolsJC
import Derived.LaidMore
import Derived.LaidLaws
import Derived.Stop.Joined
import Derived.SevenTiedAt
import Derived.ProofKit
import Derived.OpenShut
import Derived.ShutString
import Derived.ChangeOld
import Derived.Below
set_option linter.unusedVariables false
set_option linter.unusedSimpArgs false
set_option maxRecDepth 100000
set_option maxHeartbeats 2000000
namespace Go.Proofs.YtdgehpocmfjbiaaDoor
open Go Go.RowKit
theorem Ul (ea : Addr) (w : World) : (binOp .eql 103 (.iface 242 (.pointer (some ea))) (.iface 242 (.pointer (some ea)))).run Tryd.prog w = .ok (.bool true) w := by
 have h1 : (Tryd.prog.info? 242).map (·.comparable) = some true := by kernel_rfl
 have h2 : (Tryd.prog.info? 244).map (·.size) = some 1 := by kernel_rfl
 obtain ⟨i, hi, hc⟩ := Option.map_eq_some_iff.1 h1
 obtain ⟨j, hj, -⟩ := Option.map_eq_some_iff.1 h2
 exact run_eql_iface_ptr_same w ea Tryd.underlying103 Tryd.underlying242 hi hc hj
theorem Rl (x y : Operand) (ea : Addr) (w : World) : (eqGuard .eql 103 x y (.iface 242 (.pointer (some ea))) (.iface 242 (.pointer (some ea)))).run Tryd.prog w = .ok () w := by
 simp [eqGuard]
theorem LQ {x : bZ} {tv : Nat} (h : ∀ m ∈ x.ps, m.ty ≠ tv) (h0 : tv ≠ 0) (h3 : tv ≠ 3) (j : Nat) (hj : j < x.ps.length + 2) : (jw x.img j).ty ≠ tv := by
 rcases Nat.eq_zero_or_pos j with rfl | hp
 ·exact fun e => h0 e.symm
 ·obtain ⟨k, rfl⟩ : ∃ k, j = k + 1 := ⟨j - 1, by omega⟩
  by_cases hk : k < x.ps.length
  ·rw [Gi (List.getElem?_eq_getElem hk)]; exact h _ (List.getElem_mem hk)
  ·obtain rfl : k = x.ps.length := by omega
   have e : (jw x.img (x.ps.length + 1)).ty = 3 := by unfold jw; rw [O4]; rfl
   rw [e]; exact fun e => h3 e.symm

theorem P8 {x : bZ} {b c z fb pg aV : Nat} {cur dU : Array Value} {w0 : World} (hF : kR x b c z fb pg aV cur dU w0) (tv : Nat) (hno : ∀ m ∈ x.ps, m.ty ≠ tv) (h0 : tv ≠ 0) (h3 : tv ≠ 3) (ea : Addr) (hE : Row w0 (some ⟨0, 0, none⟩) [.iface 242 (.pointer (some ea))]) : Calls Tryd.prog 101 #[aA fb, aX tv] w0 fun e w' => e = .returned (.tuple #[.slice none 0 0, .slice none 0 0, .iface 242 (.pointer (some ea))]) ∧ Below w0.heap.size w0 w' := by
 obtain ⟨w, hw⟩ : ∃ w, w0 = w := ⟨_, rfl⟩
 have HM : Mm [] w0 w [] := hw ▸ Mm.start w0
 conv => arg 4; rw [hw]
 clear hw
 refine bI Tryd.func101 rfl Tryd.ntmps101 [(0, aA fb), (1, aX tv)] (by kernel_rfl) (Nat.le_of_ble_eq_true rfl) ?_
 intro a HF
 refine aN ?_
 refine wp_pure HF HM rfl 3 [] [(0, aA fb), (1, aX tv)] (by kernel_rfl) fun a HF => ?_
 refine bT ?_
 refine wp_pure HF HM rfl 2 [] [(0, aA fb), (16, aA fb), (17, aX tv)] (by kernel_rfl) fun a HF => ?_
 refine bf HF (by kernel_rfl) 71 #[aA fb, aX tv] (by kernel_rfl) (fun w => by kernel_rfl) (Calls.mono (Dy (hF.below HM.below) tv (LQ hno h0 h3)) ?_)
 rintro _ w1 ⟨rfl, hq⟩
 replace hq := hq.symm; subst hq
 refine ⟨_, rfl, ?_⟩; clear HF; intro a HF
 refine wp_pure HF HM rfl 1 [] [(0, aA fb), (7, .pointer none)] (by kernel_rfl) fun a HF => ?_
 refine aB ?_
 refine wp_seq ?_
 refine aN ?_
 refine wp_pure HF HM rfl 2 [] [(0, aA fb), (7, .pointer none), (20, .bool true)] (by kernel_rfl) fun a HF => ?_
 refine aB ?_
 refine bC HF rfl ?_
 refine qZ (by kernel_rfl) (by kernel_rfl) ?_
 refine pF HF rfl (.iface 242 (.pointer (some ea))) (by kernel_rfl) (fun j => mX rfl rfl (wH (HM.row hE) j) (by kernel_rfl)) fun a HF => ?_
 refine oJ HF HM rfl 3 [] [(4, .slice none 0 0), (5, .slice none 0 0), (6, .iface 242 (.pointer (some ea)))] (by kernel_rfl) fun a HF => ?_
 refine sH ?_
 rintro w2 ⟨nq, hq⟩
 replace HM : Mm [] w0 w2 [] := by rw [hq]; exact HM.drewN nq
 clear hq nq
 refine wp_ret ?_
 repeat first | refine bH ?_ | refine bM ?_
 exact pz HF rfl rfl rfl rfl ⟨rfl, HM.below⟩

theorem P7 {x : bZ} {b c z fb pg aV : Nat} {cur dU : Array Value} {w0 : World} (hF : kR x b c z fb pg aV cur dU w0) (tv : Nat) (hno : ∀ m ∈ x.ps, m.ty ≠ tv) (h0 : tv ≠ 0) (h3 : tv ≠ 3) (ea : Addr) (hE : Row w0 (some ⟨0, 0, none⟩) [.iface 242 (.pointer (some ea))]) : Calls Tryd.prog 100 #[aA fb, aX tv] w0 fun e w' => e = .returned (.tuple #[.slice none 0 0, .slice none 0 0, .iface 242 (.pointer (some ea))]) ∧ Below w0.heap.size w0 w' := by
 obtain ⟨w, hw⟩ : ∃ w, w0 = w := ⟨_, rfl⟩
 have HM : Mm [] w0 w [] := hw ▸ Mm.start w0
 conv => arg 4; rw [hw]
 clear hw
 refine bI Tryd.func100 rfl Tryd.ntmps100 [(0, aA fb), (1, aX tv)] (by kernel_rfl) (Nat.le_of_ble_eq_true rfl) ?_
 intro a HF
 refine aN ?_
 refine wp_pure HF HM rfl 3 [] [(0, aA fb), (1, aX tv)] (by kernel_rfl) fun a HF => ?_
 refine bT ?_
 refine wp_pure HF HM rfl 2 [] [(0, aA fb), (16, aA fb), (17, aX tv)] (by kernel_rfl) fun a HF => ?_
 refine bf HF (by kernel_rfl) 71 #[aA fb, aX tv] (by kernel_rfl) (fun w => by kernel_rfl) (Calls.mono (Dy (hF.below HM.below) tv (LQ hno h0 h3)) ?_)
 rintro _ w1 ⟨rfl, hq⟩
 replace hq := hq.symm; subst hq
 refine ⟨_, rfl, ?_⟩; clear HF; intro a HF
 refine wp_pure HF HM rfl 1 [] [(0, aA fb), (7, .pointer none)] (by kernel_rfl) fun a HF => ?_
 refine aB ?_
 refine wp_seq ?_
 refine aN ?_
 refine wp_pure HF HM rfl 2 [] [(0, aA fb), (7, .pointer none), (20, .bool true)] (by kernel_rfl) fun a HF => ?_
 refine aB ?_
 refine bC HF rfl ?_
 refine qZ (by kernel_rfl) (by kernel_rfl) ?_
 refine pF HF rfl (.iface 242 (.pointer (some ea))) (by kernel_rfl) (fun j => mX rfl rfl (wH (HM.row hE) j) (by kernel_rfl)) fun a HF => ?_
 refine oJ HF HM rfl 3 [] [(4, .slice none 0 0), (5, .slice none 0 0), (6, .iface 242 (.pointer (some ea)))] (by kernel_rfl) fun a HF => ?_
 refine sH ?_
 rintro w2 ⟨nq, hq⟩
 replace HM : Mm [] w0 w2 [] := by rw [hq]; exact HM.drewN nq
 clear hq nq
 refine wp_ret ?_
 repeat first | refine bH ?_ | refine bM ?_
 exact pz HF rfl rfl rfl rfl ⟨rfl, HM.below⟩

theorem SH {x : bZ} {b c z fb pg aV : Nat} {cur dU : Array Value} {w0 : World} (hF : kR x b c z fb pg aV cur dU w0) (hw : x.wide = false) (tv : Nat) (hno : ∀ m ∈ x.ps, m.ty ≠ tv) (h0 : tv ≠ 0) (h3 : tv ≠ 3) (ea : Addr) (hE : Row w0 (some ⟨0, 0, none⟩) [.iface 242 (.pointer (some ea))]) : Calls Tryd.prog 79 #[aA fb, aX tv] w0 fun e w' => e = .returned (.tuple #[.slice none 0 0, .slice none 0 0, .iface 242 (.pointer (some ea))]) ∧ Below w0.heap.size w0 w' := by
 have hfb := hF.Qj hw
 obtain ⟨w, hw⟩ : ∃ w, w0 = w := ⟨_, rfl⟩
 have HM : Mm [] w0 w [] := hw ▸ Mm.start w0
 conv => arg 4; rw [hw]
 clear hw
 refine bI Tryd.func79 rfl Tryd.ntmps79 [(0, aA fb), (1, aX tv)] (by kernel_rfl) (Nat.le_of_ble_eq_true rfl) ?_
 intro a HF
 refine aN ?_
 refine wp_pure HF HM rfl 3 [] [(0, aA fb), (1, aX tv)] (by kernel_rfl) fun a HF => ?_
 refine aB ?_
 refine wp_seq ?_
 refine aN ?_
 refine wp_pure HF HM rfl 4 [] [(0, aA fb), (1, aX tv), (10, aA fb)] (by kernel_rfl) fun a HF => ?_
 refine bU HF (by kernel_rfl) (.int .u8 1) (by kernel_rfl) (dP rfl rfl (by kernel_rfl) ((cell_of_row w fb 0 _ _ _ (HM.old hfb)).trans rfl)) ?_
 clear HF; intro a HF; replace HF := HF.sub [(0, aA fb), (1, aX tv), (11, .int .u8 1)] (by kernel_rfl)
 refine aB ?_
 refine wp_block ?_
 refine aN ?_
 refine wp_pure HF HM rfl 2 [] [(0, aA fb), (1, aX tv), (11, .int .u8 1), (12, .bool false)] (by kernel_rfl) fun a HF => ?_
 refine aB ?_
 refine aZ HF rfl ?_
 refine aN ?_
 refine wp_pure HF HM rfl 2 [] [(0, aA fb), (1, aX tv), (20, .bool true)] (by kernel_rfl) fun a HF => ?_
 refine aB ?_
 refine bC HF rfl ?_
 refine aN ?_
 refine wp_pure HF HM rfl 2 [] [(22, aA fb), (23, aX tv)] (by kernel_rfl) fun a HF => ?_
 refine bf HF (by kernel_rfl) 101 #[aA fb, aX tv] (by kernel_rfl) (fun w => by kernel_rfl) (Calls.mono (P8 (hF.below HM.below) tv hno h0 h3 ea (HM.row hE)) ?_)
 rintro _ w1 ⟨rfl, hb⟩
 replace HM := HM.call hb
 clear hb
 refine ⟨_, rfl, ?_⟩; clear HF; intro a HF
 refine wp_pure HF HM rfl 6 [] [(4, .slice none 0 0), (5, .slice none 0 0), (6, .iface 242 (.pointer (some ea)))] (by kernel_rfl) fun a HF => ?_
 refine aB ?_
 refine wp_ret ?_
 repeat first | refine bH ?_ | refine bM ?_
 exact pz HF rfl rfl rfl rfl ⟨rfl, HM.below⟩

theorem SG {x : bZ} {b c z fb pg aV : Nat} {cur dU : Array Value} {w0 : World} (hF : kR x b c z fb pg aV cur dU w0) (hw : x.wide = true) (tv : Nat) (hno : ∀ m ∈ x.ps, m.ty ≠ tv) (h0 : tv ≠ 0) (h3 : tv ≠ 3) (ea : Addr) (hE : Row w0 (some ⟨0, 0, none⟩) [.iface 242 (.pointer (some ea))]) : Calls Tryd.prog 79 #[aA fb, aX tv] w0 fun e w' => e = .returned (.tuple #[.slice none 0 0, .slice none 0 0, .iface 242 (.pointer (some ea))]) ∧ Below w0.heap.size w0 w' := by
 have hfb := hF.Qi hw
 obtain ⟨w, hw⟩ : ∃ w, w0 = w := ⟨_, rfl⟩
 have HM : Mm [] w0 w [] := hw ▸ Mm.start w0
 conv => arg 4; rw [hw]
 clear hw
 refine bI Tryd.func79 rfl Tryd.ntmps79 [(0, aA fb), (1, aX tv)] (by kernel_rfl) (Nat.le_of_ble_eq_true rfl) ?_
 intro a HF
 refine aN ?_
 refine wp_pure HF HM rfl 3 [] [(0, aA fb), (1, aX tv)] (by kernel_rfl) fun a HF => ?_
 refine aB ?_
 refine wp_seq ?_
 refine aN ?_
 refine wp_pure HF HM rfl 4 [] [(0, aA fb), (1, aX tv), (10, aA fb)] (by kernel_rfl) fun a HF => ?_
 refine bU HF (by kernel_rfl) (.int .u8 2) (by kernel_rfl) (dP rfl rfl (by kernel_rfl) ((cell_of_row w fb 0 _ _ _ (HM.old hfb)).trans rfl)) ?_
 clear HF; intro a HF; replace HF := HF.sub [(0, aA fb), (1, aX tv), (11, .int .u8 2)] (by kernel_rfl)
 refine aB ?_
 refine wp_block ?_
 refine aN ?_
 refine wp_pure HF HM rfl 2 [] [(0, aA fb), (1, aX tv), (11, .int .u8 2), (12, .bool true)] (by kernel_rfl) fun a HF => ?_
 refine aB ?_
 refine bC HF rfl ?_
 refine aN ?_
 refine wp_pure HF HM rfl 2 [] [(14, aA fb), (15, aX tv)] (by kernel_rfl) fun a HF => ?_
 refine bf HF (by kernel_rfl) 100 #[aA fb, aX tv] (by kernel_rfl) (fun w => by kernel_rfl) (Calls.mono (P7 (hF.below HM.below) tv hno h0 h3 ea (HM.row hE)) ?_)
 rintro _ w1 ⟨rfl, hb⟩
 replace HM := HM.call hb
 clear hb
 refine ⟨_, rfl, ?_⟩; clear HF; intro a HF
 refine wp_pure HF HM rfl 6 [] [(4, .slice none 0 0), (5, .slice none 0 0), (6, .iface 242 (.pointer (some ea)))] (by kernel_rfl) fun a HF => ?_
 refine aB ?_
 refine wp_ret ?_
 repeat first | refine bH ?_ | refine bM ?_
 exact pz HF rfl rfl rfl rfl ⟨rfl, HM.below⟩
theorem Rq {x : bZ} {b c z fb pg aV : Nat} {cur dU : Array Value} {w0 : World} (hF : kR x b c z fb pg aV cur dU w0) (tv : Nat) (hno : ∀ m ∈ x.ps, m.ty ≠ tv) (h0 : tv ≠ 0) (h3 : tv ≠ 3) (ea : Addr) (hE : Row w0 (some ⟨0, 0, none⟩) [.iface 242 (.pointer (some ea))]) : Calls Tryd.prog 79 #[aA fb, aX tv] w0 fun e w' => e = .returned (.tuple #[.slice none 0 0, .slice none 0 0, .iface 242 (.pointer (some ea))]) ∧ Below w0.heap.size w0 w' := by
 rcases IZ x.wide with h | h
 ·exact SG hF h tv hno h0 h3 ea hE
 ·exact SH hF h tv hno h0 h3 ea hE

theorem Qp {x : bZ} {b c z fb pg aV : Nat} {cur dU : Array Value} {w0 : World} (hF : kR x b c z fb pg aV cur dU w0) (hno : ∀ m ∈ x.ps, m.ty ≠ 2) (ea : Addr) (hE : Row w0 (some ⟨0, 0, none⟩) [.iface 242 (.pointer (some ea))]) : Calls Tryd.prog 62 #[aA fb] w0 fun e w' => e = .returned (.tuple #[.slice none 0 0, .iface 242 (.pointer (some ea))]) ∧ Below w0.heap.size w0 w' := by
 obtain ⟨w, hw⟩ : ∃ w, w0 = w := ⟨_, rfl⟩
 have HM : Mm [] w0 w [] := hw ▸ Mm.start w0
 conv => arg 4; rw [hw]
 clear hw
 refine bI Tryd.func62 rfl Tryd.ntmps62 [(0, aA fb)] (by kernel_rfl) (Nat.le_of_ble_eq_true rfl) ?_
 intro a HF
 refine aN ?_
 refine wp_pure HF HM rfl 2 [] [(0, aA fb)] (by kernel_rfl) fun a HF => ?_
 refine bT ?_
 refine wp_pure HF HM rfl 1 [] [(8, aA fb)] (by kernel_rfl) fun a HF => ?_
 refine bf HF (by kernel_rfl) 79 #[aA fb, .int .u32 2] (by kernel_rfl) (fun w => by kernel_rfl) (Calls.mono (Rq (hF.below HM.below) 2 hno (by decide) (by decide) ea (HM.row hE)) ?_)
 rintro _ w1 ⟨rfl, hb⟩
 replace HM := HM.call hb
 clear hb
 refine ⟨_, rfl, ?_⟩; clear HF; intro a HF
 refine wp_pure HF HM rfl 7 [] [(4, .slice none 0 0), (6, .iface 242 (.pointer (some ea)))] (by kernel_rfl) fun a HF => ?_
 refine bT ?_
 refine wp_pure HF HM rfl 4 [] [(2, .slice none 0 0), (3, .iface 242 (.pointer (some ea)))] (by kernel_rfl) fun a HF => ?_
 refine aB ?_
 refine wp_ret ?_
 repeat first | refine bH ?_ | refine bM ?_
 exact jK HF rfl rfl rfl ⟨rfl, HM.below⟩

theorem SQ {x : bZ} {b c z fb pg aV : Nat} {cur dU : Array Value} {w0 : World} (hF : kR x b c z fb pg aV cur dU w0) (hno : ∀ m ∈ x.ps, m.ty ≠ 11) (ea : Addr) (hE : Row w0 (some ⟨0, 0, none⟩) [.iface 242 (.pointer (some ea))]) : Calls Tryd.prog 56 #[aA fb] w0 fun e w' => e = .returned (.tuple #[.slice none 0 0, .iface 242 (.pointer (some ea))]) ∧ Below w0.heap.size w0 w' := by
 obtain ⟨w, hw⟩ : ∃ w, w0 = w := ⟨_, rfl⟩
 have HM : Mm [] w0 w [] := hw ▸ Mm.start w0
 conv => arg 4; rw [hw]
 clear hw
 refine bI Tryd.func56 rfl Tryd.ntmps56 [(0, aA fb)] (by kernel_rfl) (Nat.le_of_ble_eq_true rfl) ?_
 intro a HF
 refine aN ?_
 refine wp_pure HF HM rfl 2 [] [(0, aA fb)] (by kernel_rfl) fun a HF => ?_
 refine bT ?_
 refine wp_pure HF HM rfl 1 [] [(0, aA fb), (10, aA fb)] (by kernel_rfl) fun a HF => ?_
 refine bf HF (by kernel_rfl) 79 #[aA fb, .int .u32 11] (by kernel_rfl) (fun w => by kernel_rfl) (Calls.mono (Rq (hF.below HM.below) 11 hno (by decide) (by decide) ea (HM.row hE)) ?_)
 rintro _ w1 ⟨rfl, hb⟩
 replace HM := HM.call hb
 clear hb
 refine ⟨_, rfl, ?_⟩; clear HF; intro a HF
 refine wp_pure HF HM rfl 7 [] [(0, aA fb), (4, .slice none 0 0), (5, .slice none 0 0), (6, .iface 242 (.pointer (some ea)))] (by kernel_rfl) fun a HF => ?_
 refine aB ?_
 refine wp_seq ?_
 refine aN ?_
 refine wp_pure HF HM rfl 2 [] [(0, aA fb), (4, .slice none 0 0), (5, .slice none 0 0), (6, .iface 242 (.pointer (some ea))), (16, .bool true)] (by kernel_rfl) fun a HF => ?_
 refine aB ?_
 refine bC HF rfl ?_
 refine aN ?_
 refine wp_pure HF HM rfl 3 [] [(2, .slice none 0 0), (3, .iface 242 (.pointer (some ea)))] (by kernel_rfl) fun a HF => ?_
 refine aB ?_
 refine wp_ret ?_
 repeat first | refine bH ?_ | refine bM ?_
 exact jK HF rfl rfl rfl ⟨rfl, HM.below⟩

theorem JX (w0 : World) (ea : Addr) (hE : Row w0 (some ⟨0, 0, none⟩) [.iface 242 (.pointer (some ea))]) : Calls Tryd.prog 58 #[.iface 242 (.pointer (some ea))] w0 fun e w' => e = .returned (.int .i64 1) ∧ Below w0.heap.size w0 w' := by
 obtain ⟨w, hw⟩ : ∃ w, w0 = w := ⟨_, rfl⟩
 have HM : Mm [] w0 w [] := hw ▸ Mm.start w0
 conv => arg 4; rw [hw]
 clear hw
 refine bI Tryd.func58 rfl Tryd.ntmps58 [(0, .iface 242 (.pointer (some ea)))] (by kernel_rfl) (Nat.le_of_ble_eq_true rfl) ?_
 intro a HF
 refine aN ?_
 refine wp_pure HF HM rfl 1 [] [(0, .iface 242 (.pointer (some ea)))] (by kernel_rfl) fun a HF => ?_
 refine aB ?_
 refine wp_seq ?_
 refine aN ?_
 refine wp_pure HF HM rfl 2 [] [(0, .iface 242 (.pointer (some ea))), (4, .bool false)] (by kernel_rfl) fun a HF => ?_
 refine aB ?_
 refine aZ HF rfl ?_
 refine wp_skip ?_
 repeat first | refine aK ?_ | refine aS ?_
 refine wp_seq ?_
 refine aN ?_
 refine wp_pure HF HM rfl 1 [] [(5, .iface 242 (.pointer (some ea)))] (by kernel_rfl) fun a HF => ?_
 refine bU HF (by kernel_rfl) (.iface 242 (.pointer (some ea))) (by kernel_rfl) (mX rfl rfl (HM.row hE) (by kernel_rfl)) fun a HF => ?_
 refine bU HF (by kernel_rfl) (.bool true) (by kernel_rfl) (Df rfl rfl rfl (Rl _ _ ea _) (Ul ea _)) ?_
 clear HF; intro a HF; replace HF := HF.sub [(7, .bool true)] (by kernel_rfl)
 refine aB ?_
 refine bC HF rfl ?_
 refine aN ?_
 refine wp_pure HF HM rfl 1 [] [(2, .int .i64 1)] (by kernel_rfl) fun a HF => ?_
 refine aB ?_
 refine wp_ret ?_
 repeat first | refine bH ?_ | refine bM ?_
 exact dn HF rfl rfl ⟨rfl, HM.below⟩

theorem Kr (x : bZ) (A : Option Addr) (c : Nat) (hnc : x.img.file.length ≤ c) (ok : x.img.Ok) (hno : ∀ m ∈ x.ps, m.ty ≠ 2) (w0 : World) (hr : Row w0 A (x.img.file.map Bv)) (ea : Addr) (hE : Row w0 (some ⟨0, 0, none⟩) [.iface 242 (.pointer (some ea))]) : Calls Tryd.prog 30 #[.slice A x.img.file.length c] w0 fun e w' => ∃ v, e = .returned (.tuple #[v, aF 1]) ∧ Below w0.heap.size w0 w' := by
 obtain ⟨w, hw⟩ : ∃ w, w0 = w := ⟨_, rfl⟩
 have HM : Mm [] w0 w [] := hw ▸ Mm.start w0
 conv => arg 4; rw [hw]
 clear hw
 refine bI Tryd.func30 rfl Tryd.ntmps30 [(0, .slice A x.img.file.length c)] (by kernel_rfl) (Nat.le_of_ble_eq_true rfl) ?_
 intro a HF
 refine aN ?_
 refine wp_pure HF HM rfl 2 [] [(0, .slice A x.img.file.length c)] (by kernel_rfl) fun a HF => ?_
 refine bT ?_
 refine wp_pure HF HM rfl 1 [] [(9, .slice A x.img.file.length c)] (by kernel_rfl) fun a HF => ?_
 refine bf HF (by kernel_rfl) 55 #[.slice A x.img.file.length c] (by kernel_rfl) (fun w => by kernel_rfl) (Calls.mono (Io x A _ c rfl hnc ok w (HM.row hr)) ?_)
 rintro _ w1 ⟨bg, Qk, z, fb, pg, aV, cur, dU, rfl, hb, hge, hF⟩
 replace HM := HM.call hb
 clear hb
 refine ⟨_, rfl, ?_⟩; clear HF; intro a HF
 refine wp_pure HF HM rfl 5 [] [(4, aA fb), (5, .bool true)] (by kernel_rfl) fun a HF => ?_
 refine aB ?_
 refine wp_seq ?_
 refine aN ?_
 refine wp_pure HF HM rfl 2 [] [(4, aA fb), (14, .bool false)] (by kernel_rfl) fun a HF => ?_
 refine aB ?_
 refine aZ HF rfl ?_
 refine wp_skip ?_
 repeat first | refine aK ?_ | refine aS ?_
 refine aN ?_
 refine wp_pure HF HM rfl 1 [] [(16, aA fb)] (by kernel_rfl) fun a HF => ?_
 refine bf HF (by kernel_rfl) 62 #[aA fb] (by kernel_rfl) (fun w => by kernel_rfl) (Calls.mono (Qp hF hno ea (HM.row hE)) ?_)
 rintro _ w2 ⟨rfl, hb⟩
 replace HM := HM.call hb
 clear hb
 refine ⟨_, rfl, ?_⟩; clear HF; intro a HF
 refine wp_pure HF HM rfl 5 [] [(6, aQ), (7, .iface 242 (.pointer (some ea)))] (by kernel_rfl) fun a HF => ?_
 refine bT ?_
 refine wp_pure HF HM rfl 1 [] [(7, .iface 242 (.pointer (some ea))), (20, aQ)] (by kernel_rfl) fun a HF => ?_
 refine bf HF (by kernel_rfl) 57 #[aQ] (by kernel_rfl) (fun w => by kernel_rfl) (Calls.mono (vW [] none 0 (Nat.zero_le _) w2 (Row.nil _ _)) ?_)
 rintro _ w3 ⟨A', c', rfl, hb, -⟩
 replace HM := HM.call hb
 clear hb
 refine ⟨_, rfl, ?_⟩; clear HF; intro a HF
 refine wp_pure HF HM rfl 1 [] [(21, .slice A' 0 c'), (22, .iface 242 (.pointer (some ea)))] (by kernel_rfl) fun a HF => ?_
 refine bf HF (by kernel_rfl) 58 #[.iface 242 (.pointer (some ea))] (by kernel_rfl) (fun w => by kernel_rfl) (Calls.mono (JX w3 ea (HM.row hE)) ?_)
 rintro _ w4 ⟨rfl, hb⟩
 replace HM := HM.call hb
 clear hb
 refine ⟨_, rfl, ?_⟩; clear HF; intro a HF
 refine wp_pure HF HM rfl 2 [] [(2, .slice A' 0 c'), (3, aF 1)] (by kernel_rfl) fun a HF => ?_
 refine aB ?_
 refine wp_ret ?_
 repeat first | refine bH ?_ | refine bM ?_
 exact jK HF rfl rfl rfl ⟨_, rfl, HM.below⟩

theorem Ku (x : bZ) (A : Option Addr) (c : Nat) (hnc : x.img.file.length ≤ c) (ok : x.img.Ok) (hno : ∀ m ∈ x.ps, m.ty ≠ 11) (w0 : World) (hr : Row w0 A (x.img.file.map Bv)) (ea : Addr) (hE : Row w0 (some ⟨0, 0, none⟩) [.iface 242 (.pointer (some ea))]) : Calls Tryd.prog 24 #[.slice A x.img.file.length c] w0 fun e w' => ∃ v, e = .returned (.tuple #[v, aF 1]) ∧ Below w0.heap.size w0 w' := by
 obtain ⟨w, hw⟩ : ∃ w, w0 = w := ⟨_, rfl⟩
 have HM : Mm [] w0 w [] := hw ▸ Mm.start w0
 conv => arg 4; rw [hw]
 clear hw
 refine bI Tryd.func24 rfl Tryd.ntmps24 [(0, .slice A x.img.file.length c)] (by kernel_rfl) (Nat.le_of_ble_eq_true rfl) ?_
 intro a HF
 refine aN ?_
 refine wp_pure HF HM rfl 2 [] [(0, .slice A x.img.file.length c)] (by kernel_rfl) fun a HF => ?_
 refine bT ?_
 refine wp_pure HF HM rfl 1 [] [(9, .slice A x.img.file.length c)] (by kernel_rfl) fun a HF => ?_
 refine bf HF (by kernel_rfl) 55 #[.slice A x.img.file.length c] (by kernel_rfl) (fun w => by kernel_rfl) (Calls.mono (Io x A _ c rfl hnc ok w (HM.row hr)) ?_)
 rintro _ w1 ⟨bg, Qk, z, fb, pg, aV, cur, dU, rfl, hb, hge, hF⟩
 replace HM := HM.call hb
 clear hb
 refine ⟨_, rfl, ?_⟩; clear HF; intro a HF
 refine wp_pure HF HM rfl 5 [] [(4, aA fb), (5, .bool true)] (by kernel_rfl) fun a HF => ?_
 refine aB ?_
 refine wp_seq ?_
 refine aN ?_
 refine wp_pure HF HM rfl 2 [] [(4, aA fb), (14, .bool false)] (by kernel_rfl) fun a HF => ?_
 refine aB ?_
 refine aZ HF rfl ?_
 refine wp_skip ?_
 repeat first | refine aK ?_ | refine aS ?_
 refine aN ?_
 refine wp_pure HF HM rfl 1 [] [(16, aA fb)] (by kernel_rfl) fun a HF => ?_
 refine bf HF (by kernel_rfl) 56 #[aA fb] (by kernel_rfl) (fun w => by kernel_rfl) (Calls.mono (SQ hF hno ea (HM.row hE)) ?_)
 rintro _ w2 ⟨rfl, hb⟩
 replace HM := HM.call hb
 clear hb
 refine ⟨_, rfl, ?_⟩; clear HF; intro a HF
 refine wp_pure HF HM rfl 5 [] [(6, aQ), (7, .iface 242 (.pointer (some ea)))] (by kernel_rfl) fun a HF => ?_
 refine bT ?_
 refine wp_pure HF HM rfl 1 [] [(7, .iface 242 (.pointer (some ea))), (20, aQ)] (by kernel_rfl) fun a HF => ?_
 refine bf HF (by kernel_rfl) 57 #[aQ] (by kernel_rfl) (fun w => by kernel_rfl) (Calls.mono (vW [] none 0 (Nat.zero_le _) w2 (Row.nil _ _)) ?_)
 rintro _ w3 ⟨A', c', rfl, hb, -⟩
 replace HM := HM.call hb
 clear hb
 refine ⟨_, rfl, ?_⟩; clear HF; intro a HF
 refine wp_pure HF HM rfl 1 [] [(21, .slice A' 0 c'), (22, .iface 242 (.pointer (some ea)))] (by kernel_rfl) fun a HF => ?_
 refine bf HF (by kernel_rfl) 58 #[.iface 242 (.pointer (some ea))] (by kernel_rfl) (fun w => by kernel_rfl) (Calls.mono (JX w3 ea (HM.row hE)) ?_)
 rintro _ w4 ⟨rfl, hb⟩
 replace HM := HM.call hb
 clear hb
 refine ⟨_, rfl, ?_⟩; clear HF; intro a HF
 refine wp_pure HF HM rfl 2 [] [(2, .slice A' 0 c'), (3, aF 1)] (by kernel_rfl) fun a HF => ?_
 refine aB ?_
 refine wp_ret ?_
 repeat first | refine bH ?_ | refine bM ?_
 exact jK HF rfl rfl rfl ⟨_, rfl, HM.below⟩

end Go.Proofs.YtdgehpocmfjbiaaDoor
namespace Go.Proofs.YtdgehpocmfjbiaaDoor
open Go.RowKit

abbrev tV := fun z1 (x : bZ) => ((z1, .cells #[.bool x.wide, .bool x.big, aT x.abi, aT x.aH, .int .i64 x.ty, .int .i64 x.machine, aI x.entry, .slice x.A x.ss.length x.c, .slice x.B x.ps.length x.d] 26 (0, 0)) : Nat × Obj)
abbrev kV := fun z1 (x : bZ) => ([(1, aA z1), (16, .slice x.B x.ps.length x.d), (17, ay x.ps.length)] : Slots)
theorem Kq (x : bZ) (w0 : World) (h : x.At w0) (ea : Addr) (hE : Row w0 (some ⟨0, 0, none⟩) [.iface 242 (.pointer (some ea))]) : Calls Tryd.prog 5 #[x.val] w0 fun e w' => e = .returned (.bool true) ∧ Below w0.heap.size w0 w' := by
 obtain ⟨w, hw⟩ : ∃ w, w0 = w := ⟨_, rfl⟩
 have HM : Mm [] w0 w [] := hw ▸ Mm.start w0
 conv => arg 4; rw [hw]
 clear hw
 refine bI Tryd.func5 rfl Tryd.ntmps5 [(0, .agg #[.bool x.wide, .bool x.big, aT x.abi, aT x.aH, .int .i64 x.ty, .int .i64 x.machine, aI x.entry, .slice x.A x.ss.length x.c, .slice x.B x.ps.length x.d])] (by kernel_rfl) (Nat.le_of_ble_eq_true rfl) ?_
 intro a HF
 refine aN ?_
 obtain ⟨z1, hz1⟩ : ∃ z, w.heap.size = z := ⟨_, rfl⟩
 refine aP HF HM hz1 2 [] [(1, aA z1)] [tV z1 x] (by kernel_rfl) fun a w HF HM => ?_
 clear hz1
 refine aB ?_
 refine wp_seq ?_
 refine aN ?_
 refine wp_pure HF HM rfl 1 [[0]] [(1, aA z1), (9, .agg #[.bool x.wide, .bool x.big, aT x.abi, aT x.aH, .int .i64 x.ty, .int .i64 x.machine, aI x.entry, .slice x.A x.ss.length x.c, .slice x.B x.ps.length x.d])] (by kernel_rfl) fun a HF => ?_
 refine bf HF (by kernel_rfl) 20 #[.agg #[.bool x.wide, .bool x.big, aT x.abi, aT x.aH, .int .i64 x.ty, .int .i64 x.machine, aI x.entry, .slice x.A x.ss.length x.c, .slice x.B x.ps.length x.d]] (by kernel_rfl) (fun w => by kernel_rfl) (Calls.mono (yM x w (h.below HM.below)) ?_)
 rintro _ w1 ⟨b1, rfl, hb⟩
 replace HM := HM.call hb
 clear hb
 refine ⟨_, rfl, ?_⟩; clear HF; intro a HF
 replace HF := HF.sub [(1, aA z1), (10, .bool b1)] (by kernel_rfl)
 rcases gZ b1 with hc2 | hc2
 ·replace HF := Fr.sub (Fr.tell HF 10 rfl (congrArg Value.bool hc2)) [(1, aA z1), (10, .bool false)] (by kernel_rfl)
  refine wp_pure HF HM rfl 1 [] [(1, aA z1), (11, .bool true)] (by kernel_rfl) fun a HF => ?_
  refine aB ?_
  refine bC HF rfl ?_
  refine aN ?_
  refine wp_pure HF HM rfl 1 [] [(2, .bool true)] (by kernel_rfl) fun a HF => ?_
  refine aB ?_
  refine wp_ret ?_
  repeat first | refine bH ?_ | refine bM ?_
  exact dn HF rfl rfl ⟨rfl, HM.below⟩
 replace HF := Fr.sub (Fr.tell HF 10 rfl (congrArg Value.bool hc2)) [(1, aA z1), (10, .bool true)] (by kernel_rfl)
 refine wp_pure HF HM rfl 1 [] [(1, aA z1), (11, .bool false)] (by kernel_rfl) fun a HF => ?_
 refine aB ?_
 refine aZ HF rfl ?_
 refine wp_skip ?_
 repeat first | refine aK ?_ | refine aS ?_
 refine wp_seq ?_
 refine aN ?_
 refine wp_pure HF HM rfl 1 [[0]] [(1, aA z1), (12, .agg #[.bool x.wide, .bool x.big, aT x.abi, aT x.aH, .int .i64 x.ty, .int .i64 x.machine, aI x.entry, .slice x.A x.ss.length x.c, .slice x.B x.ps.length x.d])] (by kernel_rfl) fun a HF => ?_
 refine bf HF (by kernel_rfl) 22 #[.agg #[.bool x.wide, .bool x.big, aT x.abi, aT x.aH, .int .i64 x.ty, .int .i64 x.machine, aI x.entry, .slice x.A x.ss.length x.c, .slice x.B x.ps.length x.d]] (by kernel_rfl) (fun w => by kernel_rfl) (Calls.mono (yP x w1 (h.below HM.below)) ?_)
 rintro _ w2 ⟨b3, rfl, hb, hok4⟩
 replace HM := HM.call hb
 clear hb
 refine ⟨_, rfl, ?_⟩; clear HF; intro a HF
 replace HF := HF.sub [(1, aA z1), (13, .bool b3)] (by kernel_rfl)
 rcases gZ b3 with hc5 | hc5
 ·replace HF := Fr.sub (Fr.tell HF 13 rfl (congrArg Value.bool hc5)) [(1, aA z1), (13, .bool false)] (by kernel_rfl)
  refine wp_pure HF HM rfl 1 [] [(1, aA z1), (14, .bool true)] (by kernel_rfl) fun a HF => ?_
  refine aB ?_
  refine bC HF rfl ?_
  refine aN ?_
  refine wp_pure HF HM rfl 1 [] [(2, .bool true)] (by kernel_rfl) fun a HF => ?_
  refine aB ?_
  refine wp_ret ?_
  repeat first | refine bH ?_ | refine bM ?_
  exact dn HF rfl rfl ⟨rfl, HM.below⟩
 replace HF := Fr.sub (Fr.tell HF 13 rfl (congrArg Value.bool hc5)) [(1, aA z1), (13, .bool true)] (by kernel_rfl)
 refine wp_pure HF HM rfl 1 [] [(1, aA z1), (14, .bool false)] (by kernel_rfl) fun a HF => ?_
 refine aB ?_
 refine aZ HF rfl ?_
 refine wp_skip ?_
 repeat first | refine aK ?_ | refine aS ?_
 refine wp_seq ?_
 refine aN ?_
 have ok := (hok4 hc5).1
 have hk2 := ok.parts
 refine wp_pure HF HM rfl 4 [[0]] ((kV z1 x) ++ [(18, aF 0)]) (by kernel_rfl) fun a HF => ?_
 refine aB ?_
 refine wp_block ?_
 refine jX (x.ps.length) (fun i a w => ((∀ j m, j < i → x.ps[j]? = some m → m.ty ≠ 2 ∧ m.ty ≠ 11) ∧ Mm [] w0 w [tV z1 x] ∧ Fr 49 a ((kV z1 x) ++ [(18, ay i)]))) ?_ ?_ ?_
 ·exact ⟨fun j m hj => absurd hj (Nat.not_lt_zero j), HM, HF.sub ((kV z1 x) ++ [(18, aF 0)]) (by kernel_rfl)⟩
 ·intro i a w KX hi hI KR
  obtain ⟨hno, HM, HF⟩ := hI
  refine aN ?_
  refine wp_pure HF HM rfl 1 [] ((kV z1 x) ++ [(18, ay i), (19, .bool (decide (((i : Nat) : Int) < ((x.ps.length : Nat) : Int))))]) (by kernel_rfl) fun a HF => ?_
  refine aB ?_
  refine wp_seq ?_
  rw [show decide (((i : Nat) : Int) < ((x.ps.length : Nat) : Int)) = true from dV (by omega)] at HF
  refine bC HF rfl ?_
  refine wp_skip ?_
  repeat first | refine aK ?_ | refine aS ?_
  refine wp_seq ?_
  refine wp_block ?_
  refine aN ?_
  obtain ⟨m6, hm6⟩ : ∃ m, x.ps[i]? = some m := ⟨_, List.getElem?_eq_getElem (by omega)⟩
  refine bU HF (by kernel_rfl) (.pointer (Option.map (fun q : Addr => q.add (i * 10)) x.B)) (by kernel_rfl) (dS Tryd.underlying24 (by kernel_rfl) rfl i rfl rfl (by omega) (gQ (fH (f := dL.cells) (k := 10) (fun _ => rfl) (HM.row h.parts) i hm6) (Nat.zero_lt_succ _))) fun a HF => ?_
  refine bU HF (by kernel_rfl) (.agg #[.string (⟨m6.name.toArray⟩), aX m6.ty, aX m6.flags, aI m6.addr, aX m6.link, aX m6.info, aI m6.align, aI m6.ent, aI m6.size, .slice m6.A m6.data.length m6.c]) (by kernel_rfl) (iC rfl rfl (fH (f := dL.cells) (k := 10) (fun _ => rfl) (HM.row h.parts) i hm6) (Nat.zero_lt_succ _) Tryd.underlying46 rfl (by kernel_rfl)) fun a HF => ?_
  obtain ⟨z12, MH⟩ : ∃ z, w.heap.size = z := ⟨_, rfl⟩
  refine aP HF HM MH 2 [[1]] [(1, aA z1), (4, aA z12), (16, .slice x.B x.ps.length x.d), (17, ay x.ps.length), (18, ay i)] [(z12, .cells #[.string (⟨m6.name.toArray⟩), aX m6.ty, aX m6.flags, aI m6.addr, aX m6.link, aX m6.info, aI m6.align, aI m6.ent, aI m6.size, .slice m6.A m6.data.length m6.c] 46 (0, 0)), tV z1 x] (by kernel_rfl) fun a w HF HM => ?_
  clear MH
  refine bT ?_
  refine wp_pure HF HM rfl 4 [[1]] [(1, aA z1), (4, aA z12), (16, .slice x.B x.ps.length x.d), (17, ay x.ps.length), (18, ay i), (25, .bool (((m6.ty : Nat) : Int) == 2))] (by kernel_rfl) fun a HF => ?_
  by_cases uX : ((m6.ty : Nat) : Int) = 2
  ·rw [show (((m6.ty : Nat) : Int) == 2) = true from uK (uX)] at HF
   refine wp_pure HF HM rfl 4 [] ((kV z1 x) ++ [(18, ay i), (29, .bool true)]) (by kernel_rfl) fun a HF => ?_
   refine aB ?_
   refine bC HF rfl ?_
   refine aN ?_
   refine wp_pure HF HM rfl 1 [] [(2, .bool true)] (by kernel_rfl) fun a HF => ?_
   refine aB ?_
   refine wp_ret ?_
   repeat first | refine bH ?_ | refine bM ?_
   exact dn HF rfl rfl ⟨rfl, HM.below⟩
  rw [show (((m6.ty : Nat) : Int) == 2) = false from rW (uX)] at HF
  refine wp_pure HF HM rfl 4 [[1]] ((kV z1 x) ++ [(18, ay i), (29, .bool (((m6.ty : Nat) : Int) == 11))]) (by kernel_rfl) fun a HF => ?_
  refine aB ?_
  by_cases hc8 : ((m6.ty : Nat) : Int) = 11
  ·rw [show (((m6.ty : Nat) : Int) == 11) = true from uK (hc8)] at HF
   refine bC HF rfl ?_
   refine aN ?_
   refine wp_pure HF HM rfl 1 [] [(2, .bool true)] (by kernel_rfl) fun a HF => ?_
   refine aB ?_
   refine wp_ret ?_
   repeat first | refine bH ?_ | refine bM ?_
   exact dn HF rfl rfl ⟨rfl, HM.below⟩
  rw [show (((m6.ty : Nat) : Int) == 11) = false from rW (hc8)] at HF
  refine aZ HF rfl ?_
  refine wp_skip ?_
  repeat first | refine aK ?_ | refine aS ?_
  refine wp_region_lit ?_
  refine wp_pure HF HM rfl 1 [] ((kV z1 x) ++ [(30, aF (IntKind.i64.wrap (((i : Nat) : Int) + 1)))]) (by kernel_rfl) fun a HF => ?_
  rw [show IntKind.i64.wrap (((i : Nat) : Int) + 1) = (((i + 1) : Nat) : Int) from (IntWalk.i64_in _ (by omega)).trans (by omega)] at HF
  refine wp_pure HF HM rfl 1 [] ((kV z1 x) ++ [(18, ay (i + 1))]) (by kernel_rfl) fun a HF => ?_
  refine wpList_nil ?_
  repeat first | refine aK ?_ | refine aS ?_
  exact KR _ _ (⟨fun j m hj hm => (Nat.lt_or_ge j i).elim (fun g => hno j m g hm) (fun g => by obtain rfl : j = i := (by omega); rw [hm6] at hm; obtain rfl := Option.some.inj hm; exact ⟨by omega, by omega⟩), (HM.pick [1] [tV z1 x] rfl (by decide)), HF.sub ((kV z1 x) ++ [(18, ay (i + 1))]) (by kernel_rfl)⟩)
 ·intro a w KX hI
  obtain ⟨hno, HM, HF⟩ := hI
  refine aN ?_
  refine wp_pure HF HM rfl 1 [] ((kV z1 x) ++ [(18, ay x.ps.length), (19, .bool (decide (((x.ps.length : Nat) : Int) < ((x.ps.length : Nat) : Int))))]) (by kernel_rfl) fun a HF => ?_
  refine aB ?_
  refine wp_seq ?_
  rw [show decide (((x.ps.length : Nat) : Int) < ((x.ps.length : Nat) : Int)) = false from dI (by omega)] at HF
  refine aZ HF rfl ?_
  refine wp_exit ?_
  repeat (first | refine fG ?_ | refine fA rfl ?_)
  refine iD ?_
  repeat first | refine aK ?_ | refine aS ?_
  refine aN ?_
  refine wp_pure HF HM rfl 1 [[0]] [(1, aA z1), (32, .agg #[.bool x.wide, .bool x.big, aT x.abi, aT x.aH, .int .i64 x.ty, .int .i64 x.machine, aI x.entry, .slice x.A x.ss.length x.c, .slice x.B x.ps.length x.d])] (by kernel_rfl) fun a HF => ?_
  have xM := bZ.ok ok h
  have hnn : ∀ m ∈ x.ps, m.ty ≠ 2 ∧ m.ty ≠ 11 := fun m hm => (List.getElem?_of_mem hm).elim fun j hj => hno j m (List.getElem?_eq_some_iff.1 hj).1 hj
  refine bf HF (by kernel_rfl) 25 #[.agg #[.bool x.wide, .bool x.big, aT x.abi, aT x.aH, .int .i64 x.ty, .int .i64 x.machine, aI x.entry, .slice x.A x.ss.length x.c, .slice x.B x.ps.length x.d]] (by kernel_rfl) (fun w => by kernel_rfl) (Calls.mono (x9 x w (h.below HM.below) ok) ?_)
  rintro _ w3 ⟨gf9, capf9, curf9, rfl, hb, hof9⟩
  replace HM := HM.call hb
  clear hb
  refine ⟨_, rfl, ?_⟩; clear HF; intro a HF
  refine bf HF (by kernel_rfl) 30 #[aC gf9 x.img.file.length capf9] (by kernel_rfl) (fun w => by kernel_rfl) (Calls.mono (Kr x _ _ hof9.nc xM (fun m hm => (hnn m hm).1) w3 hof9.row ea (HM.row hE)) ?_)
  rintro _ w4 ⟨v9, rfl, hb⟩
  replace HM := HM.call hb
  clear hb
  refine ⟨_, rfl, ?_⟩; clear HF; intro a HF
  refine wp_pure HF HM rfl 5 [] [(1, aA z1), (6, aF 1)] (by kernel_rfl) fun a HF => ?_
  refine bT ?_
  refine wp_pure HF HM rfl 1 [[0]] [(6, aF 1), (38, .agg #[.bool x.wide, .bool x.big, aT x.abi, aT x.aH, .int .i64 x.ty, .int .i64 x.machine, aI x.entry, .slice x.A x.ss.length x.c, .slice x.B x.ps.length x.d])] (by kernel_rfl) fun a HF => ?_
  refine bf HF (by kernel_rfl) 25 #[.agg #[.bool x.wide, .bool x.big, aT x.abi, aT x.aH, .int .i64 x.ty, .int .i64 x.machine, aI x.entry, .slice x.A x.ss.length x.c, .slice x.B x.ps.length x.d]] (by kernel_rfl) (fun w => by kernel_rfl) (Calls.mono (x9 x w4 (h.below HM.below) ok) ?_)
  rintro _ w5 ⟨gf10, UL, curf10, rfl, hb, Tn⟩
  replace HM := HM.call hb
  clear hb
  refine ⟨_, rfl, ?_⟩; clear HF; intro a HF
  refine bf HF (by kernel_rfl) 24 #[aC gf10 x.img.file.length UL] (by kernel_rfl) (fun w => by kernel_rfl) (Calls.mono (Ku x _ _ Tn.nc xM (fun m hm => (hnn m hm).2) w5 Tn.row ea (HM.row hE)) ?_)
  rintro _ w6 ⟨v10, rfl, hb⟩
  replace HM := HM.call hb
  clear hb
  refine ⟨_, rfl, ?_⟩; clear HF; intro a HF
  refine wp_pure HF HM rfl 5 [] [(6, aF 1), (8, aF 1)] (by kernel_rfl) fun a HF => ?_
  refine bT ?_
  refine wp_pure HF HM rfl 7 [] [(2, .bool true)] (by kernel_rfl) fun a HF => ?_
  refine aB ?_
  refine wp_ret ?_
  repeat first | refine bH ?_ | refine bM ?_
  exact dn HF rfl rfl ⟨rfl, HM.below⟩

end Go.Proofs.YtdgehpocmfjbiaaDoor
namespace Go.Proofs.YtdgehpocmfjbiaaDoor.fnNoSymbols
open Go Go.ChangeShapes Go.WideShapes Go.ChangeAt Go.RowKit Go.Deep

theorem own : ownKnob Tryd.prog.godebug = none := by kernel_rfl
theorem laidOut : laidOutB Tryd.prog = true := by kernel_rfl
theorem door_met (os : Os) (args : Array Value) : laidMetH Tryd.prog Rows.fnNoSymbolsRow.laid ((World.doorLaid Tryd.prog 123 os).forCall (fun _ _ => 0) ⟨#[], args, []⟩).memory :=
  laidMetH_of_parts3 (fuel := 8) (laidMet_of_run' 8 (by kernel_rfl) (by kernel_rfl)) (by kernel_rfl) (by kernel_rfl)

set_option maxRecDepth 100000 in
theorem lifted (os : Os) (started : os.Started) (H : Type) (enc : TypeId × Value → H) :
    ReturnsInHanded {} Tryd.checked os 5 .any (fun w args => (Rows.fnNoSymbolsSpec.pre enc Tryd.prog Tryd.f5 [] false w args ∧ laidMetH Tryd.prog Rows.fnNoSymbolsRow.laid w) ∧ sizedMet enc Tryd.prog Tryd.f5 (OpenSpec.ofChange Rows.fnNoSymbolsSpec) false w args)
      (Rows.fnNoSymbolsSpec.post enc Tryd.prog Tryd.f5 false true false false) := by
  refine returnsInHanded_of_change_and (C := Tryd.checked) (X := fun w _ => laidMetH Tryd.prog Rows.fnNoSymbolsRow.laid w) (fun _ _ _ hh h => h.of_heap hh) own started (by kernel_rfl) Tryd.func5
    (ChangeSpec.witness_shaped (enc := enc) (C := Tryd.checked) (os := os) (X := fun w _ => laidMetH Tryd.prog Rows.fnNoSymbolsRow.laid w) false (World.doorLaid Tryd.prog 123 os) #[.agg #[.bool false, .bool false, .int .u8 0, .int .u8 0, .int .i64 0, .int .i64 0, .int .u64 0, .slice none 0 0, .slice none 0 0]] 8 rfl (World.shaped_of_RefB (by kernel_rfl) (by kernel_rfl)) (by kernel_rfl) (by kernel_rfl) (by kernel_rfl) (door_met os _)) ?_
  intro W base args ds gs before hval0 hW _ _ hL _
  have hval : ∀ (j : Nat) t v, Tryd.f5.params[j]? = some t → args[j]? = some v → Value.okWide Tryd.prog W .any base t v := hval0
  have hW' := hW
  obtain ⟨p, q, hA0, hV, rfl, hfz, hnd⟩ := hW
  have hA : DataW.TrodAll enc Tryd.prog W 0 (fun _ => true) true Tryd.f5.params.toList args.toList ds p := hA0
  rw [Tryd.params5] at hA hval
  obtain ⟨v0, vs0, d0, ds0, p0, q0, hargs, rfl, rfl, h0, r0⟩ := trodAll_cons hA
  obtain ⟨rfl, rfl, rfl⟩ := trodAll_nil r0
  obtain rfl : args = #[v0] := by cases args; simp_all
  obtain ⟨ea, hv0, hE⟩ := EC (by kernel_rfl) hL
  have hV1 : DataW.TrodVars enc Tryd.prog W (fun _ => true) ["loop.example/pub-g03028/pub/elf.ErrNoSymbols"] gs q := hV
  obtain ⟨rfl, rfl⟩ := hV1.unique (vars_read1 enc oh qw Tryd.underlying103 hv0 trivial _)
  have k0 := h0
  have Md : ∀ x ∈ p0, x.block < W.heap.size := by obtain ⟨m, hm⟩ := k0; exact DataW.trod_lt m _ _ _ hm
  obtain ⟨x0, rfl, hx0⟩ := DV (hval 0 26 v0 rfl rfl) h0
  clear hA0 hval0
  refine (Kq x0 W hx0 ea hE).mono fun e W' ⟨he, bel⟩ => ?_
  subst he
  exact ⟨_, rfl, _, _, _, [], _, [.cell 0 0], hW', trodAll_mk1 (shut_bool Tryd.underlying4 _), (trodAll_cons_mk (Below.trod laidOut (by kernel_rfl) (of_decide_eq_true (by kernel_rfl)) k0 bel Md) trodAll_mk0), vars_read1 enc oh qw Tryd.underlying103 (var_below bel hv0) trivial _, bel.frame _, fun h => by cases h⟩

set_option maxRecDepth 100000 in
theorem AP : joinedFacts Tryd.pinned.checked.prog 5 Tryd.f5 Rows.fnNoSymbolsSpec Rows.fnNoSymbolsRow = true := (and_t (and_t (and_t (and_t (and_t (and_t (and_t (and_t (and_t (and_t (and_t (and_t (and_t (and_t (and_t (and_t (and_t (and_t (and_t (and_t (and_t (and_t (and_t (and_t (and_t (and_t (and_t (and_t (and_t (and_t (and_t l0 l1) l2) l3) l4) l5) l6) l7) l8) l9) l10) l11) l12) l13) l14) l15) l16) l17) l18) l19) l20) l21) l22) l23) l24) l25) l26) l27) l28) l29) l30) l31)

theorem over : Rows.FnNoSymbolsSaid :=
  OpenClaim.holds_of_wide 5 Tryd.f5 rfl rfl rfl rfl rfl rfl rfl ⟨rfl, rfl, rfl, rfl, rfl⟩ rfl rfl rfl rfl rfl c5 Tryd.func5 AP
    (of_decide_eq_true (by kernel_rfl)) (by unfold Func.isWrapper; first | (rw [if_pos (by decide +kernel)]; kernel_rfl) | (rw [if_neg (by decide +kernel)]; exact ⟨rfl, rfl⟩))
    (fun os started H enc _ => lifted os started H enc)

theorem proved : Rows.FnNoSymbolsCardSaid :=
  Claim7.holds_tied_plain_at .later [] [.sentinel, .sentinel, .sentinel, .sentinel, .sentinel, .sentinel] true (true, "ed888367449acd6afd80057b2906ce1b79ec16b7beef13a0a9ac5f630eedede4") true
    over (fun _ h => by cases h) c1 (fun _ h => by cases h) fnNoSymbols_row_tie rfl ⟨rfl, rfl⟩ qc4 rfl
    (fun f fn hf hfn => by
      obtain rfl : f = 5 := Option.some.inj (c5.symm.trans hf) |>.symm
      obtain rfl : fn = Tryd.f5 := (Option.some.inj (Tryd.func5.symm.trans hfn)).symm
      exact ⟨qc2, fun j t ht => by
        rw [Tryd.params5] at ht
        have hm : t ∈ [26] := by simpa using Array.mem_of_getElem? ht
        have hall : ([26].all fun u => !Tryd.prog.wantsStandIn u) = true := by kernel_rfl
        exact (show Tryd.prog.wantsStandIn t = false by simpa using List.all_eq_true.1 hall t hm)⟩)
    c3
#print axioms proved
end Go.Proofs.YtdgehpocmfjbiaaDoor.fnNoSymbols
