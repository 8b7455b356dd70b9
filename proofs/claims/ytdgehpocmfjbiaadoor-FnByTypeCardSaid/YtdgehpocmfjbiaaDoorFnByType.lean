/- Proved: the first section of a type is found, and none if there is none, at every argument. No condition. -/
import Derived.Test.YtdgehpocmfjbiaaDoorPf
import Derived.Test.YtdgehpocmfjbiaaDoorPi
import Derived.Test.YtdgehpocmfjbiaaDoorPh
import Derived.Test.YtdgehpocmfjbiaaDoorPg
import Derived.Test.YtdgehpocmfjbiaaDoorCards
import Derived.Test.YtdgehpocmfjbiaaDoorTie
import Derived.Test.YtdgehpocmfjbiaaDoorFnByTypeJ
import Derived.Test.YtdgehpocmfjbiaaDoorFnByTypeJC
import Derived.LaidMore
import Derived.LaidLaws
import Derived.Stop.Joined
import Derived.SevenTiedAt
import Derived.ProofKit
import Derived.OpenShut
import Derived.ShutString
import Derived.ChangeOld
import Derived.Below
set_option linter.unusedVariables false
set_option linter.unusedSimpArgs false
namespace Go.Proofs.YtdgehpocmfjbiaaDoor
open Go.RowKit

set_option maxRecDepth 100000 in
set_option maxHeartbeats 1000000 in
theorem find_type_end (fb sg_ m : Nat) (hm : m < 4611686018427387904) (tv : Int) (cv : Nat → Int) (cur : Array Value) (w0 : World) (hsg : w0.heap[sg_]? = some (.cells cur 133 (0, 0))) (hc : ∀ j, j < m → ∃ p cs, cur[j]? = some (pt_ p) ∧ w0.heap[p]? = some (.cells cs 153 (0, 0)) ∧ cs[1]? = some (.int .u32 (cv j))) (i : Nat) (hi : i = m) {KX : Act → World → Prop} {KK : Act → World → Prop} {QQ : Exit → Act → World → Prop} (KE : ∀ a, Fr 25 a [(0, pt_ fb), (1, .int .u32 tv), (10, sl_ sg_ m m), (11, i6_ m), (12, i6_ i)] → KK a w0) (a : Act) (HF : Fr 25 a [(0, pt_ fb), (1, .int .u32 tv), (10, sl_ sg_ m m), (11, i6_ m), (12, i6_ i)]) :
    (lpOf (spine Tryd.f71 1)).wp Tryd.prog (Exit.then KX (Exit.inBlock 0 (Exit.then KK QQ))) a w0 := by
  have HM : Mm [] w0 w0 [] := Mm.start w0
  obtain ⟨i0, his, hss⟩ := size_ss
  refine wp_seq (wp_region_lit ?_)
  refine wp_pure HF HM rfl 1 [] [(0, pt_ fb), (1, .int .u32 tv), (10, sl_ sg_ m m), (11, i6_ m), (12, i6_ i), (13, .bool (decide (((i : Nat) : Int) < ((m : Nat) : Int))))] (by kernel_rfl) ?_
  clear HF; intro a HF
  rw [show decide (((i : Nat) : Int) < ((m : Nat) : Int)) = false from dec_f (by omega)] at HF
  refine nil_then ?_
  refine wp_seq ?_
  refine wp_condF HF rfl ?_
  replace HF := HF.sub [(0, pt_ fb), (1, .int .u32 tv), (10, sl_ sg_ m m), (11, i6_ m), (12, i6_ i)] (by kernel_rfl)
  refine wp_exit ?_
  repeat (first | refine then_exit ?_ | refine inb_exit ?_ | refine then_norm ?_)
  exact KE a HF

abbrev find_type_miss_S0 := fun (fb : Nat) (tv : Int) (sg_ : Nat) (m : Nat) (i : Nat) => ([(0, pt_ fb), (1, .int .u32 tv), (10, sl_ sg_ m m), (11, i6_ m), (12, i6_ i)] : Slots)
abbrev find_type_miss_S1 := fun (fb : Nat) (tv : Int) (sg_ : Nat) (m : Nat) => ([(0, pt_ fb), (1, .int .u32 tv), (10, sl_ sg_ m m), (11, i6_ m)] : Slots)
set_option maxRecDepth 100000 in
set_option maxHeartbeats 1000000 in
theorem find_type_miss (fb sg_ m : Nat) (hm : m < 4611686018427387904) (tv : Int) (cv : Nat → Int) (cur : Array Value) (w0 : World) (hsg : w0.heap[sg_]? = some (.cells cur 133 (0, 0))) (hc : ∀ j, j < m → ∃ p cs, cur[j]? = some (pt_ p) ∧ w0.heap[p]? = some (.cells cs 153 (0, 0)) ∧ cs[1]? = some (iT_ (cv j))) (i : Nat) (hi : i < m) (p : Nat) (cs : Array Value) (hp : cur[i]? = some (pt_ p)) (hpc : w0.heap[p]? = some (.cells cs 153 (0, 0))) (hpv : cs[1]? = some (iT_ (cv i))) (he : (cv i == tv) = false) {KX : Act → World → Prop} {KK : Act → World → Prop} {QQ : Exit → Act → World → Prop} (KR : ∀ a, Fr 25 a ((find_type_miss_S1 fb tv sg_ m) ++ [(12, i6_ (i + 1))]) → KX a w0) (a : Act) (HF : Fr 25 a (find_type_miss_S0 fb tv sg_ m i)) :
    (lpOf (spine Tryd.f71 1)).wp Tryd.prog (Exit.then KX (Exit.inBlock 0 (Exit.then KK QQ))) a w0 := by
  have HM : Mm [] w0 w0 [] := Mm.start w0
  obtain ⟨i0, his, hss⟩ := size_ss
  refine wp_seq (wp_region_lit ?_)
  refine wp_pure HF HM rfl 1 [] ((find_type_miss_S0 fb tv sg_ m i) ++ [(13, .bool (decide (((i : Nat) : Int) < ((m : Nat) : Int))))]) (by kernel_rfl) ?_
  clear HF; intro a HF
  rw [show decide (((i : Nat) : Int) < ((m : Nat) : Int)) = true from dec_t (by omega)] at HF
  refine nil_then ?_
  refine wp_seq ?_
  refine wp_condT HF rfl ?_
  refine wp_skip ?_
  repeat (first | refine then_norm ?_ | refine inb_norm ?_)
  replace HF := HF.sub (find_type_miss_S0 fb tv sg_ m i) (by kernel_rfl)
  refine wp_seq (wp_block ?_)
  refine wp_seq (wp_region_lit ?_)
  refine wp_run HF (by kernel_rfl) (.pointer (some ⟨sg_, i, none⟩)) (by kernel_rfl) (run_index (t := 126) Tryd.underlying126 his hss rfl i rfl rfl (by omega)) ?_
  clear HF; intro a HF; replace HF := HF.sub ((find_type_miss_S0 fb tv sg_ m i) ++ [(14, .pointer (some ⟨sg_, i, none⟩))]) (by kernel_rfl)
  refine wp_run HF (by kernel_rfl) (pt_ p) (by kernel_rfl) (run_load_one rfl rfl (by kernel_rfl) ((cell_of_row w0 sg_ i _ _ _ hsg).trans hp)) ?_
  clear HF; intro a HF; replace HF := HF.sub ((find_type_miss_S0 fb tv sg_ m i) ++ [(14, .pointer (some ⟨sg_, i, none⟩)), (15, pt_ p)]) (by kernel_rfl)
  refine wp_pure HF HM rfl 1 [] ((find_type_miss_S0 fb tv sg_ m i) ++ [(6, pt_ p)]) (by kernel_rfl) ?_
  clear HF; intro a HF
  refine nil_then ?_
  refine wp_seq (wp_region_lit ?_)
  refine wp_pure HF HM rfl 4 [] ((find_type_miss_S0 fb tv sg_ m i) ++ [(6, pt_ p), (19, .pointer (some ⟨p, 1, none⟩))]) (by kernel_rfl) ?_
  clear HF; intro a HF
  refine wp_run HF (by kernel_rfl) (iT_ (cv i)) (by kernel_rfl) (run_load_one rfl rfl (by kernel_rfl) ((cell_of_row w0 p 1 _ _ _ hpc).trans hpv)) ?_
  clear HF; intro a HF; replace HF := HF.sub ((find_type_miss_S0 fb tv sg_ m i) ++ [(6, pt_ p), (19, .pointer (some ⟨p, 1, none⟩)), (20, iT_ (cv i))]) (by kernel_rfl)
  refine wp_pure HF HM rfl 2 [] [(0, pt_ fb), (1, .int .u32 tv), (10, sl_ sg_ m m), (11, i6_ m), (12, i6_ i), (6, pt_ p), (22, .bool (cv i == tv))] (by kernel_rfl) ?_
  clear HF; intro a HF
  rw [he] at HF
  refine nil_then ?_
  refine wp_condF HF rfl ?_
  replace HF := HF.sub ((find_type_miss_S0 fb tv sg_ m i) ++ [(6, pt_ p)]) (by kernel_rfl)
  refine wp_skip ?_
  repeat (first | refine then_norm ?_ | refine inb_norm ?_)
  replace HF := HF.sub (find_type_miss_S0 fb tv sg_ m i) (by kernel_rfl)
  refine wp_region_lit ?_
  refine wp_pure HF HM rfl 1 [] ((find_type_miss_S0 fb tv sg_ m i) ++ [(24, iI_ (IntKind.i64.wrap (((i : Nat) : Int) + 1)))]) (by kernel_rfl) ?_
  clear HF; intro a HF
  rw [show IntKind.i64.wrap (((i : Nat) : Int) + 1) = (((i + 1) : Nat) : Int) from (IntWalk.i64_in _ (by omega)).trans (by omega)] at HF
  refine wp_pure HF HM rfl 1 [] ((find_type_miss_S1 fb tv sg_ m) ++ [(12, i6_ (i + 1))]) (by kernel_rfl) ?_
  clear HF; intro a HF
  refine wpList_nil ?_
  repeat (first | refine then_norm ?_ | refine inb_norm ?_)
  exact KR a HF

set_option maxRecDepth 100000 in
set_option maxHeartbeats 1000000 in
theorem find_type_hit (fb sg_ m : Nat) (hm : m < 4611686018427387904) (tv : Int) (cv : Nat → Int) (cur : Array Value) (w0 : World) (hsg : w0.heap[sg_]? = some (.cells cur 133 (0, 0))) (hc : ∀ j, j < m → ∃ p cs, cur[j]? = some (pt_ p) ∧ w0.heap[p]? = some (.cells cs 153 (0, 0)) ∧ cs[1]? = some (.int .u32 (cv j))) (i : Nat) (hi : i < m) (p : Nat) (cs : Array Value) (hp : cur[i]? = some (pt_ p)) (hpc : w0.heap[p]? = some (.cells cs 153 (0, 0))) (hpv : cs[1]? = some (.int .u32 (cv i))) (he : (cv i == tv) = true) {KX : Act → World → Prop} {KK : Act → World → Prop} {QQ : Exit → Act → World → Prop} (KH : ∀ a, Fr 25 a [(0, pt_ fb), (1, .int .u32 tv), (10, sl_ sg_ m m), (11, i6_ m), (12, i6_ i), (4, pt_ p)] → QQ .ret a w0) (a : Act) (HF : Fr 25 a [(0, pt_ fb), (1, .int .u32 tv), (10, sl_ sg_ m m), (11, i6_ m), (12, i6_ i)]) :
    (lpOf (spine Tryd.f71 1)).wp Tryd.prog (Exit.then KX (Exit.inBlock 0 (Exit.then KK QQ))) a w0 := by
  have HM : Mm [] w0 w0 [] := Mm.start w0
  obtain ⟨i0, his, hss⟩ := size_ss
  refine wp_seq (wp_region_lit ?_)
  refine wp_pure HF HM rfl 1 [] [(0, pt_ fb), (1, .int .u32 tv), (10, sl_ sg_ m m), (11, i6_ m), (12, i6_ i), (13, .bool (decide (((i : Nat) : Int) < ((m : Nat) : Int))))] (by kernel_rfl) ?_
  clear HF; intro a HF
  rw [show decide (((i : Nat) : Int) < ((m : Nat) : Int)) = true from dec_t (by omega)] at HF
  refine nil_then ?_
  refine wp_seq ?_
  refine wp_condT HF rfl ?_
  refine wp_skip ?_
  repeat (first | refine then_norm ?_ | refine inb_norm ?_)
  replace HF := HF.sub [(0, pt_ fb), (1, .int .u32 tv), (10, sl_ sg_ m m), (11, i6_ m), (12, i6_ i)] (by kernel_rfl)
  refine wp_seq (wp_block ?_)
  refine wp_seq (wp_region_lit ?_)
  refine wp_run HF (by kernel_rfl) (.pointer (some ⟨sg_, i, none⟩)) (by kernel_rfl) (run_index (t := 126) Tryd.underlying126 his hss rfl i rfl rfl (by omega)) ?_
  clear HF; intro a HF; replace HF := HF.sub [(0, pt_ fb), (1, .int .u32 tv), (10, sl_ sg_ m m), (11, i6_ m), (12, i6_ i), (14, .pointer (some ⟨sg_, i, none⟩))] (by kernel_rfl)
  refine wp_run HF (by kernel_rfl) (pt_ p) (by kernel_rfl) (run_load_one rfl rfl (by kernel_rfl) ((cell_of_row w0 sg_ i _ _ _ hsg).trans hp)) ?_
  clear HF; intro a HF; replace HF := HF.sub [(0, pt_ fb), (1, .int .u32 tv), (10, sl_ sg_ m m), (11, i6_ m), (12, i6_ i), (14, .pointer (some ⟨sg_, i, none⟩)), (15, pt_ p)] (by kernel_rfl)
  refine wp_pure HF HM rfl 1 [] [(0, pt_ fb), (1, .int .u32 tv), (10, sl_ sg_ m m), (11, i6_ m), (12, i6_ i), (6, pt_ p)] (by kernel_rfl) ?_
  clear HF; intro a HF
  refine nil_then ?_
  refine wp_seq (wp_region_lit ?_)
  refine wp_pure HF HM rfl 4 [] [(0, pt_ fb), (1, .int .u32 tv), (10, sl_ sg_ m m), (11, i6_ m), (12, i6_ i), (6, pt_ p), (19, .pointer (some ⟨p, 1, none⟩))] (by kernel_rfl) ?_
  clear HF; intro a HF
  refine wp_run HF (by kernel_rfl) (.int .u32 (cv i)) (by kernel_rfl) (run_load_one rfl rfl (by kernel_rfl) ((cell_of_row w0 p 1 _ _ _ hpc).trans hpv)) ?_
  clear HF; intro a HF; replace HF := HF.sub [(0, pt_ fb), (1, .int .u32 tv), (10, sl_ sg_ m m), (11, i6_ m), (12, i6_ i), (6, pt_ p), (19, .pointer (some ⟨p, 1, none⟩)), (20, .int .u32 (cv i))] (by kernel_rfl)
  refine wp_pure HF HM rfl 2 [] [(0, pt_ fb), (1, .int .u32 tv), (10, sl_ sg_ m m), (11, i6_ m), (12, i6_ i), (6, pt_ p), (22, .bool (cv i == tv))] (by kernel_rfl) ?_
  clear HF; intro a HF
  rw [he] at HF
  refine nil_then ?_
  refine wp_condT HF rfl ?_
  replace HF := HF.sub [(0, pt_ fb), (1, .int .u32 tv), (10, sl_ sg_ m m), (11, i6_ m), (12, i6_ i), (6, pt_ p)] (by kernel_rfl)
  refine wp_seq (wp_region_lit ?_)
  refine wp_pure HF HM rfl 2 [] [(0, pt_ fb), (1, .int .u32 tv), (10, sl_ sg_ m m), (11, i6_ m), (12, i6_ i), (4, pt_ p)] (by kernel_rfl) ?_
  clear HF; intro a HF
  refine nil_then ?_
  refine wp_ret ?_
  repeat (first | refine then_ret ?_ | refine inb_ret ?_)
  exact KH a HF
theorem find_type_nones (fb sg_ m : Nat) (hm : m < 4611686018427387904) (tv : Int) (cv : Nat → Int) (cur : Array Value) (w0 : World) (hsg : w0.heap[sg_]? = some (.cells cur 133 (0, 0))) (hc : ∀ j, j < m → ∃ p cs, cur[j]? = some (pt_ p) ∧ w0.heap[p]? = some (.cells cs 153 (0, 0)) ∧ cs[1]? = some (.int .u32 (cv j))) (hno : ∀ j, j < m → (cv j == tv) = false) {KK : Act → World → Prop} {QQ : Exit → Act → World → Prop} (KE : ∀ a, Fr 25 a [(0, pt_ fb), (1, .int .u32 tv), (10, sl_ sg_ m m), (11, i6_ m), (12, i6_ m)] → KK a w0) : ∀ (r i : Nat), i + r = m → ∀ a, Fr 25 a [(0, pt_ fb), (1, .int .u32 tv), (10, sl_ sg_ m m), (11, i6_ m), (12, i6_ i)] → Code.rounds Tryd.prog (lpOf (spine Tryd.f71 1)) (Exit.inBlock 0 (Exit.then KK QQ)) (r + 1) a w0
  | 0, i, hr, a, HF => by
    rw [rounds_succ]
    obtain rfl : i = m := by omega
    exact find_type_end fb sg_ i hm tv cv cur w0 hsg hc i rfl KE a HF
  | r + 1, i, hr, a, HF => by
    rw [rounds_succ]
    obtain ⟨p, cs, h1, h2, h3⟩ := hc i (by omega)
    exact find_type_miss fb sg_ m hm tv cv cur w0 hsg hc i (by omega) p cs h1 h2 h3 (hno i (by omega)) (fun a HF => find_type_nones fb sg_ m hm tv cv cur w0 hsg hc hno KE r (i + 1) (by omega) a HF) a HF
theorem find_type_hits (fb sg_ m : Nat) (hm : m < 4611686018427387904) (tv : Int) (cv : Nat → Int) (cur : Array Value) (w0 : World) (hsg : w0.heap[sg_]? = some (.cells cur 133 (0, 0))) (hc : ∀ j, j < m → ∃ p cs, cur[j]? = some (pt_ p) ∧ w0.heap[p]? = some (.cells cs 153 (0, 0)) ∧ cs[1]? = some (.int .u32 (cv j))) (k q : Nat) (hk : k < m) (hq : cur[k]? = some (pt_ q)) (he : (cv k == tv) = true) (hno : ∀ j, j < k → (cv j == tv) = false) {KK : Act → World → Prop} {QQ : Exit → Act → World → Prop} (KH : ∀ a, Fr 25 a [(0, pt_ fb), (1, .int .u32 tv), (10, sl_ sg_ m m), (11, i6_ m), (12, i6_ k), (4, pt_ q)] → QQ .ret a w0) : ∀ (r i : Nat), i + r = k → ∀ a, Fr 25 a [(0, pt_ fb), (1, .int .u32 tv), (10, sl_ sg_ m m), (11, i6_ m), (12, i6_ i)] → Code.rounds Tryd.prog (lpOf (spine Tryd.f71 1)) (Exit.inBlock 0 (Exit.then KK QQ)) (r + 1) a w0
  | 0, i, hr, a, HF => by
    rw [rounds_succ]
    obtain rfl : i = k := by omega
    obtain ⟨p, cs, h1, h2, h3⟩ := hc i hk
    have e : p = q := by rw [hq] at h1; injection h1 with h1; injection h1 with h1; injection h1 with h1; injection h1 with h1; exact h1.symm
    subst e
    exact find_type_hit fb sg_ m hm tv cv cur w0 hsg hc i hk p cs h1 h2 h3 he KH a HF
  | r + 1, i, hr, a, HF => by
    rw [rounds_succ]
    obtain ⟨p, cs, h1, h2, h3⟩ := hc i (by omega)
    exact find_type_miss fb sg_ m hm tv cv cur w0 hsg hc i (by omega) p cs h1 h2 h3 (hno i (by omega)) (fun a HF => find_type_hits fb sg_ m hm tv cv cur w0 hsg hc k q hk hq he hno KH r (i + 1) (by omega) a HF) a HF

set_option maxRecDepth 100000 in
set_option maxHeartbeats 1000000 in
theorem find_type_none (fb sg_ m : Nat) (hm : m < 4611686018427387904) (tv : Int) (cv : Nat → Int) (cur : Array Value) (w0 : World) (hsg : w0.heap[sg_]? = some (.cells cur 133 (0, 0))) (hc : ∀ j, j < m → ∃ p cs, cur[j]? = some (pt_ p) ∧ w0.heap[p]? = some (.cells cs 153 (0, 0)) ∧ cs[1]? = some (.int .u32 (cv j))) (hfile : w0.cell? ⟨fb, 9, none⟩ = some (sl_ sg_ m m)) (hno : ∀ j, j < m → (cv j == tv) = false) : Calls Tryd.prog 71 #[pt_ fb, .int .u32 tv] w0 fun e w' => e = .returned (.pointer none) ∧ w' = w0 := by
  have HM : Mm [] w0 w0 [] := Mm.start w0
  refine calls_start Tryd.func71 rfl Tryd.ntmps71 [(0, pt_ fb), (1, .int .u32 tv)] (by kernel_rfl) (Nat.le_of_ble_eq_true rfl) ?_
  intro a HF
  refine reg_pure HF HM rfl [] [(0, pt_ fb), (1, .int .u32 tv), (4, .pointer none)] (by kernel_rfl) ?_
  clear HF; intro a HF
  replace HF := HF.sub [(0, pt_ fb), (1, .int .u32 tv)] (by kernel_rfl)
  refine wp_seq (wp_seq (wp_region_lit ?_))
  refine wp_pure HF HM rfl 3 [] [(0, pt_ fb), (1, .int .u32 tv), (9, .pointer (some ⟨fb, 9, none⟩))] (by kernel_rfl) ?_
  clear HF; intro a HF
  refine wp_run HF (by kernel_rfl) (sl_ sg_ m m) (by kernel_rfl) (run_load_one rfl rfl (by kernel_rfl) hfile) ?_
  clear HF; intro a HF; replace HF := HF.sub [(0, pt_ fb), (1, .int .u32 tv), (9, .pointer (some ⟨fb, 9, none⟩)), (10, sl_ sg_ m m)] (by kernel_rfl)
  refine wp_pure HF HM rfl 2 [] [(0, pt_ fb), (1, .int .u32 tv), (10, sl_ sg_ m m), (11, i6_ m), (12, i6_ 0)] (by kernel_rfl) ?_
  clear HF; intro a HF
  refine nil_then ?_
  refine wp_block (wp_loop_rounds (m + 1) ?_)
  refine find_type_nones fb sg_ m hm tv cv cur w0 hsg hc hno (fun a HF => ?_) m 0 (by omega) a HF
  refine wp_seq (wp_region_lit ?_)
  replace HF := HF.sub [(0, pt_ fb)] (by kernel_rfl)
  refine wp_pure HF HM rfl 1 [] [(0, pt_ fb), (4, .pointer none)] (by kernel_rfl) ?_
  clear HF; intro a HF
  refine nil_then ?_
  refine wp_ret ?_
  exact ret_one HF rfl rfl ⟨rfl, rfl⟩

set_option maxRecDepth 100000 in
set_option maxHeartbeats 1000000 in
theorem find_type_some (fb sg_ m : Nat) (hm : m < 4611686018427387904) (tv : Int) (cv : Nat → Int) (cur : Array Value) (w0 : World) (hsg : w0.heap[sg_]? = some (.cells cur 133 (0, 0))) (hc : ∀ j, j < m → ∃ p cs, cur[j]? = some (pt_ p) ∧ w0.heap[p]? = some (.cells cs 153 (0, 0)) ∧ cs[1]? = some (.int .u32 (cv j))) (hfile : w0.cell? ⟨fb, 9, none⟩ = some (sl_ sg_ m m)) (k q : Nat) (hk : k < m) (hq : cur[k]? = some (pt_ q)) (he : (cv k == tv) = true) (hno : ∀ j, j < k → (cv j == tv) = false) : Calls Tryd.prog 71 #[pt_ fb, .int .u32 tv] w0 fun e w' => e = .returned (pt_ q) ∧ w' = w0 := by
  have HM : Mm [] w0 w0 [] := Mm.start w0
  refine calls_start Tryd.func71 rfl Tryd.ntmps71 [(0, pt_ fb), (1, .int .u32 tv)] (by kernel_rfl) (Nat.le_of_ble_eq_true rfl) ?_
  intro a HF
  refine reg_pure HF HM rfl [] [(0, pt_ fb), (1, .int .u32 tv), (4, .pointer none)] (by kernel_rfl) ?_
  clear HF; intro a HF
  replace HF := HF.sub [(0, pt_ fb), (1, .int .u32 tv)] (by kernel_rfl)
  refine wp_seq (wp_seq (wp_region_lit ?_))
  refine wp_pure HF HM rfl 3 [] [(0, pt_ fb), (1, .int .u32 tv), (9, .pointer (some ⟨fb, 9, none⟩))] (by kernel_rfl) ?_
  clear HF; intro a HF
  refine wp_run HF (by kernel_rfl) (sl_ sg_ m m) (by kernel_rfl) (run_load_one rfl rfl (by kernel_rfl) hfile) ?_
  clear HF; intro a HF; replace HF := HF.sub [(0, pt_ fb), (1, .int .u32 tv), (9, .pointer (some ⟨fb, 9, none⟩)), (10, sl_ sg_ m m)] (by kernel_rfl)
  refine wp_pure HF HM rfl 2 [] [(0, pt_ fb), (1, .int .u32 tv), (10, sl_ sg_ m m), (11, i6_ m), (12, i6_ 0)] (by kernel_rfl) ?_
  clear HF; intro a HF
  refine nil_then ?_
  refine wp_block (wp_loop_rounds (k + 1) ?_)
  refine find_type_hits fb sg_ m hm tv cv cur w0 hsg hc k q hk hq he hno (fun a HF => ?_) k 0 (by omega) a HF
  exact ret_one HF rfl rfl ⟨rfl, rfl⟩

end Go.Proofs.YtdgehpocmfjbiaaDoor
namespace Go.Proofs.YtdgehpocmfjbiaaDoor
open Go.RowKit

abbrev by_type_some_S0 := fun (A : Option Addr) (n : Nat) (c : Nat) (tv : Int) => ([(0, .slice A n c), (1, .int .u32 tv), (4, iI_ 0), (5, .bool false)] : Slots)
set_option maxRecDepth 100000 in
set_option maxHeartbeats 1000000 in
theorem by_type_some (l : List UInt8) (A : Option Addr) (n c : Nat) (hl : n = l.length) (hnc : n ≤ c) (wide big : Bool) (abi abiv tyN machN entryN phoffN phnumN shoffN shnumN : Nat) (sg : Nat → SegV) (sc : Nat → SecV) (nb : Nat → List UInt8) (H : GoodFile l n wide big abi abiv tyN machN entryN phoffN phnumN shoffN shnumN sg sc nb) (h47 : n ≤ 140737488355328) (tv : Int) (k : Nat) (hk : k < shnumN) (he : ((((sc k).ty : Nat) : Int) == tv) = true) (hno : ∀ j, j < k → ((((sc j).ty : Nat) : Int) == tv) = false) (w0 : World) (hr : Row w0 A (l.map Bv)) :
    Calls Tryd.prog 41 #[.slice A n c, .int .u32 tv] w0 fun e w' => e = .returned (.tuple #[i6_ k, .bool true]) ∧ Below w0.heap.size w0 w' := by
  obtain ⟨w, hw⟩ : ∃ w, w0 = w := ⟨_, rfl⟩
  have HM : Mm [] w0 w [] := hw ▸ Mm.start w0
  conv => arg 4; rw [hw]
  clear hw
  refine calls_start Tryd.func41 rfl Tryd.ntmps41 [(0, .slice A n c), (1, .int .u32 tv)] (by kernel_rfl) (Nat.le_of_ble_eq_true rfl) ?_
  intro a HF
  refine reg_sym HF HM rfl [] (by_type_some_S0 A n c tv) [] (by kernel_rfl) ?_
  clear HF HM; intro a w HF HM
  refine wp_seq (wp_region_lit ?_)
  refine wp_sym HF HM rfl 1 [] ((by_type_some_S0 A n c tv) ++ [(9, .slice A n c)]) [] (by kernel_rfl) ?_
  clear HF HM; intro a w HF HM
  refine wp_call HF (by kernel_rfl) 55 #[.slice A n c] (by kernel_rfl) (fun w => by kernel_rfl) (Calls.mono (open_any l A n c hl hnc wide big abi abiv tyN machN entryN phoffN phnumN shoffN shnumN sg sc nb H h47 w (HM.row hr)) ?_)
  rintro _ w1 ⟨g, cap, z, fb, pg, sg_, cur, scur, rfl, hb, hnc2, hcap, hg0, hz0, hrow, hFile⟩
  replace HM := HM.call hb
  refine ⟨_, rfl, ?_⟩; clear HF; intro a HF; replace HF := HF.sub ((by_type_some_S0 A n c tv) ++ [(9, .slice A n c), (10, .tuple #[pt_ fb, .bool true])]) (by kernel_rfl)
  refine wp_pure HF HM rfl 5 [] ((by_type_some_S0 A n c tv) ++ [(6, pt_ fb), (7, .bool true)]) (by kernel_rfl) ?_
  clear HF; intro a HF
  refine nil_then ?_
  refine wp_seq ?_
  refine wp_seq (wp_region_lit ?_)
  refine wp_pure HF HM rfl 2 [] ((by_type_some_S0 A n c tv) ++ [(6, pt_ fb), (7, .bool true), (14, .bool false)]) (by kernel_rfl) ?_
  clear HF; intro a HF
  refine nil_then ?_
  refine wp_condF HF rfl ?_
  refine wp_skip ?_
  repeat (first | refine then_norm ?_ | refine inb_norm ?_)
  replace HF := HF.sub ((by_type_some_S0 A n c tv) ++ [(6, pt_ fb)]) (by kernel_rfl)
  have hm := H.b7
  have hcell : w1.cell? ⟨fb, 9, none⟩ = some (sl_ sg_ shnumN shnumN) := by rw [cell_of_row w1 fb 9 _ _ _ hFile.file]; rfl
  have hcf : ∀ j, j < shnumN → ∃ p cs, scur[j]? = some (pt_ p) ∧ w1.heap[p]? = some (.cells cs 153 (0, 0)) ∧ cs[1]? = some (u3_ (sc j).ty) := fun j hj => by obtain ⟨p, _, g1, _, _, g4, _⟩ := hFile.sec j hj; exact ⟨p, _, g1, g4, rfl⟩
  have hcn : ∀ j, j < shnumN → ∃ p cs t, scur[j]? = some (pt_ p) ∧ w1.heap[p]? = some (.cells cs t (0, 0)) := fun j hj => by obtain ⟨p, cs, g1, g2, _⟩ := hcf j hj; exact ⟨p, cs, _, g1, g2⟩
  obtain ⟨q, _, hq, _, _⟩ := hcf k hk
  refine wp_seq (wp_region_lit ?_)
  refine wp_pure HF HM rfl 3 [] ((by_type_some_S0 A n c tv) ++ [(6, pt_ fb), (15, pt_ fb), (16, pt_ fb), (17, .int .u32 tv)]) (by kernel_rfl) ?_
  clear HF; intro a HF
  refine wp_call HF (by kernel_rfl) 71 #[pt_ fb, .int .u32 tv] (by kernel_rfl) (fun w => by kernel_rfl) (Calls.mono (find_type_some fb sg_ shnumN (by omega) tv (fun j => (((sc j).ty : Nat) : Int)) scur w1 hFile.secs hcf hcell k q hk hq he hno) ?_)
  rintro _ w2 ⟨rfl, hq2⟩
  obtain rfl : w1 = w2 := hq2.symm
  refine ⟨_, rfl, ?_⟩; clear HF; intro a HF; replace HF := HF.sub ((by_type_some_S0 A n c tv) ++ [(6, pt_ fb), (15, pt_ fb), (16, pt_ fb), (17, .int .u32 tv), (18, pt_ q)]) (by kernel_rfl)
  refine wp_call HF (by kernel_rfl) 69 #[pt_ fb, pt_ q] (by kernel_rfl) (fun w => by kernel_rfl) (Calls.mono (number_of fb sg_ shnumN (by omega) scur w1 hFile.secs hcn hcell k q hk hq (fun j hj => hFile.ne j k hj hk)) ?_)
  rintro _ w3 ⟨rfl, hq3⟩
  obtain rfl : w1 = w3 := hq3.symm
  refine ⟨_, rfl, ?_⟩; clear HF; intro a HF; replace HF := HF.sub ((by_type_some_S0 A n c tv) ++ [(6, pt_ fb), (15, pt_ fb), (16, pt_ fb), (17, .int .u32 tv), (18, pt_ q), (19, i6_ k)]) (by kernel_rfl)
  refine wp_pure HF HM rfl 2 [] [(0, .slice A n c), (1, .int .u32 tv), (6, pt_ fb), (4, i6_ k), (5, .bool true)] (by kernel_rfl) ?_
  clear HF; intro a HF
  refine nil_then ?_
  refine wp_ret ?_
  exact ret_two HF rfl rfl rfl ⟨rfl, HM.below⟩

abbrev by_type_none_S0 := fun (A : Option Addr) (n : Nat) (c : Nat) (tv : Int) => ([(0, .slice A n c), (1, .int .u32 tv), (4, iI_ 0), (5, .bool false)] : Slots)
set_option maxRecDepth 100000 in
set_option maxHeartbeats 1000000 in
theorem by_type_none (l : List UInt8) (A : Option Addr) (n c : Nat) (hl : n = l.length) (hnc : n ≤ c) (wide big : Bool) (abi abiv tyN machN entryN phoffN phnumN shoffN shnumN : Nat) (sg : Nat → SegV) (sc : Nat → SecV) (nb : Nat → List UInt8) (H : GoodFile l n wide big abi abiv tyN machN entryN phoffN phnumN shoffN shnumN sg sc nb) (h47 : n ≤ 140737488355328) (tv : Int) (hno : ∀ j, j < shnumN → ((((sc j).ty : Nat) : Int) == tv) = false) (w0 : World) (hr : Row w0 A (l.map Bv)) :
    Calls Tryd.prog 41 #[.slice A n c, .int .u32 tv] w0 fun e w' => e = .returned (.tuple #[iI_ (-1), .bool true]) ∧ Below w0.heap.size w0 w' := by
  obtain ⟨w, hw⟩ : ∃ w, w0 = w := ⟨_, rfl⟩
  have HM : Mm [] w0 w [] := hw ▸ Mm.start w0
  conv => arg 4; rw [hw]
  clear hw
  refine calls_start Tryd.func41 rfl Tryd.ntmps41 [(0, .slice A n c), (1, .int .u32 tv)] (by kernel_rfl) (Nat.le_of_ble_eq_true rfl) ?_
  intro a HF
  refine reg_sym HF HM rfl [] (by_type_none_S0 A n c tv) [] (by kernel_rfl) ?_
  clear HF HM; intro a w HF HM
  refine wp_seq (wp_region_lit ?_)
  refine wp_sym HF HM rfl 1 [] ((by_type_none_S0 A n c tv) ++ [(9, .slice A n c)]) [] (by kernel_rfl) ?_
  clear HF HM; intro a w HF HM
  refine wp_call HF (by kernel_rfl) 55 #[.slice A n c] (by kernel_rfl) (fun w => by kernel_rfl) (Calls.mono (open_any l A n c hl hnc wide big abi abiv tyN machN entryN phoffN phnumN shoffN shnumN sg sc nb H h47 w (HM.row hr)) ?_)
  rintro _ w1 ⟨g, cap, z, fb, pg, sg_, cur, scur, rfl, hb, hnc2, hcap, hg0, hz0, hrow, hFile⟩
  replace HM := HM.call hb
  refine ⟨_, rfl, ?_⟩; clear HF; intro a HF; replace HF := HF.sub ((by_type_none_S0 A n c tv) ++ [(9, .slice A n c), (10, .tuple #[pt_ fb, .bool true])]) (by kernel_rfl)
  refine wp_pure HF HM rfl 5 [] ((by_type_none_S0 A n c tv) ++ [(6, pt_ fb), (7, .bool true)]) (by kernel_rfl) ?_
  clear HF; intro a HF
  refine nil_then ?_
  refine wp_seq ?_
  refine wp_seq (wp_region_lit ?_)
  refine wp_pure HF HM rfl 2 [] ((by_type_none_S0 A n c tv) ++ [(6, pt_ fb), (7, .bool true), (14, .bool false)]) (by kernel_rfl) ?_
  clear HF; intro a HF
  refine nil_then ?_
  refine wp_condF HF rfl ?_
  refine wp_skip ?_
  repeat (first | refine then_norm ?_ | refine inb_norm ?_)
  replace HF := HF.sub ((by_type_none_S0 A n c tv) ++ [(6, pt_ fb)]) (by kernel_rfl)
  have hm := H.b7
  have hcell : w1.cell? ⟨fb, 9, none⟩ = some (sl_ sg_ shnumN shnumN) := by rw [cell_of_row w1 fb 9 _ _ _ hFile.file]; rfl
  have hcf : ∀ j, j < shnumN → ∃ p cs, scur[j]? = some (pt_ p) ∧ w1.heap[p]? = some (.cells cs 153 (0, 0)) ∧ cs[1]? = some (u3_ (sc j).ty) := fun j hj => by obtain ⟨p, _, g1, _, _, g4, _⟩ := hFile.sec j hj; exact ⟨p, _, g1, g4, rfl⟩
  have hcn : ∀ j, j < shnumN → ∃ p cs t, scur[j]? = some (pt_ p) ∧ w1.heap[p]? = some (.cells cs t (0, 0)) := fun j hj => by obtain ⟨p, cs, g1, g2, _⟩ := hcf j hj; exact ⟨p, cs, _, g1, g2⟩
  refine wp_seq (wp_region_lit ?_)
  refine wp_pure HF HM rfl 3 [] ((by_type_none_S0 A n c tv) ++ [(6, pt_ fb), (15, pt_ fb), (16, pt_ fb), (17, .int .u32 tv)]) (by kernel_rfl) ?_
  clear HF; intro a HF
  refine wp_call HF (by kernel_rfl) 71 #[pt_ fb, .int .u32 tv] (by kernel_rfl) (fun w => by kernel_rfl) (Calls.mono (find_type_none fb sg_ shnumN (by omega) tv (fun j => (((sc j).ty : Nat) : Int)) scur w1 hFile.secs hcf hcell hno) ?_)
  rintro _ w2 ⟨rfl, hq2⟩
  obtain rfl : w1 = w2 := hq2.symm
  refine ⟨_, rfl, ?_⟩; clear HF; intro a HF; replace HF := HF.sub ((by_type_none_S0 A n c tv) ++ [(6, pt_ fb), (15, pt_ fb), (16, pt_ fb), (17, .int .u32 tv), (18, .pointer none)]) (by kernel_rfl)
  refine wp_call HF (by kernel_rfl) 69 #[pt_ fb, .pointer none] (by kernel_rfl) (fun w => by kernel_rfl) (Calls.mono (number_none fb sg_ shnumN (by omega) scur w1 hFile.secs hcn hcell) ?_)
  rintro _ w3 ⟨rfl, hq3⟩
  obtain rfl : w1 = w3 := hq3.symm
  refine ⟨_, rfl, ?_⟩; clear HF; intro a HF; replace HF := HF.sub ((by_type_none_S0 A n c tv) ++ [(6, pt_ fb), (15, pt_ fb), (16, pt_ fb), (17, .int .u32 tv), (18, .pointer none), (19, iI_ (-1))]) (by kernel_rfl)
  refine wp_pure HF HM rfl 2 [] [(0, .slice A n c), (1, .int .u32 tv), (6, pt_ fb), (4, iI_ (-1)), (5, .bool true)] (by kernel_rfl) ?_
  clear HF; intro a HF
  refine nil_then ?_
  refine wp_ret ?_
  exact ret_two HF rfl rfl rfl ⟨rfl, HM.below⟩

end Go.Proofs.YtdgehpocmfjbiaaDoor
namespace Go.Proofs.YtdgehpocmfjbiaaDoor
open Go.RowKit
theorem scTy_at {x : ImgM} {g cap i : Nat} {m : PartM} (hm : (allM x g cap)[i]? = some m) : (scOf x.img i).ty = m.ty := by
  have h1 : x.img.all[i]? = some m.part := by rw [← allM_part x g cap, List.getElem?_map, hm]; rfl
  unfold scOf
  rw [h1]
  rfl

abbrev law_byType_B0 := fun z1 (x : ImgM) => ((z1, .cells #[.bool x.wide, .bool x.big, u8_ x.abi, u8_ x.abiv, .int .i64 x.ty, .int .i64 x.machine, u6_ x.entry, .slice x.A x.ss.length x.c, .slice x.B x.ps.length x.d] 26 (0, 0)) : Nat × Obj)
abbrev law_byType_S1 := fun (kd : Nat) z1 gl (x : ImgM) capl => ([(1, u3_ kd), (2, pt_ z1), (5, iI_ (-1)), (17, sl_ gl (x.ps.length + 2) capl)] : Slots)
abbrev law_byType_S2 := fun (kd : Nat) z1 i gl (x : ImgM) capl => ([(1, u3_ kd), (2, pt_ z1), (5, i6_ i), (17, sl_ gl (x.ps.length + 2) capl), (18, i6_ (x.ps.length + 2))] : Slots)
abbrev law_byType_S3 := fun (kd : Nat) z1 k gl (x : ImgM) capl => ([(1, u3_ kd), (2, pt_ z1), (5, i6_ k), (17, sl_ gl (x.ps.length + 2) capl), (18, i6_ (x.ps.length + 2))] : Slots)
abbrev law_byType_P4 := fun (x : ImgM) => ((35, .agg #[.bool x.wide, .bool x.big, u8_ x.abi, u8_ x.abiv, .int .i64 x.ty, .int .i64 x.machine, u6_ x.entry, .slice x.A x.ss.length x.c, .slice x.B x.ps.length x.d]) : Nat × Value)
set_option maxRecDepth 100000 in
set_option maxHeartbeats 1000000 in
theorem law_byType (x : ImgM) (kd : Nat) (w0 : World) (h : x.At w0) (hkd : kd < 4294967296) : Calls Tryd.prog 15 #[x.val, u3_ kd] w0 fun e w' => e = .returned (.bool true) ∧ Below w0.heap.size w0 w' := by
  obtain ⟨w, hw⟩ : ∃ w, w0 = w := ⟨_, rfl⟩
  have HM : Mm [] w0 w [] := hw ▸ Mm.start w0
  conv => arg 4; rw [hw]
  clear hw
  refine calls_start Tryd.func15 rfl Tryd.ntmps15 [(0, .agg #[.bool x.wide, .bool x.big, u8_ x.abi, u8_ x.abiv, .int .i64 x.ty, .int .i64 x.machine, u6_ x.entry, .slice x.A x.ss.length x.c, .slice x.B x.ps.length x.d]), (1, u3_ kd)] (by kernel_rfl) (Nat.le_of_ble_eq_true rfl) ?_
  intro a HF
  refine wp_seq (wp_region_lit ?_)
  obtain ⟨z1, hz1⟩ : ∃ z, w.heap.size = z := ⟨_, rfl⟩
  refine wp_sym HF HM hz1 2 [] [(1, u3_ kd), (2, pt_ z1)] [law_byType_B0 z1 x] (by kernel_rfl) ?_
  clear HF HM hz1; intro a w HF HM
  refine nil_then ?_
  refine wp_seq ?_
  refine wp_seq (wp_region_lit ?_)
  refine wp_pure HF HM rfl 1 [[0]] [(1, u3_ kd), (2, pt_ z1), (10, .agg #[.bool x.wide, .bool x.big, u8_ x.abi, u8_ x.abiv, .int .i64 x.ty, .int .i64 x.machine, u6_ x.entry, .slice x.A x.ss.length x.c, .slice x.B x.ps.length x.d])] (by kernel_rfl) ?_
  clear HF; intro a HF
  refine wp_call HF (by kernel_rfl) 20 #[.agg #[.bool x.wide, .bool x.big, u8_ x.abi, u8_ x.abiv, .int .i64 x.ty, .int .i64 x.machine, u6_ x.entry, .slice x.A x.ss.length x.c, .slice x.B x.ps.length x.d]] (by kernel_rfl) (fun w => by kernel_rfl) (Calls.mono (zzFits1_any x w (h.below HM.below)) ?_)
  rintro _ w1 ⟨b1, rfl, hb⟩
  replace HM := HM.call hb
  clear hb
  refine ⟨_, rfl, ?_⟩; clear HF; intro a HF
  replace HF := HF.sub [(1, u3_ kd), (2, pt_ z1), (11, .bool b1)] (by kernel_rfl)
  rcases bool_cases2 b1 with hc2 | hc2
  · replace HF := Fr.sub (Fr.tell HF 11 rfl (congrArg Value.bool hc2)) [(1, u3_ kd), (2, pt_ z1), (11, .bool false)] (by kernel_rfl)
    refine wp_pure HF HM rfl 1 [] [(1, u3_ kd), (2, pt_ z1), (12, .bool true)] (by kernel_rfl) ?_
    clear HF; intro a HF
    refine nil_then ?_
    refine wp_condT HF rfl ?_
    refine wp_seq (wp_region_lit ?_)
    refine wp_pure HF HM rfl 1 [] [(4, .bool true)] (by kernel_rfl) ?_
    clear HF; intro a HF
    refine nil_then ?_
    refine wp_ret ?_
    repeat (first | refine then_ret ?_ | refine inb_ret ?_)
    exact ret_one HF rfl rfl ⟨rfl, HM.below⟩
  replace HF := Fr.sub (Fr.tell HF 11 rfl (congrArg Value.bool hc2)) [(1, u3_ kd), (2, pt_ z1), (11, .bool true)] (by kernel_rfl)
  refine wp_pure HF HM rfl 1 [] [(1, u3_ kd), (2, pt_ z1), (12, .bool false)] (by kernel_rfl) ?_
  clear HF; intro a HF
  refine nil_then ?_
  refine wp_condF HF rfl ?_
  refine wp_skip ?_
  repeat (first | refine then_norm ?_ | refine inb_norm ?_)
  refine wp_seq ?_
  refine wp_seq (wp_region_lit ?_)
  refine wp_pure HF HM rfl 1 [[0]] [(1, u3_ kd), (2, pt_ z1), (13, .agg #[.bool x.wide, .bool x.big, u8_ x.abi, u8_ x.abiv, .int .i64 x.ty, .int .i64 x.machine, u6_ x.entry, .slice x.A x.ss.length x.c, .slice x.B x.ps.length x.d])] (by kernel_rfl) ?_
  clear HF; intro a HF
  refine wp_call HF (by kernel_rfl) 22 #[.agg #[.bool x.wide, .bool x.big, u8_ x.abi, u8_ x.abiv, .int .i64 x.ty, .int .i64 x.machine, u6_ x.entry, .slice x.A x.ss.length x.c, .slice x.B x.ps.length x.d]] (by kernel_rfl) (fun w => by kernel_rfl) (Calls.mono (isImage_any x w1 (h.below HM.below)) ?_)
  rintro _ w2 ⟨b3, rfl, hb, hok4⟩
  replace HM := HM.call hb
  clear hb
  refine ⟨_, rfl, ?_⟩; clear HF; intro a HF
  replace HF := HF.sub [(1, u3_ kd), (2, pt_ z1), (14, .bool b3)] (by kernel_rfl)
  rcases bool_cases2 b3 with hc5 | hc5
  · replace HF := Fr.sub (Fr.tell HF 14 rfl (congrArg Value.bool hc5)) [(1, u3_ kd), (2, pt_ z1), (14, .bool false)] (by kernel_rfl)
    refine wp_pure HF HM rfl 1 [] [(1, u3_ kd), (2, pt_ z1), (15, .bool true)] (by kernel_rfl) ?_
    clear HF; intro a HF
    refine nil_then ?_
    refine wp_condT HF rfl ?_
    refine wp_seq (wp_region_lit ?_)
    refine wp_pure HF HM rfl 1 [] [(4, .bool true)] (by kernel_rfl) ?_
    clear HF; intro a HF
    refine nil_then ?_
    refine wp_ret ?_
    repeat (first | refine then_ret ?_ | refine inb_ret ?_)
    exact ret_one HF rfl rfl ⟨rfl, HM.below⟩
  replace HF := Fr.sub (Fr.tell HF 14 rfl (congrArg Value.bool hc5)) [(1, u3_ kd), (2, pt_ z1), (14, .bool true)] (by kernel_rfl)
  refine wp_pure HF HM rfl 1 [] [(1, u3_ kd), (2, pt_ z1), (15, .bool false)] (by kernel_rfl) ?_
  clear HF; intro a HF
  refine nil_then ?_
  refine wp_condF HF rfl ?_
  refine wp_skip ?_
  repeat (first | refine then_norm ?_ | refine inb_norm ?_)
  refine wp_seq (wp_region_lit ?_)
  refine wp_pure HF HM rfl 1 [] [(1, u3_ kd), (2, pt_ z1), (5, iI_ (-1))] (by kernel_rfl) ?_
  clear HF; intro a HF
  refine nil_then ?_
  refine wp_seq ?_
  refine wp_seq (wp_region_lit ?_)
  refine wp_pure HF HM rfl 1 [[0]] [(1, u3_ kd), (2, pt_ z1), (5, iI_ (-1)), (16, .agg #[.bool x.wide, .bool x.big, u8_ x.abi, u8_ x.abiv, .int .i64 x.ty, .int .i64 x.machine, u6_ x.entry, .slice x.A x.ss.length x.c, .slice x.B x.ps.length x.d])] (by kernel_rfl) ?_
  clear HF; intro a HF
  have ok := (hok4 hc5).1
  have iok := ImgM.ok ok h
  have hk2 := ok.parts; have hk3 := iok.namesB_le
  refine wp_call HF (by kernel_rfl) 38 #[.agg #[.bool x.wide, .bool x.big, u8_ x.abi, u8_ x.abiv, .int .i64 x.ty, .int .i64 x.machine, u6_ x.entry, .slice x.A x.ss.length x.c, .slice x.B x.ps.length x.d]] (by kernel_rfl) (fun w => by kernel_rfl) (Calls.mono (all_any x w2 (h.below HM.below) (by omega) (by omega)) ?_)
  rintro _ w3 ⟨gl, capl, curl, gt, capt, curt, rfl, hb, hol, hot, hne⟩
  replace HM : Mm [] w0 w3 [(gl, .cells curl 46 (0, 0)), law_byType_B0 z1 x] := HM.push hb hol.new hol.obj
  clear hb
  have hal := allM_length x gt capt
  refine ⟨_, rfl, ?_⟩; clear HF; intro a HF
  replace HF := HF.sub (law_byType_S1 kd z1 gl x capl) (by kernel_rfl)
  refine wp_pure HF HM rfl 2 [] ((law_byType_S1 kd z1 gl x capl) ++ [(18, i6_ (x.ps.length + 2)), (19, iI_ 0)]) (by kernel_rfl) ?_
  clear HF; intro a HF
  refine nil_then ?_
  refine wp_block ?_
  refine loop_ind ((x.ps.length + 2)) (fun i a w => ((∀ j, j < i → ((((scOf x.img j).ty : Nat) : Int) == ((kd : Nat) : Int)) = false) ∧ Mm [] w0 w [(gl, .cells curl 46 (0, 0)), law_byType_B0 z1 x] ∧ Fr 47 a ((law_byType_S1 kd z1 gl x capl) ++ [(18, i6_ (x.ps.length + 2)), (19, i6_ i)])) ∨ (∃ k : Nat, (k < i) ∧ (((((scOf x.img k).ty : Nat) : Int) == ((kd : Nat) : Int)) = true) ∧ (∀ j, j < k → ((((scOf x.img j).ty : Nat) : Int) == ((kd : Nat) : Int)) = false) ∧ Mm [] w0 w [(gl, .cells curl 46 (0, 0)), law_byType_B0 z1 x] ∧ Fr 47 a [(1, u3_ kd), (2, pt_ z1), (5, i6_ k), (17, sl_ gl (x.ps.length + 2) capl), (18, i6_ (x.ps.length + 2)), (19, i6_ i)])) ?_ ?_ ?_
  · exact Or.inl <| ⟨fun j hj => absurd hj (Nat.not_lt_zero j), HM, HF.sub ((law_byType_S1 kd z1 gl x capl) ++ [(18, i6_ (x.ps.length + 2)), (19, iI_ 0)]) (by kernel_rfl)⟩
  · intro i a w KX hi hI KR
    rcases hI with hI | hI
    · obtain ⟨hno, HM, HF⟩ := hI
      refine wp_seq (wp_region_lit ?_)
      refine wp_pure HF HM rfl 1 [] ((law_byType_S1 kd z1 gl x capl) ++ [(18, i6_ (x.ps.length + 2)), (19, i6_ i), (20, .bool (decide (((i : Nat) : Int) < (((x.ps.length + 2) : Nat) : Int))))]) (by kernel_rfl) ?_
      clear HF; intro a HF
      refine nil_then ?_
      refine wp_seq ?_
      rw [show decide (((i : Nat) : Int) < (((x.ps.length + 2) : Nat) : Int)) = true from dec_t (by omega)] at HF
      refine wp_condT HF rfl ?_
      refine wp_skip ?_
      repeat (first | refine then_norm ?_ | refine inb_norm ?_)
      refine wp_seq ?_
      refine wp_block ?_
      refine wp_seq (wp_region_lit ?_)
      refine wp_pure HF HM rfl 1 [] ((law_byType_S1 kd z1 gl x capl) ++ [(18, i6_ (x.ps.length + 2)), (19, i6_ i), (21, i6_ i)]) (by kernel_rfl) ?_
      clear HF; intro a HF
      obtain ⟨m6, hm6⟩ : ∃ m, (allM x gt capt)[i]? = some m := ⟨_, List.getElem?_eq_getElem (by omega)⟩
      refine wp_run HF (by kernel_rfl) (.pointer (Option.map (fun q : Addr => q.add (i * 10)) (some ⟨gl, 0, none⟩))) (by kernel_rfl) (run_index_row Tryd.underlying24 (by kernel_rfl) rfl i rfl rfl (by omega) (Option.some_ne_none _)) ?_
      clear HF; intro a HF; replace HF := HF.sub ((law_byType_S1 kd z1 gl x capl) ++ [(18, i6_ (x.ps.length + 2)), (19, i6_ i), (21, i6_ i), (22, .pointer (Option.map (fun q : Addr => q.add (i * 10)) (some ⟨gl, 0, none⟩)))]) (by kernel_rfl)
      refine wp_run HF (by kernel_rfl) (.agg #[.string (⟨m6.name.toArray⟩), u3_ m6.ty, u3_ m6.flags, u6_ m6.addr, u3_ m6.link, u3_ m6.info, u6_ m6.align, u6_ m6.ent, u6_ m6.size, .slice m6.A m6.data.length m6.c]) (by kernel_rfl) (run_load_row rfl rfl (row_elem (f := PartM.cells) (k := 10) (fun _ => rfl) (HM.rowOwn (i := 0) rfl hol.tk) i hm6) (Nat.zero_lt_succ _) Tryd.underlying46 rfl (by kernel_rfl)) ?_
      clear HF; intro a HF; replace HF := HF.sub ((law_byType_S1 kd z1 gl x capl) ++ [(18, i6_ (x.ps.length + 2)), (19, i6_ i), (21, i6_ i), (23, .agg #[.string (⟨m6.name.toArray⟩), u3_ m6.ty, u3_ m6.flags, u6_ m6.addr, u3_ m6.link, u3_ m6.info, u6_ m6.align, u6_ m6.ent, u6_ m6.size, .slice m6.A m6.data.length m6.c])]) (by kernel_rfl)
      obtain ⟨z15, hz15⟩ : ∃ z, w.heap.size = z := ⟨_, rfl⟩
      refine wp_sym HF HM hz15 3 [[2]] [(1, u3_ kd), (2, pt_ z1), (5, iI_ (-1)), (6, i6_ i), (7, pt_ z15), (17, sl_ gl (x.ps.length + 2) capl), (18, i6_ (x.ps.length + 2)), (19, i6_ i)] [(z15, .cells #[.string (⟨m6.name.toArray⟩), u3_ m6.ty, u3_ m6.flags, u6_ m6.addr, u3_ m6.link, u3_ m6.info, u6_ m6.align, u6_ m6.ent, u6_ m6.size, .slice m6.A m6.data.length m6.c] 46 (0, 0)), (gl, .cells curl 46 (0, 0)), law_byType_B0 z1 x] (by kernel_rfl) ?_
      clear HF HM hz15; intro a w HF HM
      refine nil_then ?_
      refine wp_seq (wp_region_lit ?_)
      refine wp_pure HF HM rfl 8 [[2]] [(1, u3_ kd), (2, pt_ z1), (5, iI_ (-1)), (6, i6_ i), (17, sl_ gl (x.ps.length + 2) capl), (18, i6_ (x.ps.length + 2)), (19, i6_ i), (31, .bool (((m6.ty : Nat) : Int) == ((kd : Nat) : Int)))] (by kernel_rfl) ?_
      clear HF; intro a HF
      refine nil_then ?_
      by_cases hc7 : ((m6.ty : Nat) : Int) = ((kd : Nat) : Int)
      · rw [show (((m6.ty : Nat) : Int) == ((kd : Nat) : Int)) = true from beq_t (hc7)] at HF
        refine wp_condT HF rfl ?_
        refine wp_region_lit ?_
        refine wp_pure HF HM rfl 2 [] ((law_byType_S2 kd z1 i gl x capl) ++ [(19, i6_ i)]) (by kernel_rfl) ?_
        clear HF; intro a HF
        refine wpList_nil ?_
        repeat (first | refine then_norm ?_ | refine inb_norm ?_)
        refine wp_region_lit ?_
        refine wp_pure HF HM rfl 1 [] ((law_byType_S2 kd z1 i gl x capl) ++ [(33, iI_ (IntKind.i64.wrap (((i : Nat) : Int) + 1)))]) (by kernel_rfl) ?_
        clear HF; intro a HF
        rw [show IntKind.i64.wrap (((i : Nat) : Int) + 1) = (((i + 1) : Nat) : Int) from (IntWalk.i64_in _ (by omega)).trans (by omega)] at HF
        refine wp_pure HF HM rfl 1 [] ((law_byType_S2 kd z1 i gl x capl) ++ [(19, i6_ (i + 1))]) (by kernel_rfl) ?_
        clear HF; intro a HF
        refine wpList_nil ?_
        repeat (first | refine then_norm ?_ | refine inb_norm ?_)
        exact KR _ _ (Or.inr <| ⟨i, by omega, by rw [scTy_at hm6]; exact beq_t hc7, hno, (HM.pick [1, 2] [(gl, .cells curl 46 (0, 0)), law_byType_B0 z1 x] rfl (by decide)), HF.sub ((law_byType_S2 kd z1 i gl x capl) ++ [(19, i6_ (i + 1))]) (by kernel_rfl)⟩)
      rw [show (((m6.ty : Nat) : Int) == ((kd : Nat) : Int)) = false from beq_f (hc7)] at HF
      refine wp_condF HF rfl ?_
      refine wp_skip ?_
      repeat (first | refine then_norm ?_ | refine inb_norm ?_)
      refine wp_region_lit ?_
      refine wp_pure HF HM rfl 1 [] ((law_byType_S1 kd z1 gl x capl) ++ [(18, i6_ (x.ps.length + 2)), (33, iI_ (IntKind.i64.wrap (((i : Nat) : Int) + 1)))]) (by kernel_rfl) ?_
      clear HF; intro a HF
      rw [show IntKind.i64.wrap (((i : Nat) : Int) + 1) = (((i + 1) : Nat) : Int) from (IntWalk.i64_in _ (by omega)).trans (by omega)] at HF
      refine wp_pure HF HM rfl 1 [] ((law_byType_S1 kd z1 gl x capl) ++ [(18, i6_ (x.ps.length + 2)), (19, i6_ (i + 1))]) (by kernel_rfl) ?_
      clear HF; intro a HF
      refine wpList_nil ?_
      repeat (first | refine then_norm ?_ | refine inb_norm ?_)
      exact KR _ _ (Or.inl <| ⟨fun j hj => (Nat.lt_or_ge j i).elim (fun g => hno j g) (fun g => by obtain rfl : j = i := (by omega); rw [scTy_at hm6]; exact beq_f hc7), (HM.pick [1, 2] [(gl, .cells curl 46 (0, 0)), law_byType_B0 z1 x] rfl (by decide)), HF.sub ((law_byType_S1 kd z1 gl x capl) ++ [(18, i6_ (x.ps.length + 2)), (19, i6_ (i + 1))]) (by kernel_rfl)⟩)
    · obtain ⟨k, hki, hke, hkn, HM, HF⟩ := hI
      refine wp_seq (wp_region_lit ?_)
      refine wp_pure HF HM rfl 1 [] ((law_byType_S3 kd z1 k gl x capl) ++ [(19, i6_ i), (20, .bool (decide (((i : Nat) : Int) < (((x.ps.length + 2) : Nat) : Int))))]) (by kernel_rfl) ?_
      clear HF; intro a HF
      refine nil_then ?_
      refine wp_seq ?_
      rw [show decide (((i : Nat) : Int) < (((x.ps.length + 2) : Nat) : Int)) = true from dec_t (by omega)] at HF
      refine wp_condT HF rfl ?_
      refine wp_skip ?_
      repeat (first | refine then_norm ?_ | refine inb_norm ?_)
      refine wp_seq ?_
      refine wp_block ?_
      refine wp_seq (wp_region_lit ?_)
      refine wp_pure HF HM rfl 1 [] ((law_byType_S3 kd z1 k gl x capl) ++ [(19, i6_ i), (21, i6_ i)]) (by kernel_rfl) ?_
      clear HF; intro a HF
      obtain ⟨m8, hm8⟩ : ∃ m, (allM x gt capt)[i]? = some m := ⟨_, List.getElem?_eq_getElem (by omega)⟩
      refine wp_run HF (by kernel_rfl) (.pointer (Option.map (fun q : Addr => q.add (i * 10)) (some ⟨gl, 0, none⟩))) (by kernel_rfl) (run_index_row Tryd.underlying24 (by kernel_rfl) rfl i rfl rfl (by omega) (Option.some_ne_none _)) ?_
      clear HF; intro a HF; replace HF := HF.sub ((law_byType_S3 kd z1 k gl x capl) ++ [(19, i6_ i), (21, i6_ i), (22, .pointer (Option.map (fun q : Addr => q.add (i * 10)) (some ⟨gl, 0, none⟩)))]) (by kernel_rfl)
      refine wp_run HF (by kernel_rfl) (.agg #[.string (⟨m8.name.toArray⟩), u3_ m8.ty, u3_ m8.flags, u6_ m8.addr, u3_ m8.link, u3_ m8.info, u6_ m8.align, u6_ m8.ent, u6_ m8.size, .slice m8.A m8.data.length m8.c]) (by kernel_rfl) (run_load_row rfl rfl (row_elem (f := PartM.cells) (k := 10) (fun _ => rfl) (HM.rowOwn (i := 0) rfl hol.tk) i hm8) (Nat.zero_lt_succ _) Tryd.underlying46 rfl (by kernel_rfl)) ?_
      clear HF; intro a HF; replace HF := HF.sub ((law_byType_S3 kd z1 k gl x capl) ++ [(19, i6_ i), (21, i6_ i), (23, .agg #[.string (⟨m8.name.toArray⟩), u3_ m8.ty, u3_ m8.flags, u6_ m8.addr, u3_ m8.link, u3_ m8.info, u6_ m8.align, u6_ m8.ent, u6_ m8.size, .slice m8.A m8.data.length m8.c])]) (by kernel_rfl)
      obtain ⟨z24, hz24⟩ : ∃ z, w.heap.size = z := ⟨_, rfl⟩
      refine wp_sym HF HM hz24 3 [[2]] [(1, u3_ kd), (2, pt_ z1), (5, i6_ k), (6, i6_ i), (7, pt_ z24), (17, sl_ gl (x.ps.length + 2) capl), (18, i6_ (x.ps.length + 2)), (19, i6_ i)] [(z24, .cells #[.string (⟨m8.name.toArray⟩), u3_ m8.ty, u3_ m8.flags, u6_ m8.addr, u3_ m8.link, u3_ m8.info, u6_ m8.align, u6_ m8.ent, u6_ m8.size, .slice m8.A m8.data.length m8.c] 46 (0, 0)), (gl, .cells curl 46 (0, 0)), law_byType_B0 z1 x] (by kernel_rfl) ?_
      clear HF HM hz24; intro a w HF HM
      refine nil_then ?_
      refine wp_seq (wp_region_lit ?_)
      refine wp_pure HF HM rfl 3 [] [(1, u3_ kd), (2, pt_ z1), (5, i6_ k), (6, i6_ i), (7, pt_ z24), (17, sl_ gl (x.ps.length + 2) capl), (18, i6_ (x.ps.length + 2)), (19, i6_ i), (26, .bool (decide (((k : Nat) : Int) < 0)))] (by kernel_rfl) ?_
      clear HF; intro a HF
      rw [show decide (((k : Nat) : Int) < 0) = false from dec_f (by omega)] at HF
      refine wp_pure HF HM rfl 5 [] [(1, u3_ kd), (2, pt_ z1), (5, i6_ k), (6, i6_ i), (17, sl_ gl (x.ps.length + 2) capl), (18, i6_ (x.ps.length + 2)), (19, i6_ i), (31, .bool false)] (by kernel_rfl) ?_
      clear HF; intro a HF
      refine nil_then ?_
      refine wp_condF HF rfl ?_
      refine wp_skip ?_
      repeat (first | refine then_norm ?_ | refine inb_norm ?_)
      refine wp_region_lit ?_
      refine wp_pure HF HM rfl 1 [] ((law_byType_S3 kd z1 k gl x capl) ++ [(33, iI_ (IntKind.i64.wrap (((i : Nat) : Int) + 1)))]) (by kernel_rfl) ?_
      clear HF; intro a HF
      rw [show IntKind.i64.wrap (((i : Nat) : Int) + 1) = (((i + 1) : Nat) : Int) from (IntWalk.i64_in _ (by omega)).trans (by omega)] at HF
      refine wp_pure HF HM rfl 1 [] ((law_byType_S3 kd z1 k gl x capl) ++ [(19, i6_ (i + 1))]) (by kernel_rfl) ?_
      clear HF; intro a HF
      refine wpList_nil ?_
      repeat (first | refine then_norm ?_ | refine inb_norm ?_)
      exact KR _ _ (Or.inr <| ⟨k, by omega, hke, hkn, (HM.pick [1, 2] [(gl, .cells curl 46 (0, 0)), law_byType_B0 z1 x] rfl (by decide)), HF.sub ((law_byType_S3 kd z1 k gl x capl) ++ [(19, i6_ (i + 1))]) (by kernel_rfl)⟩)
  · intro a w KX hI
    rcases hI with hI | hI
    · obtain ⟨hno, HM, HF⟩ := hI
      refine wp_seq (wp_region_lit ?_)
      refine wp_pure HF HM rfl 1 [] ((law_byType_S1 kd z1 gl x capl) ++ [(18, i6_ (x.ps.length + 2)), (19, i6_ (x.ps.length + 2)), (20, .bool (decide ((((x.ps.length + 2) : Nat) : Int) < (((x.ps.length + 2) : Nat) : Int))))]) (by kernel_rfl) ?_
      clear HF; intro a HF
      refine nil_then ?_
      refine wp_seq ?_
      rw [show decide ((((x.ps.length + 2) : Nat) : Int) < (((x.ps.length + 2) : Nat) : Int)) = false from dec_f (by omega)] at HF
      refine wp_condF HF rfl ?_
      refine wp_exit ?_
      repeat (first | refine then_exit ?_ | refine inb_exit_other rfl ?_)
      refine inb_exit ?_
      repeat (first | refine then_norm ?_ | refine inb_norm ?_)
      refine wp_seq (wp_region_lit ?_)
      refine wp_pure HF HM rfl 1 [[0]] [(1, u3_ kd), (5, iI_ (-1)), law_byType_P4 x] (by kernel_rfl) ?_
      clear HF; intro a HF
      refine wp_call HF (by kernel_rfl) 25 #[.agg #[.bool x.wide, .bool x.big, u8_ x.abi, u8_ x.abiv, .int .i64 x.ty, .int .i64 x.machine, u6_ x.entry, .slice x.A x.ss.length x.c, .slice x.B x.ps.length x.d]] (by kernel_rfl) (fun w => by kernel_rfl) (Calls.mono (fileOf_any x w (h.below HM.below) ok) ?_)
      rintro _ w4 ⟨gf9, capf9, curf9, rfl, hb, hof9⟩
      replace HM : Mm [] w0 w4 [(gf9, .cells curf9 5 (0, 0)), (gl, .cells curl 46 (0, 0)), law_byType_B0 z1 x] := HM.push hb hof9.new hof9.obj
      clear hb
      refine ⟨_, rfl, ?_⟩; clear HF; intro a HF
      replace HF := HF.sub [(1, u3_ kd), (5, iI_ (-1)), (36, sl_ gf9 x.img.file.length capf9)] (by kernel_rfl)
      refine wp_pure HF HM rfl 1 [] [(5, iI_ (-1)), (36, sl_ gf9 x.img.file.length capf9), (37, u3_ kd)] (by kernel_rfl) ?_
      clear HF; intro a HF
      refine wp_call HF (by kernel_rfl) 41 #[sl_ gf9 x.img.file.length capf9, u3_ kd] (by kernel_rfl) (fun w => by kernel_rfl) (Calls.mono (by_type_none x.img.file _ _ _ rfl hof9.nc x.img.wide x.img.big x.img.abi x.img.abiv x.img.ty x.img.machine x.img.entry (hSize x.img.wide) x.img.segs.length x.img.shoff x.img.all.length (sgOf x.img) (scOf x.img) (nbOf x.img) (good_file iok) (by have hq := Img.Ok.length_le iok; omega) ((kd : Nat) : Int) (fun j hj => hno j (by rw [all_len] at hj; exact hj)) w4 (HM.rowOwn (i := 0) rfl hof9.tk)) ?_)
      rintro _ w5 ⟨rfl, hb⟩
      replace HM := HM.call hb
      clear hb
      refine ⟨_, rfl, ?_⟩; clear HF; intro a HF
      replace HF := HF.sub [(5, iI_ (-1)), (38, .tuple #[iI_ (-1), .bool true])] (by kernel_rfl)
      refine wp_pure HF HM rfl 5 [] [(5, iI_ (-1)), (8, iI_ (-1)), (9, .bool true)] (by kernel_rfl) ?_
      clear HF; intro a HF
      refine nil_then ?_
      refine wp_seq (wp_region_lit ?_)
      refine wp_pure HF HM rfl 7 [] [(4, .bool true)] (by kernel_rfl) ?_
      clear HF; intro a HF
      refine nil_then ?_
      refine wp_ret ?_
      repeat (first | refine then_ret ?_ | refine inb_ret ?_)
      exact ret_one HF rfl rfl ⟨rfl, HM.below⟩
    · obtain ⟨k, hki, hke, hkn, HM, HF⟩ := hI
      refine wp_seq (wp_region_lit ?_)
      refine wp_pure HF HM rfl 1 [] ((law_byType_S3 kd z1 k gl x capl) ++ [(19, i6_ (x.ps.length + 2)), (20, .bool (decide ((((x.ps.length + 2) : Nat) : Int) < (((x.ps.length + 2) : Nat) : Int))))]) (by kernel_rfl) ?_
      clear HF; intro a HF
      refine nil_then ?_
      refine wp_seq ?_
      rw [show decide ((((x.ps.length + 2) : Nat) : Int) < (((x.ps.length + 2) : Nat) : Int)) = false from dec_f (by omega)] at HF
      refine wp_condF HF rfl ?_
      refine wp_exit ?_
      repeat (first | refine then_exit ?_ | refine inb_exit_other rfl ?_)
      refine inb_exit ?_
      repeat (first | refine then_norm ?_ | refine inb_norm ?_)
      refine wp_seq (wp_region_lit ?_)
      refine wp_pure HF HM rfl 1 [[0]] [(1, u3_ kd), (5, i6_ k), law_byType_P4 x] (by kernel_rfl) ?_
      clear HF; intro a HF
      refine wp_call HF (by kernel_rfl) 25 #[.agg #[.bool x.wide, .bool x.big, u8_ x.abi, u8_ x.abiv, .int .i64 x.ty, .int .i64 x.machine, u6_ x.entry, .slice x.A x.ss.length x.c, .slice x.B x.ps.length x.d]] (by kernel_rfl) (fun w => by kernel_rfl) (Calls.mono (fileOf_any x w (h.below HM.below) ok) ?_)
      rintro _ w6 ⟨gf10, capf10, curf10, rfl, hb, hof10⟩
      replace HM : Mm [] w0 w6 [(gf10, .cells curf10 5 (0, 0)), (gl, .cells curl 46 (0, 0)), law_byType_B0 z1 x] := HM.push hb hof10.new hof10.obj
      clear hb
      refine ⟨_, rfl, ?_⟩; clear HF; intro a HF
      replace HF := HF.sub [(1, u3_ kd), (5, i6_ k), (36, sl_ gf10 x.img.file.length capf10)] (by kernel_rfl)
      refine wp_pure HF HM rfl 1 [] [(5, i6_ k), (36, sl_ gf10 x.img.file.length capf10), (37, u3_ kd)] (by kernel_rfl) ?_
      clear HF; intro a HF
      refine wp_call HF (by kernel_rfl) 41 #[sl_ gf10 x.img.file.length capf10, u3_ kd] (by kernel_rfl) (fun w => by kernel_rfl) (Calls.mono (by_type_some x.img.file _ _ _ rfl hof10.nc x.img.wide x.img.big x.img.abi x.img.abiv x.img.ty x.img.machine x.img.entry (hSize x.img.wide) x.img.segs.length x.img.shoff x.img.all.length (sgOf x.img) (scOf x.img) (nbOf x.img) (good_file iok) (by have hq := Img.Ok.length_le iok; omega) ((kd : Nat) : Int) k (by rw [all_len]; exact hki) hke hkn w6 (HM.rowOwn (i := 0) rfl hof10.tk)) ?_)
      rintro _ w7 ⟨rfl, hb⟩
      replace HM := HM.call hb
      clear hb
      refine ⟨_, rfl, ?_⟩; clear HF; intro a HF
      replace HF := HF.sub [(5, i6_ k), (38, .tuple #[i6_ k, .bool true])] (by kernel_rfl)
      refine wp_pure HF HM rfl 5 [] [(5, i6_ k), (8, i6_ k), (9, .bool true)] (by kernel_rfl) ?_
      clear HF; intro a HF
      refine nil_then ?_
      refine wp_seq (wp_region_lit ?_)
      refine wp_pure HF HM rfl 7 [] [(4, .bool (((k : Nat) : Int) == ((k : Nat) : Int)))] (by kernel_rfl) ?_
      clear HF; intro a HF
      refine nil_then ?_
      refine wp_ret ?_
      repeat (first | refine then_ret ?_ | refine inb_ret ?_)
      rw [show (((k : Nat) : Int) == ((k : Nat) : Int)) = true from beq_t (rfl)] at HF
      exact ret_one HF rfl rfl ⟨rfl, HM.below⟩

end Go.Proofs.YtdgehpocmfjbiaaDoor
namespace Go.Proofs.YtdgehpocmfjbiaaDoor.fnByType
open Go Go.ChangeShapes Go.WideShapes Go.ChangeAt Go.RowKit Go.Deep

theorem own : ownKnob Tryd.prog.godebug = none := by kernel_rfl
theorem laidOut : laidOutB Tryd.prog = true := by kernel_rfl
theorem door_met (os : Os) (args : Array Value) : laidMetH Tryd.prog Rows.fnByTypeRow.laid ((World.doorLaid Tryd.prog 123 os).forCall (fun _ _ => 0) ⟨#[], args, []⟩).memory :=
  laidMetH_of_parts3 (fuel := 8) (laidMet_of_run' 8 (by kernel_rfl) (by kernel_rfl)) (by kernel_rfl) (by kernel_rfl)

set_option maxRecDepth 100000 in
theorem lifted (os : Os) (started : os.Started) (H : Type) (enc : TypeId × Value → H) :
    ReturnsInHanded {} Tryd.checked os 15 .any (fun w args => (Rows.fnByTypeSpec.pre enc Tryd.prog Tryd.f15 [] false w args ∧ laidMetH Tryd.prog Rows.fnByTypeRow.laid w) ∧ sizedMet enc Tryd.prog Tryd.f15 (OpenSpec.ofChange Rows.fnByTypeSpec) false w args)
      (Rows.fnByTypeSpec.post enc Tryd.prog Tryd.f15 false true false false) := by
  refine returnsInHanded_of_change_and (C := Tryd.checked) (X := fun w _ => laidMetH Tryd.prog Rows.fnByTypeRow.laid w) (fun _ _ _ hh h => h.of_heap hh) own started (by kernel_rfl) Tryd.func15
    (ChangeSpec.witness_shaped (enc := enc) (C := Tryd.checked) (os := os) (X := fun w _ => laidMetH Tryd.prog Rows.fnByTypeRow.laid w) false (World.doorLaid Tryd.prog 123 os) #[.agg #[.bool false, .bool false, .int .u8 0, .int .u8 0, .int .i64 0, .int .i64 0, .int .u64 0, .slice none 0 0, .slice none 0 0], .int .u32 0] 8 rfl (World.shaped_of_RefB (by kernel_rfl) (by kernel_rfl)) (by kernel_rfl) (by kernel_rfl) (by kernel_rfl) (door_met os _)) ?_
  intro W base args ds gs before hval0 hW _ _ hL _
  have hval : ∀ (j : Nat) t v, Tryd.f15.params[j]? = some t → args[j]? = some v → Value.okWide Tryd.prog W .any base t v := hval0
  have hW' := hW
  obtain ⟨p, q, hA0, hV, rfl, hfz, hnd⟩ := hW
  have hA : DataW.TrodAll enc Tryd.prog W 0 (fun _ => true) true Tryd.f15.params.toList args.toList ds p := hA0
  rw [Tryd.params15] at hA hval
  obtain ⟨v0, vs0, d0, ds0, p0, q0, hargs, rfl, rfl, h0, r0⟩ := trodAll_cons hA
  obtain ⟨v1, vs1, d1, ds1, p1, q1, rfl, rfl, rfl, h1, r1⟩ := trodAll_cons r0
  obtain ⟨rfl, rfl, rfl⟩ := trodAll_nil r1
  obtain rfl : args = #[v0, v1] := by cases args; simp_all
  obtain ⟨rfl, rfl⟩ := trodVars_none hV
  have k0 := h0
  have lt0 : ∀ x ∈ p0, x.block < W.heap.size := by obtain ⟨m, hm⟩ := k0; exact DataW.trod_lt m _ _ _ hm
  have k1 := h1
  have lt1 : ∀ x ∈ p1, x.block < W.heap.size := by obtain ⟨m, hm⟩ := k1; exact DataW.trod_lt m _ _ _ hm
  obtain ⟨x0, rfl, hx0⟩ := open_img (hval 0 26 v0 rfl rfl) h0
  obtain ⟨a1, rfl, -, -, z1⟩ := open_int Tryd.underlying36 (hval 1 36 v1 rfl rfl) h1
  have q1 := bounds_u32 z1
  obtain ⟨m1, rfl⟩ := Int.eq_ofNat_of_zero_le q1.1
  clear hA0 hval0
  refine (law_byType x0 m1 W hx0 (by omega)).mono fun e W' ⟨he, bel⟩ => ?_
  subst he
  exact ⟨_, rfl, _, _, _, [], _, [], hW', trodAll_mk1 (shut_bool Tryd.underlying4 _), (trodAll_cons_mk (Below.trod laidOut (by kernel_rfl) (of_decide_eq_true (by kernel_rfl)) k0 bel lt0) (trodAll_cons_mk (Below.trod laidOut (by kernel_rfl) (of_decide_eq_true (by kernel_rfl)) k1 bel lt1) trodAll_mk0)), rfl, bel.frame _, fun h => by cases h⟩

set_option maxRecDepth 100000 in
theorem over_j : joinedFacts Tryd.pinned.checked.prog 15 Tryd.f15 Rows.fnByTypeSpec Rows.fnByTypeRow = true := (and_t (and_t (and_t (and_t (and_t (and_t (and_t (and_t (and_t (and_t (and_t (and_t (and_t (and_t (and_t (and_t (and_t (and_t (and_t (and_t (and_t (and_t (and_t (and_t (and_t (and_t (and_t (and_t (and_t (and_t (and_t l0 l1) l2) l3) l4) l5) l6) l7) l8) l9) l10) l11) l12) l13) l14) l15) l16) l17) l18) l19) l20) l21) l22) l23) l24) l25) l26) l27) l28) l29) l30) l31)

theorem over : Rows.FnByTypeSaid :=
  OpenClaim.holds_of_wide 15 Tryd.f15 rfl rfl rfl rfl rfl rfl rfl ⟨rfl, rfl, rfl, rfl, rfl⟩ rfl rfl rfl rfl rfl c5 Tryd.func15 over_j
    (of_decide_eq_true (by kernel_rfl)) (by unfold Func.isWrapper; first | (rw [if_pos (by decide +kernel)]; kernel_rfl) | (rw [if_neg (by decide +kernel)]; exact ⟨rfl, rfl⟩))
    (fun os started H enc _ => lifted os started H enc)

theorem proved : Rows.FnByTypeCardSaid :=
  Claim7.holds_tied_plain_at .later [] [.sentinel, .sentinel, .sentinel, .sentinel, .sentinel] true (true, "ed888367449acd6afd80057b2906ce1b79ec16b7beef13a0a9ac5f630eedede4") true
    over (fun _ h => by cases h) c1 (fun _ h => by cases h) fnByType_row_tie rfl ⟨rfl, rfl⟩ qc4 rfl
    (fun f fn hf hfn => by
      obtain rfl : f = 15 := Option.some.inj (c5.symm.trans hf) |>.symm
      obtain rfl : fn = Tryd.f15 := (Option.some.inj (Tryd.func15.symm.trans hfn)).symm
      exact ⟨qc2, fun j t ht => by
        rw [Tryd.params15] at ht
        have hm : t ∈ [26, 36] := by simpa using Array.mem_of_getElem? ht
        have hall : ([26, 36].all fun u => !Tryd.prog.wantsStandIn u) = true := by kernel_rfl
        exact (show Tryd.prog.wantsStandIn t = false by simpa using List.all_eq_true.1 hall t hm)⟩)
    c3
#print axioms proved
end Go.Proofs.YtdgehpocmfjbiaaDoor.fnByType
