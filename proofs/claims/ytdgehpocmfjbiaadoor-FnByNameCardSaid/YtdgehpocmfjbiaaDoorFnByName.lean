/- Proved: the section with a name is found, the first one, and none if there is none, at every argument. No condition. -/
import Derived.Test.YtdgehpocmfjbiaaDoorPf
import Derived.Test.YtdgehpocmfjbiaaDoorPi
import Derived.Test.YtdgehpocmfjbiaaDoorPh
import Derived.Test.YtdgehpocmfjbiaaDoorPg
import Derived.Test.YtdgehpocmfjbiaaDoorCards
import Derived.Test.YtdgehpocmfjbiaaDoorTie
import Derived.Test.YtdgehpocmfjbiaaDoorFnByNameJ
import Derived.Test.YtdgehpocmfjbiaaDoorFnByNameJC
import Derived.LaidMore
import Derived.LaidLaws
import Derived.Stop.Joined
import Derived.SevenTiedAt
import Derived.ProofKit
import Derived.OpenShut
import Derived.ShutString
import Derived.ChangeOld
import Derived.Below
set_option linter.unusedVariables false
set_option linter.unusedSimpArgs false
namespace Go.Proofs.YtdgehpocmfjbiaaDoor
open Go.RowKit

set_option maxRecDepth 100000 in
set_option maxHeartbeats 1000000 in
theorem find_name_end (fb sg_ m : Nat) (hm : m < 4611686018427387904) (tv : ByteArray) (cv : Nat → ByteArray) (cur : Array Value) (w0 : World) (hsg : w0.heap[sg_]? = some (.cells cur 133 (0, 0))) (hc : ∀ j, j < m → ∃ p cs, cur[j]? = some (pt_ p) ∧ w0.heap[p]? = some (.cells cs 153 (0, 0)) ∧ cs[0]? = some (.string (cv j))) (i : Nat) (hi : i = m) {KX : Act → World → Prop} {KK : Act → World → Prop} {QQ : Exit → Act → World → Prop} (KE : ∀ a, Fr 25 a [(0, pt_ fb), (1, .string tv), (10, sl_ sg_ m m), (11, i6_ m), (12, i6_ i)] → KK a w0) (a : Act) (HF : Fr 25 a [(0, pt_ fb), (1, .string tv), (10, sl_ sg_ m m), (11, i6_ m), (12, i6_ i)]) :
    (lpOf (spine Tryd.f70 1)).wp Tryd.prog (Exit.then KX (Exit.inBlock 0 (Exit.then KK QQ))) a w0 := by
  have HM : Mm [] w0 w0 [] := Mm.start w0
  obtain ⟨i0, his, hss⟩ := size_ss
  refine wp_seq (wp_region_lit ?_)
  refine wp_pure HF HM rfl 1 [] [(0, pt_ fb), (1, .string tv), (10, sl_ sg_ m m), (11, i6_ m), (12, i6_ i), (13, .bool (decide (((i : Nat) : Int) < ((m : Nat) : Int))))] (by kernel_rfl) ?_
  clear HF; intro a HF
  rw [show decide (((i : Nat) : Int) < ((m : Nat) : Int)) = false from dec_f (by omega)] at HF
  refine nil_then ?_
  refine wp_seq ?_
  refine wp_condF HF rfl ?_
  replace HF := HF.sub [(0, pt_ fb), (1, .string tv), (10, sl_ sg_ m m), (11, i6_ m), (12, i6_ i)] (by kernel_rfl)
  refine wp_exit ?_
  repeat (first | refine then_exit ?_ | refine inb_exit ?_ | refine then_norm ?_)
  exact KE a HF

abbrev find_name_miss_S0 := fun (fb : Nat) (tv : ByteArray) (sg_ : Nat) (m : Nat) (i : Nat) => ([(0, pt_ fb), (1, .string tv), (10, sl_ sg_ m m), (11, i6_ m), (12, i6_ i)] : Slots)
abbrev find_name_miss_S1 := fun (fb : Nat) (tv : ByteArray) (sg_ : Nat) (m : Nat) => ([(0, pt_ fb), (1, .string tv), (10, sl_ sg_ m m), (11, i6_ m)] : Slots)
set_option maxRecDepth 100000 in
set_option maxHeartbeats 1000000 in
theorem find_name_miss (fb sg_ m : Nat) (hm : m < 4611686018427387904) (tv : ByteArray) (cv : Nat → ByteArray) (cur : Array Value) (w0 : World) (hsg : w0.heap[sg_]? = some (.cells cur 133 (0, 0))) (hc : ∀ j, j < m → ∃ p cs, cur[j]? = some (pt_ p) ∧ w0.heap[p]? = some (.cells cs 153 (0, 0)) ∧ cs[0]? = some (.string (cv j))) (i : Nat) (hi : i < m) (p : Nat) (cs : Array Value) (hp : cur[i]? = some (pt_ p)) (hpc : w0.heap[p]? = some (.cells cs 153 (0, 0))) (hpv : cs[0]? = some (.string (cv i))) (he : ((cv i).toList == tv.toList) = false) {KX : Act → World → Prop} {KK : Act → World → Prop} {QQ : Exit → Act → World → Prop} (KR : ∀ a, Fr 25 a ((find_name_miss_S1 fb tv sg_ m) ++ [(12, i6_ (i + 1))]) → KX a w0) (a : Act) (HF : Fr 25 a (find_name_miss_S0 fb tv sg_ m i)) :
    (lpOf (spine Tryd.f70 1)).wp Tryd.prog (Exit.then KX (Exit.inBlock 0 (Exit.then KK QQ))) a w0 := by
  have HM : Mm [] w0 w0 [] := Mm.start w0
  obtain ⟨i0, his, hss⟩ := size_ss
  refine wp_seq (wp_region_lit ?_)
  refine wp_pure HF HM rfl 1 [] ((find_name_miss_S0 fb tv sg_ m i) ++ [(13, .bool (decide (((i : Nat) : Int) < ((m : Nat) : Int))))]) (by kernel_rfl) ?_
  clear HF; intro a HF
  rw [show decide (((i : Nat) : Int) < ((m : Nat) : Int)) = true from dec_t (by omega)] at HF
  refine nil_then ?_
  refine wp_seq ?_
  refine wp_condT HF rfl ?_
  refine wp_skip ?_
  repeat (first | refine then_norm ?_ | refine inb_norm ?_)
  replace HF := HF.sub (find_name_miss_S0 fb tv sg_ m i) (by kernel_rfl)
  refine wp_seq (wp_block ?_)
  refine wp_seq (wp_region_lit ?_)
  refine wp_run HF (by kernel_rfl) (.pointer (some ⟨sg_, i, none⟩)) (by kernel_rfl) (run_index (t := 126) Tryd.underlying126 his hss rfl i rfl rfl (by omega)) ?_
  clear HF; intro a HF; replace HF := HF.sub ((find_name_miss_S0 fb tv sg_ m i) ++ [(14, .pointer (some ⟨sg_, i, none⟩))]) (by kernel_rfl)
  refine wp_run HF (by kernel_rfl) (pt_ p) (by kernel_rfl) (run_load_one rfl rfl (by kernel_rfl) ((cell_of_row w0 sg_ i _ _ _ hsg).trans hp)) ?_
  clear HF; intro a HF; replace HF := HF.sub ((find_name_miss_S0 fb tv sg_ m i) ++ [(14, .pointer (some ⟨sg_, i, none⟩)), (15, pt_ p)]) (by kernel_rfl)
  refine wp_pure HF HM rfl 1 [] ((find_name_miss_S0 fb tv sg_ m i) ++ [(6, pt_ p)]) (by kernel_rfl) ?_
  clear HF; intro a HF
  refine nil_then ?_
  refine wp_seq (wp_region_lit ?_)
  refine wp_pure HF HM rfl 4 [] ((find_name_miss_S0 fb tv sg_ m i) ++ [(6, pt_ p), (19, pt_ p)]) (by kernel_rfl) ?_
  clear HF; intro a HF
  refine wp_run HF (by kernel_rfl) (.string (cv i)) (by kernel_rfl) (run_load_one rfl rfl (by kernel_rfl) ((cell_of_row w0 p 0 _ _ _ hpc).trans hpv)) ?_
  clear HF; intro a HF; replace HF := HF.sub ((find_name_miss_S0 fb tv sg_ m i) ++ [(6, pt_ p), (19, pt_ p), (20, .string (cv i))]) (by kernel_rfl)
  refine wp_pure HF HM rfl 2 [] [(0, pt_ fb), (1, .string tv), (10, sl_ sg_ m m), (11, i6_ m), (12, i6_ i), (6, pt_ p), (22, .bool ((cv i).toList == tv.toList))] (by kernel_rfl) ?_
  clear HF; intro a HF
  rw [he] at HF
  refine nil_then ?_
  refine wp_condF HF rfl ?_
  replace HF := HF.sub ((find_name_miss_S0 fb tv sg_ m i) ++ [(6, pt_ p)]) (by kernel_rfl)
  refine wp_skip ?_
  repeat (first | refine then_norm ?_ | refine inb_norm ?_)
  replace HF := HF.sub (find_name_miss_S0 fb tv sg_ m i) (by kernel_rfl)
  refine wp_region_lit ?_
  refine wp_pure HF HM rfl 1 [] ((find_name_miss_S0 fb tv sg_ m i) ++ [(24, iI_ (IntKind.i64.wrap (((i : Nat) : Int) + 1)))]) (by kernel_rfl) ?_
  clear HF; intro a HF
  rw [show IntKind.i64.wrap (((i : Nat) : Int) + 1) = (((i + 1) : Nat) : Int) from (IntWalk.i64_in _ (by omega)).trans (by omega)] at HF
  refine wp_pure HF HM rfl 1 [] ((find_name_miss_S1 fb tv sg_ m) ++ [(12, i6_ (i + 1))]) (by kernel_rfl) ?_
  clear HF; intro a HF
  refine wpList_nil ?_
  repeat (first | refine then_norm ?_ | refine inb_norm ?_)
  exact KR a HF

set_option maxRecDepth 100000 in
set_option maxHeartbeats 1000000 in
theorem find_name_hit (fb sg_ m : Nat) (hm : m < 4611686018427387904) (tv : ByteArray) (cv : Nat → ByteArray) (cur : Array Value) (w0 : World) (hsg : w0.heap[sg_]? = some (.cells cur 133 (0, 0))) (hc : ∀ j, j < m → ∃ p cs, cur[j]? = some (pt_ p) ∧ w0.heap[p]? = some (.cells cs 153 (0, 0)) ∧ cs[0]? = some (.string (cv j))) (i : Nat) (hi : i < m) (p : Nat) (cs : Array Value) (hp : cur[i]? = some (pt_ p)) (hpc : w0.heap[p]? = some (.cells cs 153 (0, 0))) (hpv : cs[0]? = some (.string (cv i))) (he : ((cv i).toList == tv.toList) = true) {KX : Act → World → Prop} {KK : Act → World → Prop} {QQ : Exit → Act → World → Prop} (KH : ∀ a, Fr 25 a [(0, pt_ fb), (1, .string tv), (10, sl_ sg_ m m), (11, i6_ m), (12, i6_ i), (4, pt_ p)] → QQ .ret a w0) (a : Act) (HF : Fr 25 a [(0, pt_ fb), (1, .string tv), (10, sl_ sg_ m m), (11, i6_ m), (12, i6_ i)]) :
    (lpOf (spine Tryd.f70 1)).wp Tryd.prog (Exit.then KX (Exit.inBlock 0 (Exit.then KK QQ))) a w0 := by
  have HM : Mm [] w0 w0 [] := Mm.start w0
  obtain ⟨i0, his, hss⟩ := size_ss
  refine wp_seq (wp_region_lit ?_)
  refine wp_pure HF HM rfl 1 [] [(0, pt_ fb), (1, .string tv), (10, sl_ sg_ m m), (11, i6_ m), (12, i6_ i), (13, .bool (decide (((i : Nat) : Int) < ((m : Nat) : Int))))] (by kernel_rfl) ?_
  clear HF; intro a HF
  rw [show decide (((i : Nat) : Int) < ((m : Nat) : Int)) = true from dec_t (by omega)] at HF
  refine nil_then ?_
  refine wp_seq ?_
  refine wp_condT HF rfl ?_
  refine wp_skip ?_
  repeat (first | refine then_norm ?_ | refine inb_norm ?_)
  replace HF := HF.sub [(0, pt_ fb), (1, .string tv), (10, sl_ sg_ m m), (11, i6_ m), (12, i6_ i)] (by kernel_rfl)
  refine wp_seq (wp_block ?_)
  refine wp_seq (wp_region_lit ?_)
  refine wp_run HF (by kernel_rfl) (.pointer (some ⟨sg_, i, none⟩)) (by kernel_rfl) (run_index (t := 126) Tryd.underlying126 his hss rfl i rfl rfl (by omega)) ?_
  clear HF; intro a HF; replace HF := HF.sub [(0, pt_ fb), (1, .string tv), (10, sl_ sg_ m m), (11, i6_ m), (12, i6_ i), (14, .pointer (some ⟨sg_, i, none⟩))] (by kernel_rfl)
  refine wp_run HF (by kernel_rfl) (pt_ p) (by kernel_rfl) (run_load_one rfl rfl (by kernel_rfl) ((cell_of_row w0 sg_ i _ _ _ hsg).trans hp)) ?_
  clear HF; intro a HF; replace HF := HF.sub [(0, pt_ fb), (1, .string tv), (10, sl_ sg_ m m), (11, i6_ m), (12, i6_ i), (14, .pointer (some ⟨sg_, i, none⟩)), (15, pt_ p)] (by kernel_rfl)
  refine wp_pure HF HM rfl 1 [] [(0, pt_ fb), (1, .string tv), (10, sl_ sg_ m m), (11, i6_ m), (12, i6_ i), (6, pt_ p)] (by kernel_rfl) ?_
  clear HF; intro a HF
  refine nil_then ?_
  refine wp_seq (wp_region_lit ?_)
  refine wp_pure HF HM rfl 4 [] [(0, pt_ fb), (1, .string tv), (10, sl_ sg_ m m), (11, i6_ m), (12, i6_ i), (6, pt_ p), (19, pt_ p)] (by kernel_rfl) ?_
  clear HF; intro a HF
  refine wp_run HF (by kernel_rfl) (.string (cv i)) (by kernel_rfl) (run_load_one rfl rfl (by kernel_rfl) ((cell_of_row w0 p 0 _ _ _ hpc).trans hpv)) ?_
  clear HF; intro a HF; replace HF := HF.sub [(0, pt_ fb), (1, .string tv), (10, sl_ sg_ m m), (11, i6_ m), (12, i6_ i), (6, pt_ p), (19, pt_ p), (20, .string (cv i))] (by kernel_rfl)
  refine wp_pure HF HM rfl 2 [] [(0, pt_ fb), (1, .string tv), (10, sl_ sg_ m m), (11, i6_ m), (12, i6_ i), (6, pt_ p), (22, .bool ((cv i).toList == tv.toList))] (by kernel_rfl) ?_
  clear HF; intro a HF
  rw [he] at HF
  refine nil_then ?_
  refine wp_condT HF rfl ?_
  replace HF := HF.sub [(0, pt_ fb), (1, .string tv), (10, sl_ sg_ m m), (11, i6_ m), (12, i6_ i), (6, pt_ p)] (by kernel_rfl)
  refine wp_seq (wp_region_lit ?_)
  refine wp_pure HF HM rfl 2 [] [(0, pt_ fb), (1, .string tv), (10, sl_ sg_ m m), (11, i6_ m), (12, i6_ i), (4, pt_ p)] (by kernel_rfl) ?_
  clear HF; intro a HF
  refine nil_then ?_
  refine wp_ret ?_
  repeat (first | refine then_ret ?_ | refine inb_ret ?_)
  exact KH a HF
theorem find_name_nones (fb sg_ m : Nat) (hm : m < 4611686018427387904) (tv : ByteArray) (cv : Nat → ByteArray) (cur : Array Value) (w0 : World) (hsg : w0.heap[sg_]? = some (.cells cur 133 (0, 0))) (hc : ∀ j, j < m → ∃ p cs, cur[j]? = some (pt_ p) ∧ w0.heap[p]? = some (.cells cs 153 (0, 0)) ∧ cs[0]? = some (.string (cv j))) (hno : ∀ j, j < m → ((cv j).toList == tv.toList) = false) {KK : Act → World → Prop} {QQ : Exit → Act → World → Prop} (KE : ∀ a, Fr 25 a [(0, pt_ fb), (1, .string tv), (10, sl_ sg_ m m), (11, i6_ m), (12, i6_ m)] → KK a w0) : ∀ (r i : Nat), i + r = m → ∀ a, Fr 25 a [(0, pt_ fb), (1, .string tv), (10, sl_ sg_ m m), (11, i6_ m), (12, i6_ i)] → Code.rounds Tryd.prog (lpOf (spine Tryd.f70 1)) (Exit.inBlock 0 (Exit.then KK QQ)) (r + 1) a w0
  | 0, i, hr, a, HF => by
    rw [rounds_succ]
    obtain rfl : i = m := by omega
    exact find_name_end fb sg_ i hm tv cv cur w0 hsg hc i rfl KE a HF
  | r + 1, i, hr, a, HF => by
    rw [rounds_succ]
    obtain ⟨p, cs, h1, h2, h3⟩ := hc i (by omega)
    exact find_name_miss fb sg_ m hm tv cv cur w0 hsg hc i (by omega) p cs h1 h2 h3 (hno i (by omega)) (fun a HF => find_name_nones fb sg_ m hm tv cv cur w0 hsg hc hno KE r (i + 1) (by omega) a HF) a HF
theorem find_name_hits (fb sg_ m : Nat) (hm : m < 4611686018427387904) (tv : ByteArray) (cv : Nat → ByteArray) (cur : Array Value) (w0 : World) (hsg : w0.heap[sg_]? = some (.cells cur 133 (0, 0))) (hc : ∀ j, j < m → ∃ p cs, cur[j]? = some (pt_ p) ∧ w0.heap[p]? = some (.cells cs 153 (0, 0)) ∧ cs[0]? = some (.string (cv j))) (k q : Nat) (hk : k < m) (hq : cur[k]? = some (pt_ q)) (he : ((cv k).toList == tv.toList) = true) (hno : ∀ j, j < k → ((cv j).toList == tv.toList) = false) {KK : Act → World → Prop} {QQ : Exit → Act → World → Prop} (KH : ∀ a, Fr 25 a [(0, pt_ fb), (1, .string tv), (10, sl_ sg_ m m), (11, i6_ m), (12, i6_ k), (4, pt_ q)] → QQ .ret a w0) : ∀ (r i : Nat), i + r = k → ∀ a, Fr 25 a [(0, pt_ fb), (1, .string tv), (10, sl_ sg_ m m), (11, i6_ m), (12, i6_ i)] → Code.rounds Tryd.prog (lpOf (spine Tryd.f70 1)) (Exit.inBlock 0 (Exit.then KK QQ)) (r + 1) a w0
  | 0, i, hr, a, HF => by
    rw [rounds_succ]
    obtain rfl : i = k := by omega
    obtain ⟨p, cs, h1, h2, h3⟩ := hc i hk
    have e : p = q := by rw [hq] at h1; injection h1 with h1; injection h1 with h1; injection h1 with h1; injection h1 with h1; exact h1.symm
    subst e
    exact find_name_hit fb sg_ m hm tv cv cur w0 hsg hc i hk p cs h1 h2 h3 he KH a HF
  | r + 1, i, hr, a, HF => by
    rw [rounds_succ]
    obtain ⟨p, cs, h1, h2, h3⟩ := hc i (by omega)
    exact find_name_miss fb sg_ m hm tv cv cur w0 hsg hc i (by omega) p cs h1 h2 h3 (hno i (by omega)) (fun a HF => find_name_hits fb sg_ m hm tv cv cur w0 hsg hc k q hk hq he hno KH r (i + 1) (by omega) a HF) a HF

set_option maxRecDepth 100000 in
set_option maxHeartbeats 1000000 in
theorem find_name_none (fb sg_ m : Nat) (hm : m < 4611686018427387904) (tv : ByteArray) (cv : Nat → ByteArray) (cur : Array Value) (w0 : World) (hsg : w0.heap[sg_]? = some (.cells cur 133 (0, 0))) (hc : ∀ j, j < m → ∃ p cs, cur[j]? = some (pt_ p) ∧ w0.heap[p]? = some (.cells cs 153 (0, 0)) ∧ cs[0]? = some (.string (cv j))) (hfile : w0.cell? ⟨fb, 9, none⟩ = some (sl_ sg_ m m)) (hno : ∀ j, j < m → ((cv j).toList == tv.toList) = false) : Calls Tryd.prog 70 #[pt_ fb, .string tv] w0 fun e w' => e = .returned (.pointer none) ∧ w' = w0 := by
  have HM : Mm [] w0 w0 [] := Mm.start w0
  refine calls_start Tryd.func70 rfl Tryd.ntmps70 [(0, pt_ fb), (1, .string tv)] (by kernel_rfl) (Nat.le_of_ble_eq_true rfl) ?_
  intro a HF
  refine reg_pure HF HM rfl [] [(0, pt_ fb), (1, .string tv), (4, .pointer none)] (by kernel_rfl) ?_
  clear HF; intro a HF
  replace HF := HF.sub [(0, pt_ fb), (1, .string tv)] (by kernel_rfl)
  refine wp_seq (wp_seq (wp_region_lit ?_))
  refine wp_pure HF HM rfl 3 [] [(0, pt_ fb), (1, .string tv), (9, .pointer (some ⟨fb, 9, none⟩))] (by kernel_rfl) ?_
  clear HF; intro a HF
  refine wp_run HF (by kernel_rfl) (sl_ sg_ m m) (by kernel_rfl) (run_load_one rfl rfl (by kernel_rfl) hfile) ?_
  clear HF; intro a HF; replace HF := HF.sub [(0, pt_ fb), (1, .string tv), (9, .pointer (some ⟨fb, 9, none⟩)), (10, sl_ sg_ m m)] (by kernel_rfl)
  refine wp_pure HF HM rfl 2 [] [(0, pt_ fb), (1, .string tv), (10, sl_ sg_ m m), (11, i6_ m), (12, i6_ 0)] (by kernel_rfl) ?_
  clear HF; intro a HF
  refine nil_then ?_
  refine wp_block (wp_loop_rounds (m + 1) ?_)
  refine find_name_nones fb sg_ m hm tv cv cur w0 hsg hc hno (fun a HF => ?_) m 0 (by omega) a HF
  refine wp_seq (wp_region_lit ?_)
  replace HF := HF.sub [(0, pt_ fb)] (by kernel_rfl)
  refine wp_pure HF HM rfl 1 [] [(0, pt_ fb), (4, .pointer none)] (by kernel_rfl) ?_
  clear HF; intro a HF
  refine nil_then ?_
  refine wp_ret ?_
  exact ret_one HF rfl rfl ⟨rfl, rfl⟩

set_option maxRecDepth 100000 in
set_option maxHeartbeats 1000000 in
theorem find_name_some (fb sg_ m : Nat) (hm : m < 4611686018427387904) (tv : ByteArray) (cv : Nat → ByteArray) (cur : Array Value) (w0 : World) (hsg : w0.heap[sg_]? = some (.cells cur 133 (0, 0))) (hc : ∀ j, j < m → ∃ p cs, cur[j]? = some (pt_ p) ∧ w0.heap[p]? = some (.cells cs 153 (0, 0)) ∧ cs[0]? = some (.string (cv j))) (hfile : w0.cell? ⟨fb, 9, none⟩ = some (sl_ sg_ m m)) (k q : Nat) (hk : k < m) (hq : cur[k]? = some (pt_ q)) (he : ((cv k).toList == tv.toList) = true) (hno : ∀ j, j < k → ((cv j).toList == tv.toList) = false) : Calls Tryd.prog 70 #[pt_ fb, .string tv] w0 fun e w' => e = .returned (pt_ q) ∧ w' = w0 := by
  have HM : Mm [] w0 w0 [] := Mm.start w0
  refine calls_start Tryd.func70 rfl Tryd.ntmps70 [(0, pt_ fb), (1, .string tv)] (by kernel_rfl) (Nat.le_of_ble_eq_true rfl) ?_
  intro a HF
  refine reg_pure HF HM rfl [] [(0, pt_ fb), (1, .string tv), (4, .pointer none)] (by kernel_rfl) ?_
  clear HF; intro a HF
  replace HF := HF.sub [(0, pt_ fb), (1, .string tv)] (by kernel_rfl)
  refine wp_seq (wp_seq (wp_region_lit ?_))
  refine wp_pure HF HM rfl 3 [] [(0, pt_ fb), (1, .string tv), (9, .pointer (some ⟨fb, 9, none⟩))] (by kernel_rfl) ?_
  clear HF; intro a HF
  refine wp_run HF (by kernel_rfl) (sl_ sg_ m m) (by kernel_rfl) (run_load_one rfl rfl (by kernel_rfl) hfile) ?_
  clear HF; intro a HF; replace HF := HF.sub [(0, pt_ fb), (1, .string tv), (9, .pointer (some ⟨fb, 9, none⟩)), (10, sl_ sg_ m m)] (by kernel_rfl)
  refine wp_pure HF HM rfl 2 [] [(0, pt_ fb), (1, .string tv), (10, sl_ sg_ m m), (11, i6_ m), (12, i6_ 0)] (by kernel_rfl) ?_
  clear HF; intro a HF
  refine nil_then ?_
  refine wp_block (wp_loop_rounds (k + 1) ?_)
  refine find_name_hits fb sg_ m hm tv cv cur w0 hsg hc k q hk hq he hno (fun a HF => ?_) k 0 (by omega) a HF
  exact ret_one HF rfl rfl ⟨rfl, rfl⟩

end Go.Proofs.YtdgehpocmfjbiaaDoor
namespace Go.Proofs.YtdgehpocmfjbiaaDoor
open Go.RowKit

abbrev by_name_some_S0 := fun (A : Option Addr) (n : Nat) (c : Nat) (tv : ByteArray) => ([(0, .slice A n c), (1, .string tv), (4, iI_ 0), (5, .bool false)] : Slots)
set_option maxRecDepth 100000 in
set_option maxHeartbeats 1000000 in
theorem by_name_some (l : List UInt8) (A : Option Addr) (n c : Nat) (hl : n = l.length) (hnc : n ≤ c) (wide big : Bool) (abi abiv tyN machN entryN phoffN phnumN shoffN shnumN : Nat) (sg : Nat → SegV) (sc : Nat → SecV) (nb : Nat → List UInt8) (H : GoodFile l n wide big abi abiv tyN machN entryN phoffN phnumN shoffN shnumN sg sc nb) (h47 : n ≤ 140737488355328) (tv : ByteArray) (k : Nat) (hk : k < shnumN) (he : ((⟨(nb k).toArray⟩ : ByteArray).toList == tv.toList) = true) (hno : ∀ j, j < k → ((⟨(nb j).toArray⟩ : ByteArray).toList == tv.toList) = false) (w0 : World) (hr : Row w0 A (l.map Bv)) :
    Calls Tryd.prog 40 #[.slice A n c, .string tv] w0 fun e w' => e = .returned (.tuple #[i6_ k, .bool true]) ∧ Below w0.heap.size w0 w' := by
  obtain ⟨w, hw⟩ : ∃ w, w0 = w := ⟨_, rfl⟩
  have HM : Mm [] w0 w [] := hw ▸ Mm.start w0
  conv => arg 4; rw [hw]
  clear hw
  refine calls_start Tryd.func40 rfl Tryd.ntmps40 [(0, .slice A n c), (1, .string tv)] (by kernel_rfl) (Nat.le_of_ble_eq_true rfl) ?_
  intro a HF
  refine reg_sym HF HM rfl [] (by_name_some_S0 A n c tv) [] (by kernel_rfl) ?_
  clear HF HM; intro a w HF HM
  refine wp_seq (wp_region_lit ?_)
  refine wp_sym HF HM rfl 1 [] ((by_name_some_S0 A n c tv) ++ [(9, .slice A n c)]) [] (by kernel_rfl) ?_
  clear HF HM; intro a w HF HM
  refine wp_call HF (by kernel_rfl) 55 #[.slice A n c] (by kernel_rfl) (fun w => by kernel_rfl) (Calls.mono (open_any l A n c hl hnc wide big abi abiv tyN machN entryN phoffN phnumN shoffN shnumN sg sc nb H h47 w (HM.row hr)) ?_)
  rintro _ w1 ⟨g, cap, z, fb, pg, sg_, cur, scur, rfl, hb, hnc2, hcap, hg0, hz0, hrow, hFile⟩
  replace HM := HM.call hb
  refine ⟨_, rfl, ?_⟩; clear HF; intro a HF; replace HF := HF.sub ((by_name_some_S0 A n c tv) ++ [(9, .slice A n c), (10, .tuple #[pt_ fb, .bool true])]) (by kernel_rfl)
  refine wp_pure HF HM rfl 5 [] ((by_name_some_S0 A n c tv) ++ [(6, pt_ fb), (7, .bool true)]) (by kernel_rfl) ?_
  clear HF; intro a HF
  refine nil_then ?_
  refine wp_seq ?_
  refine wp_seq (wp_region_lit ?_)
  refine wp_pure HF HM rfl 2 [] ((by_name_some_S0 A n c tv) ++ [(6, pt_ fb), (7, .bool true), (14, .bool false)]) (by kernel_rfl) ?_
  clear HF; intro a HF
  refine nil_then ?_
  refine wp_condF HF rfl ?_
  refine wp_skip ?_
  repeat (first | refine then_norm ?_ | refine inb_norm ?_)
  replace HF := HF.sub ((by_name_some_S0 A n c tv) ++ [(6, pt_ fb)]) (by kernel_rfl)
  have hm := H.b7
  have hcell : w1.cell? ⟨fb, 9, none⟩ = some (sl_ sg_ shnumN shnumN) := by rw [cell_of_row w1 fb 9 _ _ _ hFile.file]; rfl
  have hcf : ∀ j, j < shnumN → ∃ p cs, scur[j]? = some (pt_ p) ∧ w1.heap[p]? = some (.cells cs 153 (0, 0)) ∧ cs[0]? = some (.string ⟨(nb j).toArray⟩) := fun j hj => by obtain ⟨p, _, g1, _, _, g4, _⟩ := hFile.sec j hj; exact ⟨p, _, g1, g4, rfl⟩
  have hcn : ∀ j, j < shnumN → ∃ p cs t, scur[j]? = some (pt_ p) ∧ w1.heap[p]? = some (.cells cs t (0, 0)) := fun j hj => by obtain ⟨p, cs, g1, g2, _⟩ := hcf j hj; exact ⟨p, cs, _, g1, g2⟩
  obtain ⟨q, _, hq, _, _⟩ := hcf k hk
  refine wp_seq (wp_region_lit ?_)
  refine wp_pure HF HM rfl 3 [] ((by_name_some_S0 A n c tv) ++ [(6, pt_ fb), (15, pt_ fb), (16, pt_ fb), (17, .string tv)]) (by kernel_rfl) ?_
  clear HF; intro a HF
  refine wp_call HF (by kernel_rfl) 70 #[pt_ fb, .string tv] (by kernel_rfl) (fun w => by kernel_rfl) (Calls.mono (find_name_some fb sg_ shnumN (by omega) tv (fun j => ⟨(nb j).toArray⟩) scur w1 hFile.secs hcf hcell k q hk hq he hno) ?_)
  rintro _ w2 ⟨rfl, hq2⟩
  obtain rfl : w1 = w2 := hq2.symm
  refine ⟨_, rfl, ?_⟩; clear HF; intro a HF; replace HF := HF.sub ((by_name_some_S0 A n c tv) ++ [(6, pt_ fb), (15, pt_ fb), (16, pt_ fb), (17, .string tv), (18, pt_ q)]) (by kernel_rfl)
  refine wp_call HF (by kernel_rfl) 69 #[pt_ fb, pt_ q] (by kernel_rfl) (fun w => by kernel_rfl) (Calls.mono (number_of fb sg_ shnumN (by omega) scur w1 hFile.secs hcn hcell k q hk hq (fun j hj => hFile.ne j k hj hk)) ?_)
  rintro _ w3 ⟨rfl, hq3⟩
  obtain rfl : w1 = w3 := hq3.symm
  refine ⟨_, rfl, ?_⟩; clear HF; intro a HF; replace HF := HF.sub ((by_name_some_S0 A n c tv) ++ [(6, pt_ fb), (15, pt_ fb), (16, pt_ fb), (17, .string tv), (18, pt_ q), (19, i6_ k)]) (by kernel_rfl)
  refine wp_pure HF HM rfl 2 [] [(0, .slice A n c), (1, .string tv), (6, pt_ fb), (4, i6_ k), (5, .bool true)] (by kernel_rfl) ?_
  clear HF; intro a HF
  refine nil_then ?_
  refine wp_ret ?_
  exact ret_two HF rfl rfl rfl ⟨rfl, HM.below⟩

abbrev by_name_none_S0 := fun (A : Option Addr) (n : Nat) (c : Nat) (tv : ByteArray) => ([(0, .slice A n c), (1, .string tv), (4, iI_ 0), (5, .bool false)] : Slots)
set_option maxRecDepth 100000 in
set_option maxHeartbeats 1000000 in
theorem by_name_none (l : List UInt8) (A : Option Addr) (n c : Nat) (hl : n = l.length) (hnc : n ≤ c) (wide big : Bool) (abi abiv tyN machN entryN phoffN phnumN shoffN shnumN : Nat) (sg : Nat → SegV) (sc : Nat → SecV) (nb : Nat → List UInt8) (H : GoodFile l n wide big abi abiv tyN machN entryN phoffN phnumN shoffN shnumN sg sc nb) (h47 : n ≤ 140737488355328) (tv : ByteArray) (hno : ∀ j, j < shnumN → ((⟨(nb j).toArray⟩ : ByteArray).toList == tv.toList) = false) (w0 : World) (hr : Row w0 A (l.map Bv)) :
    Calls Tryd.prog 40 #[.slice A n c, .string tv] w0 fun e w' => e = .returned (.tuple #[iI_ (-1), .bool true]) ∧ Below w0.heap.size w0 w' := by
  obtain ⟨w, hw⟩ : ∃ w, w0 = w := ⟨_, rfl⟩
  have HM : Mm [] w0 w [] := hw ▸ Mm.start w0
  conv => arg 4; rw [hw]
  clear hw
  refine calls_start Tryd.func40 rfl Tryd.ntmps40 [(0, .slice A n c), (1, .string tv)] (by kernel_rfl) (Nat.le_of_ble_eq_true rfl) ?_
  intro a HF
  refine reg_sym HF HM rfl [] (by_name_none_S0 A n c tv) [] (by kernel_rfl) ?_
  clear HF HM; intro a w HF HM
  refine wp_seq (wp_region_lit ?_)
  refine wp_sym HF HM rfl 1 [] ((by_name_none_S0 A n c tv) ++ [(9, .slice A n c)]) [] (by kernel_rfl) ?_
  clear HF HM; intro a w HF HM
  refine wp_call HF (by kernel_rfl) 55 #[.slice A n c] (by kernel_rfl) (fun w => by kernel_rfl) (Calls.mono (open_any l A n c hl hnc wide big abi abiv tyN machN entryN phoffN phnumN shoffN shnumN sg sc nb H h47 w (HM.row hr)) ?_)
  rintro _ w1 ⟨g, cap, z, fb, pg, sg_, cur, scur, rfl, hb, hnc2, hcap, hg0, hz0, hrow, hFile⟩
  replace HM := HM.call hb
  refine ⟨_, rfl, ?_⟩; clear HF; intro a HF; replace HF := HF.sub ((by_name_none_S0 A n c tv) ++ [(9, .slice A n c), (10, .tuple #[pt_ fb, .bool true])]) (by kernel_rfl)
  refine wp_pure HF HM rfl 5 [] ((by_name_none_S0 A n c tv) ++ [(6, pt_ fb), (7, .bool true)]) (by kernel_rfl) ?_
  clear HF; intro a HF
  refine nil_then ?_
  refine wp_seq ?_
  refine wp_seq (wp_region_lit ?_)
  refine wp_pure HF HM rfl 2 [] ((by_name_none_S0 A n c tv) ++ [(6, pt_ fb), (7, .bool true), (14, .bool false)]) (by kernel_rfl) ?_
  clear HF; intro a HF
  refine nil_then ?_
  refine wp_condF HF rfl ?_
  refine wp_skip ?_
  repeat (first | refine then_norm ?_ | refine inb_norm ?_)
  replace HF := HF.sub ((by_name_none_S0 A n c tv) ++ [(6, pt_ fb)]) (by kernel_rfl)
  have hm := H.b7
  have hcell : w1.cell? ⟨fb, 9, none⟩ = some (sl_ sg_ shnumN shnumN) := by rw [cell_of_row w1 fb 9 _ _ _ hFile.file]; rfl
  have hcf : ∀ j, j < shnumN → ∃ p cs, scur[j]? = some (pt_ p) ∧ w1.heap[p]? = some (.cells cs 153 (0, 0)) ∧ cs[0]? = some (.string ⟨(nb j).toArray⟩) := fun j hj => by obtain ⟨p, _, g1, _, _, g4, _⟩ := hFile.sec j hj; exact ⟨p, _, g1, g4, rfl⟩
  have hcn : ∀ j, j < shnumN → ∃ p cs t, scur[j]? = some (pt_ p) ∧ w1.heap[p]? = some (.cells cs t (0, 0)) := fun j hj => by obtain ⟨p, cs, g1, g2, _⟩ := hcf j hj; exact ⟨p, cs, _, g1, g2⟩
  refine wp_seq (wp_region_lit ?_)
  refine wp_pure HF HM rfl 3 [] ((by_name_none_S0 A n c tv) ++ [(6, pt_ fb), (15, pt_ fb), (16, pt_ fb), (17, .string tv)]) (by kernel_rfl) ?_
  clear HF; intro a HF
  refine wp_call HF (by kernel_rfl) 70 #[pt_ fb, .string tv] (by kernel_rfl) (fun w => by kernel_rfl) (Calls.mono (find_name_none fb sg_ shnumN (by omega) tv (fun j => ⟨(nb j).toArray⟩) scur w1 hFile.secs hcf hcell hno) ?_)
  rintro _ w2 ⟨rfl, hq2⟩
  obtain rfl : w1 = w2 := hq2.symm
  refine ⟨_, rfl, ?_⟩; clear HF; intro a HF; replace HF := HF.sub ((by_name_none_S0 A n c tv) ++ [(6, pt_ fb), (15, pt_ fb), (16, pt_ fb), (17, .string tv), (18, .pointer none)]) (by kernel_rfl)
  refine wp_call HF (by kernel_rfl) 69 #[pt_ fb, .pointer none] (by kernel_rfl) (fun w => by kernel_rfl) (Calls.mono (number_none fb sg_ shnumN (by omega) scur w1 hFile.secs hcn hcell) ?_)
  rintro _ w3 ⟨rfl, hq3⟩
  obtain rfl : w1 = w3 := hq3.symm
  refine ⟨_, rfl, ?_⟩; clear HF; intro a HF; replace HF := HF.sub ((by_name_none_S0 A n c tv) ++ [(6, pt_ fb), (15, pt_ fb), (16, pt_ fb), (17, .string tv), (18, .pointer none), (19, iI_ (-1))]) (by kernel_rfl)
  refine wp_pure HF HM rfl 2 [] [(0, .slice A n c), (1, .string tv), (6, pt_ fb), (4, iI_ (-1)), (5, .bool true)] (by kernel_rfl) ?_
  clear HF; intro a HF
  refine nil_then ?_
  refine wp_ret ?_
  exact ret_two HF rfl rfl rfl ⟨rfl, HM.below⟩

end Go.Proofs.YtdgehpocmfjbiaaDoor
namespace Go.Proofs.YtdgehpocmfjbiaaDoor
open Go.RowKit
theorem nbOf_at {x : ImgM} {g cap i : Nat} {m : PartM} (hm : (allM x g cap)[i]? = some m) : nbOf x.img i = m.name := by
  unfold nbOf
  rw [← names_all x g cap, List.getElem?_map, hm]
  rfl

abbrev law_byName_B0 := fun z1 (x : ImgM) => ((z1, .cells #[.bool x.wide, .bool x.big, u8_ x.abi, u8_ x.abiv, .int .i64 x.ty, .int .i64 x.machine, u6_ x.entry, .slice x.A x.ss.length x.c, .slice x.B x.ps.length x.d] 26 (0, 0)) : Nat × Obj)
abbrev law_byName_S1 := fun (s : List UInt8) z1 => ([(1, .string (⟨s.toArray⟩)), (2, pt_ z1), (5, iI_ (-1))] : Slots)
abbrev law_byName_S2 := fun (s : List UInt8) z1 gl (x : ImgM) capl => ((law_byName_S1 s z1) ++ [(27, sl_ gl (x.ps.length + 2) capl), (28, i6_ (x.ps.length + 2))] : Slots)
abbrev law_byName_S3 := fun (s : List UInt8) z1 i gl (x : ImgM) capl => ([(1, .string (⟨s.toArray⟩)), (2, pt_ z1), (5, i6_ i), (27, sl_ gl (x.ps.length + 2) capl), (28, i6_ (x.ps.length + 2))] : Slots)
abbrev law_byName_S4 := fun (s : List UInt8) z1 k gl (x : ImgM) capl => ([(1, .string (⟨s.toArray⟩)), (2, pt_ z1), (5, i6_ k), (27, sl_ gl (x.ps.length + 2) capl), (28, i6_ (x.ps.length + 2))] : Slots)
abbrev law_byName_P5 := fun (x : ImgM) => ((45, .agg #[.bool x.wide, .bool x.big, u8_ x.abi, u8_ x.abiv, .int .i64 x.ty, .int .i64 x.machine, u6_ x.entry, .slice x.A x.ss.length x.c, .slice x.B x.ps.length x.d]) : Nat × Value)
set_option maxRecDepth 100000 in
set_option maxHeartbeats 1000000 in
theorem law_byName (x : ImgM) (s : List UInt8) (w0 : World) (h : x.At w0) (hs : s.length ≤ maxLen) : Calls Tryd.prog 14 #[x.val, .string (⟨s.toArray⟩)] w0 fun e w' => e = .returned (.bool true) ∧ Below w0.heap.size w0 w' := by
  unfold maxLen at hs
  obtain ⟨w, hw⟩ : ∃ w, w0 = w := ⟨_, rfl⟩
  have HM : Mm [] w0 w [] := hw ▸ Mm.start w0
  conv => arg 4; rw [hw]
  clear hw
  refine calls_start Tryd.func14 rfl Tryd.ntmps14 [(0, .agg #[.bool x.wide, .bool x.big, u8_ x.abi, u8_ x.abiv, .int .i64 x.ty, .int .i64 x.machine, u6_ x.entry, .slice x.A x.ss.length x.c, .slice x.B x.ps.length x.d]), (1, .string (⟨s.toArray⟩))] (by kernel_rfl) (Nat.le_of_ble_eq_true rfl) ?_
  intro a HF
  refine wp_seq (wp_region_lit ?_)
  obtain ⟨z1, hz1⟩ : ∃ z, w.heap.size = z := ⟨_, rfl⟩
  refine wp_sym HF HM hz1 2 [] [(1, .string (⟨s.toArray⟩)), (2, pt_ z1)] [law_byName_B0 z1 x] (by kernel_rfl) ?_
  clear HF HM hz1; intro a w HF HM
  refine nil_then ?_
  refine wp_seq ?_
  refine wp_seq (wp_region_lit ?_)
  refine wp_pure HF HM rfl 1 [[0]] [(1, .string (⟨s.toArray⟩)), (2, pt_ z1), (10, .agg #[.bool x.wide, .bool x.big, u8_ x.abi, u8_ x.abiv, .int .i64 x.ty, .int .i64 x.machine, u6_ x.entry, .slice x.A x.ss.length x.c, .slice x.B x.ps.length x.d])] (by kernel_rfl) ?_
  clear HF; intro a HF
  refine wp_call HF (by kernel_rfl) 20 #[.agg #[.bool x.wide, .bool x.big, u8_ x.abi, u8_ x.abiv, .int .i64 x.ty, .int .i64 x.machine, u6_ x.entry, .slice x.A x.ss.length x.c, .slice x.B x.ps.length x.d]] (by kernel_rfl) (fun w => by kernel_rfl) (Calls.mono (zzFits1_any x w (h.below HM.below)) ?_)
  rintro _ w1 ⟨b1, rfl, hb⟩
  replace HM := HM.call hb
  clear hb
  refine ⟨_, rfl, ?_⟩; clear HF; intro a HF
  replace HF := HF.sub [(1, .string (⟨s.toArray⟩)), (2, pt_ z1), (11, .bool b1)] (by kernel_rfl)
  rcases bool_cases2 b1 with hc2 | hc2
  · replace HF := Fr.sub (Fr.tell HF 11 rfl (congrArg Value.bool hc2)) [(1, .string (⟨s.toArray⟩)), (2, pt_ z1), (11, .bool false)] (by kernel_rfl)
    refine wp_pure HF HM rfl 6 [] [(1, .string (⟨s.toArray⟩)), (2, pt_ z1), (17, .bool true)] (by kernel_rfl) ?_
    clear HF; intro a HF
    refine nil_then ?_
    refine wp_condT HF rfl ?_
    refine wp_seq (wp_region_lit ?_)
    refine wp_pure HF HM rfl 1 [] [(4, .bool true)] (by kernel_rfl) ?_
    clear HF; intro a HF
    refine nil_then ?_
    refine wp_ret ?_
    repeat (first | refine then_ret ?_ | refine inb_ret ?_)
    exact ret_one HF rfl rfl ⟨rfl, HM.below⟩
  replace HF := Fr.sub (Fr.tell HF 11 rfl (congrArg Value.bool hc2)) [(1, .string (⟨s.toArray⟩)), (2, pt_ z1), (11, .bool true)] (by kernel_rfl)
  refine wp_pure HF HM rfl 6 [] [(1, .string (⟨s.toArray⟩)), (2, pt_ z1), (17, .bool (decide (2147483647 < ((s.length : Nat) : Int))))] (by kernel_rfl) ?_
  clear HF; intro a HF
  refine nil_then ?_
  by_cases hc3 : 2147483647 < ((s.length : Nat) : Int)
  · rw [show decide (2147483647 < ((s.length : Nat) : Int)) = true from dec_t (hc3)] at HF
    refine wp_condT HF rfl ?_
    refine wp_seq (wp_region_lit ?_)
    refine wp_pure HF HM rfl 1 [] [(4, .bool true)] (by kernel_rfl) ?_
    clear HF; intro a HF
    refine nil_then ?_
    refine wp_ret ?_
    repeat (first | refine then_ret ?_ | refine inb_ret ?_)
    exact ret_one HF rfl rfl ⟨rfl, HM.below⟩
  rw [show decide (2147483647 < ((s.length : Nat) : Int)) = false from dec_f (hc3)] at HF
  refine wp_condF HF rfl ?_
  refine wp_skip ?_
  repeat (first | refine then_norm ?_ | refine inb_norm ?_)
  refine wp_seq ?_
  refine wp_seq (wp_region_lit ?_)
  refine wp_pure HF HM rfl 4 [] [(1, .string (⟨s.toArray⟩)), (2, pt_ z1), (21, .bool (decide (65536 < ((s.length : Nat) : Int))))] (by kernel_rfl) ?_
  clear HF; intro a HF
  by_cases hc4 : 65536 < ((s.length : Nat) : Int)
  · rw [show decide (65536 < ((s.length : Nat) : Int)) = true from dec_t (hc4)] at HF
    refine wp_pure HF HM rfl 4 [] [(1, .string (⟨s.toArray⟩)), (2, pt_ z1), (25, .bool true)] (by kernel_rfl) ?_
    clear HF; intro a HF
    refine nil_then ?_
    refine wp_condT HF rfl ?_
    refine wp_seq (wp_region_lit ?_)
    refine wp_pure HF HM rfl 1 [] [(4, .bool true)] (by kernel_rfl) ?_
    clear HF; intro a HF
    refine nil_then ?_
    refine wp_ret ?_
    repeat (first | refine then_ret ?_ | refine inb_ret ?_)
    exact ret_one HF rfl rfl ⟨rfl, HM.below⟩
  rw [show decide (65536 < ((s.length : Nat) : Int)) = false from dec_f (hc4)] at HF
  refine wp_pure HF HM rfl 1 [[0]] [(1, .string (⟨s.toArray⟩)), (2, pt_ z1), (21, .bool false), (22, .agg #[.bool x.wide, .bool x.big, u8_ x.abi, u8_ x.abiv, .int .i64 x.ty, .int .i64 x.machine, u6_ x.entry, .slice x.A x.ss.length x.c, .slice x.B x.ps.length x.d])] (by kernel_rfl) ?_
  clear HF; intro a HF
  refine wp_call HF (by kernel_rfl) 22 #[.agg #[.bool x.wide, .bool x.big, u8_ x.abi, u8_ x.abiv, .int .i64 x.ty, .int .i64 x.machine, u6_ x.entry, .slice x.A x.ss.length x.c, .slice x.B x.ps.length x.d]] (by kernel_rfl) (fun w => by kernel_rfl) (Calls.mono (isImage_any x w1 (h.below HM.below)) ?_)
  rintro _ w2 ⟨b5, rfl, hb, hok6⟩
  replace HM := HM.call hb
  clear hb
  refine ⟨_, rfl, ?_⟩; clear HF; intro a HF
  replace HF := HF.sub [(1, .string (⟨s.toArray⟩)), (2, pt_ z1), (21, .bool false), (23, .bool b5)] (by kernel_rfl)
  rcases bool_cases2 b5 with hc7 | hc7
  · replace HF := Fr.sub (Fr.tell HF 23 rfl (congrArg Value.bool hc7)) [(1, .string (⟨s.toArray⟩)), (2, pt_ z1), (21, .bool false), (23, .bool false)] (by kernel_rfl)
    refine wp_pure HF HM rfl 2 [] [(1, .string (⟨s.toArray⟩)), (2, pt_ z1), (25, .bool true)] (by kernel_rfl) ?_
    clear HF; intro a HF
    refine nil_then ?_
    refine wp_condT HF rfl ?_
    refine wp_seq (wp_region_lit ?_)
    refine wp_pure HF HM rfl 1 [] [(4, .bool true)] (by kernel_rfl) ?_
    clear HF; intro a HF
    refine nil_then ?_
    refine wp_ret ?_
    repeat (first | refine then_ret ?_ | refine inb_ret ?_)
    exact ret_one HF rfl rfl ⟨rfl, HM.below⟩
  replace HF := Fr.sub (Fr.tell HF 23 rfl (congrArg Value.bool hc7)) [(1, .string (⟨s.toArray⟩)), (2, pt_ z1), (21, .bool false), (23, .bool true)] (by kernel_rfl)
  refine wp_pure HF HM rfl 2 [] [(1, .string (⟨s.toArray⟩)), (2, pt_ z1), (25, .bool false)] (by kernel_rfl) ?_
  clear HF; intro a HF
  refine nil_then ?_
  refine wp_condF HF rfl ?_
  refine wp_skip ?_
  repeat (first | refine then_norm ?_ | refine inb_norm ?_)
  refine wp_seq (wp_region_lit ?_)
  refine wp_pure HF HM rfl 1 [] (law_byName_S1 s z1) (by kernel_rfl) ?_
  clear HF; intro a HF
  refine nil_then ?_
  refine wp_seq ?_
  refine wp_seq (wp_region_lit ?_)
  refine wp_pure HF HM rfl 1 [[0]] ((law_byName_S1 s z1) ++ [(26, .agg #[.bool x.wide, .bool x.big, u8_ x.abi, u8_ x.abiv, .int .i64 x.ty, .int .i64 x.machine, u6_ x.entry, .slice x.A x.ss.length x.c, .slice x.B x.ps.length x.d])]) (by kernel_rfl) ?_
  clear HF; intro a HF
  have ok := (hok6 hc7).1
  have iok := ImgM.ok ok h
  have hk2 := ok.parts; have hk3 := iok.namesB_le
  refine wp_call HF (by kernel_rfl) 38 #[.agg #[.bool x.wide, .bool x.big, u8_ x.abi, u8_ x.abiv, .int .i64 x.ty, .int .i64 x.machine, u6_ x.entry, .slice x.A x.ss.length x.c, .slice x.B x.ps.length x.d]] (by kernel_rfl) (fun w => by kernel_rfl) (Calls.mono (all_any x w2 (h.below HM.below) (by omega) (by omega)) ?_)
  rintro _ w3 ⟨gl, capl, curl, gt, capt, curt, rfl, hb, hol, hot, hne⟩
  replace HM : Mm [] w0 w3 [(gl, .cells curl 46 (0, 0)), law_byName_B0 z1 x] := HM.push hb hol.new hol.obj
  clear hb
  have hal := allM_length x gt capt
  refine ⟨_, rfl, ?_⟩; clear HF; intro a HF
  replace HF := HF.sub ((law_byName_S1 s z1) ++ [(27, sl_ gl (x.ps.length + 2) capl)]) (by kernel_rfl)
  refine wp_pure HF HM rfl 2 [] ((law_byName_S2 s z1 gl x capl) ++ [(29, iI_ 0)]) (by kernel_rfl) ?_
  clear HF; intro a HF
  refine nil_then ?_
  refine wp_block ?_
  refine loop_ind ((x.ps.length + 2)) (fun i a w => ((∀ j, j < i → ((⟨(nbOf x.img j).toArray⟩ : ByteArray).toList == (⟨s.toArray⟩ : ByteArray).toList) = false) ∧ Mm [] w0 w [(gl, .cells curl 46 (0, 0)), law_byName_B0 z1 x] ∧ Fr 57 a ((law_byName_S2 s z1 gl x capl) ++ [(29, i6_ i)])) ∨ (∃ k : Nat, (k < i) ∧ (((⟨(nbOf x.img k).toArray⟩ : ByteArray).toList == (⟨s.toArray⟩ : ByteArray).toList) = true) ∧ (∀ j, j < k → ((⟨(nbOf x.img j).toArray⟩ : ByteArray).toList == (⟨s.toArray⟩ : ByteArray).toList) = false) ∧ Mm [] w0 w [(gl, .cells curl 46 (0, 0)), law_byName_B0 z1 x] ∧ Fr 57 a [(1, .string (⟨s.toArray⟩)), (2, pt_ z1), (5, i6_ k), (27, sl_ gl (x.ps.length + 2) capl), (28, i6_ (x.ps.length + 2)), (29, i6_ i)])) ?_ ?_ ?_
  · exact Or.inl <| ⟨fun j hj => absurd hj (Nat.not_lt_zero j), HM, HF.sub ((law_byName_S2 s z1 gl x capl) ++ [(29, iI_ 0)]) (by kernel_rfl)⟩
  · intro i a w KX hi hI KR
    rcases hI with hI | hI
    · obtain ⟨hno, HM, HF⟩ := hI
      refine wp_seq (wp_region_lit ?_)
      refine wp_pure HF HM rfl 1 [] ((law_byName_S2 s z1 gl x capl) ++ [(29, i6_ i), (30, .bool (decide (((i : Nat) : Int) < (((x.ps.length + 2) : Nat) : Int))))]) (by kernel_rfl) ?_
      clear HF; intro a HF
      refine nil_then ?_
      refine wp_seq ?_
      rw [show decide (((i : Nat) : Int) < (((x.ps.length + 2) : Nat) : Int)) = true from dec_t (by omega)] at HF
      refine wp_condT HF rfl ?_
      refine wp_skip ?_
      repeat (first | refine then_norm ?_ | refine inb_norm ?_)
      refine wp_seq ?_
      refine wp_block ?_
      refine wp_seq (wp_region_lit ?_)
      refine wp_pure HF HM rfl 1 [] ((law_byName_S2 s z1 gl x capl) ++ [(29, i6_ i), (31, i6_ i)]) (by kernel_rfl) ?_
      clear HF; intro a HF
      obtain ⟨m8, hm8⟩ : ∃ m, (allM x gt capt)[i]? = some m := ⟨_, List.getElem?_eq_getElem (by omega)⟩
      refine wp_run HF (by kernel_rfl) (.pointer (Option.map (fun q : Addr => q.add (i * 10)) (some ⟨gl, 0, none⟩))) (by kernel_rfl) (run_index_row Tryd.underlying24 (by kernel_rfl) rfl i rfl rfl (by omega) (Option.some_ne_none _)) ?_
      clear HF; intro a HF; replace HF := HF.sub ((law_byName_S2 s z1 gl x capl) ++ [(29, i6_ i), (31, i6_ i), (32, .pointer (Option.map (fun q : Addr => q.add (i * 10)) (some ⟨gl, 0, none⟩)))]) (by kernel_rfl)
      refine wp_run HF (by kernel_rfl) (.agg #[.string (⟨m8.name.toArray⟩), u3_ m8.ty, u3_ m8.flags, u6_ m8.addr, u3_ m8.link, u3_ m8.info, u6_ m8.align, u6_ m8.ent, u6_ m8.size, .slice m8.A m8.data.length m8.c]) (by kernel_rfl) (run_load_row rfl rfl (row_elem (f := PartM.cells) (k := 10) (fun _ => rfl) (HM.rowOwn (i := 0) rfl hol.tk) i hm8) (Nat.zero_lt_succ _) Tryd.underlying46 rfl (by kernel_rfl)) ?_
      clear HF; intro a HF; replace HF := HF.sub ((law_byName_S2 s z1 gl x capl) ++ [(29, i6_ i), (31, i6_ i), (33, .agg #[.string (⟨m8.name.toArray⟩), u3_ m8.ty, u3_ m8.flags, u6_ m8.addr, u3_ m8.link, u3_ m8.info, u6_ m8.align, u6_ m8.ent, u6_ m8.size, .slice m8.A m8.data.length m8.c])]) (by kernel_rfl)
      obtain ⟨z19, hz19⟩ : ∃ z, w.heap.size = z := ⟨_, rfl⟩
      refine wp_sym HF HM hz19 3 [[2]] ((law_byName_S1 s z1) ++ [(6, i6_ i), (7, pt_ z19), (27, sl_ gl (x.ps.length + 2) capl), (28, i6_ (x.ps.length + 2)), (29, i6_ i)]) [(z19, .cells #[.string (⟨m8.name.toArray⟩), u3_ m8.ty, u3_ m8.flags, u6_ m8.addr, u3_ m8.link, u3_ m8.info, u6_ m8.align, u6_ m8.ent, u6_ m8.size, .slice m8.A m8.data.length m8.c] 46 (0, 0)), (gl, .cells curl 46 (0, 0)), law_byName_B0 z1 x] (by kernel_rfl) ?_
      clear HF HM hz19; intro a w HF HM
      refine nil_then ?_
      refine wp_seq (wp_region_lit ?_)
      refine wp_pure HF HM rfl 8 [[2]] ((law_byName_S1 s z1) ++ [(6, i6_ i), (27, sl_ gl (x.ps.length + 2) capl), (28, i6_ (x.ps.length + 2)), (29, i6_ i), (41, .bool (((⟨m8.name.toArray⟩ : ByteArray).toList) == ((⟨s.toArray⟩ : ByteArray).toList)))]) (by kernel_rfl) ?_
      clear HF; intro a HF
      refine nil_then ?_
      by_cases hc9 : (⟨m8.name.toArray⟩ : ByteArray).toList = (⟨s.toArray⟩ : ByteArray).toList
      · rw [show (((⟨m8.name.toArray⟩ : ByteArray).toList) == ((⟨s.toArray⟩ : ByteArray).toList)) = true from beq_t (hc9)] at HF
        refine wp_condT HF rfl ?_
        refine wp_region_lit ?_
        refine wp_pure HF HM rfl 2 [] ((law_byName_S3 s z1 i gl x capl) ++ [(29, i6_ i)]) (by kernel_rfl) ?_
        clear HF; intro a HF
        refine wpList_nil ?_
        repeat (first | refine then_norm ?_ | refine inb_norm ?_)
        refine wp_region_lit ?_
        refine wp_pure HF HM rfl 1 [] ((law_byName_S3 s z1 i gl x capl) ++ [(43, iI_ (IntKind.i64.wrap (((i : Nat) : Int) + 1)))]) (by kernel_rfl) ?_
        clear HF; intro a HF
        rw [show IntKind.i64.wrap (((i : Nat) : Int) + 1) = (((i + 1) : Nat) : Int) from (IntWalk.i64_in _ (by omega)).trans (by omega)] at HF
        refine wp_pure HF HM rfl 1 [] ((law_byName_S3 s z1 i gl x capl) ++ [(29, i6_ (i + 1))]) (by kernel_rfl) ?_
        clear HF; intro a HF
        refine wpList_nil ?_
        repeat (first | refine then_norm ?_ | refine inb_norm ?_)
        exact KR _ _ (Or.inr <| ⟨i, by omega, by rw [nbOf_at hm8]; exact beq_t hc9, hno, (HM.pick [1, 2] [(gl, .cells curl 46 (0, 0)), law_byName_B0 z1 x] rfl (by decide)), HF.sub ((law_byName_S3 s z1 i gl x capl) ++ [(29, i6_ (i + 1))]) (by kernel_rfl)⟩)
      rw [show (((⟨m8.name.toArray⟩ : ByteArray).toList) == ((⟨s.toArray⟩ : ByteArray).toList)) = false from beq_f (hc9)] at HF
      refine wp_condF HF rfl ?_
      refine wp_skip ?_
      repeat (first | refine then_norm ?_ | refine inb_norm ?_)
      refine wp_region_lit ?_
      refine wp_pure HF HM rfl 1 [] ((law_byName_S2 s z1 gl x capl) ++ [(43, iI_ (IntKind.i64.wrap (((i : Nat) : Int) + 1)))]) (by kernel_rfl) ?_
      clear HF; intro a HF
      rw [show IntKind.i64.wrap (((i : Nat) : Int) + 1) = (((i + 1) : Nat) : Int) from (IntWalk.i64_in _ (by omega)).trans (by omega)] at HF
      refine wp_pure HF HM rfl 1 [] ((law_byName_S2 s z1 gl x capl) ++ [(29, i6_ (i + 1))]) (by kernel_rfl) ?_
      clear HF; intro a HF
      refine wpList_nil ?_
      repeat (first | refine then_norm ?_ | refine inb_norm ?_)
      exact KR _ _ (Or.inl <| ⟨fun j hj => (Nat.lt_or_ge j i).elim (fun g => hno j g) (fun g => by obtain rfl : j = i := (by omega); rw [nbOf_at hm8]; exact beq_f hc9), (HM.pick [1, 2] [(gl, .cells curl 46 (0, 0)), law_byName_B0 z1 x] rfl (by decide)), HF.sub ((law_byName_S2 s z1 gl x capl) ++ [(29, i6_ (i + 1))]) (by kernel_rfl)⟩)
    · obtain ⟨k, hki, hke, hkn, HM, HF⟩ := hI
      refine wp_seq (wp_region_lit ?_)
      refine wp_pure HF HM rfl 1 [] ((law_byName_S4 s z1 k gl x capl) ++ [(29, i6_ i), (30, .bool (decide (((i : Nat) : Int) < (((x.ps.length + 2) : Nat) : Int))))]) (by kernel_rfl) ?_
      clear HF; intro a HF
      refine nil_then ?_
      refine wp_seq ?_
      rw [show decide (((i : Nat) : Int) < (((x.ps.length + 2) : Nat) : Int)) = true from dec_t (by omega)] at HF
      refine wp_condT HF rfl ?_
      refine wp_skip ?_
      repeat (first | refine then_norm ?_ | refine inb_norm ?_)
      refine wp_seq ?_
      refine wp_block ?_
      refine wp_seq (wp_region_lit ?_)
      refine wp_pure HF HM rfl 1 [] ((law_byName_S4 s z1 k gl x capl) ++ [(29, i6_ i), (31, i6_ i)]) (by kernel_rfl) ?_
      clear HF; intro a HF
      obtain ⟨m10, hm10⟩ : ∃ m, (allM x gt capt)[i]? = some m := ⟨_, List.getElem?_eq_getElem (by omega)⟩
      refine wp_run HF (by kernel_rfl) (.pointer (Option.map (fun q : Addr => q.add (i * 10)) (some ⟨gl, 0, none⟩))) (by kernel_rfl) (run_index_row Tryd.underlying24 (by kernel_rfl) rfl i rfl rfl (by omega) (Option.some_ne_none _)) ?_
      clear HF; intro a HF; replace HF := HF.sub ((law_byName_S4 s z1 k gl x capl) ++ [(29, i6_ i), (31, i6_ i), (32, .pointer (Option.map (fun q : Addr => q.add (i * 10)) (some ⟨gl, 0, none⟩)))]) (by kernel_rfl)
      refine wp_run HF (by kernel_rfl) (.agg #[.string (⟨m10.name.toArray⟩), u3_ m10.ty, u3_ m10.flags, u6_ m10.addr, u3_ m10.link, u3_ m10.info, u6_ m10.align, u6_ m10.ent, u6_ m10.size, .slice m10.A m10.data.length m10.c]) (by kernel_rfl) (run_load_row rfl rfl (row_elem (f := PartM.cells) (k := 10) (fun _ => rfl) (HM.rowOwn (i := 0) rfl hol.tk) i hm10) (Nat.zero_lt_succ _) Tryd.underlying46 rfl (by kernel_rfl)) ?_
      clear HF; intro a HF; replace HF := HF.sub ((law_byName_S4 s z1 k gl x capl) ++ [(29, i6_ i), (31, i6_ i), (33, .agg #[.string (⟨m10.name.toArray⟩), u3_ m10.ty, u3_ m10.flags, u6_ m10.addr, u3_ m10.link, u3_ m10.info, u6_ m10.align, u6_ m10.ent, u6_ m10.size, .slice m10.A m10.data.length m10.c])]) (by kernel_rfl)
      obtain ⟨z28, hz28⟩ : ∃ z, w.heap.size = z := ⟨_, rfl⟩
      refine wp_sym HF HM hz28 3 [[2]] [(1, .string (⟨s.toArray⟩)), (2, pt_ z1), (5, i6_ k), (6, i6_ i), (7, pt_ z28), (27, sl_ gl (x.ps.length + 2) capl), (28, i6_ (x.ps.length + 2)), (29, i6_ i)] [(z28, .cells #[.string (⟨m10.name.toArray⟩), u3_ m10.ty, u3_ m10.flags, u6_ m10.addr, u3_ m10.link, u3_ m10.info, u6_ m10.align, u6_ m10.ent, u6_ m10.size, .slice m10.A m10.data.length m10.c] 46 (0, 0)), (gl, .cells curl 46 (0, 0)), law_byName_B0 z1 x] (by kernel_rfl) ?_
      clear HF HM hz28; intro a w HF HM
      refine nil_then ?_
      refine wp_seq (wp_region_lit ?_)
      refine wp_pure HF HM rfl 3 [] [(1, .string (⟨s.toArray⟩)), (2, pt_ z1), (5, i6_ k), (6, i6_ i), (7, pt_ z28), (27, sl_ gl (x.ps.length + 2) capl), (28, i6_ (x.ps.length + 2)), (29, i6_ i), (36, .bool (decide (((k : Nat) : Int) < 0)))] (by kernel_rfl) ?_
      clear HF; intro a HF
      rw [show decide (((k : Nat) : Int) < 0) = false from dec_f (by omega)] at HF
      refine wp_pure HF HM rfl 5 [] [(1, .string (⟨s.toArray⟩)), (2, pt_ z1), (5, i6_ k), (6, i6_ i), (27, sl_ gl (x.ps.length + 2) capl), (28, i6_ (x.ps.length + 2)), (29, i6_ i), (41, .bool false)] (by kernel_rfl) ?_
      clear HF; intro a HF
      refine nil_then ?_
      refine wp_condF HF rfl ?_
      refine wp_skip ?_
      repeat (first | refine then_norm ?_ | refine inb_norm ?_)
      refine wp_region_lit ?_
      refine wp_pure HF HM rfl 1 [] ((law_byName_S4 s z1 k gl x capl) ++ [(43, iI_ (IntKind.i64.wrap (((i : Nat) : Int) + 1)))]) (by kernel_rfl) ?_
      clear HF; intro a HF
      rw [show IntKind.i64.wrap (((i : Nat) : Int) + 1) = (((i + 1) : Nat) : Int) from (IntWalk.i64_in _ (by omega)).trans (by omega)] at HF
      refine wp_pure HF HM rfl 1 [] ((law_byName_S4 s z1 k gl x capl) ++ [(29, i6_ (i + 1))]) (by kernel_rfl) ?_
      clear HF; intro a HF
      refine wpList_nil ?_
      repeat (first | refine then_norm ?_ | refine inb_norm ?_)
      exact KR _ _ (Or.inr <| ⟨k, by omega, hke, hkn, (HM.pick [1, 2] [(gl, .cells curl 46 (0, 0)), law_byName_B0 z1 x] rfl (by decide)), HF.sub ((law_byName_S4 s z1 k gl x capl) ++ [(29, i6_ (i + 1))]) (by kernel_rfl)⟩)
  · intro a w KX hI
    rcases hI with hI | hI
    · obtain ⟨hno, HM, HF⟩ := hI
      refine wp_seq (wp_region_lit ?_)
      refine wp_pure HF HM rfl 1 [] ((law_byName_S2 s z1 gl x capl) ++ [(29, i6_ (x.ps.length + 2)), (30, .bool (decide ((((x.ps.length + 2) : Nat) : Int) < (((x.ps.length + 2) : Nat) : Int))))]) (by kernel_rfl) ?_
      clear HF; intro a HF
      refine nil_then ?_
      refine wp_seq ?_
      rw [show decide ((((x.ps.length + 2) : Nat) : Int) < (((x.ps.length + 2) : Nat) : Int)) = false from dec_f (by omega)] at HF
      refine wp_condF HF rfl ?_
      refine wp_exit ?_
      repeat (first | refine then_exit ?_ | refine inb_exit_other rfl ?_)
      refine inb_exit ?_
      repeat (first | refine then_norm ?_ | refine inb_norm ?_)
      refine wp_seq (wp_region_lit ?_)
      refine wp_pure HF HM rfl 1 [[0]] [(1, .string (⟨s.toArray⟩)), (5, iI_ (-1)), law_byName_P5 x] (by kernel_rfl) ?_
      clear HF; intro a HF
      refine wp_call HF (by kernel_rfl) 25 #[.agg #[.bool x.wide, .bool x.big, u8_ x.abi, u8_ x.abiv, .int .i64 x.ty, .int .i64 x.machine, u6_ x.entry, .slice x.A x.ss.length x.c, .slice x.B x.ps.length x.d]] (by kernel_rfl) (fun w => by kernel_rfl) (Calls.mono (fileOf_any x w (h.below HM.below) ok) ?_)
      rintro _ w4 ⟨gf11, capf11, curf11, rfl, hb, hof11⟩
      replace HM : Mm [] w0 w4 [(gf11, .cells curf11 5 (0, 0)), (gl, .cells curl 46 (0, 0)), law_byName_B0 z1 x] := HM.push hb hof11.new hof11.obj
      clear hb
      refine ⟨_, rfl, ?_⟩; clear HF; intro a HF
      replace HF := HF.sub [(1, .string (⟨s.toArray⟩)), (5, iI_ (-1)), (46, sl_ gf11 x.img.file.length capf11)] (by kernel_rfl)
      refine wp_pure HF HM rfl 1 [] [(5, iI_ (-1)), (46, sl_ gf11 x.img.file.length capf11), (47, .string (⟨s.toArray⟩))] (by kernel_rfl) ?_
      clear HF; intro a HF
      refine wp_call HF (by kernel_rfl) 40 #[sl_ gf11 x.img.file.length capf11, .string (⟨s.toArray⟩)] (by kernel_rfl) (fun w => by kernel_rfl) (Calls.mono (by_name_none x.img.file _ _ _ rfl hof11.nc x.img.wide x.img.big x.img.abi x.img.abiv x.img.ty x.img.machine x.img.entry (hSize x.img.wide) x.img.segs.length x.img.shoff x.img.all.length (sgOf x.img) (scOf x.img) (nbOf x.img) (good_file iok) (by have hq := Img.Ok.length_le iok; omega) ⟨s.toArray⟩ (fun j hj => hno j (by rw [all_len] at hj; exact hj)) w4 (HM.rowOwn (i := 0) rfl hof11.tk)) ?_)
      rintro _ w5 ⟨rfl, hb⟩
      replace HM := HM.call hb
      clear hb
      refine ⟨_, rfl, ?_⟩; clear HF; intro a HF
      replace HF := HF.sub [(5, iI_ (-1)), (48, .tuple #[iI_ (-1), .bool true])] (by kernel_rfl)
      refine wp_pure HF HM rfl 5 [] [(5, iI_ (-1)), (8, iI_ (-1)), (9, .bool true)] (by kernel_rfl) ?_
      clear HF; intro a HF
      refine nil_then ?_
      refine wp_seq (wp_region_lit ?_)
      refine wp_pure HF HM rfl 7 [] [(4, .bool true)] (by kernel_rfl) ?_
      clear HF; intro a HF
      refine nil_then ?_
      refine wp_ret ?_
      repeat (first | refine then_ret ?_ | refine inb_ret ?_)
      exact ret_one HF rfl rfl ⟨rfl, HM.below⟩
    · obtain ⟨k, hki, hke, hkn, HM, HF⟩ := hI
      refine wp_seq (wp_region_lit ?_)
      refine wp_pure HF HM rfl 1 [] ((law_byName_S4 s z1 k gl x capl) ++ [(29, i6_ (x.ps.length + 2)), (30, .bool (decide ((((x.ps.length + 2) : Nat) : Int) < (((x.ps.length + 2) : Nat) : Int))))]) (by kernel_rfl) ?_
      clear HF; intro a HF
      refine nil_then ?_
      refine wp_seq ?_
      rw [show decide ((((x.ps.length + 2) : Nat) : Int) < (((x.ps.length + 2) : Nat) : Int)) = false from dec_f (by omega)] at HF
      refine wp_condF HF rfl ?_
      refine wp_exit ?_
      repeat (first | refine then_exit ?_ | refine inb_exit_other rfl ?_)
      refine inb_exit ?_
      repeat (first | refine then_norm ?_ | refine inb_norm ?_)
      refine wp_seq (wp_region_lit ?_)
      refine wp_pure HF HM rfl 1 [[0]] [(1, .string (⟨s.toArray⟩)), (5, i6_ k), law_byName_P5 x] (by kernel_rfl) ?_
      clear HF; intro a HF
      refine wp_call HF (by kernel_rfl) 25 #[.agg #[.bool x.wide, .bool x.big, u8_ x.abi, u8_ x.abiv, .int .i64 x.ty, .int .i64 x.machine, u6_ x.entry, .slice x.A x.ss.length x.c, .slice x.B x.ps.length x.d]] (by kernel_rfl) (fun w => by kernel_rfl) (Calls.mono (fileOf_any x w (h.below HM.below) ok) ?_)
      rintro _ w6 ⟨gf12, capf12, curf12, rfl, hb, hof12⟩
      replace HM : Mm [] w0 w6 [(gf12, .cells curf12 5 (0, 0)), (gl, .cells curl 46 (0, 0)), law_byName_B0 z1 x] := HM.push hb hof12.new hof12.obj
      clear hb
      refine ⟨_, rfl, ?_⟩; clear HF; intro a HF
      replace HF := HF.sub [(1, .string (⟨s.toArray⟩)), (5, i6_ k), (46, sl_ gf12 x.img.file.length capf12)] (by kernel_rfl)
      refine wp_pure HF HM rfl 1 [] [(5, i6_ k), (46, sl_ gf12 x.img.file.length capf12), (47, .string (⟨s.toArray⟩))] (by kernel_rfl) ?_
      clear HF; intro a HF
      refine wp_call HF (by kernel_rfl) 40 #[sl_ gf12 x.img.file.length capf12, .string (⟨s.toArray⟩)] (by kernel_rfl) (fun w => by kernel_rfl) (Calls.mono (by_name_some x.img.file _ _ _ rfl hof12.nc x.img.wide x.img.big x.img.abi x.img.abiv x.img.ty x.img.machine x.img.entry (hSize x.img.wide) x.img.segs.length x.img.shoff x.img.all.length (sgOf x.img) (scOf x.img) (nbOf x.img) (good_file iok) (by have hq := Img.Ok.length_le iok; omega) ⟨s.toArray⟩ k (by rw [all_len]; exact hki) hke hkn w6 (HM.rowOwn (i := 0) rfl hof12.tk)) ?_)
      rintro _ w7 ⟨rfl, hb⟩
      replace HM := HM.call hb
      clear hb
      refine ⟨_, rfl, ?_⟩; clear HF; intro a HF
      replace HF := HF.sub [(5, i6_ k), (48, .tuple #[i6_ k, .bool true])] (by kernel_rfl)
      refine wp_pure HF HM rfl 5 [] [(5, i6_ k), (8, i6_ k), (9, .bool true)] (by kernel_rfl) ?_
      clear HF; intro a HF
      refine nil_then ?_
      refine wp_seq (wp_region_lit ?_)
      refine wp_pure HF HM rfl 7 [] [(4, .bool (((k : Nat) : Int) == ((k : Nat) : Int)))] (by kernel_rfl) ?_
      clear HF; intro a HF
      refine nil_then ?_
      refine wp_ret ?_
      repeat (first | refine then_ret ?_ | refine inb_ret ?_)
      rw [show (((k : Nat) : Int) == ((k : Nat) : Int)) = true from beq_t (rfl)] at HF
      exact ret_one HF rfl rfl ⟨rfl, HM.below⟩

end Go.Proofs.YtdgehpocmfjbiaaDoor
namespace Go.Proofs.YtdgehpocmfjbiaaDoor.fnByName
open Go Go.ChangeShapes Go.WideShapes Go.ChangeAt Go.RowKit Go.Deep

theorem own : ownKnob Tryd.prog.godebug = none := by kernel_rfl
theorem laidOut : laidOutB Tryd.prog = true := by kernel_rfl
theorem door_met (os : Os) (args : Array Value) : laidMetH Tryd.prog Rows.fnByNameRow.laid ((World.doorLaid Tryd.prog 123 os).forCall (fun _ _ => 0) ⟨#[], args, []⟩).memory :=
  laidMetH_of_parts3 (fuel := 8) (laidMet_of_run' 8 (by kernel_rfl) (by kernel_rfl)) (by kernel_rfl) (by kernel_rfl)

set_option maxRecDepth 100000 in
theorem lifted (os : Os) (started : os.Started) (H : Type) (enc : TypeId × Value → H) :
    ReturnsInHanded {} Tryd.checked os 14 .any (fun w args => (Rows.fnByNameSpec.pre enc Tryd.prog Tryd.f14 [] false w args ∧ laidMetH Tryd.prog Rows.fnByNameRow.laid w) ∧ sizedMet enc Tryd.prog Tryd.f14 (OpenSpec.ofChange Rows.fnByNameSpec) false w args)
      (Rows.fnByNameSpec.post enc Tryd.prog Tryd.f14 false true false false) := by
  refine returnsInHanded_of_change_and (C := Tryd.checked) (X := fun w _ => laidMetH Tryd.prog Rows.fnByNameRow.laid w) (fun _ _ _ hh h => h.of_heap hh) own started (by kernel_rfl) Tryd.func14
    (ChangeSpec.witness_shaped (enc := enc) (C := Tryd.checked) (os := os) (X := fun w _ => laidMetH Tryd.prog Rows.fnByNameRow.laid w) false (World.doorLaid Tryd.prog 123 os) #[.agg #[.bool false, .bool false, .int .u8 0, .int .u8 0, .int .i64 0, .int .i64 0, .int .u64 0, .slice none 0 0, .slice none 0 0], .string (⟨#[]⟩ : ByteArray)] 8 rfl (World.shaped_of_RefB (by kernel_rfl) (by kernel_rfl)) (by kernel_rfl) (by kernel_rfl) (by kernel_rfl) (door_met os _)) ?_
  intro W base args ds gs before hval0 hW _ _ hL _
  have hval : ∀ (j : Nat) t v, Tryd.f14.params[j]? = some t → args[j]? = some v → Value.okWide Tryd.prog W .any base t v := hval0
  have hW' := hW
  obtain ⟨p, q, hA0, hV, rfl, hfz, hnd⟩ := hW
  have hA : DataW.TrodAll enc Tryd.prog W 0 (fun _ => true) true Tryd.f14.params.toList args.toList ds p := hA0
  rw [Tryd.params14] at hA hval
  obtain ⟨v0, vs0, d0, ds0, p0, q0, hargs, rfl, rfl, h0, r0⟩ := trodAll_cons hA
  obtain ⟨v1, vs1, d1, ds1, p1, q1, rfl, rfl, rfl, h1, r1⟩ := trodAll_cons r0
  obtain ⟨rfl, rfl, rfl⟩ := trodAll_nil r1
  obtain rfl : args = #[v0, v1] := by cases args; simp_all
  obtain ⟨rfl, rfl⟩ := trodVars_none hV
  have k0 := h0
  have lt0 : ∀ x ∈ p0, x.block < W.heap.size := by obtain ⟨m, hm⟩ := k0; exact DataW.trod_lt m _ _ _ hm
  have k1 := h1
  have lt1 : ∀ x ∈ p1, x.block < W.heap.size := by obtain ⟨m, hm⟩ := k1; exact DataW.trod_lt m _ _ _ hm
  obtain ⟨x0, rfl, hx0⟩ := open_img (hval 0 26 v0 rfl rfl) h0
  obtain ⟨s1, rfl, hs1⟩ := open_top_str (hval 1 9 v1 rfl rfl) h1
  clear hA0 hval0
  refine (law_byName x0 s1 W hx0 hs1).mono fun e W' ⟨he, bel⟩ => ?_
  subst he
  exact ⟨_, rfl, _, _, _, [], _, [], hW', trodAll_mk1 (shut_bool Tryd.underlying4 _), (trodAll_cons_mk (Below.trod laidOut (by kernel_rfl) (of_decide_eq_true (by kernel_rfl)) k0 bel lt0) (trodAll_cons_mk (Below.trod laidOut (by kernel_rfl) (of_decide_eq_true (by kernel_rfl)) k1 bel lt1) trodAll_mk0)), rfl, bel.frame _, fun h => by cases h⟩

set_option maxRecDepth 100000 in
theorem over_j : joinedFacts Tryd.pinned.checked.prog 14 Tryd.f14 Rows.fnByNameSpec Rows.fnByNameRow = true := (and_t (and_t (and_t (and_t (and_t (and_t (and_t (and_t (and_t (and_t (and_t (and_t (and_t (and_t (and_t (and_t (and_t (and_t (and_t (and_t (and_t (and_t (and_t (and_t (and_t (and_t (and_t (and_t (and_t (and_t (and_t l0 l1) l2) l3) l4) l5) l6) l7) l8) l9) l10) l11) l12) l13) l14) l15) l16) l17) l18) l19) l20) l21) l22) l23) l24) l25) l26) l27) l28) l29) l30) l31)

theorem over : Rows.FnByNameSaid :=
  OpenClaim.holds_of_wide 14 Tryd.f14 rfl rfl rfl rfl rfl rfl rfl ⟨rfl, rfl, rfl, rfl, rfl⟩ rfl rfl rfl rfl rfl c5 Tryd.func14 over_j
    (of_decide_eq_true (by kernel_rfl)) (by unfold Func.isWrapper; first | (rw [if_pos (by decide +kernel)]; kernel_rfl) | (rw [if_neg (by decide +kernel)]; exact ⟨rfl, rfl⟩))
    (fun os started H enc _ => lifted os started H enc)

theorem proved : Rows.FnByNameCardSaid :=
  Claim7.holds_tied_plain_at .later [] [.sentinel, .sentinel, .sentinel, .sentinel, .sentinel] true (true, "ed888367449acd6afd80057b2906ce1b79ec16b7beef13a0a9ac5f630eedede4") true
    over (fun _ h => by cases h) c1 (fun _ h => by cases h) fnByName_row_tie rfl ⟨rfl, rfl⟩ qc4 rfl
    (fun f fn hf hfn => by
      obtain rfl : f = 14 := Option.some.inj (c5.symm.trans hf) |>.symm
      obtain rfl : fn = Tryd.f14 := (Option.some.inj (Tryd.func14.symm.trans hfn)).symm
      exact ⟨qc2, fun j t ht => by
        rw [Tryd.params14] at ht
        have hm : t ∈ [26, 9] := by simpa using Array.mem_of_getElem? ht
        have hall : ([26, 9].all fun u => !Tryd.prog.wantsStandIn u) = true := by kernel_rfl
        exact (show Tryd.prog.wantsStandIn t = false by simpa using List.all_eq_true.1 hall t hm)⟩)
    c3
#print axioms proved
end Go.Proofs.YtdgehpocmfjbiaaDoor.fnByName
