/- Proved: a section's bytes are read; of one without bytes in the file, whose size is not 0, there is an error, at every argument. No condition. -/
import Derived.Test.YtdgehpocmfjbiaaDoorPf
import Derived.Test.YtdgehpocmfjbiaaDoorPd
import Derived.Test.YtdgehpocmfjbiaaDoorPg
import Derived.Test.YtdgehpocmfjbiaaDoorPh
import Derived.Test.YtdgehpocmfjbiaaDoorPl
import Derived.Test.YtdgehpocmfjbiaaDoorCards
import Derived.Test.YtdgehpocmfjbiaaDoorTie
import Derived.Test.YtdgehpocmfjbiaaDoorFnSectionBytesJ
import Derived.Test.YtdgehpocmfjbiaaDoorFnSectionBytesJC
import Derived.LaidMore
import Derived.LaidLaws
import Derived.Stop.Joined
import Derived.SevenTiedAt
import Derived.ProofKit
import Derived.OpenShut
import Derived.ShutString
import Derived.ChangeOld
import Derived.Below
set_option linter.unusedVariables false
set_option linter.unusedSimpArgs false
namespace Go.Proofs.YtdgehpocmfjbiaaDoor
open Go.RowKit
theorem run_conv_row {P : Program} {src dst e : TypeId} (hs : P.underlying src = some (.slice e)) (he : P.underlying e = some (.int .u8)) (hd : P.underlying dst = some .string) {w : World} {ρ : Operand → Value} {o : Oper} {x : Operand} (ho : o.op = .convert src dst x) {A : Option Addr} {l : List UInt8} {n c : Nat} (hx : ρ x = .slice A n c)
    (hn : n = l.length) (h : Row w A (l.map Bv)) : (execOp ρ o).run P w = .ok (.value (.string ⟨l.toArray⟩)) w := by
  unfold execOp
  simp only [ho, hx, Sem.run_bind, run_str_row hs he hd hn h, Result.andThen_ok, Sem.run_pure]

set_option maxRecDepth 100000 in
set_option maxHeartbeats 1000000 in
theorem same_eq (l : List UInt8) (A1 A2 : Option Addr) (c1 c2 : Nat) (w0 : World) (r1 : Row w0 A1 (l.map Bv)) (r2 : Row w0 A2 (l.map Bv)) : Calls Tryd.prog 33 #[.slice A1 l.length c1, .slice A2 l.length c2] w0 fun e w' => e = .returned (.bool true) ∧ Below w0.heap.size w0 w' := by
  obtain ⟨w, hw⟩ : ∃ w, w0 = w := ⟨_, rfl⟩
  have HM : Mm [] w0 w [] := hw ▸ Mm.start w0
  conv => arg 4; rw [hw]
  clear hw
  refine calls_start Tryd.func33 rfl Tryd.ntmps33 [(0, .slice A1 l.length c1), (1, .slice A2 l.length c2)] (by kernel_rfl) (Nat.le_of_ble_eq_true rfl) ?_
  intro a HF
  refine wp_seq (wp_region_lit ?_)
  refine wp_pure HF HM rfl 1 [] [(0, .slice A1 l.length c1), (1, .slice A2 l.length c2)] (by kernel_rfl) ?_
  clear HF; intro a HF
  refine nil_then ?_
  refine wp_seq (wp_region_lit ?_)
  refine wp_pure HF HM rfl 1 [] [(1, .slice A2 l.length c2), (5, .slice A1 l.length c1)] (by kernel_rfl) ?_
  clear HF; intro a HF
  refine wp_run HF (by kernel_rfl) (.string (⟨l.toArray⟩)) (by kernel_rfl) (run_conv_row Tryd.underlying33 Tryd.underlying5 Tryd.underlying9 rfl rfl rfl (HM.row r1)) ?_
  clear HF; intro a HF; replace HF := HF.sub [(1, .slice A2 l.length c2), (6, .string (⟨l.toArray⟩))] (by kernel_rfl)
  refine wp_pure HF HM rfl 1 [] [(6, .string (⟨l.toArray⟩)), (7, .slice A2 l.length c2)] (by kernel_rfl) ?_
  clear HF; intro a HF
  refine wp_run HF (by kernel_rfl) (.string (⟨l.toArray⟩)) (by kernel_rfl) (run_conv_row Tryd.underlying33 Tryd.underlying5 Tryd.underlying9 rfl rfl rfl (HM.row r2)) ?_
  clear HF; intro a HF; replace HF := HF.sub [(6, .string (⟨l.toArray⟩)), (8, .string (⟨l.toArray⟩))] (by kernel_rfl)
  refine wp_pure HF HM rfl 2 [] [(4, .bool (((⟨l.toArray⟩ : ByteArray).toList) == ((⟨l.toArray⟩ : ByteArray).toList)))] (by kernel_rfl) ?_
  clear HF; intro a HF
  refine nil_then ?_
  refine wp_ret ?_
  repeat (first | refine then_ret ?_ | refine inb_ret ?_)
  rw [show (((⟨l.toArray⟩ : ByteArray).toList) == ((⟨l.toArray⟩ : ByteArray).toList)) = true from beq_t (rfl)] at HF
  exact ret_one HF rfl rfl ⟨rfl, HM.below⟩
theorem same_at (l : List UInt8) (A1 A2 : Option Addr) (n1 n2 c1 c2 : Nat) (h1 : n1 = l.length) (h2 : n2 = l.length) (w0 : World) (r1 : Row w0 A1 (l.map Bv)) (r2 : Row w0 A2 (l.map Bv)) : Calls Tryd.prog 33 #[.slice A1 n1 c1, .slice A2 n2 c2] w0 fun e w' => e = .returned (.bool true) ∧ Below w0.heap.size w0 w' := by
  subst h1; subst h2; exact same_eq l A1 A2 c1 c2 w0 r1 r2

end Go.Proofs.YtdgehpocmfjbiaaDoor
namespace Go.Proofs.YtdgehpocmfjbiaaDoor
open Go.RowKit
section
variable {P : Program} {w : World}
/-- the address of element j, the row's address laid open -/
theorem run_index_at {t e : TypeId} {k : Nat} (ht : P.underlying t = some (.slice e)) (hi : (P.info? e).map (·.size) = some k) {ρ : Operand → Value} {o : Oper} {x ix : Operand} (ho : o.op = .indexAddr t x ix) {A : Option Addr} {n c : Nat} (j : Nat) {g off : Nat} (hA : A = some ⟨g, off, none⟩) {kk : IntKind} (hx : ρ x = .slice A n c) (hj : ρ ix = .int kk (j : Int)) (h : j < n) :
    (execOp ρ o).run P w = .ok (.value (.pointer (some ⟨g, off + j * k, none⟩))) w := by
  subst hA
  have := run_index_row (w := w) ht hi ho j hx hj h (Option.some_ne_none _)
  rw [Option.map_some, addr_add'] at this
  exact this
theorem row_at_elem {α : Type} {A : Option Addr} {g off : Nat} {f : α → List Value} {k : Nat} {l : List α} (hk : ∀ a, (f a).length = k) (hA : A = some ⟨g, off, none⟩) (hr : Row w A (l.flatMap f)) (j : Nat) {m : α} (hj : l[j]? = some m) : Row w (some ⟨g, off + j * k, none⟩) (f m) := by
  subst hA
  have := row_elem hk hr j hj
  rw [Option.map_some, addr_add'] at this
  exact this
theorem row_fld {g off : Nat} {cs : List Value} {v : Value} (hr : Row w (some ⟨g, off, none⟩) cs) (i : Nat) (hi : cs[i]? = some v) : Row w (some ⟨g, off + i, none⟩) [v] := fun j u hu => by
  obtain ⟨rfl, rfl⟩ : j = 0 ∧ v = u := by
    cases j with
    | zero => exact ⟨rfl, by injection hu⟩
    | succ j => cases hu
  obtain ⟨b, o, e, hc⟩ := hr i _ hi
  injection e with e; injection e with e1 e2
  subst e1; subst e2
  exact ⟨_, _, rfl, hc⟩
end
theorem flat_cong {f g : Nat → List Value} : ∀ n, (∀ j, j < n → g j = f j) → (List.range n).flatMap g = (List.range n).flatMap f
  | 0, _ => rfl
  | n + 1, h => by rw [List.range_succ, List.flatMap_append, List.flatMap_append, List.flatMap_singleton, List.flatMap_singleton, flat_cong n (fun j hj => h j (by omega)), h n (by omega)]
theorem set_flat {f g : Nat → List Value} {k c i : Nat} {v : Value} (hk : ∀ j, (f j).length = k) (hc : c < k) (he : ∀ j, j ≠ i → g j = f j) (hi : g i = (f i).set c v) : ∀ n, i < n → ((List.range n).flatMap f).set (i * k + c) v = (List.range n).flatMap g
  | 0, h => absurd h (Nat.not_lt_zero _)
  | n + 1, h => by
    rw [List.range_succ, List.flatMap_append, List.flatMap_append, List.flatMap_singleton, List.flatMap_singleton]
    have hl : ((List.range n).flatMap f).length = n * k := by rw [flat_len hk, List.length_range]
    by_cases hn : i = n
    · subst hn
      rw [List.set_append_right _ _ (by rw [hl]; omega), hl, Nat.add_sub_cancel_left, hi, flat_cong i (fun j hj => he j (by omega))]
    · have h1 : (i + 1) * k ≤ n * k := Nat.mul_le_mul_right _ (by omega)
      rw [Nat.succ_mul] at h1
      rw [List.set_append_left _ _ (by rw [hl]; omega), set_flat hk hc he hi n (by omega), he n (fun e => hn e.symm)]
end Go.Proofs.YtdgehpocmfjbiaaDoor
namespace Go.Proofs.YtdgehpocmfjbiaaDoor
open Go.RowKit

set_option maxRecDepth 100000 in
set_option maxHeartbeats 1000000 in
theorem errNew_any (t : ByteArray) (w0 : World) : Calls Tryd.prog 86 #[.string t] w0 fun e w' => ∃ eb, e = .returned (.iface 242 (pt_ eb)) ∧ Below w0.heap.size w0 w' := by
  obtain ⟨i8, hi8, hs8⟩ := size_u8
  obtain ⟨w, hw⟩ : ∃ w, w0 = w := ⟨_, rfl⟩
  have HM : Mm [] w0 w [] := hw ▸ Mm.start w0
  conv => arg 4; rw [hw]
  clear hw
  refine calls_start Tryd.func86 rfl Tryd.ntmps86 [(0, .string t)] (by kernel_rfl) (Nat.le_of_ble_eq_true rfl) ?_
  intro a HF
  refine wp_seq (wp_region_lit ?_)
  refine wp_pure HF HM rfl 1 [] [(0, .string t)] (by kernel_rfl) ?_
  clear HF; intro a HF
  refine nil_then ?_
  refine wp_seq (wp_region_lit ?_)
  obtain ⟨z2, hz2⟩ : ∃ z, w.heap.size = z := ⟨_, rfl⟩
  refine wp_sym HF HM hz2 5 [] [(2, .iface 242 (pt_ z2))] [(z2, .cells #[.string t] 244 (0, 0))] (by kernel_rfl) ?_
  clear HF HM hz2; intro a w HF HM
  refine nil_then ?_
  refine wp_ret ?_
  repeat (first | refine then_ret ?_ | refine inb_ret ?_)
  exact ret_one HF rfl rfl ⟨z2, rfl, HM.below⟩

set_option maxRecDepth 100000 in
set_option maxHeartbeats 1000000 in
theorem nobAt_any (nb m mc o : Nat) (A : Option Addr) (w0 : World) : Calls Tryd.prog 129 #[pt_ nb, .slice A m mc, i6_ o] w0 fun e w' => ∃ eb, e = .returned (.tuple #[.int .i64 0, .iface 242 (pt_ eb)]) ∧ Below w0.heap.size w0 w' := by
  obtain ⟨i8, hi8, hs8⟩ := size_u8
  obtain ⟨w, hw⟩ : ∃ w, w0 = w := ⟨_, rfl⟩
  have HM : Mm [] w0 w [] := hw ▸ Mm.start w0
  conv => arg 4; rw [hw]
  clear hw
  refine calls_start Tryd.func129 rfl Tryd.ntmps129 [(0, pt_ nb), (1, .slice A m mc), (2, i6_ o)] (by kernel_rfl) (Nat.le_of_ble_eq_true rfl) ?_
  intro a HF
  refine wp_seq (wp_region_lit ?_)
  refine wp_pure HF HM rfl 2 [] [] (by kernel_rfl) ?_
  clear HF; intro a HF
  refine nil_then ?_
  refine wp_seq (wp_region_lit ?_)
  refine wp_call HF (by kernel_rfl) 86 #[.string (⟨#[117, 110, 101, 120, 112, 101, 99, 116, 101, 100, 32, 114, 101, 97, 100, 32, 102, 114, 111, 109, 32, 83, 72, 84, 95, 78, 79, 66, 73, 84, 83, 32, 115, 101, 99, 116, 105, 111, 110]⟩ : ByteArray)] (by kernel_rfl) (fun w => by kernel_rfl) (Calls.mono (errNew_any _ w) ?_)
  rintro _ w1 ⟨eb1, rfl, hb⟩
  replace HM := HM.call hb
  clear hb
  refine ⟨_, rfl, ?_⟩; clear HF; intro a HF
  replace HF := HF.sub [(8, .iface 242 (pt_ eb1))] (by kernel_rfl)
  refine wp_pure HF HM rfl 2 [] [(6, .int .i64 0), (7, .iface 242 (pt_ eb1))] (by kernel_rfl) ?_
  clear HF; intro a HF
  refine nil_then ?_
  refine wp_ret ?_
  repeat (first | refine then_ret ?_ | refine inb_ret ?_)
  exact ret_two HF rfl rfl rfl ⟨eb1, rfl, HM.below⟩

abbrev nobRead_any_B0 := fun (s : Nat) (nb : Nat) (L : Nat) => ((s, .cells #[.iface 236 (pt_ nb), iI_ 0, iI_ 0, i6_ L, i6_ L] 246 (0, 0)) : Nat × Obj)
set_option maxRecDepth 100000 in
set_option maxHeartbeats 1000000 in
theorem nobRead_any (nb s m mc L : Nat) (A : Option Addr) (hm : 0 < m) (hL : m ≤ L) (hL2 : L ≤ 9223372036854775807) (w0 : World) (hs : w0.heap[s]? = some (.cells #[.iface 236 (pt_ nb), iI_ 0, iI_ 0, i6_ L, i6_ L] 246 (0, 0))) : Calls Tryd.prog 126 #[pt_ s, .slice A m mc] w0 fun e w' => ∃ eb, e = .returned (.tuple #[iI_ 0, .iface 242 (pt_ eb)]) ∧ Below w0.heap.size w0 w' := by
  obtain ⟨i8, hi8, hs8⟩ := size_u8
  obtain ⟨w, hw⟩ : ∃ w, w0 = w := ⟨_, rfl⟩
  have HM : Mm [] w0 w [] := hw ▸ Mm.start w0
  conv => arg 4; rw [hw]
  clear hw
  refine calls_start Tryd.func126 rfl Tryd.ntmps126 [(0, pt_ s), (1, .slice A m mc)] (by kernel_rfl) (Nat.le_of_ble_eq_true rfl) ?_
  intro a HF
  replace HM : Mm [s] w0 w [nobRead_any_B0 s nb L] := HM.tellOld hs (by simp)
  refine wp_seq (wp_region_lit ?_)
  refine wp_pure HF HM rfl 2 [] [(0, pt_ s), (1, .slice A m mc)] (by kernel_rfl) ?_
  clear HF; intro a HF
  refine nil_then ?_
  refine wp_seq ?_
  refine reg_quietw (by kernel_rfl) (by kernel_rfl) ?_
  refine quiet_sym HF HM rfl 9 [[0], [0]] [(0, pt_ s), (1, .slice A m mc), (15, .bool (decide (((L : Nat) : Int) ≤ 0)))] (by kernel_rfl) ?_
  clear HF; intro a HF
  refine quiet_end ?_
  rintro w1 ⟨nq, hq⟩
  replace HM : Mm [s] w0 w1 [nobRead_any_B0 s nb L] := by rw [hq]; exact HM.drewN nq
  clear hq nq
  rw [show decide (((L : Nat) : Int) ≤ 0) = false from dec_f (by omega)] at HF
  refine wp_condF HF rfl ?_
  refine wp_skip ?_
  repeat (first | refine then_norm ?_ | refine inb_norm ?_)
  refine wp_seq ?_
  refine reg_quietw (by kernel_rfl) (by kernel_rfl) ?_
  refine quiet_sym HF HM rfl 9 [[0], [0]] [(0, pt_ s), (1, .slice A m mc), (25, iI_ (IntKind.i64.wrap (((L : Nat) : Int) - 0)))] (by kernel_rfl) ?_
  clear HF; intro a HF
  rw [show IntKind.i64.wrap (((L : Nat) : Int) - 0) = ((L : Nat) : Int) from (IntWalk.i64_in _ (by omega)).trans (by omega)] at HF
  refine quiet_sym HF HM rfl 1 [] [(0, pt_ s), (1, .slice A m mc), (6, i6_ L)] (by kernel_rfl) ?_
  clear HF; intro a HF
  refine quiet_end ?_
  rintro w2 ⟨nq, hq⟩
  replace HM : Mm [s] w0 w2 [nobRead_any_B0 s nb L] := by rw [hq]; exact HM.drewN nq
  clear hq nq
  refine wp_seq (wp_region_lit ?_)
  refine wp_pure HF HM rfl 4 [] [(0, pt_ s), (1, .slice A m mc), (6, i6_ L), (29, .bool (decide (((L : Nat) : Int) < ((m : Nat) : Int))))] (by kernel_rfl) ?_
  clear HF; intro a HF
  refine nil_then ?_
  rw [show decide (((L : Nat) : Int) < ((m : Nat) : Int)) = false from dec_f (by omega)] at HF
  refine wp_condF HF rfl ?_
  refine wp_skip ?_
  repeat (first | refine then_norm ?_ | refine inb_norm ?_)
  refine reg_plan HM (by kernel_rfl) [nobRead_any_B0 s nb L] [(0, false), (1, false), (2, false), (3, false), (4, false), (5, false), (6, false), (7, false), (8, false), (9, false), (10, false), (11, true), (12, false), (13, false), (14, false), (15, false), (16, false)] (by kernel_rfl) ?_
  clear HM; intro w3 HM
  refine plan_sym HF (HM.told [0] rfl) 11 [[0], [0]] [(0, pt_ s), (38, .slice A m mc), (42, iI_ 0), (44, .iface 236 (pt_ nb))] (by kernel_rfl) ?_
  clear HF; intro a HF
  refine plan_force rfl ?_
  refine wp_call HF (by kernel_rfl) 129 #[pt_ nb, .slice A m mc, iI_ 0] (by kernel_rfl) (fun w => by kernel_rfl) (Calls.mono (nobAt_any nb m mc 0 A w3) ?_)
  rintro _ w4 ⟨eb1, rfl, hb⟩
  replace HM := HM.call hb
  clear hb
  refine ⟨_, rfl, ?_⟩; clear HF; intro a HF
  replace HF := HF.sub [(0, pt_ s), (45, .tuple #[iI_ 0, .iface 242 (pt_ eb1)])] (by kernel_rfl)
  refine only_end (HM.told [0] rfl) ?_
  refine plan_sym HF (HM.told [0] rfl) 5 [] [(0, pt_ s), (4, iI_ 0), (5, .iface 242 (pt_ eb1))] (by kernel_rfl) ?_
  clear HF; intro a HF
  refine plan_end ?_
  refine then_norm ?_
  refine wp_seq (wp_region_lit ?_)
  refine wp_sym HF HM rfl 9 [[0], [0]] [(4, iI_ 0), (5, .iface 242 (pt_ eb1))] [nobRead_any_B0 s nb L] (by kernel_rfl) ?_
  clear HF HM; intro a w HF HM
  refine nil_then ?_
  refine wp_ret ?_
  repeat (first | refine then_ret ?_ | refine inb_ret ?_)
  replace HM : Mm [] w0 w [] := HM.hideOld 0 rfl hs
  exact ret_two HF rfl rfl rfl ⟨eb1, rfl, HM.below⟩

abbrev nobLeast_any_S0 := fun (s : Nat) (g : Nat) (m : Nat) (mc : Nat) => ([(0, .iface 144 (pt_ s)), (1, sl_ g m mc), (2, i6_ m)] : Slots)
set_option maxRecDepth 100000 in
set_option maxHeartbeats 1000000 in
theorem nobLeast_any (nb s g m mc L : Nat) (hm : 0 < m) (hmc : m ≤ mc) (hL : m ≤ L) (hL2 : L ≤ 9223372036854775807) (w0 : World) (hs : w0.heap[s]? = some (.cells #[.iface 236 (pt_ nb), iI_ 0, iI_ 0, i6_ L, i6_ L] 246 (0, 0))) : Calls Tryd.prog 108 #[.iface 144 (pt_ s), sl_ g m mc, i6_ m] w0 fun e w' => ∃ eb, e = .returned (.tuple #[iI_ 0, .iface 242 (pt_ eb)]) ∧ Below w0.heap.size w0 w' := by
  obtain ⟨i8, hi8, hs8⟩ := size_u8
  obtain ⟨w, hw⟩ : ∃ w, w0 = w := ⟨_, rfl⟩
  have HM : Mm [] w0 w [] := hw ▸ Mm.start w0
  conv => arg 4; rw [hw]
  clear hw
  refine calls_start Tryd.func108 rfl Tryd.ntmps108 (nobLeast_any_S0 s g m mc) (by kernel_rfl) (Nat.le_of_ble_eq_true rfl) ?_
  intro a HF
  replace HM : Mm [s] w0 w [(s, .cells #[.iface 236 (pt_ nb), iI_ 0, iI_ 0, i6_ L, i6_ L] 246 (0, 0))] := HM.tellOld hs (by simp)
  refine wp_seq (wp_region_lit ?_)
  refine wp_pure HF HM rfl 2 [] ((nobLeast_any_S0 s g m mc) ++ [(6, iI_ 0), (7, .nilIface)]) (by kernel_rfl) ?_
  clear HF; intro a HF
  refine nil_then ?_
  refine wp_seq ?_
  refine wp_seq (wp_region_lit ?_)
  refine wp_pure HF HM rfl 4 [] ((nobLeast_any_S0 s g m mc) ++ [(6, iI_ 0), (7, .nilIface), (12, .bool (decide (((m : Nat) : Int) < ((m : Nat) : Int))))]) (by kernel_rfl) ?_
  clear HF; intro a HF
  refine nil_then ?_
  rw [show decide (((m : Nat) : Int) < ((m : Nat) : Int)) = false from dec_f (by omega)] at HF
  refine wp_condF HF rfl ?_
  refine wp_skip ?_
  repeat (first | refine then_norm ?_ | refine inb_norm ?_)
  refine wp_seq ?_
  refine wp_block ?_
  refine wp_loop_rounds 2 ?_
  rw [rounds_succ]
  refine wp_seq ?_
  refine wp_seq (wp_region_lit ?_)
  refine wp_pure HF HM rfl 4 [] ((nobLeast_any_S0 s g m mc) ++ [(6, iI_ 0), (7, .nilIface), (17, .bool (decide (0 < ((m : Nat) : Int))))]) (by kernel_rfl) ?_
  clear HF; intro a HF
  rw [show decide (0 < ((m : Nat) : Int)) = true from dec_t (by omega)] at HF
  refine wp_pure HF HM rfl 3 [] ((nobLeast_any_S0 s g m mc) ++ [(6, iI_ 0), (7, .nilIface), (20, .bool true)]) (by kernel_rfl) ?_
  clear HF; intro a HF
  refine nil_then ?_
  refine wp_condT HF rfl ?_
  refine wp_skip ?_
  repeat (first | refine then_norm ?_ | refine inb_norm ?_)
  refine wp_block ?_
  refine wp_seq (wp_region_lit ?_)
  refine wp_pure HF HM rfl 1 [] ((nobLeast_any_S0 s g m mc) ++ [(6, iI_ 0)]) (by kernel_rfl) ?_
  clear HF; intro a HF
  refine nil_then ?_
  refine reg_plan HM (by kernel_rfl) [(s, .cells #[.iface 236 (pt_ nb), iI_ 0, iI_ 0, i6_ L, i6_ L] 246 (0, 0))] [(0, false), (1, false), (2, false), (3, false), (4, false), (5, false), (6, false), (7, true), (8, false), (9, false), (10, false), (11, false), (12, false)] (by kernel_rfl) ?_
  clear HM; intro w1 HM
  refine plan_sym HF (HM.told [0] rfl) 3 [] ((nobLeast_any_S0 s g m mc) ++ [(6, iI_ 0), (22, .iface 144 (pt_ s)), (23, sl_ g m mc), (24, iI_ 0)]) (by kernel_rfl) ?_
  clear HF; intro a HF
  refine plan_run rfl HF (HM.told [0] rfl) rfl (sl_ g m mc) (by kernel_rfl) (fun w hw => by simpa using run_open (t := 33) Tryd.underlying33 hi8 hs8 rfl 0 (kk := .i64) rfl rfl (by omega) hmc (by omega) _) ?_
  clear HF; intro a HF; replace HF := HF.sub ((nobLeast_any_S0 s g m mc) ++ [(6, iI_ 0), (22, .iface 144 (pt_ s)), (25, sl_ g m mc)]) (by kernel_rfl)
  refine plan_sym HF (HM.told [0] rfl) 3 [] ((nobLeast_any_S0 s g m mc) ++ [(6, iI_ 0), (25, sl_ g m mc), (28, .iface 144 (pt_ s))]) (by kernel_rfl) ?_
  clear HF; intro a HF
  refine plan_force rfl ?_
  refine wp_call HF (by kernel_rfl) 126 #[pt_ s, sl_ g m mc] (by kernel_rfl) (fun w => by kernel_rfl) (Calls.mono (nobRead_any nb s m mc L _ hm hL hL2 w1 (HM.get (i := 0) rfl)) ?_)
  rintro _ w2 ⟨eb1, rfl, hb⟩
  replace HM := HM.call hb
  clear hb
  refine ⟨_, rfl, ?_⟩; clear HF; intro a HF
  replace HF := HF.sub ((nobLeast_any_S0 s g m mc) ++ [(6, iI_ 0), (29, .tuple #[iI_ 0, .iface 242 (pt_ eb1)])]) (by kernel_rfl)
  refine only_end (HM.told [0] rfl) ?_
  refine plan_sym HF (HM.told [0] rfl) 5 [] ((nobLeast_any_S0 s g m mc) ++ [(6, iI_ 0), (7, .iface 242 (pt_ eb1)), (8, iI_ 0)]) (by kernel_rfl) ?_
  clear HF; intro a HF
  refine plan_end ?_
  refine then_norm ?_
  refine wp_region_lit ?_
  refine wp_pure HF HM rfl 4 [] ((nobLeast_any_S0 s g m mc) ++ [(6, iI_ 0), (7, .iface 242 (pt_ eb1))]) (by kernel_rfl) ?_
  clear HF; intro a HF
  refine wpList_nil ?_
  repeat (first | refine then_norm ?_ | refine inb_norm ?_)
  rw [rounds_succ]
  refine wp_seq ?_
  refine wp_seq (wp_region_lit ?_)
  refine wp_pure HF HM rfl 4 [] ((nobLeast_any_S0 s g m mc) ++ [(6, iI_ 0), (7, .iface 242 (pt_ eb1)), (17, .bool (decide (0 < ((m : Nat) : Int))))]) (by kernel_rfl) ?_
  clear HF; intro a HF
  rw [show decide (0 < ((m : Nat) : Int)) = true from dec_t (by omega)] at HF
  refine wp_pure HF HM rfl 3 [] ((nobLeast_any_S0 s g m mc) ++ [(6, iI_ 0), (7, .iface 242 (pt_ eb1)), (20, .bool false)]) (by kernel_rfl) ?_
  clear HF; intro a HF
  refine nil_then ?_
  refine wp_condF HF rfl ?_
  refine wp_exit ?_
  repeat (first | refine then_exit ?_ | refine inb_exit_other rfl ?_)
  refine inb_exit ?_
  repeat (first | refine then_norm ?_ | refine inb_norm ?_)
  refine wp_seq ?_
  refine wp_seq (wp_region_lit ?_)
  refine wp_pure HF HM rfl 3 [] [(6, iI_ 0), (7, .iface 242 (pt_ eb1)), (37, .bool (decide (((m : Nat) : Int) ≤ 0)))] (by kernel_rfl) ?_
  clear HF; intro a HF
  refine nil_then ?_
  rw [show decide (((m : Nat) : Int) ≤ 0) = false from dec_f (by omega)] at HF
  refine wp_condF HF rfl ?_
  refine wp_seq (wp_region_lit ?_)
  refine wp_pure HF HM rfl 7 [] [(6, iI_ 0), (7, .iface 242 (pt_ eb1)), (44, .bool false)] (by kernel_rfl) ?_
  clear HF; intro a HF
  refine nil_then ?_
  refine wp_condF HF rfl ?_
  refine wp_skip ?_
  repeat (first | refine then_norm ?_ | refine inb_norm ?_)
  refine wp_ret ?_
  repeat (first | refine then_ret ?_ | refine inb_ret ?_)
  replace HM : Mm [] w0 w2 [] := HM.hideOld 0 rfl hs
  exact ret_two HF rfl rfl rfl ⟨eb1, rfl, HM.below⟩

set_option maxRecDepth 100000 in
set_option maxHeartbeats 1000000 in
theorem nobFull_any (nb s g m mc L : Nat) (hm : 0 < m) (hmc : m ≤ mc) (hL : m ≤ L) (hL2 : L ≤ 9223372036854775807) (w0 : World) (hs : w0.heap[s]? = some (.cells #[.iface 236 (pt_ nb), .int .i64 0, .int .i64 0, i6_ L, i6_ L] 246 (0, 0))) : Calls Tryd.prog 105 #[.iface 144 (pt_ s), sl_ g m mc] w0 fun e w' => ∃ eb, e = .returned (.tuple #[.int .i64 0, .iface 242 (pt_ eb)]) ∧ Below w0.heap.size w0 w' := by
  obtain ⟨i8, hi8, hs8⟩ := size_u8
  obtain ⟨w, hw⟩ : ∃ w, w0 = w := ⟨_, rfl⟩
  have HM : Mm [] w0 w [] := hw ▸ Mm.start w0
  conv => arg 4; rw [hw]
  clear hw
  refine calls_start Tryd.func105 rfl Tryd.ntmps105 [(0, .iface 144 (pt_ s)), (1, sl_ g m mc)] (by kernel_rfl) (Nat.le_of_ble_eq_true rfl) ?_
  intro a HF
  replace HM : Mm [s] w0 w [(s, .cells #[.iface 236 (pt_ nb), .int .i64 0, .int .i64 0, i6_ L, i6_ L] 246 (0, 0))] := HM.tellOld hs (by simp)
  refine wp_seq (wp_region_lit ?_)
  refine wp_pure HF HM rfl 2 [] [(0, .iface 144 (pt_ s)), (1, sl_ g m mc)] (by kernel_rfl) ?_
  clear HF; intro a HF
  refine nil_then ?_
  refine wp_seq (wp_region_lit ?_)
  refine wp_pure HF HM rfl 4 [] [(6, .iface 144 (pt_ s)), (7, sl_ g m mc), (9, i6_ m)] (by kernel_rfl) ?_
  clear HF; intro a HF
  refine wp_call HF (by kernel_rfl) 108 #[.iface 144 (pt_ s), sl_ g m mc, i6_ m] (by kernel_rfl) (fun w => by kernel_rfl) (Calls.mono (nobLeast_any nb s g m mc L hm hmc hL hL2 w (HM.get (i := 0) rfl)) ?_)
  rintro _ w1 ⟨eb1, rfl, hb⟩
  replace HM := HM.call hb
  clear hb
  refine ⟨_, rfl, ?_⟩; clear HF; intro a HF
  replace HF := HF.sub [(10, .tuple #[.int .i64 0, .iface 242 (pt_ eb1)])] (by kernel_rfl)
  refine wp_pure HF HM rfl 4 [] [(4, .int .i64 0), (5, .iface 242 (pt_ eb1))] (by kernel_rfl) ?_
  clear HF; intro a HF
  refine nil_then ?_
  refine wp_ret ?_
  repeat (first | refine then_ret ?_ | refine inb_ret ?_)
  replace HM : Mm [] w0 w1 [] := HM.hideOld 0 rfl hs
  exact ret_two HF rfl rfl rfl ⟨eb1, rfl, HM.below⟩
theorem run_slice_hic {P : Program} {t e : TypeId} (ht : P.underlying t = some (.slice e)) {inf : TypeInfo} (hi : P.info? e = some inf) {ρ : Operand → Value} {o : Oper} {x h : Operand} (ho : o.op = .slice t x none (some h) none) {g m c : Nat} {kk : IntKind} (hm : m ≤ c) (hx : ρ x = sl_ g c c) (hh : ρ h = .int kk (m : Int)) {w : World} :
    (execOp ρ o).run P w = .ok (.value (sl_ g m c)) w := by
  unfold execOp
  simp only [ho, Option.map_some, Option.map_none, hx, hh, Instr.sliceAt]
  simp [Instr.slice, Instr.sliceBounds, Instr.sliceBound, asIntOf, run_underlying ht, sizeOf, typeInfo, hi, Addr.add, hm]

abbrev nobData_any_S0 := fun (s : Nat) (L : Nat) => ([(0, .iface 144 (pt_ s)), (1, u6_ L), (9, nl_)] : Slots)
set_option maxRecDepth 100000 in
set_option maxHeartbeats 1000000 in
theorem nobData_any (nb s L : Nat) (hL : 0 < L) (hL2 : L ≤ 9223372036854775807) (w0 : World) (hs : w0.heap[s]? = some (.cells #[.iface 236 (pt_ nb), iI_ 0, iI_ 0, i6_ L, i6_ L] 246 (0, 0))) : Calls Tryd.prog 84 #[.iface 144 (pt_ s), u6_ L] w0 fun e w' => ∃ eb, e = .returned (.tuple #[nl_, .iface 242 (pt_ eb)]) ∧ Below w0.heap.size w0 w' := by
  obtain ⟨i8, hi8, hs8⟩ := size_u8
  obtain ⟨w, hw⟩ : ∃ w, w0 = w := ⟨_, rfl⟩
  have HM : Mm [] w0 w [] := hw ▸ Mm.start w0
  conv => arg 4; rw [hw]
  clear hw
  refine calls_start Tryd.func84 rfl Tryd.ntmps84 [(0, .iface 144 (pt_ s)), (1, u6_ L)] (by kernel_rfl) (Nat.le_of_ble_eq_true rfl) ?_
  intro a HF
  replace HM : Mm [s] w0 w [(s, .cells #[.iface 236 (pt_ nb), iI_ 0, iI_ 0, i6_ L, i6_ L] 246 (0, 0))] := HM.tellOld hs (by simp)
  refine wp_seq (wp_region_lit ?_)
  refine wp_pure HF HM rfl 2 [] [(0, .iface 144 (pt_ s)), (1, u6_ L)] (by kernel_rfl) ?_
  clear HF; intro a HF
  refine nil_then ?_
  refine wp_seq ?_
  refine wp_seq (wp_region_lit ?_)
  refine wp_pure HF HM rfl 2 [] [(0, .iface 144 (pt_ s)), (1, u6_ L), (15, iI_ (IntKind.i64.wrap ((L : Nat) : Int)))] (by kernel_rfl) ?_
  clear HF; intro a HF
  rw [show IntKind.i64.wrap ((L : Nat) : Int) = ((L : Nat) : Int) from IntWalk.i64_in _ (by omega)] at HF
  refine wp_pure HF HM rfl 2 [] [(0, .iface 144 (pt_ s)), (1, u6_ L), (17, .bool (decide (((L : Nat) : Int) < 0)))] (by kernel_rfl) ?_
  clear HF; intro a HF
  rw [show decide (((L : Nat) : Int) < 0) = false from dec_f (by omega)] at HF
  refine wp_pure HF HM rfl 3 [] [(0, .iface 144 (pt_ s)), (1, u6_ L), (17, .bool false), (18, u6_ L), (20, iI_ (IntKind.i64.wrap ((L : Nat) : Int)))] (by kernel_rfl) ?_
  clear HF; intro a HF
  rw [show IntKind.i64.wrap ((L : Nat) : Int) = ((L : Nat) : Int) from IntWalk.i64_in _ (by omega)] at HF
  refine wp_pure HF HM rfl 1 [] [(0, .iface 144 (pt_ s)), (1, u6_ L), (17, .bool false), (18, u6_ L), (21, iL_ (IntKind.u64.wrap ((L : Nat) : Int)))] (by kernel_rfl) ?_
  clear HF; intro a HF
  rw [show IntKind.u64.wrap ((L : Nat) : Int) = ((L : Nat) : Int) from IntWalk.u64_in _ (by omega)] at HF
  refine wp_pure HF HM rfl 2 [] [(0, .iface 144 (pt_ s)), (1, u6_ L), (23, .bool (((L : Nat) : Int) != ((L : Nat) : Int)))] (by kernel_rfl) ?_
  clear HF; intro a HF
  refine nil_then ?_
  rw [show (((L : Nat) : Int) != ((L : Nat) : Int)) = false from bne_f (fun hq => hq rfl)] at HF
  refine wp_condF HF rfl ?_
  refine wp_skip ?_
  repeat (first | refine then_norm ?_ | refine inb_norm ?_)
  refine wp_seq ?_
  refine wp_seq (wp_region_lit ?_)
  refine wp_pure HF HM rfl 2 [] [(0, .iface 144 (pt_ s)), (1, u6_ L), (26, .bool (decide (((L : Nat) : Int) < 10485760)))] (by kernel_rfl) ?_
  clear HF; intro a HF
  refine nil_then ?_
  by_cases hc1 : ((L : Nat) : Int) < 10485760
  · rw [show decide (((L : Nat) : Int) < 10485760) = true from dec_t (hc1)] at HF
    refine wp_condT HF rfl ?_
    refine wp_seq (wp_region_lit ?_)
    refine wp_pure HF HM rfl 1 [] [(0, .iface 144 (pt_ s)), (27, u6_ L)] (by kernel_rfl) ?_
    clear HF; intro a HF
    refine wp_make HF HM rfl _ _ 33 rfl rfl 5 (iB_ 0) 1 Tryd.underlying33 info_u8' rfl .u64 .u64 L rfl rfl (by omega) (by omega) ?_
    intro a2 w1 tb_ hgw hbel HM2 HF2; clear HF HM hbel; have HM := HM2; have HF := HF2; clear HM2 HF2
    replace HM := HM.pick [1] [(s, .cells #[.iface 236 (pt_ nb), iI_ 0, iI_ 0, i6_ L, i6_ L] 246 (0, 0))] rfl (by decide)
    replace HF := HF.sub [(0, .iface 144 (pt_ s)), (28, sl_ tb_ L L)] (by kernel_rfl)
    refine wp_pure HF HM rfl 1 [] [(0, .iface 144 (pt_ s)), (6, sl_ tb_ L L)] (by kernel_rfl) ?_
    clear HF; intro a HF
    refine nil_then ?_
    refine wp_seq (wp_region_lit ?_)
    refine wp_pure HF HM rfl 2 [] [(6, sl_ tb_ L L), (30, .iface 144 (pt_ s)), (31, sl_ tb_ L L)] (by kernel_rfl) ?_
    clear HF; intro a HF
    refine wp_call HF (by kernel_rfl) 105 #[.iface 144 (pt_ s), sl_ tb_ L L] (by kernel_rfl) (fun w => by kernel_rfl) (Calls.mono (nobFull_any nb s tb_ L L L (by omega) (by omega) (by omega) hL2 w1 (HM.get (i := 0) rfl)) ?_)
    rintro _ w2 ⟨eb2, rfl, hb⟩
    replace HM := HM.call hb
    clear hb
    refine ⟨_, rfl, ?_⟩; clear HF; intro a HF
    replace HF := HF.sub [(6, sl_ tb_ L L), (32, .tuple #[iI_ 0, .iface 242 (pt_ eb2)])] (by kernel_rfl)
    refine wp_pure HF HM rfl 5 [] [(6, sl_ tb_ L L), (8, .iface 242 (pt_ eb2))] (by kernel_rfl) ?_
    clear HF; intro a HF
    refine nil_then ?_
    refine wp_seq ?_
    refine wp_seq (wp_region_lit ?_)
    refine wp_pure HF HM rfl 2 [] [(6, sl_ tb_ L L), (8, .iface 242 (pt_ eb2)), (36, .bool true)] (by kernel_rfl) ?_
    clear HF; intro a HF
    refine nil_then ?_
    refine wp_condT HF rfl ?_
    refine wp_seq (wp_region_lit ?_)
    refine wp_pure HF HM rfl 3 [] [(4, nl_), (5, .iface 242 (pt_ eb2))] (by kernel_rfl) ?_
    clear HF; intro a HF
    refine nil_then ?_
    refine wp_ret ?_
    repeat (first | refine then_ret ?_ | refine inb_ret ?_)
    replace HM : Mm [] w0 w2 [] := HM.hideOld 0 rfl hs
    exact ret_two HF rfl rfl rfl ⟨eb2, rfl, HM.below⟩
  rw [show decide (((L : Nat) : Int) < 10485760) = false from dec_f (hc1)] at HF
  refine wp_condF HF rfl ?_
  refine wp_skip ?_
  repeat (first | refine then_norm ?_ | refine inb_norm ?_)
  refine wp_seq (wp_region_lit ?_)
  refine wp_pure HF HM rfl 1 [] (nobData_any_S0 s L) (by kernel_rfl) ?_
  clear HF; intro a HF
  refine nil_then ?_
  refine wp_seq (wp_region_lit ?_)
  refine wp_make HF HM rfl _ _ 33 rfl rfl 5 (iB_ 0) 1 Tryd.underlying33 info_u8' rfl .i64 .i64 10485760 rfl rfl (by omega) (by omega) ?_
  intro a2 w3 tb_ hgw hbel HM2 HF2; clear HF HM hbel; have HM := HM2; have HF := HF2; clear HM2 HF2
  replace HM := HM.pick [1] [(s, .cells #[.iface 236 (pt_ nb), iI_ 0, iI_ 0, i6_ L, i6_ L] 246 (0, 0))] rfl (by decide)
  replace HF := HF.sub ((nobData_any_S0 s L) ++ [(39, sl_ tb_ 10485760 10485760)]) (by kernel_rfl)
  refine wp_pure HF HM rfl 1 [] ((nobData_any_S0 s L) ++ [(10, sl_ tb_ 10485760 10485760)]) (by kernel_rfl) ?_
  clear HF; intro a HF
  refine nil_then ?_
  refine wp_seq ?_
  refine wp_block ?_
  refine wp_loop_rounds 1 ?_
  rw [rounds_succ]
  refine wp_seq ?_
  refine wp_seq (wp_region_lit ?_)
  refine wp_pure HF HM rfl 2 [] ((nobData_any_S0 s L) ++ [(10, sl_ tb_ 10485760 10485760), (41, .bool (decide (0 < ((L : Nat) : Int))))]) (by kernel_rfl) ?_
  clear HF; intro a HF
  refine nil_then ?_
  rw [show decide (0 < ((L : Nat) : Int)) = true from dec_t (by omega)] at HF
  refine wp_condT HF rfl ?_
  refine wp_skip ?_
  repeat (first | refine then_norm ?_ | refine inb_norm ?_)
  refine wp_block ?_
  refine wp_seq (wp_region_lit ?_)
  refine wp_pure HF HM rfl 2 [] ((nobData_any_S0 s L) ++ [(10, sl_ tb_ 10485760 10485760), (11, u6_ L)]) (by kernel_rfl) ?_
  clear HF; intro a HF
  refine nil_then ?_
  refine wp_seq ?_
  refine wp_seq (wp_region_lit ?_)
  refine wp_pure HF HM rfl 2 [] ((nobData_any_S0 s L) ++ [(10, sl_ tb_ 10485760 10485760), (11, u6_ L), (44, .bool (decide (10485760 < ((L : Nat) : Int))))]) (by kernel_rfl) ?_
  clear HF; intro a HF
  refine nil_then ?_
  by_cases hc3 : 10485760 < ((L : Nat) : Int)
  · rw [show decide (10485760 < ((L : Nat) : Int)) = true from dec_t (hc3)] at HF
    refine wp_condT HF rfl ?_
    refine wp_region_lit ?_
    refine wp_pure HF HM rfl 1 [] ((nobData_any_S0 s L) ++ [(10, sl_ tb_ 10485760 10485760), (11, iL_ 10485760)]) (by kernel_rfl) ?_
    clear HF; intro a HF
    refine wpList_nil ?_
    repeat (first | refine then_norm ?_ | refine inb_norm ?_)
    refine wp_seq (wp_region_lit ?_)
    refine wp_pure HF HM rfl 3 [] ((nobData_any_S0 s L) ++ [(10, sl_ tb_ 10485760 10485760), (11, iL_ 10485760), (46, .iface 144 (pt_ s)), (47, sl_ tb_ 10485760 10485760), (48, iL_ 10485760)]) (by kernel_rfl) ?_
    clear HF; intro a HF
    refine wp_run HF (by kernel_rfl) (sl_ tb_ 10485760 10485760) (by kernel_rfl) (run_slice_hic Tryd.underlying33 hi8 rfl (m := 10485760) (kk := .u64) (by omega) rfl rfl) ?_
    clear HF; intro a HF; replace HF := HF.sub ((nobData_any_S0 s L) ++ [(10, sl_ tb_ 10485760 10485760), (11, iL_ 10485760), (46, .iface 144 (pt_ s)), (49, sl_ tb_ 10485760 10485760)]) (by kernel_rfl)
    refine wp_call HF (by kernel_rfl) 105 #[.iface 144 (pt_ s), sl_ tb_ 10485760 10485760] (by kernel_rfl) (fun w => by kernel_rfl) (Calls.mono (nobFull_any nb s tb_ 10485760 10485760 L (by omega) (by omega) (by omega) hL2 w3 (HM.get (i := 0) rfl)) ?_)
    rintro _ w4 ⟨eb4, rfl, hb⟩
    replace HM := HM.call hb
    clear hb
    refine ⟨_, rfl, ?_⟩; clear HF; intro a HF
    replace HF := HF.sub ((nobData_any_S0 s L) ++ [(10, sl_ tb_ 10485760 10485760), (11, iL_ 10485760), (50, .tuple #[iI_ 0, .iface 242 (pt_ eb4)])]) (by kernel_rfl)
    refine wp_pure HF HM rfl 5 [] ((nobData_any_S0 s L) ++ [(10, sl_ tb_ 10485760 10485760), (11, iL_ 10485760), (13, .iface 242 (pt_ eb4))]) (by kernel_rfl) ?_
    clear HF; intro a HF
    refine nil_then ?_
    refine wp_seq ?_
    refine wp_seq (wp_region_lit ?_)
    refine wp_pure HF HM rfl 2 [] ((nobData_any_S0 s L) ++ [(10, sl_ tb_ 10485760 10485760), (11, iL_ 10485760), (13, .iface 242 (pt_ eb4)), (54, .bool true)]) (by kernel_rfl) ?_
    clear HF; intro a HF
    refine nil_then ?_
    refine wp_condT HF rfl ?_
    refine wp_seq ?_
    refine wp_seq (wp_region_lit ?_)
    refine wp_pure HF HM rfl 8 [] [(13, .iface 242 (pt_ eb4)), (62, .bool false)] (by kernel_rfl) ?_
    clear HF; intro a HF
    refine nil_then ?_
    refine wp_condF HF rfl ?_
    refine wp_skip ?_
    repeat (first | refine then_norm ?_ | refine inb_norm ?_)
    refine wp_seq (wp_region_lit ?_)
    refine wp_pure HF HM rfl 3 [] [(4, nl_), (5, .iface 242 (pt_ eb4))] (by kernel_rfl) ?_
    clear HF; intro a HF
    refine nil_then ?_
    refine wp_ret ?_
    repeat (first | refine then_ret ?_ | refine inb_ret ?_)
    replace HM : Mm [] w0 w4 [] := HM.hideOld 0 rfl hs
    exact ret_two HF rfl rfl rfl ⟨eb4, rfl, HM.below⟩
  rw [show decide (10485760 < ((L : Nat) : Int)) = false from dec_f (hc3)] at HF
  refine wp_condF HF rfl ?_
  refine wp_skip ?_
  repeat (first | refine then_norm ?_ | refine inb_norm ?_)
  refine wp_seq (wp_region_lit ?_)
  refine wp_pure HF HM rfl 3 [] ((nobData_any_S0 s L) ++ [(10, sl_ tb_ 10485760 10485760), (11, u6_ L), (46, .iface 144 (pt_ s)), (47, sl_ tb_ 10485760 10485760), (48, u6_ L)]) (by kernel_rfl) ?_
  clear HF; intro a HF
  refine wp_run HF (by kernel_rfl) (sl_ tb_ L 10485760) (by kernel_rfl) (run_slice_hic Tryd.underlying33 hi8 rfl (m := L) (kk := .u64) (by omega) rfl rfl) ?_
  clear HF; intro a HF; replace HF := HF.sub ((nobData_any_S0 s L) ++ [(10, sl_ tb_ 10485760 10485760), (11, u6_ L), (46, .iface 144 (pt_ s)), (49, sl_ tb_ L 10485760)]) (by kernel_rfl)
  refine wp_call HF (by kernel_rfl) 105 #[.iface 144 (pt_ s), sl_ tb_ L 10485760] (by kernel_rfl) (fun w => by kernel_rfl) (Calls.mono (nobFull_any nb s tb_ L 10485760 L (by omega) (by omega) (by omega) hL2 w3 (HM.get (i := 0) rfl)) ?_)
  rintro _ w5 ⟨eb5, rfl, hb⟩
  replace HM := HM.call hb
  clear hb
  refine ⟨_, rfl, ?_⟩; clear HF; intro a HF
  replace HF := HF.sub ((nobData_any_S0 s L) ++ [(10, sl_ tb_ 10485760 10485760), (11, u6_ L), (50, .tuple #[iI_ 0, .iface 242 (pt_ eb5)])]) (by kernel_rfl)
  refine wp_pure HF HM rfl 5 [] ((nobData_any_S0 s L) ++ [(10, sl_ tb_ 10485760 10485760), (11, u6_ L), (13, .iface 242 (pt_ eb5))]) (by kernel_rfl) ?_
  clear HF; intro a HF
  refine nil_then ?_
  refine wp_seq ?_
  refine wp_seq (wp_region_lit ?_)
  refine wp_pure HF HM rfl 2 [] ((nobData_any_S0 s L) ++ [(10, sl_ tb_ 10485760 10485760), (11, u6_ L), (13, .iface 242 (pt_ eb5)), (54, .bool true)]) (by kernel_rfl) ?_
  clear HF; intro a HF
  refine nil_then ?_
  refine wp_condT HF rfl ?_
  refine wp_seq ?_
  refine wp_seq (wp_region_lit ?_)
  refine wp_pure HF HM rfl 8 [] [(13, .iface 242 (pt_ eb5)), (62, .bool false)] (by kernel_rfl) ?_
  clear HF; intro a HF
  refine nil_then ?_
  refine wp_condF HF rfl ?_
  refine wp_skip ?_
  repeat (first | refine then_norm ?_ | refine inb_norm ?_)
  refine wp_seq (wp_region_lit ?_)
  refine wp_pure HF HM rfl 3 [] [(4, nl_), (5, .iface 242 (pt_ eb5))] (by kernel_rfl) ?_
  clear HF; intro a HF
  refine nil_then ?_
  refine wp_ret ?_
  repeat (first | refine then_ret ?_ | refine inb_ret ?_)
  replace HM : Mm [] w0 w5 [] := HM.hideOld 0 rfl hs
  exact ret_two HF rfl rfl rfl ⟨eb5, rfl, HM.below⟩

set_option maxRecDepth 100000 in
set_option maxHeartbeats 1000000 in
theorem nobOpen (q : Nat) (L : Nat) (hL2 : L ≤ 9223372036854775807) (nm : ByteArray) (v2 v3 v4 v6 v7 v8 v9 v10 v11 v12 v13 v14 : Value) (w0 : World) (hq : w0.heap[q]? = some (.cells #[.string nm, .int .u32 8, v2, v3, v4, u6_ L, v6, v7, v8, v9, v10, v11, v12, v13, v14] 153 (0, 0))) : Calls Tryd.prog 85 #[pt_ q] w0 fun e w' => ∃ nb s, e = .returned (.iface 144 (pt_ s)) ∧ Below w0.heap.size w0 w' ∧ w0.heap.size ≤ s ∧ w'.heap[s]? = some (.cells #[.iface 236 (pt_ nb), .int .i64 0, .int .i64 0, i6_ L, i6_ L] 246 (0, 0)) := by
  obtain ⟨w, hw⟩ : ∃ w, w0 = w := ⟨_, rfl⟩
  have HM : Mm [] w0 w [] := hw ▸ Mm.start w0
  conv => arg 4; rw [hw]
  clear hw
  refine calls_start Tryd.func85 rfl Tryd.ntmps85 [(0, pt_ q)] (by kernel_rfl) (Nat.le_of_ble_eq_true rfl) ?_
  intro a HF
  refine wp_seq (wp_region_lit ?_)
  refine wp_pure HF HM rfl 1 [] [(0, pt_ q)] (by kernel_rfl) ?_
  clear HF; intro a HF
  refine nil_then ?_
  refine wp_seq ?_
  refine wp_seq (wp_region_lit ?_)
  refine wp_pure HF HM rfl 4 [] [(0, pt_ q), (9, .pointer (some ⟨q, 1, none⟩))] (by kernel_rfl) ?_
  clear HF; intro a HF
  refine wp_run HF (by kernel_rfl) (.int .u32 8) (by kernel_rfl) (run_load_one rfl rfl (by kernel_rfl) ((cell_of_row w q 1 _ _ _ (HM.old hq)).trans rfl)) ?_
  clear HF; intro a HF; replace HF := HF.sub [(0, pt_ q), (10, .int .u32 8)] (by kernel_rfl)
  refine wp_pure HF HM rfl 1 [] [(0, pt_ q), (11, .bool true)] (by kernel_rfl) ?_
  clear HF; intro a HF
  refine nil_then ?_
  refine wp_condT HF rfl ?_
  refine wp_seq (wp_region_lit ?_)
  obtain ⟨z4, hz4⟩ : ∃ z, w.heap.size = z := ⟨_, rfl⟩
  refine wp_sym HF HM hz4 7 [] [(14, .iface 236 (pt_ z4)), (18, .pointer (some ⟨q, 5, none⟩))] [(z4, .cells #[] 238 (0, 0))] (by kernel_rfl) ?_
  clear HF HM hz4; intro a w HF HM
  refine wp_run HF (by kernel_rfl) (u6_ L) (by kernel_rfl) (run_load_one rfl rfl (by kernel_rfl) ((cell_of_row w q 5 _ _ _ (HM.old hq)).trans rfl)) ?_
  clear HF; intro a HF; replace HF := HF.sub [(14, .iface 236 (pt_ z4)), (19, u6_ L)] (by kernel_rfl)
  refine wp_pure HF HM rfl 1 [] [(14, .iface 236 (pt_ z4)), (20, .int .i64 (IntKind.i64.wrap ((L : Nat) : Int)))] (by kernel_rfl) ?_
  clear HF; intro a HF
  rw [show IntKind.i64.wrap ((L : Nat) : Int) = ((L : Nat) : Int) from IntWalk.i64_in _ (by omega)] at HF
  refine wp_call HF (by kernel_rfl) 92 #[.iface 236 (pt_ z4), .int .i64 0, i6_ L] (by kernel_rfl) (fun w => by kernel_rfl) (Calls.mono (newSR_any 236 (pt_ z4) 0 ((L : Nat) : Int) (by omega) (by omega) (by omega) w) ?_)
  rintro _ w1 ⟨sb, rfl, hb, hbg, hbo⟩
  rw [Int.add_zero] at hbo
  replace HM : Mm [] w0 w1 [(sb, .cells #[.iface 236 (pt_ z4), .int .i64 0, .int .i64 0, i6_ L, i6_ L] 246 (0, 0)), (z4, .cells #[] 238 (0, 0))] := HM.push hb hbg hbo
  clear hb
  refine ⟨_, rfl, ?_⟩; clear HF; intro a HF
  replace HF := HF.sub [(21, pt_ sb)] (by kernel_rfl)
  refine wp_pure HF HM rfl 2 [] [(2, .iface 144 (pt_ sb))] (by kernel_rfl) ?_
  clear HF; intro a HF
  refine nil_then ?_
  refine wp_ret ?_
  repeat (first | refine then_ret ?_ | refine inb_ret ?_)
  exact ret_one HF rfl rfl ⟨z4, sb, rfl, HM.below, HM.ge (i := 0) rfl, HM.get (i := 0) rfl⟩

set_option maxRecDepth 100000 in
set_option maxHeartbeats 1000000 in
theorem nobSec (q : Nat) (L : Nat) (hL : 0 < L) (hL2 : L ≤ 9223372036854775807) (nm : ByteArray) (v2 v3 v4 v6 v7 v8 v9 v10 v11 v12 v13 v14 : Value) (w0 : World) (hq : w0.heap[q]? = some (.cells #[.string nm, .int .u32 8, v2, v3, v4, u6_ L, v6, v7, v8, v9, v10, v11, v12, v13, v14] 153 (0, 0))) : Calls Tryd.prog 63 #[pt_ q] w0 fun e w' => ∃ eb, e = .returned (.tuple #[.slice none 0 0, .iface 242 (pt_ eb)]) ∧ Below w0.heap.size w0 w' := by
  obtain ⟨w, hw⟩ : ∃ w, w0 = w := ⟨_, rfl⟩
  have HM : Mm [] w0 w [] := hw ▸ Mm.start w0
  conv => arg 4; rw [hw]
  clear hw
  refine calls_start Tryd.func63 rfl Tryd.ntmps63 [(0, pt_ q)] (by kernel_rfl) (Nat.le_of_ble_eq_true rfl) ?_
  intro a HF
  replace HM : Mm [q] w0 w [(q, .cells #[.string nm, .int .u32 8, v2, v3, v4, u6_ L, v6, v7, v8, v9, v10, v11, v12, v13, v14] 153 (0, 0))] := HM.tellOld hq (by simp)
  refine wp_seq (wp_region_lit ?_)
  refine wp_pure HF HM rfl 2 [] [(0, pt_ q)] (by kernel_rfl) ?_
  clear HF; intro a HF
  refine nil_then ?_
  refine reg_plan HM (by kernel_rfl) [(q, .cells #[.string nm, .int .u32 8, v2, v3, v4, u6_ L, v6, v7, v8, v9, v10, v11, v12, v13, v14] 153 (0, 0))] [(0, false), (2, false), (3, false), (4, false), (5, false), (6, false), (1, true), (7, true), (8, false), (9, false), (10, false), (11, false)] (by kernel_rfl) ?_
  clear HM; intro w1 HM
  refine plan_sym HF (HM.told [0] rfl) 6 [[0]] [(0, pt_ q), (4, pt_ q), (6, pt_ q), (7, pt_ q), (8, pt_ q), (9, .pointer (some ⟨q, 5, none⟩)), (10, u6_ L)] (by kernel_rfl) ?_
  clear HF; intro a HF
  refine plan_force rfl ?_
  refine wp_call HF (by kernel_rfl) 85 #[pt_ q] (by kernel_rfl) (fun w => by kernel_rfl) (Calls.mono (nobOpen q L hL2 nm v2 v3 v4 v6 v7 v8 v9 v10 v11 v12 v13 v14 w1 (HM.get (i := 0) rfl)) ?_)
  rintro _ w2 ⟨nb, s, rfl, hb, hsg, hso⟩
  replace HM : Mm [q] w0 w2 [(s, .cells #[.iface 236 (pt_ nb), .int .i64 0, .int .i64 0, i6_ L, i6_ L] 246 (0, 0)), (q, .cells #[.string nm, .int .u32 8, v2, v3, v4, u6_ L, v6, v7, v8, v9, v10, v11, v12, v13, v14] 153 (0, 0))] := HM.push hb hsg hso
  clear hb
  refine ⟨_, rfl, ?_⟩; clear HF; intro a HF
  replace HF := HF.sub [(0, pt_ q), (4, pt_ q), (5, .iface 144 (pt_ s)), (6, pt_ q), (7, pt_ q), (8, pt_ q), (9, .pointer (some ⟨q, 5, none⟩)), (10, u6_ L)] (by kernel_rfl)
  refine only_end (HM.told [1] rfl) ?_
  refine plan_force rfl ?_
  refine wp_call HF (by kernel_rfl) 84 #[.iface 144 (pt_ s), u6_ L] (by kernel_rfl) (fun w => by kernel_rfl) (Calls.mono (nobData_any nb s L hL hL2 w2 (HM.get (i := 0) rfl)) ?_)
  rintro _ w3 ⟨eb, rfl, hb⟩
  replace HM := HM.call hb
  clear hb
  refine ⟨_, rfl, ?_⟩; clear HF; intro a HF
  replace HF := HF.sub [(0, pt_ q), (4, pt_ q), (5, .iface 144 (pt_ s)), (6, pt_ q), (7, pt_ q), (8, pt_ q), (9, .pointer (some ⟨q, 5, none⟩)), (10, u6_ L), (11, .tuple #[.slice none 0 0, .iface 242 (pt_ eb)])] (by kernel_rfl)
  refine only_end (HM.told [1] rfl) ?_
  refine plan_sym HF (HM.told [1] rfl) 4 [] [(2, .slice none 0 0), (3, .iface 242 (pt_ eb))] (by kernel_rfl) ?_
  clear HF; intro a HF
  refine plan_end ?_
  refine then_norm ?_
  refine wp_ret ?_
  repeat (first | refine then_ret ?_ | refine inb_ret ?_)
  replace HM : Mm [] w0 w3 [(s, .cells #[.iface 236 (pt_ nb), .int .i64 0, .int .i64 0, i6_ L, i6_ L] 246 (0, 0))] := HM.hideOld 1 rfl hq
  exact ret_two HF rfl rfl rfl ⟨eb, rfl, HM.below⟩

set_option maxRecDepth 100000 in
set_option maxHeartbeats 1000000 in
theorem nobBytes (l : List UInt8) (A : Option Addr) (n c : Nat) (hl : n = l.length) (hnc : n ≤ c) (wide big : Bool) (abi abiv tyN machN entryN phoffN phnumN shoffN shnumN : Nat) (sg : Nat → SegV) (sc : Nat → SecV) (nb : Nat → List UInt8) (H : GoodFile l n wide big abi abiv tyN machN entryN phoffN phnumN shoffN shnumN sg sc nb) (h47 : n ≤ 140737488355328) (k : Nat) (hk : k < shnumN) (h8 : (sc k).ty = 8) (hL : 0 < (sc k).fsz) (hL2 : (sc k).fsz ≤ 9223372036854775807) (w0 : World) (hr : Row w0 A (l.map Bv)) : Calls Tryd.prog 32 #[.slice A n c, i6_ k] w0 fun e w' => e = .returned (.tuple #[nl_, .bool false]) ∧ Below w0.heap.size w0 w' := by
  obtain ⟨i0, his, hss⟩ := size_ss
  have hb7 := H.b7; have hb6 := H.b6; have hc3 := H.c3
  obtain ⟨w, hw⟩ : ∃ w, w0 = w := ⟨_, rfl⟩
  have HM : Mm [] w0 w [] := hw ▸ Mm.start w0
  conv => arg 4; rw [hw]
  clear hw
  refine calls_start Tryd.func32 rfl Tryd.ntmps32 [(0, .slice A n c), (1, i6_ k)] (by kernel_rfl) (Nat.le_of_ble_eq_true rfl) ?_
  intro a HF
  refine wp_seq (wp_region_lit ?_)
  refine wp_pure HF HM rfl 2 [] [(0, .slice A n c), (1, i6_ k)] (by kernel_rfl) ?_
  clear HF; intro a HF
  refine nil_then ?_
  refine wp_seq (wp_region_lit ?_)
  refine wp_pure HF HM rfl 1 [] [(1, i6_ k), (11, .slice A n c)] (by kernel_rfl) ?_
  clear HF; intro a HF
  refine wp_call HF (by kernel_rfl) 55 #[.slice A n c] (by kernel_rfl) (fun w => by kernel_rfl) (Calls.mono (open_any l A n c hl hnc wide big abi abiv tyN machN entryN phoffN phnumN shoffN shnumN sg sc nb H h47 w (HM.row hr)) ?_)
  rintro _ w1 ⟨bg, bcap, z, fb, pg, sg_, cur, scur, rfl, hb0, hnc2, hcap, hg0, hz0, hrow, hF⟩
  replace hb0 := (HM.call hb0).below; clear HM
  have HM : Mm [] w1 w1 [] := Mm.start w1
  refine ⟨_, rfl, ?_⟩; clear HF; intro a HF
  replace HF := HF.sub [(1, i6_ k), (12, .tuple #[pt_ fb, .bool true])] (by kernel_rfl)
  refine wp_pure HF HM rfl 5 [] [(1, i6_ k), (6, pt_ fb), (7, .bool true)] (by kernel_rfl) ?_
  clear HF; intro a HF
  refine nil_then ?_
  refine wp_seq ?_
  refine wp_seq (wp_region_lit ?_)
  refine wp_pure HF HM rfl 7 [] [(1, i6_ k), (6, pt_ fb), (21, .bool (decide (((k : Nat) : Int) < 0)))] (by kernel_rfl) ?_
  clear HF; intro a HF
  rw [show decide (((k : Nat) : Int) < 0) = false from dec_f (by omega)] at HF
  refine wp_pure HF HM rfl 4 [] [(1, i6_ k), (6, pt_ fb), (21, .bool false), (22, i6_ k), (25, .pointer (some ⟨fb, 9, none⟩))] (by kernel_rfl) ?_
  clear HF; intro a HF
  refine wp_run HF (by kernel_rfl) (sl_ sg_ shnumN shnumN) (by kernel_rfl) (run_load_one rfl rfl (by kernel_rfl) ((cell_of_row w1 fb 9 _ _ _ (HM.old hF.file)).trans rfl)) ?_
  clear HF; intro a HF; replace HF := HF.sub [(1, i6_ k), (6, pt_ fb), (21, .bool false), (22, i6_ k), (26, sl_ sg_ shnumN shnumN)] (by kernel_rfl)
  refine wp_pure HF HM rfl 3 [] [(1, i6_ k), (6, pt_ fb), (29, .bool (decide (((shnumN : Nat) : Int) ≤ ((k : Nat) : Int))))] (by kernel_rfl) ?_
  clear HF; intro a HF
  refine nil_then ?_
  rw [show decide (((shnumN : Nat) : Int) ≤ ((k : Nat) : Int)) = false from dec_f (by omega)] at HF
  refine wp_condF HF rfl ?_
  refine wp_skip ?_
  repeat (first | refine then_norm ?_ | refine inb_norm ?_)
  refine wp_seq (wp_region_lit ?_)
  refine wp_pure HF HM rfl 3 [] [(1, i6_ k), (33, .pointer (some ⟨fb, 9, none⟩))] (by kernel_rfl) ?_
  clear HF; intro a HF
  refine wp_run HF (by kernel_rfl) (sl_ sg_ shnumN shnumN) (by kernel_rfl) (run_load_one rfl rfl (by kernel_rfl) ((cell_of_row w1 fb 9 _ _ _ (HM.old hF.file)).trans rfl)) ?_
  clear HF; intro a HF; replace HF := HF.sub [(1, i6_ k), (34, sl_ sg_ shnumN shnumN)] (by kernel_rfl)
  refine wp_pure HF HM rfl 1 [] [(34, sl_ sg_ shnumN shnumN), (35, i6_ k)] (by kernel_rfl) ?_
  clear HF; intro a HF
  obtain ⟨pq, sq, q1, q2, q3, q4, q5⟩ := hF.sec k hk
  refine wp_run HF (by kernel_rfl) (.pointer (some ⟨sg_, k, none⟩)) (by kernel_rfl) ((run_index Tryd.underlying126 his hss rfl k rfl rfl (by omega))) ?_
  clear HF; intro a HF; replace HF := HF.sub [(36, .pointer (some ⟨sg_, k, none⟩))] (by kernel_rfl)
  refine wp_run HF (by kernel_rfl) (pt_ pq) (by kernel_rfl) (run_load_one rfl rfl (by kernel_rfl) ((cell_of_row w1 sg_ k _ _ _ (HM.old hF.secs)).trans q1)) ?_
  clear HF; intro a HF; replace HF := HF.sub [(37, pt_ pq)] (by kernel_rfl)
  refine wp_call HF (by kernel_rfl) 63 #[pt_ pq] (by kernel_rfl) (fun w => by kernel_rfl) (Calls.mono (nobSec pq (sc k).fsz hL hL2 _ _ _ _ _ _ _ _ _ _ _ _ _ w1 (by rw [HM.old q4, h8]; rfl)) ?_)
  rintro _ w2 ⟨eb, rfl, hb⟩
  replace HM := HM.call hb
  clear hb
  refine ⟨_, rfl, ?_⟩; clear HF; intro a HF
  replace HF := HF.sub [(38, .tuple #[nl_, .iface 242 (pt_ eb)])] (by kernel_rfl)
  refine wp_pure HF HM rfl 5 [] [(8, nl_), (9, .iface 242 (pt_ eb))] (by kernel_rfl) ?_
  clear HF; intro a HF
  refine nil_then ?_
  refine reg_quietw (by kernel_rfl) (by kernel_rfl) ?_
  refine quiet_sym HF HM rfl 5 [] [(4, nl_), (5, .bool false)] (by kernel_rfl) ?_
  clear HF; intro a HF
  refine quiet_end ?_
  rintro w3 ⟨nq, hq⟩
  replace HM : Mm [] w1 w3 [] := by rw [hq]; exact HM.drewN nq
  clear hq nq
  refine wp_ret ?_
  repeat (first | refine then_ret ?_ | refine inb_ret ?_)
  exact ret_two HF rfl rfl rfl ⟨rfl, hb0.trans (HM.below.mono hb0.size)⟩

set_option maxRecDepth 100000 in
set_option maxHeartbeats 1000000 in
theorem nobOpen0 (q : Nat) (nm : ByteArray) (v2 v3 v4 v6 v7 v8 v9 v10 v11 v12 v13 v14 : Value) (w0 : World) (hq : w0.heap[q]? = some (.cells #[.string nm, .int .u32 8, v2, v3, v4, .int .u64 0, v6, v7, v8, v9, v10, v11, v12, v13, v14] 153 (0, 0))) : Calls Tryd.prog 85 #[pt_ q] w0 fun e w' => ∃ nb s, e = .returned (.iface 144 (pt_ s)) ∧ Below w0.heap.size w0 w' ∧ w0.heap.size ≤ s ∧ w'.heap[s]? = some (.cells #[.iface 236 (pt_ nb), .int .i64 0, .int .i64 0, .int .i64 0, .int .i64 0] 246 (0, 0)) := by
  obtain ⟨w, hw⟩ : ∃ w, w0 = w := ⟨_, rfl⟩
  have HM : Mm [] w0 w [] := hw ▸ Mm.start w0
  conv => arg 4; rw [hw]
  clear hw
  refine calls_start Tryd.func85 rfl Tryd.ntmps85 [(0, pt_ q)] (by kernel_rfl) (Nat.le_of_ble_eq_true rfl) ?_
  intro a HF
  refine wp_seq (wp_region_lit ?_)
  refine wp_pure HF HM rfl 1 [] [(0, pt_ q)] (by kernel_rfl) ?_
  clear HF; intro a HF
  refine nil_then ?_
  refine wp_seq ?_
  refine wp_seq (wp_region_lit ?_)
  refine wp_pure HF HM rfl 4 [] [(0, pt_ q), (9, .pointer (some ⟨q, 1, none⟩))] (by kernel_rfl) ?_
  clear HF; intro a HF
  refine wp_run HF (by kernel_rfl) (.int .u32 8) (by kernel_rfl) (run_load_one rfl rfl (by kernel_rfl) ((cell_of_row w q 1 _ _ _ (HM.old hq)).trans rfl)) ?_
  clear HF; intro a HF; replace HF := HF.sub [(0, pt_ q), (10, .int .u32 8)] (by kernel_rfl)
  refine wp_pure HF HM rfl 1 [] [(0, pt_ q), (11, .bool true)] (by kernel_rfl) ?_
  clear HF; intro a HF
  refine nil_then ?_
  refine wp_condT HF rfl ?_
  refine wp_seq (wp_region_lit ?_)
  obtain ⟨z4, hz4⟩ : ∃ z, w.heap.size = z := ⟨_, rfl⟩
  refine wp_sym HF HM hz4 7 [] [(14, .iface 236 (pt_ z4)), (18, .pointer (some ⟨q, 5, none⟩))] [(z4, .cells #[] 238 (0, 0))] (by kernel_rfl) ?_
  clear HF HM hz4; intro a w HF HM
  refine wp_run HF (by kernel_rfl) (.int .u64 0) (by kernel_rfl) (run_load_one rfl rfl (by kernel_rfl) ((cell_of_row w q 5 _ _ _ (HM.old hq)).trans rfl)) ?_
  clear HF; intro a HF; replace HF := HF.sub [(14, .iface 236 (pt_ z4)), (19, .int .u64 0)] (by kernel_rfl)
  refine wp_pure HF HM rfl 1 [] [(14, .iface 236 (pt_ z4)), (20, .int .i64 0)] (by kernel_rfl) ?_
  clear HF; intro a HF
  refine wp_call HF (by kernel_rfl) 92 #[.iface 236 (pt_ z4), .int .i64 0, .int .i64 0] (by kernel_rfl) (fun w => by kernel_rfl) (Calls.mono (newSR_any 236 (pt_ z4) 0 0 (by omega) (by omega) (by omega) w) ?_)
  rintro _ w1 ⟨sb, rfl, hb, hbg, hbo⟩
  replace HM : Mm [] w0 w1 [(sb, .cells #[.iface 236 (pt_ z4), .int .i64 0, .int .i64 0, .int .i64 0, .int .i64 0] 246 (0, 0)), (z4, .cells #[] 238 (0, 0))] := HM.push hb hbg hbo
  clear hb
  refine ⟨_, rfl, ?_⟩; clear HF; intro a HF
  replace HF := HF.sub [(21, pt_ sb)] (by kernel_rfl)
  refine wp_pure HF HM rfl 2 [] [(2, .iface 144 (pt_ sb))] (by kernel_rfl) ?_
  clear HF; intro a HF
  refine nil_then ?_
  refine wp_ret ?_
  repeat (first | refine then_ret ?_ | refine inb_ret ?_)
  exact ret_one HF rfl rfl ⟨z4, sb, rfl, HM.below, HM.ge (i := 0) rfl, HM.get (i := 0) rfl⟩

set_option maxRecDepth 100000 in
set_option maxHeartbeats 1000000 in
theorem nobSec0 (q : Nat) (nm : ByteArray) (v2 v3 v4 v6 v7 v8 v9 v10 v11 v12 v13 v14 : Value) (w0 : World) (hq : w0.heap[q]? = some (.cells #[.string nm, .int .u32 8, v2, v3, v4, .int .u64 0, v6, v7, v8, v9, v10, v11, v12, v13, v14] 153 (0, 0))) : Calls Tryd.prog 63 #[pt_ q] w0 fun e w' => ∃ tb_, e = .returned (.tuple #[sl_ tb_ 0 0, .nilIface]) ∧ Below w0.heap.size w0 w' := by
  obtain ⟨w, hw⟩ : ∃ w, w0 = w := ⟨_, rfl⟩
  have HM : Mm [] w0 w [] := hw ▸ Mm.start w0
  conv => arg 4; rw [hw]
  clear hw
  refine calls_start Tryd.func63 rfl Tryd.ntmps63 [(0, pt_ q)] (by kernel_rfl) (Nat.le_of_ble_eq_true rfl) ?_
  intro a HF
  replace HM : Mm [q] w0 w [(q, .cells #[.string nm, .int .u32 8, v2, v3, v4, .int .u64 0, v6, v7, v8, v9, v10, v11, v12, v13, v14] 153 (0, 0))] := HM.tellOld hq (by simp)
  refine wp_seq (wp_region_lit ?_)
  refine wp_pure HF HM rfl 2 [] [(0, pt_ q)] (by kernel_rfl) ?_
  clear HF; intro a HF
  refine nil_then ?_
  refine reg_plan HM (by kernel_rfl) [(q, .cells #[.string nm, .int .u32 8, v2, v3, v4, .int .u64 0, v6, v7, v8, v9, v10, v11, v12, v13, v14] 153 (0, 0))] [(0, false), (2, false), (3, false), (4, false), (5, false), (6, false), (1, true), (7, true), (8, false), (9, false), (10, false), (11, false)] (by kernel_rfl) ?_
  clear HM; intro w1 HM
  refine plan_sym HF (HM.told [0] rfl) 6 [[0]] [(0, pt_ q), (4, pt_ q), (6, pt_ q), (7, pt_ q), (8, pt_ q), (9, .pointer (some ⟨q, 5, none⟩)), (10, .int .u64 0)] (by kernel_rfl) ?_
  clear HF; intro a HF
  refine plan_force rfl ?_
  refine wp_call HF (by kernel_rfl) 85 #[pt_ q] (by kernel_rfl) (fun w => by kernel_rfl) (Calls.mono (nobOpen0 q nm v2 v3 v4 v6 v7 v8 v9 v10 v11 v12 v13 v14 w1 (HM.get (i := 0) rfl)) ?_)
  rintro _ w2 ⟨nb, s, rfl, hb, hsg, hso⟩
  replace HM : Mm [q] w0 w2 [(s, .cells #[.iface 236 (pt_ nb), .int .i64 0, .int .i64 0, .int .i64 0, .int .i64 0] 246 (0, 0)), (q, .cells #[.string nm, .int .u32 8, v2, v3, v4, .int .u64 0, v6, v7, v8, v9, v10, v11, v12, v13, v14] 153 (0, 0))] := HM.push hb hsg hso
  clear hb
  refine ⟨_, rfl, ?_⟩; clear HF; intro a HF
  replace HF := HF.sub [(0, pt_ q), (4, pt_ q), (5, .iface 144 (pt_ s)), (6, pt_ q), (7, pt_ q), (8, pt_ q), (9, .pointer (some ⟨q, 5, none⟩)), (10, .int .u64 0)] (by kernel_rfl)
  refine only_end (HM.told [1] rfl) ?_
  refine plan_force rfl ?_
  refine wp_call HF (by kernel_rfl) 84 #[.iface 144 (pt_ s), .int .u64 0] (by kernel_rfl) (fun w => by kernel_rfl) (Calls.mono (readData_zero _ w2) ?_)
  rintro _ w3 ⟨tb_, rfl, hb⟩
  replace HM := HM.call hb
  clear hb
  refine ⟨_, rfl, ?_⟩; clear HF; intro a HF
  replace HF := HF.sub [(0, pt_ q), (4, pt_ q), (5, .iface 144 (pt_ s)), (6, pt_ q), (7, pt_ q), (8, pt_ q), (9, .pointer (some ⟨q, 5, none⟩)), (10, .int .u64 0), (11, .tuple #[sl_ tb_ 0 0, .nilIface])] (by kernel_rfl)
  refine only_end (HM.told [1] rfl) ?_
  refine plan_sym HF (HM.told [1] rfl) 4 [] [(2, sl_ tb_ 0 0), (3, .nilIface)] (by kernel_rfl) ?_
  clear HF; intro a HF
  refine plan_end ?_
  refine then_norm ?_
  refine wp_ret ?_
  repeat (first | refine then_ret ?_ | refine inb_ret ?_)
  replace HM : Mm [] w0 w3 [(s, .cells #[.iface 236 (pt_ nb), .int .i64 0, .int .i64 0, .int .i64 0, .int .i64 0] 246 (0, 0))] := HM.hideOld 1 rfl hq
  exact ret_two HF rfl rfl rfl ⟨tb_, rfl, HM.below⟩

set_option maxRecDepth 100000 in
set_option maxHeartbeats 1000000 in
theorem nobBytes0 (l : List UInt8) (A : Option Addr) (n c : Nat) (hl : n = l.length) (hnc : n ≤ c) (wide big : Bool) (abi abiv tyN machN entryN phoffN phnumN shoffN shnumN : Nat) (sg : Nat → SegV) (sc : Nat → SecV) (nb : Nat → List UInt8) (H : GoodFile l n wide big abi abiv tyN machN entryN phoffN phnumN shoffN shnumN sg sc nb) (h47 : n ≤ 140737488355328) (k : Nat) (hk : k < shnumN) (h8 : (sc k).ty = 8) (hL : (sc k).fsz = 0) (w0 : World) (hr : Row w0 A (l.map Bv)) : Calls Tryd.prog 32 #[.slice A n c, i6_ k] w0 fun e w' => ∃ eb, e = .returned (.tuple #[sl_ eb 0 0, .bool true]) ∧ Below w0.heap.size w0 w' := by
  obtain ⟨i0, his, hss⟩ := size_ss
  have hb7 := H.b7; have hb6 := H.b6; have hc3 := H.c3
  obtain ⟨w, hw⟩ : ∃ w, w0 = w := ⟨_, rfl⟩
  have HM : Mm [] w0 w [] := hw ▸ Mm.start w0
  conv => arg 4; rw [hw]
  clear hw
  refine calls_start Tryd.func32 rfl Tryd.ntmps32 [(0, .slice A n c), (1, i6_ k)] (by kernel_rfl) (Nat.le_of_ble_eq_true rfl) ?_
  intro a HF
  refine wp_seq (wp_region_lit ?_)
  refine wp_pure HF HM rfl 2 [] [(0, .slice A n c), (1, i6_ k)] (by kernel_rfl) ?_
  clear HF; intro a HF
  refine nil_then ?_
  refine wp_seq (wp_region_lit ?_)
  refine wp_pure HF HM rfl 1 [] [(1, i6_ k), (11, .slice A n c)] (by kernel_rfl) ?_
  clear HF; intro a HF
  refine wp_call HF (by kernel_rfl) 55 #[.slice A n c] (by kernel_rfl) (fun w => by kernel_rfl) (Calls.mono (open_any l A n c hl hnc wide big abi abiv tyN machN entryN phoffN phnumN shoffN shnumN sg sc nb H h47 w (HM.row hr)) ?_)
  rintro _ w1 ⟨bg, bcap, z, fb, pg, sg_, cur, scur, rfl, hb0, hnc2, hcap, hg0, hz0, hrow, hF⟩
  replace hb0 := (HM.call hb0).below; clear HM
  have HM : Mm [] w1 w1 [] := Mm.start w1
  refine ⟨_, rfl, ?_⟩; clear HF; intro a HF
  replace HF := HF.sub [(1, i6_ k), (12, .tuple #[pt_ fb, .bool true])] (by kernel_rfl)
  refine wp_pure HF HM rfl 5 [] [(1, i6_ k), (6, pt_ fb), (7, .bool true)] (by kernel_rfl) ?_
  clear HF; intro a HF
  refine nil_then ?_
  refine wp_seq ?_
  refine wp_seq (wp_region_lit ?_)
  refine wp_pure HF HM rfl 7 [] [(1, i6_ k), (6, pt_ fb), (21, .bool (decide (((k : Nat) : Int) < 0)))] (by kernel_rfl) ?_
  clear HF; intro a HF
  rw [show decide (((k : Nat) : Int) < 0) = false from dec_f (by omega)] at HF
  refine wp_pure HF HM rfl 4 [] [(1, i6_ k), (6, pt_ fb), (21, .bool false), (22, i6_ k), (25, .pointer (some ⟨fb, 9, none⟩))] (by kernel_rfl) ?_
  clear HF; intro a HF
  refine wp_run HF (by kernel_rfl) (sl_ sg_ shnumN shnumN) (by kernel_rfl) (run_load_one rfl rfl (by kernel_rfl) ((cell_of_row w1 fb 9 _ _ _ (HM.old hF.file)).trans rfl)) ?_
  clear HF; intro a HF; replace HF := HF.sub [(1, i6_ k), (6, pt_ fb), (21, .bool false), (22, i6_ k), (26, sl_ sg_ shnumN shnumN)] (by kernel_rfl)
  refine wp_pure HF HM rfl 3 [] [(1, i6_ k), (6, pt_ fb), (29, .bool (decide (((shnumN : Nat) : Int) ≤ ((k : Nat) : Int))))] (by kernel_rfl) ?_
  clear HF; intro a HF
  refine nil_then ?_
  rw [show decide (((shnumN : Nat) : Int) ≤ ((k : Nat) : Int)) = false from dec_f (by omega)] at HF
  refine wp_condF HF rfl ?_
  refine wp_skip ?_
  repeat (first | refine then_norm ?_ | refine inb_norm ?_)
  refine wp_seq (wp_region_lit ?_)
  refine wp_pure HF HM rfl 3 [] [(1, i6_ k), (33, .pointer (some ⟨fb, 9, none⟩))] (by kernel_rfl) ?_
  clear HF; intro a HF
  refine wp_run HF (by kernel_rfl) (sl_ sg_ shnumN shnumN) (by kernel_rfl) (run_load_one rfl rfl (by kernel_rfl) ((cell_of_row w1 fb 9 _ _ _ (HM.old hF.file)).trans rfl)) ?_
  clear HF; intro a HF; replace HF := HF.sub [(1, i6_ k), (34, sl_ sg_ shnumN shnumN)] (by kernel_rfl)
  refine wp_pure HF HM rfl 1 [] [(34, sl_ sg_ shnumN shnumN), (35, i6_ k)] (by kernel_rfl) ?_
  clear HF; intro a HF
  obtain ⟨pq, sq, q1, q2, q3, q4, q5⟩ := hF.sec k hk
  refine wp_run HF (by kernel_rfl) (.pointer (some ⟨sg_, k, none⟩)) (by kernel_rfl) ((run_index Tryd.underlying126 his hss rfl k rfl rfl (by omega))) ?_
  clear HF; intro a HF; replace HF := HF.sub [(36, .pointer (some ⟨sg_, k, none⟩))] (by kernel_rfl)
  refine wp_run HF (by kernel_rfl) (pt_ pq) (by kernel_rfl) (run_load_one rfl rfl (by kernel_rfl) ((cell_of_row w1 sg_ k _ _ _ (HM.old hF.secs)).trans q1)) ?_
  clear HF; intro a HF; replace HF := HF.sub [(37, pt_ pq)] (by kernel_rfl)
  refine wp_call HF (by kernel_rfl) 63 #[pt_ pq] (by kernel_rfl) (fun w => by kernel_rfl) (Calls.mono (nobSec0 pq _ _ _ _ _ _ _ _ _ _ _ _ _ w1 (by rw [HM.old q4, h8, hL]; rfl)) ?_)
  rintro _ w2 ⟨eb, rfl, hb⟩
  replace HM := HM.call hb
  clear hb
  refine ⟨_, rfl, ?_⟩; clear HF; intro a HF
  replace HF := HF.sub [(38, .tuple #[sl_ eb 0 0, .nilIface])] (by kernel_rfl)
  refine wp_pure HF HM rfl 5 [] [(8, sl_ eb 0 0), (9, .nilIface)] (by kernel_rfl) ?_
  clear HF; intro a HF
  refine nil_then ?_
  refine reg_quietw (by kernel_rfl) (by kernel_rfl) ?_
  refine quiet_sym HF HM rfl 5 [] [(4, sl_ eb 0 0), (5, .bool true)] (by kernel_rfl) ?_
  clear HF; intro a HF
  refine quiet_end ?_
  rintro w3 ⟨nq, hq⟩
  replace HM : Mm [] w1 w3 [] := by rw [hq]; exact HM.drewN nq
  clear hq nq
  refine wp_ret ?_
  repeat (first | refine then_ret ?_ | refine inb_ret ?_)
  exact ret_two HF rfl rfl rfl ⟨eb, rfl, hb0.trans (HM.below.mono hb0.size)⟩

end Go.Proofs.YtdgehpocmfjbiaaDoor
namespace Go.Proofs.YtdgehpocmfjbiaaDoor
open Go.RowKit
theorem sec_ways (ty size n : Nat) : (ty = 8 ∧ size = 0 ∧ sizeB ty size n = size) ∨ (ty = 8 ∧ 0 < size ∧ sizeB ty size n = size) ∨ (ty ≠ 8 ∧ n = 0 ∧ sizeB ty size n = n) ∨ (ty ≠ 8 ∧ 0 < n ∧ sizeB ty size n = n) := by
  unfold sizeB
  split <;> omega
theorem all_at {x : ImgM} {k : Nat} {m : PartM} (hm : x.ps[k]? = some m) : x.img.all[k + 1]? = some m.part := by
  have hk := (List.getElem?_eq_some_iff.1 hm).1
  show (nonePart :: x.ps.map PartM.part ++ [x.img.strPart])[k + 1]? = _
  rw [List.getElem?_append_left (by simp; omega), List.getElem?_cons_succ, List.getElem?_map, hm]; rfl
theorem all_str (x : ImgM) : x.img.all[x.ps.length + 1]? = some x.img.strPart := by
  show (nonePart :: x.ps.map PartM.part ++ [x.img.strPart])[x.ps.length + 1]? = _
  rw [List.getElem?_append_right (by simp)]; simp
theorem sc_ty {x : ImgM} {k : Nat} {m : PartM} (hm : x.ps[k]? = some m) : (scOf x.img (k + 1)).ty = m.ty := by unfold scOf; rw [all_at hm]; rfl
theorem sc_fsz {x : ImgM} {k : Nat} {m : PartM} (hm : x.ps[k]? = some m) : (scOf x.img (k + 1)).fsz = sizeB m.ty m.size m.data.length := by unfold scOf; rw [all_at hm]; rfl
theorem sc_ty8 {x : ImgM} {k : Nat} {m : PartM} (hm : x.ps[k]? = some m) (h : m.ty ≠ 8) : ((((scOf x.img (k + 1)).ty : Nat) : Int) == 8) = false := by rw [sc_ty hm]; exact beq_f (by omega)
theorem str_fsz (x : ImgM) : (scOf x.img (x.ps.length + 1)).fsz = (namesB x.img.names).length := by unfold scOf; rw [all_str]; rfl
theorem str_not8 (x : ImgM) : (scOf x.img (x.ps.length + 1)).ty ≠ 8 := by unfold scOf; rw [all_str]; exact (by decide : (3 : Nat) ≠ 8)
theorem str_ty (x : ImgM) : ((((scOf x.img (x.ps.length + 1)).ty : Nat) : Int) == 8) = false := beq_f (by have := str_not8 x; omega)
theorem nb_at {x : ImgM} {k : Nat} {m : PartM} (hm : x.ps[k]? = some m) : nbOf x.img (k + 1) = m.name := by
  have hk := (List.getElem?_eq_some_iff.1 hm).1
  have : x.img.names[k + 1]? = some m.name := by
    show ((nonePart :: x.ps.map PartM.part).map (·.name) ++ [shstr])[k + 1]? = _
    rw [List.getElem?_append_left (by simp; omega), List.map_cons, List.getElem?_cons_succ, List.getElem?_map, List.getElem?_map, hm]; rfl
  unfold nbOf; rw [this]; rfl
theorem nb_str (x : ImgM) : nbOf x.img (x.ps.length + 1) = shstr := by
  have : x.img.names[x.ps.length + 1]? = some shstr := by
    show ((nonePart :: x.ps.map PartM.part).map (·.name) ++ [shstr])[x.ps.length + 1]? = _
    rw [List.getElem?_append_right (by simp)]; simp
  unfold nbOf; rw [this]; rfl
theorem str_pos (x : ImgM) : 0 < (namesB x.img.names).length := by
  have h : x.img.names ≠ [] := by simp [Img.names]
  have := nameAt_lt x.img.names 0 (List.length_pos_iff.2 h)
  omega
theorem sec_rest (x : ImgM) (k : Nat) {p : Part} (h0 : 0 < k) (hp : x.img.all[k]? = some p) : ∃ r, x.img.file.drop (x.img.secPlace k) = fileData p ++ r := by
  obtain ⟨hlt, e⟩ := List.getElem?_eq_some_iff.1 hp
  obtain ⟨r, hr⟩ := x.img.sec_at k h0 hlt
  rw [e] at hr
  exact ⟨r, hr⟩
theorem sec_bytes (x : ImgM) (k : Nat) {m : PartM} (hm : x.ps[k]? = some m) (h8 : m.ty ≠ 8) : (x.img.file.drop (scOf x.img (k + 1)).off).take (scOf x.img (k + 1)).fsz = m.data := by
  obtain ⟨r, hr⟩ := sec_rest x (k + 1) (Nat.succ_pos k) (all_at hm)
  have e : (scOf x.img (k + 1)).off = x.img.secPlace (k + 1) := by unfold scOf; rw [all_at hm]
  have e2 : fileData m.part = m.data := if_neg h8
  rw [sc_fsz hm, e, hr, e2, show sizeB m.ty m.size m.data.length = m.data.length from if_neg h8, List.take_left]
theorem str_bytes (x : ImgM) : (x.img.file.drop (scOf x.img (x.ps.length + 1)).off).take (scOf x.img (x.ps.length + 1)).fsz = namesB x.img.names := by
  obtain ⟨r, hr⟩ := sec_rest x (x.ps.length + 1) (Nat.succ_pos _) (all_str x)
  have e : (scOf x.img (x.ps.length + 1)).off = x.img.secPlace (x.ps.length + 1) := by unfold scOf; rw [all_str]
  have e2 : fileData x.img.strPart = namesB x.img.names := rfl
  rw [str_fsz, e, hr, e2, List.take_left]
theorem sec_end (x : ImgM) (k : Nat) (h0 : 0 < k) (hk : k < x.ps.length + 2) (h8 : (scOf x.img k).ty ≠ 8) : (scOf x.img k).off + (scOf x.img k).fsz ≤ x.img.file.length := by
  have hk' : k < x.img.all.length := by rw [all_len]; exact hk
  have hp : x.img.all[k]? = some x.img.all[k] := List.getElem?_eq_getElem hk'
  obtain ⟨r, hr⟩ := sec_rest x k h0 hp
  have e0 : (scOf x.img k).ty = x.img.all[k].ty := by unfold scOf; rw [hp]
  have e : (scOf x.img k).off = x.img.secPlace k := by unfold scOf; rw [hp]
  have e1 : (scOf x.img k).fsz = partSize x.img.all[k] := by unfold scOf; rw [hp]
  have h9 : x.img.all[k].ty ≠ 8 := e0 ▸ h8
  have e2 : fileData x.img.all[k] = x.img.all[k].data := if_neg h9
  have e3 : partSize x.img.all[k] = x.img.all[k].data.length := if_neg h9
  have h1 := congrArg List.length hr
  rw [List.length_drop, List.length_append, e2] at h1
  rw [e, e1, e3]
  have h2 := x.img.secPlace_le k
  have h3 := x.img.file_length
  omega
theorem zip_no {nm : ByteArray} (h : zipB nm = false) : nm.size < 7 ∨ ((nm.extract 0 7).toList == (⟨#[46, 122, 100, 101, 98, 117, 103]⟩ : ByteArray).toList) = false := by
  unfold zipB at h
  by_cases h7 : 7 ≤ nm.size
  · rw [decide_eq_true h7, Bool.true_and] at h
    exact .inr h
  · exact .inl (by omega)
theorem sc_name {x : ImgM} {k : Nat} {m : PartM} (hm : x.ps[k]? = some m) (hz : zipB ⟨m.name.toArray⟩ = false) : (⟨(nbOf x.img (k + 1)).toArray⟩ : ByteArray).size < 7 ∨ (((⟨(nbOf x.img (k + 1)).toArray⟩ : ByteArray).extract 0 7).toList == (⟨#[46, 122, 100, 101, 98, 117, 103]⟩ : ByteArray).toList) = false := by
  rw [nb_at hm]
  exact zip_no hz
theorem str_name (x : ImgM) : (⟨(nbOf x.img (x.ps.length + 1)).toArray⟩ : ByteArray).size < 7 ∨ (((⟨(nbOf x.img (x.ps.length + 1)).toArray⟩ : ByteArray).extract 0 7).toList == (⟨#[46, 122, 100, 101, 98, 117, 103]⟩ : ByteArray).toList) = false := by
  rw [nb_str]
  exact zip_no (by decide +kernel)

end Go.Proofs.YtdgehpocmfjbiaaDoor
namespace Go.Proofs.YtdgehpocmfjbiaaDoor
open Go.RowKit

abbrev law_sectionBytes_B0 := fun z1 (x : ImgM) => ((z1, .cells #[.bool x.wide, .bool x.big, u8_ x.abi, u8_ x.abiv, .int .i64 x.ty, .int .i64 x.machine, u6_ x.entry, .slice x.A x.ss.length x.c, .slice x.B x.ps.length x.d] 26 (0, 0)) : Nat × Obj)
abbrev law_sectionBytes_S1 := fun k z1 eb => ([(1, i6_ k), (2, pt_ z1), (5, sl_ eb 0 0), (6, .bool true)] : Slots)
abbrev law_sectionBytes_P2 := fun (x : ImgM) => ((35, .agg #[.bool x.wide, .bool x.big, u8_ x.abi, u8_ x.abiv, .int .i64 x.ty, .int .i64 x.machine, u6_ x.entry, .slice x.A x.ss.length x.c, .slice x.B x.ps.length x.d]) : Nat × Value)
abbrev law_sectionBytes_P3 := fun tn (x : ImgM) => ((41, .tuple #[sl_ tn ((namesB x.img.names).length) ((namesB x.img.names).length), .bool true]) : Nat × Value)
abbrev law_sectionBytes_S4 := fun k z1 => ([(1, i6_ k), (2, pt_ z1), (5, nl_), (6, .bool false)] : Slots)
abbrev law_sectionBytes_S5 := fun k z1 tb (m9 : PartM) => ([(1, i6_ k), (2, pt_ z1), (5, sl_ tb m9.data.length m9.data.length), (6, .bool true)] : Slots)
set_option maxRecDepth 100000 in
set_option maxHeartbeats 1000000 in
theorem law_sectionBytes (x : ImgM) (a1 : Int) (w0 : World) (h : x.At w0) (b1 : -9223372036854775808 ≤ a1 ∧ a1 ≤ 9223372036854775807) : Calls Tryd.prog 9 #[x.val, .int .i64 a1] w0 fun e w' => e = .returned (.bool true) ∧ Below w0.heap.size w0 w' := by
  obtain ⟨w, hw⟩ : ∃ w, w0 = w := ⟨_, rfl⟩
  have HM : Mm [] w0 w [] := hw ▸ Mm.start w0
  conv => arg 4; rw [hw]
  clear hw
  refine calls_start Tryd.func9 rfl Tryd.ntmps9 [(0, .agg #[.bool x.wide, .bool x.big, u8_ x.abi, u8_ x.abiv, .int .i64 x.ty, .int .i64 x.machine, u6_ x.entry, .slice x.A x.ss.length x.c, .slice x.B x.ps.length x.d]), (1, .int .i64 a1)] (by kernel_rfl) (Nat.le_of_ble_eq_true rfl) ?_
  intro a HF
  refine wp_seq (wp_region_lit ?_)
  obtain ⟨z1, hz1⟩ : ∃ z, w.heap.size = z := ⟨_, rfl⟩
  refine wp_sym HF HM hz1 2 [] [(1, .int .i64 a1), (2, pt_ z1)] [law_sectionBytes_B0 z1 x] (by kernel_rfl) ?_
  clear HF HM hz1; intro a w HF HM
  refine nil_then ?_
  refine wp_seq ?_
  refine wp_seq (wp_region_lit ?_)
  refine wp_pure HF HM rfl 1 [[0]] [(1, .int .i64 a1), (2, pt_ z1), (9, .agg #[.bool x.wide, .bool x.big, u8_ x.abi, u8_ x.abiv, .int .i64 x.ty, .int .i64 x.machine, u6_ x.entry, .slice x.A x.ss.length x.c, .slice x.B x.ps.length x.d])] (by kernel_rfl) ?_
  clear HF; intro a HF
  refine wp_call HF (by kernel_rfl) 20 #[.agg #[.bool x.wide, .bool x.big, u8_ x.abi, u8_ x.abiv, .int .i64 x.ty, .int .i64 x.machine, u6_ x.entry, .slice x.A x.ss.length x.c, .slice x.B x.ps.length x.d]] (by kernel_rfl) (fun w => by kernel_rfl) (Calls.mono (zzFits1_any x w (h.below HM.below)) ?_)
  rintro _ w1 ⟨b1, rfl, hb⟩
  replace HM := HM.call hb
  clear hb
  refine ⟨_, rfl, ?_⟩; clear HF; intro a HF
  replace HF := HF.sub [(1, .int .i64 a1), (2, pt_ z1), (10, .bool b1)] (by kernel_rfl)
  rcases bool_cases2 b1 with hc2 | hc2
  · replace HF := Fr.sub (Fr.tell HF 10 rfl (congrArg Value.bool hc2)) [(1, .int .i64 a1), (2, pt_ z1), (10, .bool false)] (by kernel_rfl)
    refine wp_pure HF HM rfl 1 [] [(1, .int .i64 a1), (2, pt_ z1), (11, .bool true)] (by kernel_rfl) ?_
    clear HF; intro a HF
    refine nil_then ?_
    refine wp_condT HF rfl ?_
    refine wp_seq (wp_region_lit ?_)
    refine wp_pure HF HM rfl 1 [] [(4, .bool true)] (by kernel_rfl) ?_
    clear HF; intro a HF
    refine nil_then ?_
    refine wp_ret ?_
    repeat (first | refine then_ret ?_ | refine inb_ret ?_)
    exact ret_one HF rfl rfl ⟨rfl, HM.below⟩
  replace HF := Fr.sub (Fr.tell HF 10 rfl (congrArg Value.bool hc2)) [(1, .int .i64 a1), (2, pt_ z1), (10, .bool true)] (by kernel_rfl)
  refine wp_pure HF HM rfl 1 [] [(1, .int .i64 a1), (2, pt_ z1), (11, .bool false)] (by kernel_rfl) ?_
  clear HF; intro a HF
  refine nil_then ?_
  refine wp_condF HF rfl ?_
  refine wp_skip ?_
  repeat (first | refine then_norm ?_ | refine inb_norm ?_)
  refine wp_seq ?_
  refine wp_seq (wp_region_lit ?_)
  refine wp_pure HF HM rfl 1 [[0]] [(1, .int .i64 a1), (2, pt_ z1), (12, .agg #[.bool x.wide, .bool x.big, u8_ x.abi, u8_ x.abiv, .int .i64 x.ty, .int .i64 x.machine, u6_ x.entry, .slice x.A x.ss.length x.c, .slice x.B x.ps.length x.d])] (by kernel_rfl) ?_
  clear HF; intro a HF
  refine wp_call HF (by kernel_rfl) 22 #[.agg #[.bool x.wide, .bool x.big, u8_ x.abi, u8_ x.abiv, .int .i64 x.ty, .int .i64 x.machine, u6_ x.entry, .slice x.A x.ss.length x.c, .slice x.B x.ps.length x.d]] (by kernel_rfl) (fun w => by kernel_rfl) (Calls.mono (isImage_any x w1 (h.below HM.below)) ?_)
  rintro _ w2 ⟨b3, rfl, hb, hok4⟩
  replace HM := HM.call hb
  clear hb
  refine ⟨_, rfl, ?_⟩; clear HF; intro a HF
  replace HF := HF.sub [(1, .int .i64 a1), (2, pt_ z1), (13, .bool b3)] (by kernel_rfl)
  rcases bool_cases2 b3 with hc5 | hc5
  · replace HF := Fr.sub (Fr.tell HF 13 rfl (congrArg Value.bool hc5)) [(1, .int .i64 a1), (2, pt_ z1), (13, .bool false)] (by kernel_rfl)
    refine wp_pure HF HM rfl 12 [] [(1, .int .i64 a1), (2, pt_ z1), (25, .bool true)] (by kernel_rfl) ?_
    clear HF; intro a HF
    refine nil_then ?_
    refine wp_condT HF rfl ?_
    refine wp_seq (wp_region_lit ?_)
    refine wp_pure HF HM rfl 1 [] [(4, .bool true)] (by kernel_rfl) ?_
    clear HF; intro a HF
    refine nil_then ?_
    refine wp_ret ?_
    repeat (first | refine then_ret ?_ | refine inb_ret ?_)
    exact ret_one HF rfl rfl ⟨rfl, HM.below⟩
  replace HF := Fr.sub (Fr.tell HF 13 rfl (congrArg Value.bool hc5)) [(1, .int .i64 a1), (2, pt_ z1), (13, .bool true)] (by kernel_rfl)
  refine wp_pure HF HM rfl 6 [] [(1, .int .i64 a1), (2, pt_ z1), (19, .bool (decide (a1 < 0)))] (by kernel_rfl) ?_
  clear HF; intro a HF
  by_cases hc6 : a1 < 0
  · rw [show decide (a1 < 0) = true from dec_t (hc6)] at HF
    refine wp_pure HF HM rfl 6 [] [(1, .int .i64 a1), (2, pt_ z1), (25, .bool true)] (by kernel_rfl) ?_
    clear HF; intro a HF
    refine nil_then ?_
    refine wp_condT HF rfl ?_
    refine wp_seq (wp_region_lit ?_)
    refine wp_pure HF HM rfl 1 [] [(4, .bool true)] (by kernel_rfl) ?_
    clear HF; intro a HF
    refine nil_then ?_
    refine wp_ret ?_
    repeat (first | refine then_ret ?_ | refine inb_ret ?_)
    exact ret_one HF rfl rfl ⟨rfl, HM.below⟩
  rw [show decide (a1 < 0) = false from dec_f (hc6)] at HF
  obtain ⟨k, rfl⟩ : ∃ k : Nat, a1 = ((k : Nat) : Int) := ⟨a1.toNat, by omega⟩
  refine wp_pure HF HM rfl 6 [[0]] [(1, i6_ k), (2, pt_ z1), (25, .bool (decide (((x.ps.length : Nat) : Int) ≤ ((k : Nat) : Int))))] (by kernel_rfl) ?_
  clear HF; intro a HF
  refine nil_then ?_
  by_cases hc7 : ((x.ps.length : Nat) : Int) ≤ ((k : Nat) : Int)
  · rw [show decide (((x.ps.length : Nat) : Int) ≤ ((k : Nat) : Int)) = true from dec_t (hc7)] at HF
    refine wp_condT HF rfl ?_
    refine wp_seq (wp_region_lit ?_)
    refine wp_pure HF HM rfl 1 [] [(4, .bool true)] (by kernel_rfl) ?_
    clear HF; intro a HF
    refine nil_then ?_
    refine wp_ret ?_
    repeat (first | refine then_ret ?_ | refine inb_ret ?_)
    exact ret_one HF rfl rfl ⟨rfl, HM.below⟩
  rw [show decide (((x.ps.length : Nat) : Int) ≤ ((k : Nat) : Int)) = false from dec_f (hc7)] at HF
  refine wp_condF HF rfl ?_
  refine wp_skip ?_
  repeat (first | refine then_norm ?_ | refine inb_norm ?_)
  refine wp_seq (wp_region_lit ?_)
  refine wp_pure HF HM rfl 1 [[0]] [(1, i6_ k), (2, pt_ z1), (27, .agg #[.bool x.wide, .bool x.big, u8_ x.abi, u8_ x.abiv, .int .i64 x.ty, .int .i64 x.machine, u6_ x.entry, .slice x.A x.ss.length x.c, .slice x.B x.ps.length x.d])] (by kernel_rfl) ?_
  clear HF; intro a HF
  have ok := (hok4 hc5).1
  have iok := ImgM.ok ok h
  have hk2 := ok.parts
  refine wp_call HF (by kernel_rfl) 25 #[.agg #[.bool x.wide, .bool x.big, u8_ x.abi, u8_ x.abiv, .int .i64 x.ty, .int .i64 x.machine, u6_ x.entry, .slice x.A x.ss.length x.c, .slice x.B x.ps.length x.d]] (by kernel_rfl) (fun w => by kernel_rfl) (Calls.mono (fileOf_any x w2 (h.below HM.below) ok) ?_)
  rintro _ w3 ⟨gf8, capf8, curf8, rfl, hb, hof8⟩
  replace HM : Mm [] w0 w3 [(gf8, .cells curf8 5 (0, 0)), law_sectionBytes_B0 z1 x] := HM.push hb hof8.new hof8.obj
  clear hb
  refine ⟨_, rfl, ?_⟩; clear HF; intro a HF
  replace HF := HF.sub [(1, i6_ k), (2, pt_ z1), (28, sl_ gf8 x.img.file.length capf8)] (by kernel_rfl)
  refine wp_pure HF HM rfl 2 [] [(1, i6_ k), (2, pt_ z1), (28, sl_ gf8 x.img.file.length capf8), (30, iI_ (IntKind.i64.wrap (((k : Nat) : Int) + 1)))] (by kernel_rfl) ?_
  clear HF; intro a HF
  rw [show IntKind.i64.wrap (((k : Nat) : Int) + 1) = (((k + 1) : Nat) : Int) from (IntWalk.i64_in _ (by omega)).trans (by omega)] at HF
  obtain ⟨m9, hm9⟩ : ∃ m, x.ps[k]? = some m := ⟨_, List.getElem?_eq_getElem (by omega)⟩
  have hpo := ok.part m9 (List.mem_of_getElem? hm9)
  have hpa := h.part m9 (List.mem_of_getElem? hm9)
  have hz1_ := hpo.data; have hz2_ := hpo.size; have hz3_ := hpa.c1
  have hfz_tb : (scOf x.img (k + 1)).fsz = sizeB m9.ty m9.size m9.data.length := sc_fsz hm9
  rcases sec_ways m9.ty m9.size m9.data.length with ⟨y1, y2, y3⟩ | ⟨y1, y2, y3⟩ | ⟨y1, y2, y3⟩ | ⟨y1, y2, y3⟩
  · rw [y3] at hfz_tb
    refine wp_call HF (by kernel_rfl) 32 #[sl_ gf8 x.img.file.length capf8, i6_ (k + 1)] (by kernel_rfl) (fun w => by kernel_rfl) (Calls.mono (nobBytes0 x.img.file _ _ _ rfl hof8.nc x.img.wide x.img.big x.img.abi x.img.abiv x.img.ty x.img.machine x.img.entry (hSize x.img.wide) x.img.segs.length x.img.shoff x.img.all.length (sgOf x.img) (scOf x.img) (nbOf x.img) (good_file iok) (by have hq := Img.Ok.length_le iok; omega) (k + 1) (by rw [all_len]; omega) ((sc_ty hm9).trans y1) (by omega) w3 (HM.rowOwn (i := 0) rfl hof8.tk)) ?_)
    rintro _ w4 ⟨eb, rfl, hb⟩
    replace HM := HM.call hb
    clear hb
    refine ⟨_, rfl, ?_⟩; clear HF; intro a HF
    replace HF := HF.sub [(1, i6_ k), (2, pt_ z1), (31, .tuple #[sl_ eb 0 0, .bool true])] (by kernel_rfl)
    refine wp_pure HF HM rfl 5 [] (law_sectionBytes_S1 k z1 eb) (by kernel_rfl) ?_
    clear HF; intro a HF
    refine nil_then ?_
    refine reg_plan HM (by kernel_rfl) [(gf8, .cells curf8 5 (0, 0)), law_sectionBytes_B0 z1 x] [(0, false), (2, false), (3, false), (4, false), (5, false), (1, true), (6, true), (7, false), (8, false), (9, false), (10, false), (11, false)] (by kernel_rfl) ?_
    clear HM; intro w5 HM
    refine plan_sym HF (HM.told [0, 1] rfl) 5 [[0], [0]] ((law_sectionBytes_S1 k z1 eb) ++ [law_sectionBytes_P2 x, (40, iI_ (IntKind.i64.wrap (((x.ps.length : Nat) : Int) + 1)))]) (by kernel_rfl) ?_
    clear HF; intro a HF
    rw [show IntKind.i64.wrap (((x.ps.length : Nat) : Int) + 1) = (((x.ps.length + 1) : Nat) : Int) from (IntWalk.i64_in _ (by omega)).trans (by omega)] at HF
    refine plan_force rfl ?_
    refine wp_call HF (by kernel_rfl) 25 #[.agg #[.bool x.wide, .bool x.big, u8_ x.abi, u8_ x.abiv, .int .i64 x.ty, .int .i64 x.machine, u6_ x.entry, .slice x.A x.ss.length x.c, .slice x.B x.ps.length x.d]] (by kernel_rfl) (fun w => by kernel_rfl) (Calls.mono (fileOf_any x w5 (h.below HM.below) ok) ?_)
    rintro _ w6 ⟨gf10, capf10, curf10, rfl, hb, hof10⟩
    replace HM : Mm [] w0 w6 [(gf10, .cells curf10 5 (0, 0)), (gf8, .cells curf8 5 (0, 0)), law_sectionBytes_B0 z1 x] := HM.push hb hof10.new hof10.obj
    clear hb
    refine ⟨_, rfl, ?_⟩; clear HF; intro a HF
    replace HF := HF.sub ((law_sectionBytes_S1 k z1 eb) ++ [(36, sl_ gf10 x.img.file.length capf10), (40, i6_ (x.ps.length + 1))]) (by kernel_rfl)
    refine only_end (HM.told [1, 2] rfl) ?_
    refine plan_force rfl ?_
    have hfz_tn : (scOf x.img (x.ps.length + 1)).fsz = (namesB x.img.names).length := str_fsz x
    refine wp_call HF (by kernel_rfl) 32 #[sl_ gf10 x.img.file.length capf10, i6_ (x.ps.length + 1)] (by kernel_rfl) (fun w => by kernel_rfl) (Calls.mono (secBytes_full x.img.file _ _ _ rfl hof10.nc x.img.wide x.img.big x.img.abi x.img.abiv x.img.ty x.img.machine x.img.entry (hSize x.img.wide) x.img.segs.length x.img.shoff x.img.all.length (sgOf x.img) (scOf x.img) (nbOf x.img) (good_file iok) (by have hq := Img.Ok.length_le iok; omega) (x.ps.length + 1) (by rw [all_len]; omega) (str_ty x) (str_name x) (by rw [hfz_tn]; exact str_pos x) (by rw [hfz_tn]; have := iok.namesB_le; omega) (sec_end x (x.ps.length + 1) (by omega) (by omega) (str_not8 x)) w6 (HM.rowOwn (i := 0) rfl hof10.tk)) ?_)
    rintro _ w7 ⟨tn, rfl, hb, hge, hob⟩
    rw [str_bytes x] at hob
    replace HM : Mm [] w0 w7 [(tn, .cells ((namesB x.img.names).map Bv).toArray 5 (0, 0)), (gf10, .cells curf10 5 (0, 0)), (gf8, .cells curf8 5 (0, 0)), law_sectionBytes_B0 z1 x] := HM.push hb hge hob
    clear hb
    refine ⟨_, rfl, ?_⟩; clear HF; intro a HF
    rw [show (scOf x.img (x.ps.length + 1)).fsz = (namesB x.img.names).length from hfz_tn] at HF
    replace HF := HF.sub ((law_sectionBytes_S1 k z1 eb) ++ [law_sectionBytes_P3 tn x]) (by kernel_rfl)
    refine only_end (HM.told [2, 3] rfl) ?_
    refine plan_sym HF (HM.told [2, 3] rfl) 5 [] ((law_sectionBytes_S1 k z1 eb) ++ [(8, .bool true)]) (by kernel_rfl) ?_
    clear HF; intro a HF
    refine plan_end ?_
    refine then_norm ?_
    refine wp_seq ?_
    refine wp_seq (wp_region_lit ?_)
    refine wp_pure HF HM rfl 3 [[0]] ((law_sectionBytes_S1 k z1 eb) ++ [(8, .bool true), (45, .slice x.B x.ps.length x.d), (46, i6_ k)]) (by kernel_rfl) ?_
    clear HF; intro a HF
    obtain ⟨b11, o12, hA13⟩ := row_some (HM.row h.parts) (List.length_pos_of_mem (List.mem_flatMap.2 ⟨m9, List.mem_of_getElem? hm9, List.mem_cons_self⟩))
    refine wp_run HF (by kernel_rfl) (.pointer (some ⟨b11, o12 + k * 10, none⟩)) (by kernel_rfl) (run_index_at Tryd.underlying24 (by kernel_rfl) rfl k hA13 rfl rfl (by omega)) ?_
    clear HF; intro a HF; replace HF := HF.sub ((law_sectionBytes_S1 k z1 eb) ++ [(8, .bool true), (47, .pointer (some ⟨b11, o12 + k * 10, none⟩))]) (by kernel_rfl)
    refine wp_pure HF HM rfl 1 [] ((law_sectionBytes_S1 k z1 eb) ++ [(8, .bool true), (48, .pointer (some ⟨b11, o12 + k * 10 + 1, none⟩))]) (by kernel_rfl) ?_
    clear HF; intro a HF
    refine wp_run HF (by kernel_rfl) (u3_ m9.ty) (by kernel_rfl) (run_load_row1 rfl rfl (row_fld (row_at_elem (f := PartM.cells) (k := 10) (fun _ => rfl) hA13 (HM.row h.parts) k hm9) 1 rfl) (by kernel_rfl)) ?_
    clear HF; intro a HF; replace HF := HF.sub ((law_sectionBytes_S1 k z1 eb) ++ [(8, .bool true), (49, u3_ m9.ty)]) (by kernel_rfl)
    refine wp_pure HF HM rfl 1 [] ((law_sectionBytes_S1 k z1 eb) ++ [(8, .bool true), (50, .bool (((m9.ty : Nat) : Int) == 8))]) (by kernel_rfl) ?_
    clear HF; intro a HF
    refine nil_then ?_
    rw [show (((m9.ty : Nat) : Int) == 8) = true from beq_t (by omega)] at HF
    refine wp_condT HF rfl ?_
    refine wp_seq (wp_region_lit ?_)
    refine wp_pure HF HM rfl 3 [[0]] [(6, .bool true), (8, .bool true), (52, .slice x.B x.ps.length x.d), (53, i6_ k)] (by kernel_rfl) ?_
    clear HF; intro a HF
    refine wp_run HF (by kernel_rfl) (.pointer (some ⟨b11, o12 + k * 10, none⟩)) (by kernel_rfl) (run_index_at Tryd.underlying24 (by kernel_rfl) rfl k hA13 rfl rfl (by omega)) ?_
    clear HF; intro a HF; replace HF := HF.sub [(6, .bool true), (8, .bool true), (54, .pointer (some ⟨b11, o12 + k * 10, none⟩))] (by kernel_rfl)
    refine wp_pure HF HM rfl 1 [] [(6, .bool true), (8, .bool true), (55, .pointer (some ⟨b11, o12 + k * 10 + 8, none⟩))] (by kernel_rfl) ?_
    clear HF; intro a HF
    refine wp_run HF (by kernel_rfl) (u6_ m9.size) (by kernel_rfl) (run_load_row1 rfl rfl (row_fld (row_at_elem (f := PartM.cells) (k := 10) (fun _ => rfl) hA13 (HM.row h.parts) k hm9) 8 rfl) (by kernel_rfl)) ?_
    clear HF; intro a HF; replace HF := HF.sub [(6, .bool true), (8, .bool true), (56, u6_ m9.size)] (by kernel_rfl)
    refine wp_pure HF HM rfl 2 [] [(6, .bool true), (8, .bool true), (58, .bool (((m9.size : Nat) : Int) == 0))] (by kernel_rfl) ?_
    clear HF; intro a HF
    rw [show (((m9.size : Nat) : Int) == 0) = true from beq_t (by omega)] at HF
    refine wp_pure HF HM rfl 7 [] [(4, .bool true)] (by kernel_rfl) ?_
    clear HF; intro a HF
    refine nil_then ?_
    refine wp_ret ?_
    repeat (first | refine then_ret ?_ | refine inb_ret ?_)
    exact ret_one HF rfl rfl ⟨rfl, HM.below⟩
  · rw [y3] at hfz_tb
    refine wp_call HF (by kernel_rfl) 32 #[sl_ gf8 x.img.file.length capf8, i6_ (k + 1)] (by kernel_rfl) (fun w => by kernel_rfl) (Calls.mono (nobBytes x.img.file _ _ _ rfl hof8.nc x.img.wide x.img.big x.img.abi x.img.abiv x.img.ty x.img.machine x.img.entry (hSize x.img.wide) x.img.segs.length x.img.shoff x.img.all.length (sgOf x.img) (scOf x.img) (nbOf x.img) (good_file iok) (by have hq := Img.Ok.length_le iok; omega) (k + 1) (by rw [all_len]; omega) ((sc_ty hm9).trans y1) (by omega) (by omega) w3 (HM.rowOwn (i := 0) rfl hof8.tk)) ?_)
    rintro _ w8 ⟨rfl, hb⟩
    replace HM := HM.call hb
    clear hb
    refine ⟨_, rfl, ?_⟩; clear HF; intro a HF
    replace HF := HF.sub [(1, i6_ k), (2, pt_ z1), (31, .tuple #[nl_, .bool false])] (by kernel_rfl)
    refine wp_pure HF HM rfl 5 [] (law_sectionBytes_S4 k z1) (by kernel_rfl) ?_
    clear HF; intro a HF
    refine nil_then ?_
    refine reg_plan HM (by kernel_rfl) [(gf8, .cells curf8 5 (0, 0)), law_sectionBytes_B0 z1 x] [(0, false), (2, false), (3, false), (4, false), (5, false), (1, true), (6, true), (7, false), (8, false), (9, false), (10, false), (11, false)] (by kernel_rfl) ?_
    clear HM; intro w9 HM
    refine plan_sym HF (HM.told [0, 1] rfl) 5 [[0], [0]] ((law_sectionBytes_S4 k z1) ++ [law_sectionBytes_P2 x, (40, iI_ (IntKind.i64.wrap (((x.ps.length : Nat) : Int) + 1)))]) (by kernel_rfl) ?_
    clear HF; intro a HF
    rw [show IntKind.i64.wrap (((x.ps.length : Nat) : Int) + 1) = (((x.ps.length + 1) : Nat) : Int) from (IntWalk.i64_in _ (by omega)).trans (by omega)] at HF
    refine plan_force rfl ?_
    refine wp_call HF (by kernel_rfl) 25 #[.agg #[.bool x.wide, .bool x.big, u8_ x.abi, u8_ x.abiv, .int .i64 x.ty, .int .i64 x.machine, u6_ x.entry, .slice x.A x.ss.length x.c, .slice x.B x.ps.length x.d]] (by kernel_rfl) (fun w => by kernel_rfl) (Calls.mono (fileOf_any x w9 (h.below HM.below) ok) ?_)
    rintro _ w10 ⟨gf14, capf14, curf14, rfl, hb, hof14⟩
    replace HM : Mm [] w0 w10 [(gf14, .cells curf14 5 (0, 0)), (gf8, .cells curf8 5 (0, 0)), law_sectionBytes_B0 z1 x] := HM.push hb hof14.new hof14.obj
    clear hb
    refine ⟨_, rfl, ?_⟩; clear HF; intro a HF
    replace HF := HF.sub ((law_sectionBytes_S4 k z1) ++ [(36, sl_ gf14 x.img.file.length capf14), (40, i6_ (x.ps.length + 1))]) (by kernel_rfl)
    refine only_end (HM.told [1, 2] rfl) ?_
    refine plan_force rfl ?_
    have hfz_tn : (scOf x.img (x.ps.length + 1)).fsz = (namesB x.img.names).length := str_fsz x
    refine wp_call HF (by kernel_rfl) 32 #[sl_ gf14 x.img.file.length capf14, i6_ (x.ps.length + 1)] (by kernel_rfl) (fun w => by kernel_rfl) (Calls.mono (secBytes_full x.img.file _ _ _ rfl hof14.nc x.img.wide x.img.big x.img.abi x.img.abiv x.img.ty x.img.machine x.img.entry (hSize x.img.wide) x.img.segs.length x.img.shoff x.img.all.length (sgOf x.img) (scOf x.img) (nbOf x.img) (good_file iok) (by have hq := Img.Ok.length_le iok; omega) (x.ps.length + 1) (by rw [all_len]; omega) (str_ty x) (str_name x) (by rw [hfz_tn]; exact str_pos x) (by rw [hfz_tn]; have := iok.namesB_le; omega) (sec_end x (x.ps.length + 1) (by omega) (by omega) (str_not8 x)) w10 (HM.rowOwn (i := 0) rfl hof14.tk)) ?_)
    rintro _ w11 ⟨tn, rfl, hb, hge, hob⟩
    rw [str_bytes x] at hob
    replace HM : Mm [] w0 w11 [(tn, .cells ((namesB x.img.names).map Bv).toArray 5 (0, 0)), (gf14, .cells curf14 5 (0, 0)), (gf8, .cells curf8 5 (0, 0)), law_sectionBytes_B0 z1 x] := HM.push hb hge hob
    clear hb
    refine ⟨_, rfl, ?_⟩; clear HF; intro a HF
    rw [show (scOf x.img (x.ps.length + 1)).fsz = (namesB x.img.names).length from hfz_tn] at HF
    replace HF := HF.sub ((law_sectionBytes_S4 k z1) ++ [law_sectionBytes_P3 tn x]) (by kernel_rfl)
    refine only_end (HM.told [2, 3] rfl) ?_
    refine plan_sym HF (HM.told [2, 3] rfl) 5 [] ((law_sectionBytes_S4 k z1) ++ [(8, .bool true)]) (by kernel_rfl) ?_
    clear HF; intro a HF
    refine plan_end ?_
    refine then_norm ?_
    refine wp_seq ?_
    refine wp_seq (wp_region_lit ?_)
    refine wp_pure HF HM rfl 3 [[0]] ((law_sectionBytes_S4 k z1) ++ [(8, .bool true), (45, .slice x.B x.ps.length x.d), (46, i6_ k)]) (by kernel_rfl) ?_
    clear HF; intro a HF
    obtain ⟨b15, o16, hA17⟩ := row_some (HM.row h.parts) (List.length_pos_of_mem (List.mem_flatMap.2 ⟨m9, List.mem_of_getElem? hm9, List.mem_cons_self⟩))
    refine wp_run HF (by kernel_rfl) (.pointer (some ⟨b15, o16 + k * 10, none⟩)) (by kernel_rfl) (run_index_at Tryd.underlying24 (by kernel_rfl) rfl k hA17 rfl rfl (by omega)) ?_
    clear HF; intro a HF; replace HF := HF.sub ((law_sectionBytes_S4 k z1) ++ [(8, .bool true), (47, .pointer (some ⟨b15, o16 + k * 10, none⟩))]) (by kernel_rfl)
    refine wp_pure HF HM rfl 1 [] ((law_sectionBytes_S4 k z1) ++ [(8, .bool true), (48, .pointer (some ⟨b15, o16 + k * 10 + 1, none⟩))]) (by kernel_rfl) ?_
    clear HF; intro a HF
    refine wp_run HF (by kernel_rfl) (u3_ m9.ty) (by kernel_rfl) (run_load_row1 rfl rfl (row_fld (row_at_elem (f := PartM.cells) (k := 10) (fun _ => rfl) hA17 (HM.row h.parts) k hm9) 1 rfl) (by kernel_rfl)) ?_
    clear HF; intro a HF; replace HF := HF.sub ((law_sectionBytes_S4 k z1) ++ [(8, .bool true), (49, u3_ m9.ty)]) (by kernel_rfl)
    refine wp_pure HF HM rfl 1 [] ((law_sectionBytes_S4 k z1) ++ [(8, .bool true), (50, .bool (((m9.ty : Nat) : Int) == 8))]) (by kernel_rfl) ?_
    clear HF; intro a HF
    refine nil_then ?_
    rw [show (((m9.ty : Nat) : Int) == 8) = true from beq_t (by omega)] at HF
    refine wp_condT HF rfl ?_
    refine wp_seq (wp_region_lit ?_)
    refine wp_pure HF HM rfl 3 [[0]] [(6, .bool false), (8, .bool true), (52, .slice x.B x.ps.length x.d), (53, i6_ k)] (by kernel_rfl) ?_
    clear HF; intro a HF
    refine wp_run HF (by kernel_rfl) (.pointer (some ⟨b15, o16 + k * 10, none⟩)) (by kernel_rfl) (run_index_at Tryd.underlying24 (by kernel_rfl) rfl k hA17 rfl rfl (by omega)) ?_
    clear HF; intro a HF; replace HF := HF.sub [(6, .bool false), (8, .bool true), (54, .pointer (some ⟨b15, o16 + k * 10, none⟩))] (by kernel_rfl)
    refine wp_pure HF HM rfl 1 [] [(6, .bool false), (8, .bool true), (55, .pointer (some ⟨b15, o16 + k * 10 + 8, none⟩))] (by kernel_rfl) ?_
    clear HF; intro a HF
    refine wp_run HF (by kernel_rfl) (u6_ m9.size) (by kernel_rfl) (run_load_row1 rfl rfl (row_fld (row_at_elem (f := PartM.cells) (k := 10) (fun _ => rfl) hA17 (HM.row h.parts) k hm9) 8 rfl) (by kernel_rfl)) ?_
    clear HF; intro a HF; replace HF := HF.sub [(6, .bool false), (8, .bool true), (56, u6_ m9.size)] (by kernel_rfl)
    refine wp_pure HF HM rfl 2 [] [(6, .bool false), (8, .bool true), (58, .bool (((m9.size : Nat) : Int) == 0))] (by kernel_rfl) ?_
    clear HF; intro a HF
    rw [show (((m9.size : Nat) : Int) == 0) = false from beq_f (by omega)] at HF
    refine wp_pure HF HM rfl 7 [] [(4, .bool true)] (by kernel_rfl) ?_
    clear HF; intro a HF
    refine nil_then ?_
    refine wp_ret ?_
    repeat (first | refine then_ret ?_ | refine inb_ret ?_)
    exact ret_one HF rfl rfl ⟨rfl, HM.below⟩
  · rw [y3] at hfz_tb
    refine wp_call HF (by kernel_rfl) 32 #[sl_ gf8 x.img.file.length capf8, i6_ (k + 1)] (by kernel_rfl) (fun w => by kernel_rfl) (Calls.mono (secBytes_zero x.img.file _ _ _ rfl hof8.nc x.img.wide x.img.big x.img.abi x.img.abiv x.img.ty x.img.machine x.img.entry (hSize x.img.wide) x.img.segs.length x.img.shoff x.img.all.length (sgOf x.img) (scOf x.img) (nbOf x.img) (good_file iok) (by have hq := Img.Ok.length_le iok; omega) (k + 1) (by rw [all_len]; omega) (sc_ty8 hm9 y1) (sc_name hm9 hpo.zip) (by omega) w3 (HM.rowOwn (i := 0) rfl hof8.tk)) ?_)
    rintro _ w12 ⟨eb, rfl, hb⟩
    replace HM := HM.call hb
    clear hb
    refine ⟨_, rfl, ?_⟩; clear HF; intro a HF
    replace HF := HF.sub [(1, i6_ k), (2, pt_ z1), (31, .tuple #[sl_ eb 0 0, .bool true])] (by kernel_rfl)
    refine wp_pure HF HM rfl 5 [] (law_sectionBytes_S1 k z1 eb) (by kernel_rfl) ?_
    clear HF; intro a HF
    refine nil_then ?_
    refine reg_plan HM (by kernel_rfl) [(gf8, .cells curf8 5 (0, 0)), law_sectionBytes_B0 z1 x] [(0, false), (2, false), (3, false), (4, false), (5, false), (1, true), (6, true), (7, false), (8, false), (9, false), (10, false), (11, false)] (by kernel_rfl) ?_
    clear HM; intro w13 HM
    refine plan_sym HF (HM.told [0, 1] rfl) 5 [[0], [0]] ((law_sectionBytes_S1 k z1 eb) ++ [law_sectionBytes_P2 x, (40, iI_ (IntKind.i64.wrap (((x.ps.length : Nat) : Int) + 1)))]) (by kernel_rfl) ?_
    clear HF; intro a HF
    rw [show IntKind.i64.wrap (((x.ps.length : Nat) : Int) + 1) = (((x.ps.length + 1) : Nat) : Int) from (IntWalk.i64_in _ (by omega)).trans (by omega)] at HF
    refine plan_force rfl ?_
    refine wp_call HF (by kernel_rfl) 25 #[.agg #[.bool x.wide, .bool x.big, u8_ x.abi, u8_ x.abiv, .int .i64 x.ty, .int .i64 x.machine, u6_ x.entry, .slice x.A x.ss.length x.c, .slice x.B x.ps.length x.d]] (by kernel_rfl) (fun w => by kernel_rfl) (Calls.mono (fileOf_any x w13 (h.below HM.below) ok) ?_)
    rintro _ w14 ⟨gf18, capf18, curf18, rfl, hb, hof18⟩
    replace HM : Mm [] w0 w14 [(gf18, .cells curf18 5 (0, 0)), (gf8, .cells curf8 5 (0, 0)), law_sectionBytes_B0 z1 x] := HM.push hb hof18.new hof18.obj
    clear hb
    refine ⟨_, rfl, ?_⟩; clear HF; intro a HF
    replace HF := HF.sub ((law_sectionBytes_S1 k z1 eb) ++ [(36, sl_ gf18 x.img.file.length capf18), (40, i6_ (x.ps.length + 1))]) (by kernel_rfl)
    refine only_end (HM.told [1, 2] rfl) ?_
    refine plan_force rfl ?_
    have hfz_tn : (scOf x.img (x.ps.length + 1)).fsz = (namesB x.img.names).length := str_fsz x
    refine wp_call HF (by kernel_rfl) 32 #[sl_ gf18 x.img.file.length capf18, i6_ (x.ps.length + 1)] (by kernel_rfl) (fun w => by kernel_rfl) (Calls.mono (secBytes_full x.img.file _ _ _ rfl hof18.nc x.img.wide x.img.big x.img.abi x.img.abiv x.img.ty x.img.machine x.img.entry (hSize x.img.wide) x.img.segs.length x.img.shoff x.img.all.length (sgOf x.img) (scOf x.img) (nbOf x.img) (good_file iok) (by have hq := Img.Ok.length_le iok; omega) (x.ps.length + 1) (by rw [all_len]; omega) (str_ty x) (str_name x) (by rw [hfz_tn]; exact str_pos x) (by rw [hfz_tn]; have := iok.namesB_le; omega) (sec_end x (x.ps.length + 1) (by omega) (by omega) (str_not8 x)) w14 (HM.rowOwn (i := 0) rfl hof18.tk)) ?_)
    rintro _ w15 ⟨tn, rfl, hb, hge, hob⟩
    rw [str_bytes x] at hob
    replace HM : Mm [] w0 w15 [(tn, .cells ((namesB x.img.names).map Bv).toArray 5 (0, 0)), (gf18, .cells curf18 5 (0, 0)), (gf8, .cells curf8 5 (0, 0)), law_sectionBytes_B0 z1 x] := HM.push hb hge hob
    clear hb
    refine ⟨_, rfl, ?_⟩; clear HF; intro a HF
    rw [show (scOf x.img (x.ps.length + 1)).fsz = (namesB x.img.names).length from hfz_tn] at HF
    replace HF := HF.sub ((law_sectionBytes_S1 k z1 eb) ++ [law_sectionBytes_P3 tn x]) (by kernel_rfl)
    refine only_end (HM.told [2, 3] rfl) ?_
    refine plan_sym HF (HM.told [2, 3] rfl) 5 [] ((law_sectionBytes_S1 k z1 eb) ++ [(8, .bool true)]) (by kernel_rfl) ?_
    clear HF; intro a HF
    refine plan_end ?_
    refine then_norm ?_
    refine wp_seq ?_
    refine wp_seq (wp_region_lit ?_)
    refine wp_pure HF HM rfl 3 [[0]] ((law_sectionBytes_S1 k z1 eb) ++ [(8, .bool true), (45, .slice x.B x.ps.length x.d), (46, i6_ k)]) (by kernel_rfl) ?_
    clear HF; intro a HF
    obtain ⟨b19, o20, hA21⟩ := row_some (HM.row h.parts) (List.length_pos_of_mem (List.mem_flatMap.2 ⟨m9, List.mem_of_getElem? hm9, List.mem_cons_self⟩))
    refine wp_run HF (by kernel_rfl) (.pointer (some ⟨b19, o20 + k * 10, none⟩)) (by kernel_rfl) (run_index_at Tryd.underlying24 (by kernel_rfl) rfl k hA21 rfl rfl (by omega)) ?_
    clear HF; intro a HF; replace HF := HF.sub ((law_sectionBytes_S1 k z1 eb) ++ [(8, .bool true), (47, .pointer (some ⟨b19, o20 + k * 10, none⟩))]) (by kernel_rfl)
    refine wp_pure HF HM rfl 1 [] ((law_sectionBytes_S1 k z1 eb) ++ [(8, .bool true), (48, .pointer (some ⟨b19, o20 + k * 10 + 1, none⟩))]) (by kernel_rfl) ?_
    clear HF; intro a HF
    refine wp_run HF (by kernel_rfl) (u3_ m9.ty) (by kernel_rfl) (run_load_row1 rfl rfl (row_fld (row_at_elem (f := PartM.cells) (k := 10) (fun _ => rfl) hA21 (HM.row h.parts) k hm9) 1 rfl) (by kernel_rfl)) ?_
    clear HF; intro a HF; replace HF := HF.sub ((law_sectionBytes_S1 k z1 eb) ++ [(8, .bool true), (49, u3_ m9.ty)]) (by kernel_rfl)
    refine wp_pure HF HM rfl 1 [] ((law_sectionBytes_S1 k z1 eb) ++ [(8, .bool true), (50, .bool (((m9.ty : Nat) : Int) == 8))]) (by kernel_rfl) ?_
    clear HF; intro a HF
    refine nil_then ?_
    rw [show (((m9.ty : Nat) : Int) == 8) = false from beq_f (by omega)] at HF
    refine wp_condF HF rfl ?_
    refine wp_skip ?_
    repeat (first | refine then_norm ?_ | refine inb_norm ?_)
    refine wp_seq (wp_region_lit ?_)
    refine wp_pure HF HM rfl 6 [[0]] [(66, .bool true), (67, sl_ eb 0 0), (69, .slice x.B x.ps.length x.d), (70, i6_ k)] (by kernel_rfl) ?_
    clear HF; intro a HF
    refine wp_run HF (by kernel_rfl) (.pointer (some ⟨b19, o20 + k * 10, none⟩)) (by kernel_rfl) (run_index_at Tryd.underlying24 (by kernel_rfl) rfl k hA21 rfl rfl (by omega)) ?_
    clear HF; intro a HF; replace HF := HF.sub [(66, .bool true), (67, sl_ eb 0 0), (71, .pointer (some ⟨b19, o20 + k * 10, none⟩))] (by kernel_rfl)
    refine wp_pure HF HM rfl 1 [] [(66, .bool true), (67, sl_ eb 0 0), (72, .pointer (some ⟨b19, o20 + k * 10 + 9, none⟩))] (by kernel_rfl) ?_
    clear HF; intro a HF
    refine wp_run HF (by kernel_rfl) (.slice m9.A m9.data.length m9.c) (by kernel_rfl) (run_load_row1 rfl rfl (row_fld (row_at_elem (f := PartM.cells) (k := 10) (fun _ => rfl) hA21 (HM.row h.parts) k hm9) 9 rfl) (by kernel_rfl)) ?_
    clear HF; intro a HF; replace HF := HF.sub [(66, .bool true), (67, sl_ eb 0 0), (73, .slice m9.A m9.data.length m9.c)] (by kernel_rfl)
    refine wp_call HF (by kernel_rfl) 33 #[sl_ eb 0 0, .slice m9.A m9.data.length m9.c] (by kernel_rfl) (fun w => by kernel_rfl) (Calls.mono (same_at [] _ _ 0 m9.data.length 0 m9.c rfl (by simpa using y2) w15 (Row.nil _ _) (Row.nil _ _)) ?_)
    rintro _ w16 ⟨rfl, hb⟩
    replace HM := HM.call hb
    clear hb
    refine ⟨_, rfl, ?_⟩; clear HF; intro a HF
    replace HF := HF.sub [(66, .bool true), (74, .bool true)] (by kernel_rfl)
    refine wp_pure HF HM rfl 2 [] [(4, .bool true)] (by kernel_rfl) ?_
    clear HF; intro a HF
    refine nil_then ?_
    refine wp_ret ?_
    repeat (first | refine then_ret ?_ | refine inb_ret ?_)
    exact ret_one HF rfl rfl ⟨rfl, HM.below⟩
  · rw [y3] at hfz_tb
    refine wp_call HF (by kernel_rfl) 32 #[sl_ gf8 x.img.file.length capf8, i6_ (k + 1)] (by kernel_rfl) (fun w => by kernel_rfl) (Calls.mono (secBytes_full x.img.file _ _ _ rfl hof8.nc x.img.wide x.img.big x.img.abi x.img.abiv x.img.ty x.img.machine x.img.entry (hSize x.img.wide) x.img.segs.length x.img.shoff x.img.all.length (sgOf x.img) (scOf x.img) (nbOf x.img) (good_file iok) (by have hq := Img.Ok.length_le iok; omega) (k + 1) (by rw [all_len]; omega) (sc_ty8 hm9 y1) (sc_name hm9 hpo.zip) (by omega) (by omega) (sec_end x (k + 1) (by omega) (by omega) (by rw [sc_ty hm9]; exact y1)) w3 (HM.rowOwn (i := 0) rfl hof8.tk)) ?_)
    rintro _ w17 ⟨tb, rfl, hb, hge, hob⟩
    rw [sec_bytes x k hm9 y1] at hob
    replace HM : Mm [] w0 w17 [(tb, .cells ((m9.data).map Bv).toArray 5 (0, 0)), (gf8, .cells curf8 5 (0, 0)), law_sectionBytes_B0 z1 x] := HM.push hb hge hob
    clear hb
    refine ⟨_, rfl, ?_⟩; clear HF; intro a HF
    rw [show (scOf x.img (k + 1)).fsz = m9.data.length from hfz_tb] at HF
    replace HF := HF.sub [(1, i6_ k), (2, pt_ z1), (31, .tuple #[sl_ tb m9.data.length m9.data.length, .bool true])] (by kernel_rfl)
    refine wp_pure HF HM rfl 5 [] (law_sectionBytes_S5 k z1 tb m9) (by kernel_rfl) ?_
    clear HF; intro a HF
    refine nil_then ?_
    refine reg_plan HM (by kernel_rfl) [(tb, .cells ((m9.data).map Bv).toArray 5 (0, 0)), (gf8, .cells curf8 5 (0, 0)), law_sectionBytes_B0 z1 x] [(0, false), (2, false), (3, false), (4, false), (5, false), (1, true), (6, true), (7, false), (8, false), (9, false), (10, false), (11, false)] (by kernel_rfl) ?_
    clear HM; intro w18 HM
    refine plan_sym HF (HM.told [0, 1, 2] rfl) 5 [[0], [0]] ((law_sectionBytes_S5 k z1 tb m9) ++ [law_sectionBytes_P2 x, (40, iI_ (IntKind.i64.wrap (((x.ps.length : Nat) : Int) + 1)))]) (by kernel_rfl) ?_
    clear HF; intro a HF
    rw [show IntKind.i64.wrap (((x.ps.length : Nat) : Int) + 1) = (((x.ps.length + 1) : Nat) : Int) from (IntWalk.i64_in _ (by omega)).trans (by omega)] at HF
    refine plan_force rfl ?_
    refine wp_call HF (by kernel_rfl) 25 #[.agg #[.bool x.wide, .bool x.big, u8_ x.abi, u8_ x.abiv, .int .i64 x.ty, .int .i64 x.machine, u6_ x.entry, .slice x.A x.ss.length x.c, .slice x.B x.ps.length x.d]] (by kernel_rfl) (fun w => by kernel_rfl) (Calls.mono (fileOf_any x w18 (h.below HM.below) ok) ?_)
    rintro _ w19 ⟨gf22, capf22, curf22, rfl, hb, hof22⟩
    replace HM : Mm [] w0 w19 [(gf22, .cells curf22 5 (0, 0)), (tb, .cells ((m9.data).map Bv).toArray 5 (0, 0)), (gf8, .cells curf8 5 (0, 0)), law_sectionBytes_B0 z1 x] := HM.push hb hof22.new hof22.obj
    clear hb
    refine ⟨_, rfl, ?_⟩; clear HF; intro a HF
    replace HF := HF.sub ((law_sectionBytes_S5 k z1 tb m9) ++ [(36, sl_ gf22 x.img.file.length capf22), (40, i6_ (x.ps.length + 1))]) (by kernel_rfl)
    refine only_end (HM.told [1, 2, 3] rfl) ?_
    refine plan_force rfl ?_
    have hfz_tn : (scOf x.img (x.ps.length + 1)).fsz = (namesB x.img.names).length := str_fsz x
    refine wp_call HF (by kernel_rfl) 32 #[sl_ gf22 x.img.file.length capf22, i6_ (x.ps.length + 1)] (by kernel_rfl) (fun w => by kernel_rfl) (Calls.mono (secBytes_full x.img.file _ _ _ rfl hof22.nc x.img.wide x.img.big x.img.abi x.img.abiv x.img.ty x.img.machine x.img.entry (hSize x.img.wide) x.img.segs.length x.img.shoff x.img.all.length (sgOf x.img) (scOf x.img) (nbOf x.img) (good_file iok) (by have hq := Img.Ok.length_le iok; omega) (x.ps.length + 1) (by rw [all_len]; omega) (str_ty x) (str_name x) (by rw [hfz_tn]; exact str_pos x) (by rw [hfz_tn]; have := iok.namesB_le; omega) (sec_end x (x.ps.length + 1) (by omega) (by omega) (str_not8 x)) w19 (HM.rowOwn (i := 0) rfl hof22.tk)) ?_)
    rintro _ w20 ⟨tn, rfl, hb, hge, hob⟩
    rw [str_bytes x] at hob
    replace HM : Mm [] w0 w20 [(tn, .cells ((namesB x.img.names).map Bv).toArray 5 (0, 0)), (gf22, .cells curf22 5 (0, 0)), (tb, .cells ((m9.data).map Bv).toArray 5 (0, 0)), (gf8, .cells curf8 5 (0, 0)), law_sectionBytes_B0 z1 x] := HM.push hb hge hob
    clear hb
    refine ⟨_, rfl, ?_⟩; clear HF; intro a HF
    rw [show (scOf x.img (x.ps.length + 1)).fsz = (namesB x.img.names).length from hfz_tn] at HF
    replace HF := HF.sub ((law_sectionBytes_S5 k z1 tb m9) ++ [law_sectionBytes_P3 tn x]) (by kernel_rfl)
    refine only_end (HM.told [2, 3, 4] rfl) ?_
    refine plan_sym HF (HM.told [2, 3, 4] rfl) 5 [] ((law_sectionBytes_S5 k z1 tb m9) ++ [(8, .bool true)]) (by kernel_rfl) ?_
    clear HF; intro a HF
    refine plan_end ?_
    refine then_norm ?_
    refine wp_seq ?_
    refine wp_seq (wp_region_lit ?_)
    refine wp_pure HF HM rfl 3 [[0]] ((law_sectionBytes_S5 k z1 tb m9) ++ [(8, .bool true), (45, .slice x.B x.ps.length x.d), (46, i6_ k)]) (by kernel_rfl) ?_
    clear HF; intro a HF
    obtain ⟨b23, o24, hA25⟩ := row_some (HM.row h.parts) (List.length_pos_of_mem (List.mem_flatMap.2 ⟨m9, List.mem_of_getElem? hm9, List.mem_cons_self⟩))
    refine wp_run HF (by kernel_rfl) (.pointer (some ⟨b23, o24 + k * 10, none⟩)) (by kernel_rfl) (run_index_at Tryd.underlying24 (by kernel_rfl) rfl k hA25 rfl rfl (by omega)) ?_
    clear HF; intro a HF; replace HF := HF.sub ((law_sectionBytes_S5 k z1 tb m9) ++ [(8, .bool true), (47, .pointer (some ⟨b23, o24 + k * 10, none⟩))]) (by kernel_rfl)
    refine wp_pure HF HM rfl 1 [] ((law_sectionBytes_S5 k z1 tb m9) ++ [(8, .bool true), (48, .pointer (some ⟨b23, o24 + k * 10 + 1, none⟩))]) (by kernel_rfl) ?_
    clear HF; intro a HF
    refine wp_run HF (by kernel_rfl) (u3_ m9.ty) (by kernel_rfl) (run_load_row1 rfl rfl (row_fld (row_at_elem (f := PartM.cells) (k := 10) (fun _ => rfl) hA25 (HM.row h.parts) k hm9) 1 rfl) (by kernel_rfl)) ?_
    clear HF; intro a HF; replace HF := HF.sub ((law_sectionBytes_S5 k z1 tb m9) ++ [(8, .bool true), (49, u3_ m9.ty)]) (by kernel_rfl)
    refine wp_pure HF HM rfl 1 [] ((law_sectionBytes_S5 k z1 tb m9) ++ [(8, .bool true), (50, .bool (((m9.ty : Nat) : Int) == 8))]) (by kernel_rfl) ?_
    clear HF; intro a HF
    refine nil_then ?_
    rw [show (((m9.ty : Nat) : Int) == 8) = false from beq_f (by omega)] at HF
    refine wp_condF HF rfl ?_
    refine wp_skip ?_
    repeat (first | refine then_norm ?_ | refine inb_norm ?_)
    refine wp_seq (wp_region_lit ?_)
    refine wp_pure HF HM rfl 6 [[0]] [(66, .bool true), (67, sl_ tb m9.data.length m9.data.length), (69, .slice x.B x.ps.length x.d), (70, i6_ k)] (by kernel_rfl) ?_
    clear HF; intro a HF
    refine wp_run HF (by kernel_rfl) (.pointer (some ⟨b23, o24 + k * 10, none⟩)) (by kernel_rfl) (run_index_at Tryd.underlying24 (by kernel_rfl) rfl k hA25 rfl rfl (by omega)) ?_
    clear HF; intro a HF; replace HF := HF.sub [(66, .bool true), (67, sl_ tb m9.data.length m9.data.length), (71, .pointer (some ⟨b23, o24 + k * 10, none⟩))] (by kernel_rfl)
    refine wp_pure HF HM rfl 1 [] [(66, .bool true), (67, sl_ tb m9.data.length m9.data.length), (72, .pointer (some ⟨b23, o24 + k * 10 + 9, none⟩))] (by kernel_rfl) ?_
    clear HF; intro a HF
    refine wp_run HF (by kernel_rfl) (.slice m9.A m9.data.length m9.c) (by kernel_rfl) (run_load_row1 rfl rfl (row_fld (row_at_elem (f := PartM.cells) (k := 10) (fun _ => rfl) hA25 (HM.row h.parts) k hm9) 9 rfl) (by kernel_rfl)) ?_
    clear HF; intro a HF; replace HF := HF.sub [(66, .bool true), (67, sl_ tb m9.data.length m9.data.length), (73, .slice m9.A m9.data.length m9.c)] (by kernel_rfl)
    refine wp_call HF (by kernel_rfl) 33 #[sl_ tb m9.data.length m9.data.length, .slice m9.A m9.data.length m9.c] (by kernel_rfl) (fun w => by kernel_rfl) (Calls.mono (same_at m9.data _ _ m9.data.length m9.data.length m9.data.length m9.c rfl rfl w20 (row_of_block (HM.get (i := 2) rfl)) (hpa.below HM.below).row) ?_)
    rintro _ w21 ⟨rfl, hb⟩
    replace HM := HM.call hb
    clear hb
    refine ⟨_, rfl, ?_⟩; clear HF; intro a HF
    replace HF := HF.sub [(66, .bool true), (74, .bool true)] (by kernel_rfl)
    refine wp_pure HF HM rfl 2 [] [(4, .bool true)] (by kernel_rfl) ?_
    clear HF; intro a HF
    refine nil_then ?_
    refine wp_ret ?_
    repeat (first | refine then_ret ?_ | refine inb_ret ?_)
    exact ret_one HF rfl rfl ⟨rfl, HM.below⟩

end Go.Proofs.YtdgehpocmfjbiaaDoor
namespace Go.Proofs.YtdgehpocmfjbiaaDoor.fnSectionBytes
open Go Go.ChangeShapes Go.WideShapes Go.ChangeAt Go.RowKit Go.Deep

theorem own : ownKnob Tryd.prog.godebug = none := by kernel_rfl
theorem laidOut : laidOutB Tryd.prog = true := by kernel_rfl
theorem door_met (os : Os) (args : Array Value) : laidMetH Tryd.prog Rows.fnSectionBytesRow.laid ((World.doorLaid Tryd.prog 123 os).forCall (fun _ _ => 0) ⟨#[], args, []⟩).memory :=
  laidMetH_of_parts3 (fuel := 8) (laidMet_of_run' 8 (by kernel_rfl) (by kernel_rfl)) (by kernel_rfl) (by kernel_rfl)

set_option maxRecDepth 100000 in
theorem lifted (os : Os) (started : os.Started) (H : Type) (enc : TypeId × Value → H) :
    ReturnsInHanded {} Tryd.checked os 9 .any (fun w args => (Rows.fnSectionBytesSpec.pre enc Tryd.prog Tryd.f9 [] false w args ∧ laidMetH Tryd.prog Rows.fnSectionBytesRow.laid w) ∧ sizedMet enc Tryd.prog Tryd.f9 (OpenSpec.ofChange Rows.fnSectionBytesSpec) false w args)
      (Rows.fnSectionBytesSpec.post enc Tryd.prog Tryd.f9 false true false false) := by
  refine returnsInHanded_of_change_and (C := Tryd.checked) (X := fun w _ => laidMetH Tryd.prog Rows.fnSectionBytesRow.laid w) (fun _ _ _ hh h => h.of_heap hh) own started (by kernel_rfl) Tryd.func9
    (ChangeSpec.witness_shaped (enc := enc) (C := Tryd.checked) (os := os) (X := fun w _ => laidMetH Tryd.prog Rows.fnSectionBytesRow.laid w) false (World.doorLaid Tryd.prog 123 os) #[.agg #[.bool false, .bool false, .int .u8 0, .int .u8 0, .int .i64 0, .int .i64 0, .int .u64 0, .slice none 0 0, .slice none 0 0], .int .i64 0] 8 rfl (World.shaped_of_RefB (by kernel_rfl) (by kernel_rfl)) (by kernel_rfl) (by kernel_rfl) (by kernel_rfl) (door_met os _)) ?_
  intro W base args ds gs before hval0 hW _ _ hL _
  have hval : ∀ (j : Nat) t v, Tryd.f9.params[j]? = some t → args[j]? = some v → Value.okWide Tryd.prog W .any base t v := hval0
  have hW' := hW
  obtain ⟨p, q, hA0, hV, rfl, hfz, hnd⟩ := hW
  have hA : DataW.TrodAll enc Tryd.prog W 0 (fun _ => true) true Tryd.f9.params.toList args.toList ds p := hA0
  rw [Tryd.params9] at hA hval
  obtain ⟨v0, vs0, d0, ds0, p0, q0, hargs, rfl, rfl, h0, r0⟩ := trodAll_cons hA
  obtain ⟨v1, vs1, d1, ds1, p1, q1, rfl, rfl, rfl, h1, r1⟩ := trodAll_cons r0
  obtain ⟨rfl, rfl, rfl⟩ := trodAll_nil r1
  obtain rfl : args = #[v0, v1] := by cases args; simp_all
  obtain ⟨rfl, rfl⟩ := trodVars_none hV
  have k0 := h0
  have lt0 : ∀ x ∈ p0, x.block < W.heap.size := by obtain ⟨m, hm⟩ := k0; exact DataW.trod_lt m _ _ _ hm
  have k1 := h1
  have lt1 : ∀ x ∈ p1, x.block < W.heap.size := by obtain ⟨m, hm⟩ := k1; exact DataW.trod_lt m _ _ _ hm
  obtain ⟨x0, rfl, hx0⟩ := open_img (hval 0 26 v0 rfl rfl) h0
  obtain ⟨a1, rfl, -, -, z1⟩ := open_int Tryd.underlying3 (hval 1 3 v1 rfl rfl) h1
  have q1 := bounds_i64 z1
  clear hA0 hval0
  refine (law_sectionBytes x0 a1 W hx0 q1).mono fun e W' ⟨he, bel⟩ => ?_
  subst he
  exact ⟨_, rfl, _, _, _, [], _, [], hW', trodAll_mk1 (shut_bool Tryd.underlying4 _), (trodAll_cons_mk (Below.trod laidOut (by kernel_rfl) (of_decide_eq_true (by kernel_rfl)) k0 bel lt0) (trodAll_cons_mk (Below.trod laidOut (by kernel_rfl) (of_decide_eq_true (by kernel_rfl)) k1 bel lt1) trodAll_mk0)), rfl, bel.frame _, fun h => by cases h⟩

set_option maxRecDepth 100000 in
theorem over_j : joinedFacts Tryd.pinned.checked.prog 9 Tryd.f9 Rows.fnSectionBytesSpec Rows.fnSectionBytesRow = true := (and_t (and_t (and_t (and_t (and_t (and_t (and_t (and_t (and_t (and_t (and_t (and_t (and_t (and_t (and_t (and_t (and_t (and_t (and_t (and_t (and_t (and_t (and_t (and_t (and_t (and_t (and_t (and_t (and_t (and_t (and_t l0 l1) l2) l3) l4) l5) l6) l7) l8) l9) l10) l11) l12) l13) l14) l15) l16) l17) l18) l19) l20) l21) l22) l23) l24) l25) l26) l27) l28) l29) l30) l31)

theorem over : Rows.FnSectionBytesSaid :=
  OpenClaim.holds_of_wide 9 Tryd.f9 rfl rfl rfl rfl rfl rfl rfl ⟨rfl, rfl, rfl, rfl, rfl⟩ rfl rfl rfl rfl rfl c5 Tryd.func9 over_j
    (of_decide_eq_true (by kernel_rfl)) (by unfold Func.isWrapper; first | (rw [if_pos (by decide +kernel)]; kernel_rfl) | (rw [if_neg (by decide +kernel)]; exact ⟨rfl, rfl⟩))
    (fun os started H enc _ => lifted os started H enc)

theorem proved : Rows.FnSectionBytesCardSaid :=
  Claim7.holds_tied_plain_at .later [] [.sentinel, .sentinel, .sentinel, .sentinel, .sentinel] true (true, "ed888367449acd6afd80057b2906ce1b79ec16b7beef13a0a9ac5f630eedede4") true
    over (fun _ h => by cases h) c1 (fun _ h => by cases h) fnSectionBytes_row_tie rfl ⟨rfl, rfl⟩ qc4 rfl
    (fun f fn hf hfn => by
      obtain rfl : f = 9 := Option.some.inj (c5.symm.trans hf) |>.symm
      obtain rfl : fn = Tryd.f9 := (Option.some.inj (Tryd.func9.symm.trans hfn)).symm
      exact ⟨qc2, fun j t ht => by
        rw [Tryd.params9] at ht
        have hm : t ∈ [26, 3] := by simpa using Array.mem_of_getElem? ht
        have hall : ([26, 3].all fun u => !Tryd.prog.wantsStandIn u) = true := by kernel_rfl
        exact (show Tryd.prog.wantsStandIn t = false by simpa using List.all_eq_true.1 hall t hm)⟩)
    c3
#print axioms proved
end Go.Proofs.YtdgehpocmfjbiaaDoor.fnSectionBytes
