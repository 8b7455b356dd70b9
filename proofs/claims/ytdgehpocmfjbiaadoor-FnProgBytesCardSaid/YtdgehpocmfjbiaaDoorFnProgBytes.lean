/- Proved: the bytes of a program header are read, from any place on, at every argument. No condition. -/
import Derived.Test.YtdgehpocmfjbiaaDoorPf
import Derived.Test.YtdgehpocmfjbiaaDoorPd
import Derived.Test.YtdgehpocmfjbiaaDoorPk
import Derived.Test.YtdgehpocmfjbiaaDoorPh
import Derived.Test.YtdgehpocmfjbiaaDoorPg
import Derived.Test.YtdgehpocmfjbiaaDoorCards
import Derived.Test.YtdgehpocmfjbiaaDoorTie
import Derived.Test.YtdgehpocmfjbiaaDoorFnProgBytesJ
import Derived.Test.YtdgehpocmfjbiaaDoorFnProgBytesJC
import Derived.LaidMore
import Derived.LaidLaws
import Derived.Stop.Joined
import Derived.SevenTiedAt
import Derived.ProofKit
import Derived.OpenShut
import Derived.ShutString
import Derived.ChangeOld
import Derived.Below
set_option linter.unusedVariables false
set_option linter.unusedSimpArgs false
namespace Go.Proofs.YtdgehpocmfjbiaaDoor
open Go.RowKit
theorem run_slice_hi {P : Program} {t e : TypeId} (ht : P.underlying t = some (.slice e)) {inf : TypeInfo} (hi : P.info? e = some inf) {ρ : Operand → Value} {o : Oper} {x h : Operand} (ho : o.op = .slice t x none (some h) none) {g m : Nat} (hx : ρ x = sl_ g m m) (hh : ρ h = .int .i64 (m : Int)) {w : World} :
    (execOp ρ o).run P w = .ok (.value (sl_ g m m)) w := by
  unfold execOp
  simp only [ho, Option.map_some, Option.map_none, hx, hh, Instr.sliceAt]
  simp [Instr.slice, Instr.sliceBounds, Instr.sliceBound, asIntOf, run_underlying ht, sizeOf, typeInfo, hi, Addr.add]

abbrev progBytes_any_B0 := fun sq bg (n : Nat) bcap (sg : Nat → SegV) (k : Nat) => ((sq, .cells #[.iface 178 (sl_ bg n bcap), i6_ ((sg k).off), i6_ ((sg k).off), iI_ ((((sg k).fsz : Nat) : Int) + (((sg k).off : Nat) : Int)), i6_ ((sg k).fsz)] 246 (0, 0)) : Nat × Obj)
set_option maxRecDepth 100000 in
set_option maxHeartbeats 1000000 in
theorem progBytes_any (l : List UInt8) (A : Option Addr) (n c : Nat) (hl : n = l.length) (hnc : n ≤ c) (wide big : Bool) (abi abiv tyN machN entryN phoffN phnumN shoffN shnumN : Nat) (sg : Nat → SegV) (sc : Nat → SecV) (nb : Nat → List UInt8) (H : GoodFile l n wide big abi abiv tyN machN entryN phoffN phnumN shoffN shnumN sg sc nb) (h47 : n ≤ 140737488355328) (k o m : Nat) (hk : k < phnumN) (hm0 : 0 < m) (hmo : o + m ≤ (sg k).fsz) (hm1 : m ≤ 65536) (hfs : (sg k).off + (sg k).fsz ≤ n) (w0 : World) (hr : Row w0 A (l.map Bv)) : Calls Tryd.prog 34 #[.slice A n c, i6_ k, i6_ o, i6_ m] w0 fun e w' => ∃ tb_, e = .returned (.tuple #[sl_ tb_ m m, .bool true]) ∧ Below w0.heap.size w0 w' ∧ Row w' (some ⟨tb_, 0, none⟩) (((l.drop ((sg k).off + o)).take m).map Bv) := by
  obtain ⟨i0, his, hss⟩ := size_pp
  obtain ⟨i8, hi8, hs8⟩ := size_u8
  have hb7 := H.b7; have hb6 := H.b6; have hc3 := H.c3
  obtain ⟨w, hw⟩ : ∃ w, w0 = w := ⟨_, rfl⟩
  have HM : Mm [] w0 w [] := hw ▸ Mm.start w0
  conv => arg 4; rw [hw]
  clear hw
  refine calls_start Tryd.func34 rfl Tryd.ntmps34 [(0, .slice A n c), (1, i6_ k), (2, i6_ o), (3, i6_ m)] (by kernel_rfl) (Nat.le_of_ble_eq_true rfl) ?_
  intro a HF
  refine wp_seq (wp_region_lit ?_)
  refine wp_pure HF HM rfl 2 [] [(0, .slice A n c), (1, i6_ k), (2, i6_ o), (3, i6_ m)] (by kernel_rfl) ?_
  clear HF; intro a HF
  refine nil_then ?_
  refine wp_seq (wp_region_lit ?_)
  refine wp_pure HF HM rfl 1 [] [(1, i6_ k), (2, i6_ o), (3, i6_ m), (16, .slice A n c)] (by kernel_rfl) ?_
  clear HF; intro a HF
  refine wp_call HF (by kernel_rfl) 55 #[.slice A n c] (by kernel_rfl) (fun w => by kernel_rfl) (Calls.mono (open_any l A n c hl hnc wide big abi abiv tyN machN entryN phoffN phnumN shoffN shnumN sg sc nb H h47 w (HM.row hr)) ?_)
  rintro _ w1 ⟨bg, bcap, z, fb, pg, sg_, cur, scur, rfl, hb0, hnc2, hcap, hg0, hz0, hrow, hF⟩
  replace hb0 := (HM.call hb0).below; clear HM
  have HM : Mm [] w1 w1 [] := Mm.start w1
  refine ⟨_, rfl, ?_⟩; clear HF; intro a HF
  replace HF := HF.sub [(1, i6_ k), (2, i6_ o), (3, i6_ m), (17, .tuple #[pt_ fb, .bool true])] (by kernel_rfl)
  refine wp_pure HF HM rfl 5 [] [(1, i6_ k), (2, i6_ o), (3, i6_ m), (10, pt_ fb), (11, .bool true)] (by kernel_rfl) ?_
  clear HF; intro a HF
  refine nil_then ?_
  refine wp_seq ?_
  refine wp_seq (wp_region_lit ?_)
  refine wp_pure HF HM rfl 7 [] [(1, i6_ k), (2, i6_ o), (3, i6_ m), (10, pt_ fb), (26, .bool (decide (((k : Nat) : Int) < 0)))] (by kernel_rfl) ?_
  clear HF; intro a HF
  rw [show decide (((k : Nat) : Int) < 0) = false from dec_f (by omega)] at HF
  refine wp_pure HF HM rfl 4 [] [(1, i6_ k), (2, i6_ o), (3, i6_ m), (10, pt_ fb), (26, .bool false), (27, i6_ k), (30, .pointer (some ⟨fb, 10, none⟩))] (by kernel_rfl) ?_
  clear HF; intro a HF
  refine wp_run HF (by kernel_rfl) (sl_ pg phnumN phnumN) (by kernel_rfl) (run_load_one rfl rfl (by kernel_rfl) ((cell_of_row w1 fb 10 _ _ _ (HM.old hF.file)).trans rfl)) ?_
  clear HF; intro a HF; replace HF := HF.sub [(1, i6_ k), (2, i6_ o), (3, i6_ m), (10, pt_ fb), (26, .bool false), (27, i6_ k), (31, sl_ pg phnumN phnumN)] (by kernel_rfl)
  refine wp_pure HF HM rfl 3 [] [(1, i6_ k), (2, i6_ o), (3, i6_ m), (10, pt_ fb), (34, .bool (decide (((phnumN : Nat) : Int) ≤ ((k : Nat) : Int))))] (by kernel_rfl) ?_
  clear HF; intro a HF
  refine nil_then ?_
  rw [show decide (((phnumN : Nat) : Int) ≤ ((k : Nat) : Int)) = false from dec_f (by omega)] at HF
  refine wp_condF HF rfl ?_
  refine wp_skip ?_
  repeat (first | refine then_norm ?_ | refine inb_norm ?_)
  refine wp_seq (wp_region_lit ?_)
  refine wp_pure HF HM rfl 1 [] [(1, i6_ k), (2, i6_ o), (10, pt_ fb), (35, i6_ m)] (by kernel_rfl) ?_
  clear HF; intro a HF
  refine wp_make HF HM rfl _ _ 33 rfl rfl 5 (iB_ 0) 1 Tryd.underlying33 info_u8' rfl .i64 .i64 m rfl rfl (by omega) (by omega) ?_
  intro a2 w2 tb_ hgw hbel HM2 HF2; clear HF HM hbel; have HM := HM2; have HF := HF2; clear HM2 HF2
  replace HF := HF.sub [(1, i6_ k), (2, i6_ o), (10, pt_ fb), (36, sl_ tb_ m m)] (by kernel_rfl)
  refine wp_pure HF HM rfl 1 [] [(1, i6_ k), (2, i6_ o), (10, pt_ fb), (12, sl_ tb_ m m)] (by kernel_rfl) ?_
  clear HF; intro a HF
  refine nil_then ?_
  refine wp_seq (wp_region_lit ?_)
  refine wp_pure HF HM rfl 3 [] [(1, i6_ k), (2, i6_ o), (12, sl_ tb_ m m), (40, .pointer (some ⟨fb, 10, none⟩))] (by kernel_rfl) ?_
  clear HF; intro a HF
  refine wp_run HF (by kernel_rfl) (sl_ pg phnumN phnumN) (by kernel_rfl) (run_load_one rfl rfl (by kernel_rfl) ((cell_of_row w2 fb 10 _ _ _ (HM.old hF.file)).trans rfl)) ?_
  clear HF; intro a HF; replace HF := HF.sub [(1, i6_ k), (2, i6_ o), (12, sl_ tb_ m m), (41, sl_ pg phnumN phnumN)] (by kernel_rfl)
  refine wp_pure HF HM rfl 1 [] [(2, i6_ o), (12, sl_ tb_ m m), (41, sl_ pg phnumN phnumN), (42, i6_ k)] (by kernel_rfl) ?_
  clear HF; intro a HF
  obtain ⟨pq, sq, q1, q2, q3, q4, q5⟩ := hF.prog k hk
  obtain ⟨_, _, eg, hgc⟩ := hrow.at_ (i := 0) (by rw [List.length_map]; omega)
  cases eg
  have hgl : bg < w1.heap.size := cell_lt hgc
  have hgs : bg ≠ sq := fun e => by subst e; have h1 := (cell_of_row w1 bg 0 _ _ _ q5).symm.trans hgc; rw [List.getElem_map] at h1; simp [Bv] at h1
  refine wp_run HF (by kernel_rfl) (.pointer (some ⟨pg, k, none⟩)) (by kernel_rfl) ((run_index Tryd.underlying127 his hss rfl k rfl rfl (by omega))) ?_
  clear HF; intro a HF; replace HF := HF.sub [(2, i6_ o), (12, sl_ tb_ m m), (43, .pointer (some ⟨pg, k, none⟩))] (by kernel_rfl)
  refine wp_run HF (by kernel_rfl) (pt_ pq) (by kernel_rfl) (run_load_one rfl rfl (by kernel_rfl) ((cell_of_row w2 pg k _ _ _ (HM.old hF.progs)).trans q1)) ?_
  clear HF; intro a HF; replace HF := HF.sub [(2, i6_ o), (12, sl_ tb_ m m), (44, pt_ pq)] (by kernel_rfl)
  refine wp_pure HF HM rfl 2 [] [(2, i6_ o), (12, sl_ tb_ m m), (46, .pointer (some ⟨pq, 8, none⟩))] (by kernel_rfl) ?_
  clear HF; intro a HF
  refine wp_run HF (by kernel_rfl) (.iface 144 (pt_ sq)) (by kernel_rfl) (run_load_one rfl rfl (by kernel_rfl) ((cell_of_row w2 pq 8 _ _ _ (HM.old q4)).trans rfl)) ?_
  clear HF; intro a HF; replace HF := HF.sub [(2, i6_ o), (12, sl_ tb_ m m), (47, .iface 144 (pt_ sq))] (by kernel_rfl)
  refine wp_pure HF HM rfl 2 [] [(12, sl_ tb_ m m), (47, .iface 144 (pt_ sq)), (48, sl_ tb_ m m), (49, i6_ o)] (by kernel_rfl) ?_
  clear HF; intro a HF
  replace HM : Mm [sq] w1 w2 [progBytes_any_B0 sq bg n bcap sg k, (tb_, .cells (madeCells #[iB_ 0] m) 5 (0, 0))] := HM.tellOld q5 (by simp)
  have hbt : bg ≠ tb_ := fun e => by subst e; omega
  refine wp_call HF (by kernel_rfl) 93 #[pt_ sq, sl_ tb_ m m, i6_ o] (by kernel_rfl) (fun w => by kernel_rfl) (Calls.mono (srAt_full l bg 0 n bcap hl hnc2 tb_ sq _ 5 m m (madeCells_size' _ _) (sg k).off o (((sg k).off : Nat) : Int) ((((sg k).fsz : Nat) : Int) + (((sg k).off : Nat) : Int)) (((sg k).fsz : Nat) : Int) (by omega) (by omega) (by omega) (by omega) (by omega) w2 (HM.row hrow (by intro b' o' s' e; injection e with e; injection e with e; subst e; simp [hgs])) hbt hgs (HM.ne (i := 0) (j := 1) rfl rfl (by decide)) (HM.get (i := 0) rfl) (HM.get (i := 1) rfl)) ?_)
  rintro _ w3 ⟨rfl, hkp, hsn, hgn⟩
  replace HM : Mm [sq] w1 w3 [progBytes_any_B0 sq bg n bcap sg k, (tb_, .cells (((l.drop ((sg k).off + o)).take m).map Bv).toArray 5 (0, 0))] := HM.put2 (i := 0) (j := 1) rfl rfl (by decide) hsn hgn hkp
  clear hkp hsn hgn
  refine ⟨_, rfl, ?_⟩; clear HF; intro a HF
  replace HF := HF.sub [(12, sl_ tb_ m m), (50, .tuple #[i6_ m, .nilIface])] (by kernel_rfl)
  replace HM : Mm [] w1 w3 [(tb_, .cells (((l.drop ((sg k).off + o)).take m).map Bv).toArray 5 (0, 0))] := HM.hideOld 0 rfl q5
  refine wp_pure HF HM rfl 5 [] [(12, sl_ tb_ m m), (13, i6_ m), (14, .nilIface)] (by kernel_rfl) ?_
  clear HF; intro a HF
  refine nil_then ?_
  refine reg_quietw (by kernel_rfl) (by kernel_rfl) ?_
  refine quiet_sym HF HM rfl 2 [] [(14, .nilIface), (53, sl_ tb_ m m), (54, i6_ m)] (by kernel_rfl) ?_
  clear HF; intro a HF
  refine quiet_run HF rfl (sl_ tb_ m m) (by kernel_rfl) (fun j => run_slice_hi Tryd.underlying33 hi8 rfl rfl rfl) ?_
  clear HF; intro a HF; replace HF := HF.sub [(14, .nilIface), (55, sl_ tb_ m m)] (by kernel_rfl)
  refine quiet_sym HF HM rfl 4 [] [(8, sl_ tb_ m m), (9, .bool true)] (by kernel_rfl) ?_
  clear HF; intro a HF
  refine quiet_end ?_
  rintro w4 ⟨nq, hq⟩
  replace HM : Mm [] w1 w4 [(tb_, .cells (((l.drop ((sg k).off + o)).take m).map Bv).toArray 5 (0, 0))] := by rw [hq]; exact HM.drewN nq
  clear hq nq
  refine wp_ret ?_
  repeat (first | refine then_ret ?_ | refine inb_ret ?_)
  exact ret_two HF rfl rfl rfl ⟨tb_, rfl, hb0.trans (HM.below.mono hb0.size), row_of_block (HM.get (i := 0) rfl)⟩

end Go.Proofs.YtdgehpocmfjbiaaDoor
namespace Go.Proofs.YtdgehpocmfjbiaaDoor
open Go.RowKit
theorem run_conv_row {P : Program} {src dst e : TypeId} (hs : P.underlying src = some (.slice e)) (he : P.underlying e = some (.int .u8)) (hd : P.underlying dst = some .string) {w : World} {ρ : Operand → Value} {o : Oper} {x : Operand} (ho : o.op = .convert src dst x) {A : Option Addr} {l : List UInt8} {n c : Nat} (hx : ρ x = .slice A n c)
    (hn : n = l.length) (h : Row w A (l.map Bv)) : (execOp ρ o).run P w = .ok (.value (.string ⟨l.toArray⟩)) w := by
  unfold execOp
  simp only [ho, hx, Sem.run_bind, run_str_row hs he hd hn h, Result.andThen_ok, Sem.run_pure]

set_option maxRecDepth 100000 in
set_option maxHeartbeats 1000000 in
theorem same_eq (l : List UInt8) (A1 A2 : Option Addr) (c1 c2 : Nat) (w0 : World) (r1 : Row w0 A1 (l.map Bv)) (r2 : Row w0 A2 (l.map Bv)) : Calls Tryd.prog 33 #[.slice A1 l.length c1, .slice A2 l.length c2] w0 fun e w' => e = .returned (.bool true) ∧ Below w0.heap.size w0 w' := by
  obtain ⟨w, hw⟩ : ∃ w, w0 = w := ⟨_, rfl⟩
  have HM : Mm [] w0 w [] := hw ▸ Mm.start w0
  conv => arg 4; rw [hw]
  clear hw
  refine calls_start Tryd.func33 rfl Tryd.ntmps33 [(0, .slice A1 l.length c1), (1, .slice A2 l.length c2)] (by kernel_rfl) (Nat.le_of_ble_eq_true rfl) ?_
  intro a HF
  refine wp_seq (wp_region_lit ?_)
  refine wp_pure HF HM rfl 1 [] [(0, .slice A1 l.length c1), (1, .slice A2 l.length c2)] (by kernel_rfl) ?_
  clear HF; intro a HF
  refine nil_then ?_
  refine wp_seq (wp_region_lit ?_)
  refine wp_pure HF HM rfl 1 [] [(1, .slice A2 l.length c2), (5, .slice A1 l.length c1)] (by kernel_rfl) ?_
  clear HF; intro a HF
  refine wp_run HF (by kernel_rfl) (.string (⟨l.toArray⟩)) (by kernel_rfl) (run_conv_row Tryd.underlying33 Tryd.underlying5 Tryd.underlying9 rfl rfl rfl (HM.row r1)) ?_
  clear HF; intro a HF; replace HF := HF.sub [(1, .slice A2 l.length c2), (6, .string (⟨l.toArray⟩))] (by kernel_rfl)
  refine wp_pure HF HM rfl 1 [] [(6, .string (⟨l.toArray⟩)), (7, .slice A2 l.length c2)] (by kernel_rfl) ?_
  clear HF; intro a HF
  refine wp_run HF (by kernel_rfl) (.string (⟨l.toArray⟩)) (by kernel_rfl) (run_conv_row Tryd.underlying33 Tryd.underlying5 Tryd.underlying9 rfl rfl rfl (HM.row r2)) ?_
  clear HF; intro a HF; replace HF := HF.sub [(6, .string (⟨l.toArray⟩)), (8, .string (⟨l.toArray⟩))] (by kernel_rfl)
  refine wp_pure HF HM rfl 2 [] [(4, .bool (((⟨l.toArray⟩ : ByteArray).toList) == ((⟨l.toArray⟩ : ByteArray).toList)))] (by kernel_rfl) ?_
  clear HF; intro a HF
  refine nil_then ?_
  refine wp_ret ?_
  repeat (first | refine then_ret ?_ | refine inb_ret ?_)
  rw [show (((⟨l.toArray⟩ : ByteArray).toList) == ((⟨l.toArray⟩ : ByteArray).toList)) = true from beq_t (rfl)] at HF
  exact ret_one HF rfl rfl ⟨rfl, HM.below⟩
theorem same_at (l : List UInt8) (A1 A2 : Option Addr) (n1 n2 c1 c2 : Nat) (h1 : n1 = l.length) (h2 : n2 = l.length) (w0 : World) (r1 : Row w0 A1 (l.map Bv)) (r2 : Row w0 A2 (l.map Bv)) : Calls Tryd.prog 33 #[.slice A1 n1 c1, .slice A2 n2 c2] w0 fun e w' => e = .returned (.bool true) ∧ Below w0.heap.size w0 w' := by
  subst h1; subst h2; exact same_eq l A1 A2 c1 c2 w0 r1 r2

end Go.Proofs.YtdgehpocmfjbiaaDoor
namespace Go.Proofs.YtdgehpocmfjbiaaDoor
open Go.RowKit
section
variable {P : Program} {w : World}
/-- the address of element j, the row's address laid open -/
theorem run_index_at {t e : TypeId} {k : Nat} (ht : P.underlying t = some (.slice e)) (hi : (P.info? e).map (·.size) = some k) {ρ : Operand → Value} {o : Oper} {x ix : Operand} (ho : o.op = .indexAddr t x ix) {A : Option Addr} {n c : Nat} (j : Nat) {g off : Nat} (hA : A = some ⟨g, off, none⟩) {kk : IntKind} (hx : ρ x = .slice A n c) (hj : ρ ix = .int kk (j : Int)) (h : j < n) :
    (execOp ρ o).run P w = .ok (.value (.pointer (some ⟨g, off + j * k, none⟩))) w := by
  subst hA
  have := run_index_row (w := w) ht hi ho j hx hj h (Option.some_ne_none _)
  rw [Option.map_some, addr_add'] at this
  exact this
theorem row_at_elem {α : Type} {A : Option Addr} {g off : Nat} {f : α → List Value} {k : Nat} {l : List α} (hk : ∀ a, (f a).length = k) (hA : A = some ⟨g, off, none⟩) (hr : Row w A (l.flatMap f)) (j : Nat) {m : α} (hj : l[j]? = some m) : Row w (some ⟨g, off + j * k, none⟩) (f m) := by
  subst hA
  have := row_elem hk hr j hj
  rw [Option.map_some, addr_add'] at this
  exact this
theorem row_fld {g off : Nat} {cs : List Value} {v : Value} (hr : Row w (some ⟨g, off, none⟩) cs) (i : Nat) (hi : cs[i]? = some v) : Row w (some ⟨g, off + i, none⟩) [v] := fun j u hu => by
  obtain ⟨rfl, rfl⟩ : j = 0 ∧ v = u := by
    cases j with
    | zero => exact ⟨rfl, by injection hu⟩
    | succ j => cases hu
  obtain ⟨b, o, e, hc⟩ := hr i _ hi
  injection e with e; injection e with e1 e2
  subst e1; subst e2
  exact ⟨_, _, rfl, hc⟩
end
theorem flat_cong {f g : Nat → List Value} : ∀ n, (∀ j, j < n → g j = f j) → (List.range n).flatMap g = (List.range n).flatMap f
  | 0, _ => rfl
  | n + 1, h => by rw [List.range_succ, List.flatMap_append, List.flatMap_append, List.flatMap_singleton, List.flatMap_singleton, flat_cong n (fun j hj => h j (by omega)), h n (by omega)]
theorem set_flat {f g : Nat → List Value} {k c i : Nat} {v : Value} (hk : ∀ j, (f j).length = k) (hc : c < k) (he : ∀ j, j ≠ i → g j = f j) (hi : g i = (f i).set c v) : ∀ n, i < n → ((List.range n).flatMap f).set (i * k + c) v = (List.range n).flatMap g
  | 0, h => absurd h (Nat.not_lt_zero _)
  | n + 1, h => by
    rw [List.range_succ, List.flatMap_append, List.flatMap_append, List.flatMap_singleton, List.flatMap_singleton]
    have hl : ((List.range n).flatMap f).length = n * k := by rw [flat_len hk, List.length_range]
    by_cases hn : i = n
    · subst hn
      rw [List.set_append_right _ _ (by rw [hl]; omega), hl, Nat.add_sub_cancel_left, hi, flat_cong i (fun j hj => he j (by omega))]
    · have h1 : (i + 1) * k ≤ n * k := Nat.mul_le_mul_right _ (by omega)
      rw [Nat.succ_mul] at h1
      rw [List.set_append_left _ _ (by rw [hl]; omega), set_flat hk hc he hi n (by omega), he n (fun e => hn e.symm)]
end Go.Proofs.YtdgehpocmfjbiaaDoor
namespace Go.Proofs.YtdgehpocmfjbiaaDoor
open Go.RowKit
theorem run_slice_op {P : Program} {t e : TypeId} (ht : P.underlying t = some (.slice e)) {ρ : Operand → Value} {o : Oper} {x lo hi : Operand} (ho : o.op = .slice t x (some lo) (some hi) none) {v vl vh r : Value} (hx : ρ x = v) (hl : ρ lo = vl) (hh : ρ hi = vh) {w : World} (hr : (Instr.slice t v (some vl) (some vh) none).run P w = .ok r w) :
    (execOp ρ o).run P w = .ok (.value r) w := by
  unfold execOp
  simp only [ho, Option.map_some, Option.map_none, hx, hl, hh, Instr.sliceAt, Sem.run_bind, run_underlying ht, hr, Result.andThen_ok, Sem.run_pure]
theorem segM_at {x : ImgM} {k : Nat} {m : SegM} (hm : x.ss[k]? = some m) : x.img.segs[k]? = some m.seg := by
  show (x.ss.map SegM.seg)[k]? = _
  rw [List.getElem?_map, hm]; rfl
theorem sg_at {x : ImgM} {k : Nat} {m : SegM} (hm : x.ss[k]? = some m) : sgOf x.img k = ⟨m.ty, m.flags, x.img.segPlace k, m.vaddr, m.paddr, m.data.length, m.memsz, m.align⟩ := by
  unfold sgOf
  rw [segM_at hm]
  rfl
theorem seg_rest (x : ImgM) (k : Nat) {m : SegM} (hm : x.ss[k]? = some m) : ∃ r, x.img.file.drop (x.img.segPlace k) = m.data ++ r := by
  obtain ⟨hlt, e⟩ := List.getElem?_eq_some_iff.1 (segM_at hm)
  obtain ⟨r, hr⟩ := x.img.seg_at k hlt
  rw [e] at hr
  exact ⟨r, hr⟩
theorem seg_end (x : ImgM) (iok : x.img.Ok) (k : Nat) {m : SegM} (hm : x.ss[k]? = some m) : (sgOf x.img k).off + (sgOf x.img k).fsz ≤ x.img.file.length := by
  obtain ⟨r, hr⟩ := seg_rest x k hm
  rw [sg_at hm]
  show x.img.segPlace k + m.data.length ≤ _
  have h1 := congrArg List.length hr
  rw [List.length_drop, List.length_append] at h1
  have h2 := x.img.segPlace_le k
  have h3 := x.img.file_length
  omega
theorem seg_bytes (x : ImgM) (k o m : Nat) {s : SegM} (hm : x.ss[k]? = some s) (h : o + m ≤ s.data.length) : (x.img.file.drop ((sgOf x.img k).off + o)).take m = (s.data.drop o).take m := by
  obtain ⟨r, hr⟩ := seg_rest x k hm
  rw [sg_at hm]
  show (x.img.file.drop (x.img.segPlace k + o)).take m = _
  rw [← List.drop_drop, hr, List.drop_append_of_le_length (by omega), List.take_append_of_le_length (by rw [List.length_drop]; omega)]

abbrev law_progBytes_B0 := fun z1 (x : ImgM) => ((z1, .cells #[.bool x.wide, .bool x.big, u8_ x.abi, u8_ x.abiv, .int .i64 x.ty, .int .i64 x.machine, u6_ x.entry, .slice x.A x.ss.length x.c, .slice x.B x.ps.length x.d] 26 (0, 0)) : Nat × Obj)
abbrev law_progBytes_S1 := fun (a1 : Int) (a2 : Int) (a3 : Int) z1 => ([(1, .int .i64 a1), (2, .int .i64 a2), (3, .int .i64 a3), (4, pt_ z1)] : Slots)
abbrev law_progBytes_S2 := fun k (a2 : Int) (a3 : Int) z1 => ([(1, i6_ k), (2, .int .i64 a2), (3, .int .i64 a3), (4, pt_ z1)] : Slots)
abbrev law_progBytes_S3 := fun k o m z1 => ([(1, i6_ k), (2, i6_ o), (3, i6_ m), (4, pt_ z1)] : Slots)
set_option maxRecDepth 100000 in
set_option maxHeartbeats 1000000 in
theorem law_progBytes (x : ImgM) (a1 a2 a3 : Int) (w0 : World) (h : x.At w0) (b1 : -9223372036854775808 ≤ a1 ∧ a1 ≤ 9223372036854775807) (b2 : -9223372036854775808 ≤ a2 ∧ a2 ≤ 9223372036854775807) (b3 : -9223372036854775808 ≤ a3 ∧ a3 ≤ 9223372036854775807) : Calls Tryd.prog 10 #[x.val, .int .i64 a1, .int .i64 a2, .int .i64 a3] w0 fun e w' => e = .returned (.bool true) ∧ Below w0.heap.size w0 w' := by
  obtain ⟨i8, hi8, hs8⟩ := size_u8
  obtain ⟨w, hw⟩ : ∃ w, w0 = w := ⟨_, rfl⟩
  have HM : Mm [] w0 w [] := hw ▸ Mm.start w0
  conv => arg 4; rw [hw]
  clear hw
  refine calls_start Tryd.func10 rfl Tryd.ntmps10 [(0, .agg #[.bool x.wide, .bool x.big, u8_ x.abi, u8_ x.abiv, .int .i64 x.ty, .int .i64 x.machine, u6_ x.entry, .slice x.A x.ss.length x.c, .slice x.B x.ps.length x.d]), (1, .int .i64 a1), (2, .int .i64 a2), (3, .int .i64 a3)] (by kernel_rfl) (Nat.le_of_ble_eq_true rfl) ?_
  intro a HF
  refine wp_seq (wp_region_lit ?_)
  obtain ⟨z1, hz1⟩ : ∃ z, w.heap.size = z := ⟨_, rfl⟩
  refine wp_sym HF HM hz1 2 [] (law_progBytes_S1 a1 a2 a3 z1) [law_progBytes_B0 z1 x] (by kernel_rfl) ?_
  clear HF HM hz1; intro a w HF HM
  refine nil_then ?_
  refine wp_seq ?_
  refine wp_seq (wp_region_lit ?_)
  refine wp_pure HF HM rfl 1 [[0]] ((law_progBytes_S1 a1 a2 a3 z1) ++ [(11, .agg #[.bool x.wide, .bool x.big, u8_ x.abi, u8_ x.abiv, .int .i64 x.ty, .int .i64 x.machine, u6_ x.entry, .slice x.A x.ss.length x.c, .slice x.B x.ps.length x.d])]) (by kernel_rfl) ?_
  clear HF; intro a HF
  refine wp_call HF (by kernel_rfl) 20 #[.agg #[.bool x.wide, .bool x.big, u8_ x.abi, u8_ x.abiv, .int .i64 x.ty, .int .i64 x.machine, u6_ x.entry, .slice x.A x.ss.length x.c, .slice x.B x.ps.length x.d]] (by kernel_rfl) (fun w => by kernel_rfl) (Calls.mono (zzFits1_any x w (h.below HM.below)) ?_)
  rintro _ w1 ⟨b1, rfl, hb⟩
  replace HM := HM.call hb
  clear hb
  refine ⟨_, rfl, ?_⟩; clear HF; intro a HF
  replace HF := HF.sub ((law_progBytes_S1 a1 a2 a3 z1) ++ [(12, .bool b1)]) (by kernel_rfl)
  rcases bool_cases2 b1 with hc2 | hc2
  · replace HF := Fr.sub (Fr.tell HF 12 rfl (congrArg Value.bool hc2)) ((law_progBytes_S1 a1 a2 a3 z1) ++ [(12, .bool false)]) (by kernel_rfl)
    refine wp_pure HF HM rfl 1 [] ((law_progBytes_S1 a1 a2 a3 z1) ++ [(13, .bool true)]) (by kernel_rfl) ?_
    clear HF; intro a HF
    refine nil_then ?_
    refine wp_condT HF rfl ?_
    refine wp_seq (wp_region_lit ?_)
    refine wp_pure HF HM rfl 1 [] [(8, .bool true)] (by kernel_rfl) ?_
    clear HF; intro a HF
    refine nil_then ?_
    refine wp_ret ?_
    repeat (first | refine then_ret ?_ | refine inb_ret ?_)
    exact ret_one HF rfl rfl ⟨rfl, HM.below⟩
  replace HF := Fr.sub (Fr.tell HF 12 rfl (congrArg Value.bool hc2)) ((law_progBytes_S1 a1 a2 a3 z1) ++ [(12, .bool true)]) (by kernel_rfl)
  refine wp_pure HF HM rfl 1 [] ((law_progBytes_S1 a1 a2 a3 z1) ++ [(13, .bool false)]) (by kernel_rfl) ?_
  clear HF; intro a HF
  refine nil_then ?_
  refine wp_condF HF rfl ?_
  refine wp_skip ?_
  repeat (first | refine then_norm ?_ | refine inb_norm ?_)
  refine wp_seq ?_
  refine wp_seq (wp_region_lit ?_)
  refine wp_pure HF HM rfl 1 [[0]] ((law_progBytes_S1 a1 a2 a3 z1) ++ [(14, .agg #[.bool x.wide, .bool x.big, u8_ x.abi, u8_ x.abiv, .int .i64 x.ty, .int .i64 x.machine, u6_ x.entry, .slice x.A x.ss.length x.c, .slice x.B x.ps.length x.d])]) (by kernel_rfl) ?_
  clear HF; intro a HF
  refine wp_call HF (by kernel_rfl) 22 #[.agg #[.bool x.wide, .bool x.big, u8_ x.abi, u8_ x.abiv, .int .i64 x.ty, .int .i64 x.machine, u6_ x.entry, .slice x.A x.ss.length x.c, .slice x.B x.ps.length x.d]] (by kernel_rfl) (fun w => by kernel_rfl) (Calls.mono (isImage_any x w1 (h.below HM.below)) ?_)
  rintro _ w2 ⟨b3, rfl, hb, hok4⟩
  replace HM := HM.call hb
  clear hb
  refine ⟨_, rfl, ?_⟩; clear HF; intro a HF
  replace HF := HF.sub ((law_progBytes_S1 a1 a2 a3 z1) ++ [(15, .bool b3)]) (by kernel_rfl)
  rcases bool_cases2 b3 with hc5 | hc5
  · replace HF := Fr.sub (Fr.tell HF 15 rfl (congrArg Value.bool hc5)) ((law_progBytes_S1 a1 a2 a3 z1) ++ [(15, .bool false)]) (by kernel_rfl)
    refine wp_pure HF HM rfl 48 [] ((law_progBytes_S1 a1 a2 a3 z1) ++ [(63, .bool true)]) (by kernel_rfl) ?_
    clear HF; intro a HF
    refine nil_then ?_
    refine wp_condT HF rfl ?_
    refine wp_seq (wp_region_lit ?_)
    refine wp_pure HF HM rfl 1 [] [(8, .bool true)] (by kernel_rfl) ?_
    clear HF; intro a HF
    refine nil_then ?_
    refine wp_ret ?_
    repeat (first | refine then_ret ?_ | refine inb_ret ?_)
    exact ret_one HF rfl rfl ⟨rfl, HM.below⟩
  replace HF := Fr.sub (Fr.tell HF 15 rfl (congrArg Value.bool hc5)) ((law_progBytes_S1 a1 a2 a3 z1) ++ [(15, .bool true)]) (by kernel_rfl)
  refine wp_pure HF HM rfl 6 [] ((law_progBytes_S1 a1 a2 a3 z1) ++ [(21, .bool (decide (a1 < 0)))]) (by kernel_rfl) ?_
  clear HF; intro a HF
  by_cases hc6 : a1 < 0
  · rw [show decide (a1 < 0) = true from dec_t (hc6)] at HF
    refine wp_pure HF HM rfl 42 [] ((law_progBytes_S1 a1 a2 a3 z1) ++ [(63, .bool true)]) (by kernel_rfl) ?_
    clear HF; intro a HF
    refine nil_then ?_
    refine wp_condT HF rfl ?_
    refine wp_seq (wp_region_lit ?_)
    refine wp_pure HF HM rfl 1 [] [(8, .bool true)] (by kernel_rfl) ?_
    clear HF; intro a HF
    refine nil_then ?_
    refine wp_ret ?_
    repeat (first | refine then_ret ?_ | refine inb_ret ?_)
    exact ret_one HF rfl rfl ⟨rfl, HM.below⟩
  rw [show decide (a1 < 0) = false from dec_f (hc6)] at HF
  obtain ⟨k, rfl⟩ : ∃ k : Nat, a1 = ((k : Nat) : Int) := ⟨a1.toNat, by omega⟩
  refine wp_pure HF HM rfl 7 [[0]] ((law_progBytes_S2 k a2 a3 z1) ++ [(28, .bool (decide (((x.ss.length : Nat) : Int) ≤ ((k : Nat) : Int))))]) (by kernel_rfl) ?_
  clear HF; intro a HF
  by_cases hc7 : ((x.ss.length : Nat) : Int) ≤ ((k : Nat) : Int)
  · rw [show decide (((x.ss.length : Nat) : Int) ≤ ((k : Nat) : Int)) = true from dec_t (hc7)] at HF
    refine wp_pure HF HM rfl 35 [] ((law_progBytes_S2 k a2 a3 z1) ++ [(63, .bool true)]) (by kernel_rfl) ?_
    clear HF; intro a HF
    refine nil_then ?_
    refine wp_condT HF rfl ?_
    refine wp_seq (wp_region_lit ?_)
    refine wp_pure HF HM rfl 1 [] [(8, .bool true)] (by kernel_rfl) ?_
    clear HF; intro a HF
    refine nil_then ?_
    refine wp_ret ?_
    repeat (first | refine then_ret ?_ | refine inb_ret ?_)
    exact ret_one HF rfl rfl ⟨rfl, HM.below⟩
  rw [show decide (((x.ss.length : Nat) : Int) ≤ ((k : Nat) : Int)) = false from dec_f (hc7)] at HF
  refine wp_pure HF HM rfl 4 [] ((law_progBytes_S2 k a2 a3 z1) ++ [(32, .bool (decide (a2 < 0)))]) (by kernel_rfl) ?_
  clear HF; intro a HF
  by_cases hc8 : a2 < 0
  · rw [show decide (a2 < 0) = true from dec_t (hc8)] at HF
    refine wp_pure HF HM rfl 31 [] ((law_progBytes_S2 k a2 a3 z1) ++ [(63, .bool true)]) (by kernel_rfl) ?_
    clear HF; intro a HF
    refine nil_then ?_
    refine wp_condT HF rfl ?_
    refine wp_seq (wp_region_lit ?_)
    refine wp_pure HF HM rfl 1 [] [(8, .bool true)] (by kernel_rfl) ?_
    clear HF; intro a HF
    refine nil_then ?_
    refine wp_ret ?_
    repeat (first | refine then_ret ?_ | refine inb_ret ?_)
    exact ret_one HF rfl rfl ⟨rfl, HM.below⟩
  rw [show decide (a2 < 0) = false from dec_f (hc8)] at HF
  refine wp_pure HF HM rfl 4 [] ((law_progBytes_S2 k a2 a3 z1) ++ [(36, .bool (decide (a3 < 0)))]) (by kernel_rfl) ?_
  clear HF; intro a HF
  by_cases hc9 : a3 < 0
  · rw [show decide (a3 < 0) = true from dec_t (hc9)] at HF
    refine wp_pure HF HM rfl 27 [] ((law_progBytes_S2 k a2 a3 z1) ++ [(63, .bool true)]) (by kernel_rfl) ?_
    clear HF; intro a HF
    refine nil_then ?_
    refine wp_condT HF rfl ?_
    refine wp_seq (wp_region_lit ?_)
    refine wp_pure HF HM rfl 1 [] [(8, .bool true)] (by kernel_rfl) ?_
    clear HF; intro a HF
    refine nil_then ?_
    refine wp_ret ?_
    repeat (first | refine then_ret ?_ | refine inb_ret ?_)
    exact ret_one HF rfl rfl ⟨rfl, HM.below⟩
  rw [show decide (a3 < 0) = false from dec_f (hc9)] at HF
  obtain ⟨o, rfl⟩ : ∃ o : Nat, a2 = ((o : Nat) : Int) := ⟨a2.toNat, by omega⟩
  obtain ⟨m, rfl⟩ : ∃ m : Nat, a3 = ((m : Nat) : Int) := ⟨a3.toNat, by omega⟩
  refine wp_pure HF HM rfl 4 [[0]] ((law_progBytes_S3 k o m z1) ++ [(36, .bool false), (37, i6_ o), (39, .slice x.A x.ss.length x.c), (40, i6_ k)]) (by kernel_rfl) ?_
  clear HF; intro a HF
  obtain ⟨m10, hm10⟩ : ∃ m, x.ss[k]? = some m := ⟨_, List.getElem?_eq_getElem (by omega)⟩
  have ok := (hok4 hc5).1
  have iok := ImgM.ok ok h
  have hme_m10 := ok.seg m10 (List.mem_of_getElem? hm10)
  have hmd_m10 := hme_m10.data
  have hmb_m10 := h.seg m10 (List.mem_of_getElem? hm10)
  have hmc_m10 := hmb_m10.c1
  obtain ⟨b11, o12, hA13⟩ := row_some (HM.row h.segs) (List.length_pos_of_mem (List.mem_flatMap.2 ⟨m10, List.mem_of_getElem? hm10, List.mem_cons_self⟩))
  refine wp_run HF (by kernel_rfl) (.pointer (some ⟨b11, o12 + k * 7, none⟩)) (by kernel_rfl) (run_index_at Tryd.underlying23 (by kernel_rfl) rfl k hA13 rfl rfl (by omega)) ?_
  clear HF; intro a HF; replace HF := HF.sub ((law_progBytes_S3 k o m z1) ++ [(36, .bool false), (37, i6_ o), (41, .pointer (some ⟨b11, o12 + k * 7, none⟩))]) (by kernel_rfl)
  refine wp_pure HF HM rfl 1 [] ((law_progBytes_S3 k o m z1) ++ [(36, .bool false), (37, i6_ o), (42, .pointer (some ⟨b11, o12 + k * 7 + 6, none⟩))]) (by kernel_rfl) ?_
  clear HF; intro a HF
  refine wp_run HF (by kernel_rfl) (.slice m10.A m10.data.length m10.c) (by kernel_rfl) (run_load_row1 rfl rfl (row_fld (row_at_elem (f := SegM.cells) (k := 7) (fun _ => rfl) hA13 (HM.row h.segs) k hm10) 6 rfl) (by kernel_rfl)) ?_
  clear HF; intro a HF; replace HF := HF.sub ((law_progBytes_S3 k o m z1) ++ [(36, .bool false), (37, i6_ o), (43, .slice m10.A m10.data.length m10.c)]) (by kernel_rfl)
  refine wp_pure HF HM rfl 4 [] ((law_progBytes_S3 k o m z1) ++ [(47, .bool (decide (((m10.data.length : Nat) : Int) < ((o : Nat) : Int))))]) (by kernel_rfl) ?_
  clear HF; intro a HF
  by_cases hc14 : ((m10.data.length : Nat) : Int) < ((o : Nat) : Int)
  · rw [show decide (((m10.data.length : Nat) : Int) < ((o : Nat) : Int)) = true from dec_t (hc14)] at HF
    refine wp_pure HF HM rfl 16 [] ((law_progBytes_S3 k o m z1) ++ [(63, .bool true)]) (by kernel_rfl) ?_
    clear HF; intro a HF
    refine nil_then ?_
    refine wp_condT HF rfl ?_
    refine wp_seq (wp_region_lit ?_)
    refine wp_pure HF HM rfl 1 [] [(8, .bool true)] (by kernel_rfl) ?_
    clear HF; intro a HF
    refine nil_then ?_
    refine wp_ret ?_
    repeat (first | refine then_ret ?_ | refine inb_ret ?_)
    exact ret_one HF rfl rfl ⟨rfl, HM.below⟩
  rw [show decide (((m10.data.length : Nat) : Int) < ((o : Nat) : Int)) = false from dec_f (hc14)] at HF
  refine wp_pure HF HM rfl 4 [[0]] ((law_progBytes_S3 k o m z1) ++ [(47, .bool false), (48, i6_ m), (50, .slice x.A x.ss.length x.c), (51, i6_ k)]) (by kernel_rfl) ?_
  clear HF; intro a HF
  refine wp_run HF (by kernel_rfl) (.pointer (some ⟨b11, o12 + k * 7, none⟩)) (by kernel_rfl) (run_index_at Tryd.underlying23 (by kernel_rfl) rfl k hA13 rfl rfl (by omega)) ?_
  clear HF; intro a HF; replace HF := HF.sub ((law_progBytes_S3 k o m z1) ++ [(47, .bool false), (48, i6_ m), (52, .pointer (some ⟨b11, o12 + k * 7, none⟩))]) (by kernel_rfl)
  refine wp_pure HF HM rfl 1 [] ((law_progBytes_S3 k o m z1) ++ [(47, .bool false), (48, i6_ m), (53, .pointer (some ⟨b11, o12 + k * 7 + 6, none⟩))]) (by kernel_rfl) ?_
  clear HF; intro a HF
  refine wp_run HF (by kernel_rfl) (.slice m10.A m10.data.length m10.c) (by kernel_rfl) (run_load_row1 rfl rfl (row_fld (row_at_elem (f := SegM.cells) (k := 7) (fun _ => rfl) hA13 (HM.row h.segs) k hm10) 6 rfl) (by kernel_rfl)) ?_
  clear HF; intro a HF; replace HF := HF.sub ((law_progBytes_S3 k o m z1) ++ [(47, .bool false), (48, i6_ m), (54, .slice m10.A m10.data.length m10.c)]) (by kernel_rfl)
  refine wp_pure HF HM rfl 3 [] ((law_progBytes_S3 k o m z1) ++ [(47, .bool false), (48, i6_ m), (57, iI_ (IntKind.i64.wrap (((m10.data.length : Nat) : Int) - ((o : Nat) : Int))))]) (by kernel_rfl) ?_
  clear HF; intro a HF
  rw [show IntKind.i64.wrap (((m10.data.length : Nat) : Int) - ((o : Nat) : Int)) = (((m10.data.length : Nat) : Int) - ((o : Nat) : Int)) from (IntWalk.i64_in _ (by omega)).trans (by omega)] at HF
  refine wp_pure HF HM rfl 3 [] ((law_progBytes_S3 k o m z1) ++ [(60, .bool (decide ((((m10.data.length : Nat) : Int) - ((o : Nat) : Int)) < ((m : Nat) : Int))))]) (by kernel_rfl) ?_
  clear HF; intro a HF
  by_cases hc15 : (((m10.data.length : Nat) : Int) - ((o : Nat) : Int)) < ((m : Nat) : Int)
  · rw [show decide ((((m10.data.length : Nat) : Int) - ((o : Nat) : Int)) < ((m : Nat) : Int)) = true from dec_t (hc15)] at HF
    refine wp_pure HF HM rfl 3 [] ((law_progBytes_S3 k o m z1) ++ [(63, .bool true)]) (by kernel_rfl) ?_
    clear HF; intro a HF
    refine nil_then ?_
    refine wp_condT HF rfl ?_
    refine wp_seq (wp_region_lit ?_)
    refine wp_pure HF HM rfl 1 [] [(8, .bool true)] (by kernel_rfl) ?_
    clear HF; intro a HF
    refine nil_then ?_
    refine wp_ret ?_
    repeat (first | refine then_ret ?_ | refine inb_ret ?_)
    exact ret_one HF rfl rfl ⟨rfl, HM.below⟩
  rw [show decide ((((m10.data.length : Nat) : Int) - ((o : Nat) : Int)) < ((m : Nat) : Int)) = false from dec_f (hc15)] at HF
  refine wp_pure HF HM rfl 3 [] ((law_progBytes_S3 k o m z1) ++ [(63, .bool (((m : Nat) : Int) == 0))]) (by kernel_rfl) ?_
  clear HF; intro a HF
  refine nil_then ?_
  by_cases hc16 : ((m : Nat) : Int) = 0
  · rw [show (((m : Nat) : Int) == 0) = true from beq_t (hc16)] at HF
    refine wp_condT HF rfl ?_
    refine wp_seq (wp_region_lit ?_)
    refine wp_pure HF HM rfl 1 [] [(8, .bool true)] (by kernel_rfl) ?_
    clear HF; intro a HF
    refine nil_then ?_
    refine wp_ret ?_
    repeat (first | refine then_ret ?_ | refine inb_ret ?_)
    exact ret_one HF rfl rfl ⟨rfl, HM.below⟩
  rw [show (((m : Nat) : Int) == 0) = false from beq_f (hc16)] at HF
  refine wp_condF HF rfl ?_
  refine wp_skip ?_
  repeat (first | refine then_norm ?_ | refine inb_norm ?_)
  refine wp_seq (wp_region_lit ?_)
  refine wp_pure HF HM rfl 1 [[0]] ((law_progBytes_S3 k o m z1) ++ [(65, .agg #[.bool x.wide, .bool x.big, u8_ x.abi, u8_ x.abiv, .int .i64 x.ty, .int .i64 x.machine, u6_ x.entry, .slice x.A x.ss.length x.c, .slice x.B x.ps.length x.d])]) (by kernel_rfl) ?_
  clear HF; intro a HF
  refine wp_call HF (by kernel_rfl) 25 #[.agg #[.bool x.wide, .bool x.big, u8_ x.abi, u8_ x.abiv, .int .i64 x.ty, .int .i64 x.machine, u6_ x.entry, .slice x.A x.ss.length x.c, .slice x.B x.ps.length x.d]] (by kernel_rfl) (fun w => by kernel_rfl) (Calls.mono (fileOf_any x w2 (h.below HM.below) ok) ?_)
  rintro _ w3 ⟨gf17, capf17, curf17, rfl, hb, hof17⟩
  replace HM : Mm [] w0 w3 [(gf17, .cells curf17 5 (0, 0)), law_progBytes_B0 z1 x] := HM.push hb hof17.new hof17.obj
  clear hb
  refine ⟨_, rfl, ?_⟩; clear HF; intro a HF
  replace HF := HF.sub ((law_progBytes_S3 k o m z1) ++ [(66, sl_ gf17 x.img.file.length capf17)]) (by kernel_rfl)
  refine wp_pure HF HM rfl 3 [] ((law_progBytes_S3 k o m z1) ++ [(66, sl_ gf17 x.img.file.length capf17), (67, i6_ k), (68, i6_ o), (69, i6_ m)]) (by kernel_rfl) ?_
  clear HF; intro a HF
  have hsg := sg_at hm10
  refine wp_call HF (by kernel_rfl) 34 #[sl_ gf17 x.img.file.length capf17, i6_ k, i6_ o, i6_ m] (by kernel_rfl) (fun w => by kernel_rfl) (Calls.mono (progBytes_any x.img.file _ _ _ rfl hof17.nc x.img.wide x.img.big x.img.abi x.img.abiv x.img.ty x.img.machine x.img.entry (hSize x.img.wide) x.img.segs.length x.img.shoff x.img.all.length (sgOf x.img) (scOf x.img) (nbOf x.img) (good_file iok) (by have hq := Img.Ok.length_le iok; omega) k o m (by rw [segs_len]; omega) (by omega) (by rw [hsg]; show o + m ≤ m10.data.length; omega) (by omega) (seg_end x iok k hm10) w3 (HM.rowOwn (i := 0) rfl hof17.tk)) ?_)
  rintro _ w4 ⟨tb_, rfl, hb, hrt⟩
  rw [seg_bytes x k o m hm10 (by omega)] at hrt
  replace HM := HM.call hb
  clear hb
  refine ⟨_, rfl, ?_⟩; clear HF; intro a HF
  replace HF := HF.sub ((law_progBytes_S3 k o m z1) ++ [(70, .tuple #[sl_ tb_ m m, .bool true])]) (by kernel_rfl)
  refine wp_pure HF HM rfl 5 [] ((law_progBytes_S3 k o m z1) ++ [(9, sl_ tb_ m m), (10, .bool true)]) (by kernel_rfl) ?_
  clear HF; intro a HF
  refine nil_then ?_
  refine wp_seq (wp_region_lit ?_)
  refine wp_pure HF HM rfl 6 [[0]] [(2, i6_ o), (3, i6_ m), (74, .bool true), (75, sl_ tb_ m m), (77, .slice x.A x.ss.length x.c), (78, i6_ k)] (by kernel_rfl) ?_
  clear HF; intro a HF
  refine wp_run HF (by kernel_rfl) (.pointer (some ⟨b11, o12 + k * 7, none⟩)) (by kernel_rfl) (run_index_at Tryd.underlying23 (by kernel_rfl) rfl k hA13 rfl rfl (by omega)) ?_
  clear HF; intro a HF; replace HF := HF.sub [(2, i6_ o), (3, i6_ m), (74, .bool true), (75, sl_ tb_ m m), (79, .pointer (some ⟨b11, o12 + k * 7, none⟩))] (by kernel_rfl)
  refine wp_pure HF HM rfl 1 [] [(2, i6_ o), (3, i6_ m), (74, .bool true), (75, sl_ tb_ m m), (80, .pointer (some ⟨b11, o12 + k * 7 + 6, none⟩))] (by kernel_rfl) ?_
  clear HF; intro a HF
  refine wp_run HF (by kernel_rfl) (.slice m10.A m10.data.length m10.c) (by kernel_rfl) (run_load_row1 rfl rfl (row_fld (row_at_elem (f := SegM.cells) (k := 7) (fun _ => rfl) hA13 (HM.row h.segs) k hm10) 6 rfl) (by kernel_rfl)) ?_
  clear HF; intro a HF; replace HF := HF.sub [(2, i6_ o), (3, i6_ m), (74, .bool true), (75, sl_ tb_ m m), (81, .slice m10.A m10.data.length m10.c)] (by kernel_rfl)
  refine wp_pure HF HM rfl 4 [] [(74, .bool true), (75, sl_ tb_ m m), (81, .slice m10.A m10.data.length m10.c), (82, i6_ o), (85, iI_ (IntKind.i64.wrap (((o : Nat) : Int) + ((m : Nat) : Int))))] (by kernel_rfl) ?_
  clear HF; intro a HF
  rw [show IntKind.i64.wrap (((o : Nat) : Int) + ((m : Nat) : Int)) = (((o + m) : Nat) : Int) from (IntWalk.i64_in _ (by omega)).trans (by omega)] at HF
  obtain ⟨A2, hA2, hA3⟩ := run_slice_row (P := Tryd.prog) Tryd.underlying33 hi8 hs8 m10.A m10.data.length m10.c o (o + m) (by omega) (by omega)
  refine wp_run HF (by kernel_rfl) (.slice A2 (o + m - o) (m10.c - o)) (by kernel_rfl) (run_slice_op (v := .slice m10.A m10.data.length m10.c) (vl := i6_ o) (vh := i6_ (o + m)) Tryd.underlying33 rfl rfl rfl rfl (hA2 _)) ?_
  clear HF; intro a HF; replace HF := HF.sub [(74, .bool true), (75, sl_ tb_ m m), (86, .slice A2 (o + m - o) (m10.c - o))] (by kernel_rfl)
  have hsl : ((m10.data.drop o).take m).length = m := by rw [List.length_take, List.length_drop]; omega
  have hr2 := hA3 _ _ (hmb_m10.below HM.below).row
  rw [Nat.mul_one, Nat.mul_one, Nat.add_sub_cancel_left, ← List.map_drop, ← List.map_take] at hr2
  refine wp_call HF (by kernel_rfl) 33 #[sl_ tb_ m m, .slice A2 (o + m - o) (m10.c - o)] (by kernel_rfl) (fun w => by kernel_rfl) (Calls.mono (same_at ((m10.data.drop o).take m) _ _ m (o + m - o) m (m10.c - o) hsl.symm (by omega) w4 hrt hr2) ?_)
  rintro _ w5 ⟨rfl, hb⟩
  replace HM := HM.call hb
  clear hb
  refine ⟨_, rfl, ?_⟩; clear HF; intro a HF
  replace HF := HF.sub [(74, .bool true), (87, .bool true)] (by kernel_rfl)
  refine wp_pure HF HM rfl 2 [] [(8, .bool true)] (by kernel_rfl) ?_
  clear HF; intro a HF
  refine nil_then ?_
  refine wp_ret ?_
  repeat (first | refine then_ret ?_ | refine inb_ret ?_)
  exact ret_one HF rfl rfl ⟨rfl, HM.below⟩

end Go.Proofs.YtdgehpocmfjbiaaDoor
namespace Go.Proofs.YtdgehpocmfjbiaaDoor.fnProgBytes
open Go Go.ChangeShapes Go.WideShapes Go.ChangeAt Go.RowKit Go.Deep

theorem own : ownKnob Tryd.prog.godebug = none := by kernel_rfl
theorem laidOut : laidOutB Tryd.prog = true := by kernel_rfl
theorem door_met (os : Os) (args : Array Value) : laidMetH Tryd.prog Rows.fnProgBytesRow.laid ((World.doorLaid Tryd.prog 123 os).forCall (fun _ _ => 0) ⟨#[], args, []⟩).memory :=
  laidMetH_of_parts3 (fuel := 8) (laidMet_of_run' 8 (by kernel_rfl) (by kernel_rfl)) (by kernel_rfl) (by kernel_rfl)

set_option maxRecDepth 100000 in
theorem lifted (os : Os) (started : os.Started) (H : Type) (enc : TypeId × Value → H) :
    ReturnsInHanded {} Tryd.checked os 10 .any (fun w args => (Rows.fnProgBytesSpec.pre enc Tryd.prog Tryd.f10 [] false w args ∧ laidMetH Tryd.prog Rows.fnProgBytesRow.laid w) ∧ sizedMet enc Tryd.prog Tryd.f10 (OpenSpec.ofChange Rows.fnProgBytesSpec) false w args)
      (Rows.fnProgBytesSpec.post enc Tryd.prog Tryd.f10 false true false false) := by
  refine returnsInHanded_of_change_and (C := Tryd.checked) (X := fun w _ => laidMetH Tryd.prog Rows.fnProgBytesRow.laid w) (fun _ _ _ hh h => h.of_heap hh) own started (by kernel_rfl) Tryd.func10
    (ChangeSpec.witness_shaped (enc := enc) (C := Tryd.checked) (os := os) (X := fun w _ => laidMetH Tryd.prog Rows.fnProgBytesRow.laid w) false (World.doorLaid Tryd.prog 123 os) #[.agg #[.bool false, .bool false, .int .u8 0, .int .u8 0, .int .i64 0, .int .i64 0, .int .u64 0, .slice none 0 0, .slice none 0 0], .int .i64 0, .int .i64 0, .int .i64 0] 8 rfl (World.shaped_of_RefB (by kernel_rfl) (by kernel_rfl)) (by kernel_rfl) (by kernel_rfl) (by kernel_rfl) (door_met os _)) ?_
  intro W base args ds gs before hval0 hW _ _ hL _
  have hval : ∀ (j : Nat) t v, Tryd.f10.params[j]? = some t → args[j]? = some v → Value.okWide Tryd.prog W .any base t v := hval0
  have hW' := hW
  obtain ⟨p, q, hA0, hV, rfl, hfz, hnd⟩ := hW
  have hA : DataW.TrodAll enc Tryd.prog W 0 (fun _ => true) true Tryd.f10.params.toList args.toList ds p := hA0
  rw [Tryd.params10] at hA hval
  obtain ⟨v0, vs0, d0, ds0, p0, q0, hargs, rfl, rfl, h0, r0⟩ := trodAll_cons hA
  obtain ⟨v1, vs1, d1, ds1, p1, q1, rfl, rfl, rfl, h1, r1⟩ := trodAll_cons r0
  obtain ⟨v2, vs2, d2, ds2, p2, q2, rfl, rfl, rfl, h2, r2⟩ := trodAll_cons r1
  obtain ⟨v3, vs3, d3, ds3, p3, q3, rfl, rfl, rfl, h3, r3⟩ := trodAll_cons r2
  obtain ⟨rfl, rfl, rfl⟩ := trodAll_nil r3
  obtain rfl : args = #[v0, v1, v2, v3] := by cases args; simp_all
  obtain ⟨rfl, rfl⟩ := trodVars_none hV
  have k0 := h0
  have lt0 : ∀ x ∈ p0, x.block < W.heap.size := by obtain ⟨m, hm⟩ := k0; exact DataW.trod_lt m _ _ _ hm
  have k1 := h1
  have lt1 : ∀ x ∈ p1, x.block < W.heap.size := by obtain ⟨m, hm⟩ := k1; exact DataW.trod_lt m _ _ _ hm
  have k2 := h2
  have lt2 : ∀ x ∈ p2, x.block < W.heap.size := by obtain ⟨m, hm⟩ := k2; exact DataW.trod_lt m _ _ _ hm
  have k3 := h3
  have lt3 : ∀ x ∈ p3, x.block < W.heap.size := by obtain ⟨m, hm⟩ := k3; exact DataW.trod_lt m _ _ _ hm
  obtain ⟨x0, rfl, hx0⟩ := open_img (hval 0 26 v0 rfl rfl) h0
  obtain ⟨a1, rfl, -, -, z1⟩ := open_int Tryd.underlying3 (hval 1 3 v1 rfl rfl) h1
  have q1 := bounds_i64 z1
  obtain ⟨a2, rfl, -, -, z2⟩ := open_int Tryd.underlying3 (hval 2 3 v2 rfl rfl) h2
  have q2 := bounds_i64 z2
  obtain ⟨a3, rfl, -, -, z3⟩ := open_int Tryd.underlying3 (hval 3 3 v3 rfl rfl) h3
  have q3 := bounds_i64 z3
  clear hA0 hval0
  refine (law_progBytes x0 a1 a2 a3 W hx0 q1 q2 q3).mono fun e W' ⟨he, bel⟩ => ?_
  subst he
  exact ⟨_, rfl, _, _, _, [], _, [], hW', trodAll_mk1 (shut_bool Tryd.underlying4 _), (trodAll_cons_mk (Below.trod laidOut (by kernel_rfl) (of_decide_eq_true (by kernel_rfl)) k0 bel lt0) (trodAll_cons_mk (Below.trod laidOut (by kernel_rfl) (of_decide_eq_true (by kernel_rfl)) k1 bel lt1) (trodAll_cons_mk (Below.trod laidOut (by kernel_rfl) (of_decide_eq_true (by kernel_rfl)) k2 bel lt2) (trodAll_cons_mk (Below.trod laidOut (by kernel_rfl) (of_decide_eq_true (by kernel_rfl)) k3 bel lt3) trodAll_mk0)))), rfl, bel.frame _, fun h => by cases h⟩

set_option maxRecDepth 100000 in
theorem over_j : joinedFacts Tryd.pinned.checked.prog 10 Tryd.f10 Rows.fnProgBytesSpec Rows.fnProgBytesRow = true := (and_t (and_t (and_t (and_t (and_t (and_t (and_t (and_t (and_t (and_t (and_t (and_t (and_t (and_t (and_t (and_t (and_t (and_t (and_t (and_t (and_t (and_t (and_t (and_t (and_t (and_t (and_t (and_t (and_t (and_t (and_t l0 l1) l2) l3) l4) l5) l6) l7) l8) l9) l10) l11) l12) l13) l14) l15) l16) l17) l18) l19) l20) l21) l22) l23) l24) l25) l26) l27) l28) l29) l30) l31)

theorem over : Rows.FnProgBytesSaid :=
  OpenClaim.holds_of_wide 10 Tryd.f10 rfl rfl rfl rfl rfl rfl rfl ⟨rfl, rfl, rfl, rfl, rfl⟩ rfl rfl rfl rfl rfl c5 Tryd.func10 over_j
    (of_decide_eq_true (by kernel_rfl)) (by unfold Func.isWrapper; first | (rw [if_pos (by decide +kernel)]; kernel_rfl) | (rw [if_neg (by decide +kernel)]; exact ⟨rfl, rfl⟩))
    (fun os started H enc _ => lifted os started H enc)

theorem proved : Rows.FnProgBytesCardSaid :=
  Claim7.holds_tied_plain_at .later [] [.sentinel, .sentinel, .sentinel, .sentinel, .sentinel] true (true, "ed888367449acd6afd80057b2906ce1b79ec16b7beef13a0a9ac5f630eedede4") true
    over (fun _ h => by cases h) c1 (fun _ h => by cases h) fnProgBytes_row_tie rfl ⟨rfl, rfl⟩ qc4 rfl
    (fun f fn hf hfn => by
      obtain rfl : f = 10 := Option.some.inj (c5.symm.trans hf) |>.symm
      obtain rfl : fn = Tryd.f10 := (Option.some.inj (Tryd.func10.symm.trans hfn)).symm
      exact ⟨qc2, fun j t ht => by
        rw [Tryd.params10] at ht
        have hm : t ∈ [26, 3, 3, 3] := by simpa using Array.mem_of_getElem? ht
        have hall : ([26, 3, 3, 3].all fun u => !Tryd.prog.wantsStandIn u) = true := by kernel_rfl
        exact (show Tryd.prog.wantsStandIn t = false by simpa using List.all_eq_true.1 hall t hm)⟩)
    c3
#print axioms proved
end Go.Proofs.YtdgehpocmfjbiaaDoor.fnProgBytes
