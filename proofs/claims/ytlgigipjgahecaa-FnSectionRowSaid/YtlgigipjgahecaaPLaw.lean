/- impl.ProgRow, zzFits3, and the walk of the law FnProgRow. -/
import Derived.Test.YtlgigipjgahecaaSecHdr
import Derived.Laws.StructEq
namespace Go.Proofs.Ytlgigipjgahecaa
open Go.RowKit
set_option linter.unusedVariables false

theorem results_cell_tmp {P : Program} {fn : Func} {p t : Tmp} {ty T : TypeId} {g : Nat} {cs : Array Value} {fs : Array Field} {w : World} {tmps : Array Value} {vt : Value} (h : fn.results = #[.cell p ty, .tmp t]) (hp : tmps.getD p undef = .pointer (some ⟨g, 0, none⟩)) (ht : tmps.getD t undef = vt) (ho : w.heap[g]? = some (.cells cs T (0, 0))) (hu : P.underlying ty = some (.struct fs)) (hi : (P.info? ty).map (·.size) = some cs.size) :
    (results fn tmps).run P w = .ok (.tuple #[.agg cs, vt]) w := by
  have hl := run_loadVar_row (P := P) w g T ty cs (0, 0) _ ho hu rfl hi
  have hp' : tmps[p]?.getD undef = .pointer (some ⟨g, 0, none⟩) := by simpa using hp
  have ht' : tmps[t]?.getD undef = vt := by simpa using ht
  simp only [results, h]
  simp [hp', ht', asAddr, hl]
theorem run_binop_eql {P : Program} {w : World} {ρ : Operand → Value} {o : Oper} {T U : TypeId} {x y : Operand} {u v r : Value} (ho : o.op = .binOp .eql T x y U) (hx : ρ x = u) (hy : ρ y = v) (hg : (eqGuard .eql T x y u v).run P w = .ok () w) (hr : (binOp .eql T u v).run P w = .ok r w) : (execOp ρ o).run P w = .ok (.value r) w := by
  unfold execOp
  simp only [ho, hx, hy, Sem.run_bind, hg, hr, Result.andThen_ok, Sem.run_pure]
theorem fits_lt {wide : Bool} {l : List Nat} (h : fitsB wide l = true) {n : Nat} (hn : n ∈ l) (h8 : n < 18446744073709551616) : n < 256 ^ aSz wide := by
  cases wide
  · unfold fitsB at h
    simp only [Bool.false_or, List.all_eq_true, decide_eq_true_eq] at h
    exact h n hn
  · exact h8
theorem progV_seg (wide big : Bool) (ty flags vaddr paddr memsz align n offset : Nat) (h1 : ty < 4294967296) (h2 : flags < 4294967296) (h3 : n < 4294967296) (hfb : fitsB wide [vaddr, paddr, memsz, align] = true) (hva : vaddr < 18446744073709551616) (hpa : paddr < 18446744073709551616) (hms : memsz < 18446744073709551616) (hal : align < 18446744073709551616) (h8 : offset < 4294967296) :
    progV wide big (segB wide big ty flags vaddr paddr memsz align n offset) = .agg #[.int .i64 (ty : Nat), .int .u32 (flags : Nat), .int .u64 (offset : Nat), .int .u64 (vaddr : Nat), .int .u64 (paddr : Nat), .int .u64 (n : Nat), .int .u64 (memsz : Nat), .int .u64 (align : Nat)] := by
  have hA : 4294967296 ≤ 256 ^ aSz wide := by cases wide <;> decide
  have h := seg_ok wide big ty flags vaddr paddr memsz align n offset [] h1 h2 (fits_lt hfb (by simp) hva) (fits_lt hfb (by simp) hpa) (fits_lt hfb (by simp) hms) (fits_lt hfb (by simp) hal) (by omega) (by omega)
  rw [List.append_nil] at h
  obtain ⟨e0, e1, e2, e3, e4, e5, e6, e7⟩ := h
  cases wide <;> simp only [aSz, num, if_true, Bool.false_eq_true, if_false, Nat.reduceMul] at e0 e1 e2 e3 e4 e5 e6 e7 <;> simp only [progV, if_true, Bool.false_eq_true, if_false, e0, e1, e2, e3, e4, e5, e6, e7]
theorem dec_f {p : Prop} [Decidable p] (h : ¬ p) : decide p = false := by simpa using h
theorem dec_t {p : Prop} [Decidable p] (h : p) : decide p = true := by simpa using h

set_option maxRecDepth 100000 in
set_option maxHeartbeats 1000000 in
theorem zzFits3_in (v0 v1 v2 v3 v4 v5 : Int) (A : Option Addr) (n c : Nat) (hn : n ≤ 2147483647) (w0 : World) :
    Calls Try.prog 30 #[.agg #[.int .u32 v0, .int .u32 v1, .int .u64 v2, .int .u64 v3, .int .u64 v4, .int .u64 v5, .slice A n c]] w0 fun e w' => e = .returned (.bool true) ∧ Below w0.heap.size w0 w' := by
  obtain ⟨w, hw⟩ : ∃ w, w0 = w := ⟨_, rfl⟩
  have HM : Mm w0 w [] := hw ▸ Mm.start w0
  conv => arg 4; rw [hw]
  clear hw
  refine calls_start Try.func30 rfl Try.ntmps30 [(0, .agg #[.int .u32 v0, .int .u32 v1, .int .u64 v2, .int .u64 v3, .int .u64 v4, .int .u64 v5, .slice A n c])] (by kernel_rfl) (Nat.le_of_ble_eq_true rfl) ?_
  intro a HF
  obtain ⟨z1, hz1⟩ : ∃ z, w.heap.size = z := ⟨_, rfl⟩
  refine reg_sym HF HM hz1 [] [(1, .pointer (some ⟨z1, 0, none⟩)), (2, .bool false)] [(z1, .cells #[.int .u32 v0, .int .u32 v1, .int .u64 v2, .int .u64 v3, .int .u64 v4, .int .u64 v5, .slice A n c] 53 (0, 0))] (by kernel_rfl) ?_
  clear HF HM hz1; intro a w HF HM
  refine wp_seq ?_
  refine wp_seq (wp_region_lit ?_)
  obtain ⟨z2, hz2⟩ : ∃ z, w.heap.size = z := ⟨_, rfl⟩
  refine wp_sym HF HM hz2 4 [[0]] [(1, .pointer (some ⟨z1, 0, none⟩)), (2, .bool false), (6, .bool (decide ((2147483647 : Int) < (n : Int))))] [(z1, .cells #[.int .u32 v0, .int .u32 v1, .int .u64 v2, .int .u64 v3, .int .u64 v4, .int .u64 v5, .slice A n c] 53 (0, 0))] (by kernel_rfl) ?_
  simp only [List.drop_succ_cons, List.drop_zero]; clear HF HM hz2; intro a w HF HM
  rw [show decide ((2147483647 : Int) < (n : Int)) = false from dec_f (by omega)] at HF
  refine nil_then ?_
  refine wp_condF HF rfl (wp_skip ?_)
  repeat (first | refine then_norm ?_ | refine inb_norm ?_)
  obtain ⟨z3, hz3⟩ : ∃ z, w.heap.size = z := ⟨_, rfl⟩
  refine reg_sym HF HM hz3 [] [(1, .pointer (some ⟨z1, 0, none⟩)), (6, .bool false), (2, .bool true)] [(z1, .cells #[.int .u32 v0, .int .u32 v1, .int .u64 v2, .int .u64 v3, .int .u64 v4, .int .u64 v5, .slice A n c] 53 (0, 0))] (by kernel_rfl) ?_
  clear HF HM hz3; intro a w HF HM
  refine wp_ret ?_
  exact ret_one HF rfl rfl ⟨rfl, HM.below⟩

set_option maxRecDepth 100000 in
set_option maxHeartbeats 1000000 in
theorem zzFits3_out (v0 v1 v2 v3 v4 v5 : Int) (A : Option Addr) (n c : Nat) (hn : 2147483647 < n) (w0 : World) :
    Calls Try.prog 30 #[.agg #[.int .u32 v0, .int .u32 v1, .int .u64 v2, .int .u64 v3, .int .u64 v4, .int .u64 v5, .slice A n c]] w0 fun e w' => e = .returned (.bool false) ∧ Below w0.heap.size w0 w' := by
  obtain ⟨w, hw⟩ : ∃ w, w0 = w := ⟨_, rfl⟩
  have HM : Mm w0 w [] := hw ▸ Mm.start w0
  conv => arg 4; rw [hw]
  clear hw
  refine calls_start Try.func30 rfl Try.ntmps30 [(0, .agg #[.int .u32 v0, .int .u32 v1, .int .u64 v2, .int .u64 v3, .int .u64 v4, .int .u64 v5, .slice A n c])] (by kernel_rfl) (Nat.le_of_ble_eq_true rfl) ?_
  intro a HF
  obtain ⟨z1, hz1⟩ : ∃ z, w.heap.size = z := ⟨_, rfl⟩
  refine reg_sym HF HM hz1 [] [(1, .pointer (some ⟨z1, 0, none⟩)), (2, .bool false)] [(z1, .cells #[.int .u32 v0, .int .u32 v1, .int .u64 v2, .int .u64 v3, .int .u64 v4, .int .u64 v5, .slice A n c] 53 (0, 0))] (by kernel_rfl) ?_
  clear HF HM hz1; intro a w HF HM
  refine wp_seq ?_
  refine wp_seq (wp_region_lit ?_)
  obtain ⟨z2, hz2⟩ : ∃ z, w.heap.size = z := ⟨_, rfl⟩
  refine wp_sym HF HM hz2 4 [[0]] [(1, .pointer (some ⟨z1, 0, none⟩)), (2, .bool false), (6, .bool (decide ((2147483647 : Int) < (n : Int))))] [(z1, .cells #[.int .u32 v0, .int .u32 v1, .int .u64 v2, .int .u64 v3, .int .u64 v4, .int .u64 v5, .slice A n c] 53 (0, 0))] (by kernel_rfl) ?_
  simp only [List.drop_succ_cons, List.drop_zero]; clear HF HM hz2; intro a w HF HM
  rw [show decide ((2147483647 : Int) < (n : Int)) = true from dec_t (by omega)] at HF
  refine nil_then ?_
  refine wp_condT HF rfl ?_
  obtain ⟨z3, hz3⟩ : ∃ z, w.heap.size = z := ⟨_, rfl⟩
  refine reg_sym HF HM hz3 [] [(1, .pointer (some ⟨z1, 0, none⟩)), (6, .bool true), (2, .bool false)] [(z1, .cells #[.int .u32 v0, .int .u32 v1, .int .u64 v2, .int .u64 v3, .int .u64 v4, .int .u64 v5, .slice A n c] 53 (0, 0))] (by kernel_rfl) ?_
  clear HF HM hz3; intro a w HF HM
  refine wp_ret ?_
  repeat (first | refine then_ret ?_ | refine inb_ret ?_)
  exact ret_one HF rfl rfl ⟨rfl, HM.below⟩

set_option maxRecDepth 100000 in
set_option maxHeartbeats 1000000 in
theorem progRow_thin (big : Bool) (l : List UInt8) (A : Option Addr) (n c : Nat) (hn : 32 ≤ n) (hl : n = l.length) (hbn : n ≤ 65536) (a0 a1 a2 a3 a4 a5 a6 a7 : Int) (hpv : progV false big l = .agg #[.int .i64 a0, .int .u32 a1, .int .u64 a2, .int .u64 a3, .int .u64 a4, .int .u64 a5, .int .u64 a6, .int .u64 a7]) (k1 : 0 ≤ a1) (k2 : a1 < 4294967296) (w0 : World) (hr : Row w0 A (l.map Bv)) :
    Calls Try.prog 31 #[.bool false, .bool big, .slice A n c] w0 fun e w' => e = .returned (.tuple #[.agg #[.int .i64 a0, .int .i64 a1, .int .u64 a2, .int .u64 a3, .int .u64 a4, .int .u64 a5, .int .u64 a6, .int .u64 a7], .bool true]) ∧ Below w0.heap.size w0 w' := by
  obtain ⟨w, hw⟩ : ∃ w, w0 = w := ⟨_, rfl⟩
  have HM : Mm w0 w [] := hw ▸ Mm.start w0
  conv => arg 4; rw [hw]
  clear hw
  refine calls_start Try.func31 rfl Try.ntmps31 [(0, .bool false), (1, .bool big), (2, .slice A n c)] (by kernel_rfl) (Nat.le_of_ble_eq_true rfl) ?_
  intro a HF
  obtain ⟨z1, hz1⟩ : ∃ z, w.heap.size = z := ⟨_, rfl⟩
  refine reg_sym HF HM hz1 [] [(0, .bool false), (1, .bool big), (2, .slice A n c), (6, .pointer (some ⟨z1, 0, none⟩)), (7, .bool false)] [(z1, .cells #[.int .i64 0, .int .i64 0, .int .u64 0, .int .u64 0, .int .u64 0, .int .u64 0, .int .u64 0, .int .u64 0] 56 (0, 0))] (by kernel_rfl) ?_
  clear HF HM hz1; intro a w HF HM
  refine wp_seq ?_
  refine wp_seq (wp_region_lit ?_)
  obtain ⟨z2, hz2⟩ : ∃ z, w.heap.size = z := ⟨_, rfl⟩
  refine wp_sym HF HM hz2 3 [] [(0, .bool false), (1, .bool big), (2, .slice A n c), (6, .pointer (some ⟨z1, 0, none⟩)), (7, .bool false), (11, .bool (decide ((n : Int) < 32)))] [(z1, .cells #[.int .i64 0, .int .i64 0, .int .u64 0, .int .u64 0, .int .u64 0, .int .u64 0, .int .u64 0, .int .u64 0] 56 (0, 0))] (by kernel_rfl) ?_
  simp only [List.drop_succ_cons, List.drop_zero]; clear HF HM hz2; intro a w HF HM
  rw [show decide ((n : Int) < 32) = false from dec_f (by omega)] at HF
  obtain ⟨z3, hz3⟩ : ∃ z, w.heap.size = z := ⟨_, rfl⟩
  refine wp_sym HF HM hz3 8 [] [(0, .bool false), (1, .bool big), (2, .slice A n c), (6, .pointer (some ⟨z1, 0, none⟩)), (7, .bool false), (19, .bool false)] [(z1, .cells #[.int .i64 0, .int .i64 0, .int .u64 0, .int .u64 0, .int .u64 0, .int .u64 0, .int .u64 0, .int .u64 0] 56 (0, 0))] (by kernel_rfl) ?_
  simp only [List.drop_succ_cons, List.drop_zero]; clear HF HM hz3; intro a w HF HM
  refine nil_then ?_
  refine wp_condF HF rfl (wp_skip ?_)
  repeat (first | refine then_norm ?_ | refine inb_norm ?_)
  replace HF := HF.sub [(0, .bool false), (1, .bool big), (2, .slice A n c), (6, .pointer (some ⟨z1, 0, none⟩)), (7, .bool false)] (by kernel_rfl)
  refine wp_seq (wp_region_lit ?_)
  obtain ⟨z4, hz4⟩ : ∃ z, w.heap.size = z := ⟨_, rfl⟩
  refine wp_sym HF HM hz4 1 [] [(0, .bool false), (1, .bool big), (2, .slice A n c), (6, .pointer (some ⟨z1, 0, none⟩)), (7, .bool false), (21, .bool false)] [(z1, .cells #[.int .i64 0, .int .i64 0, .int .u64 0, .int .u64 0, .int .u64 0, .int .u64 0, .int .u64 0, .int .u64 0] 56 (0, 0))] (by kernel_rfl) ?_
  simp only [List.drop_succ_cons, List.drop_zero]; clear HF HM hz4; intro a w HF HM
  refine wp_call HF (by kernel_rfl) 53 #[.bool false] (by kernel_rfl) (fun w => by kernel_rfl) (Calls.mono (class_any false w) ?_)
  rintro _ w1 ⟨rfl, hq⟩
  replace HM : Mm w0 w1 [(z1, .cells #[.int .i64 0, .int .i64 0, .int .u64 0, .int .u64 0, .int .u64 0, .int .u64 0, .int .u64 0, .int .u64 0] 56 (0, 0))] := by first | (rw [hq]; exact HM) | (rw [← hq]; exact HM)
  clear hq
  refine ⟨_, rfl, ?_⟩; clear HF; intro a HF; replace HF := HF.sub [(0, .bool false), (1, .bool big), (2, .slice A n c), (6, .pointer (some ⟨z1, 0, none⟩)), (7, .bool false), (21, .bool false), (22, clsV false)] (by kernel_rfl)
  obtain ⟨z5, hz5⟩ : ∃ z, w1.heap.size = z := ⟨_, rfl⟩
  refine wp_sym HF HM hz5 1 [] [(0, .bool false), (1, .bool big), (2, .slice A n c), (6, .pointer (some ⟨z1, 0, none⟩)), (7, .bool false), (21, .bool false), (22, clsV false), (23, .bool big)] [(z1, .cells #[.int .i64 0, .int .i64 0, .int .u64 0, .int .u64 0, .int .u64 0, .int .u64 0, .int .u64 0, .int .u64 0] 56 (0, 0))] (by kernel_rfl) ?_
  simp only [List.drop_succ_cons, List.drop_zero]; clear HF HM hz5; intro a w HF HM
  refine wp_call HF (by kernel_rfl) 49 #[.bool big] (by kernel_rfl) (fun w => by kernel_rfl) (Calls.mono (order_any big w) ?_)
  rintro _ w2 ⟨rfl, hq⟩
  replace HM : Mm w0 w2 [(z1, .cells #[.int .i64 0, .int .i64 0, .int .u64 0, .int .u64 0, .int .u64 0, .int .u64 0, .int .u64 0, .int .u64 0] 56 (0, 0))] := by first | (rw [hq]; exact HM) | (rw [← hq]; exact HM)
  clear hq
  refine ⟨_, rfl, ?_⟩; clear HF; intro a HF; replace HF := HF.sub [(0, .bool false), (1, .bool big), (2, .slice A n c), (6, .pointer (some ⟨z1, 0, none⟩)), (7, .bool false), (21, .bool false), (22, clsV false), (23, .bool big), (24, boV big)] (by kernel_rfl)
  obtain ⟨z6, hz6⟩ : ∃ z, w2.heap.size = z := ⟨_, rfl⟩
  refine wp_sym HF HM hz6 1 [] [(0, .bool false), (1, .bool big), (2, .slice A n c), (6, .pointer (some ⟨z1, 0, none⟩)), (7, .bool false), (21, .bool false), (22, clsV false), (23, .bool big), (24, boV big), (25, .slice A n c)] [(z1, .cells #[.int .i64 0, .int .i64 0, .int .u64 0, .int .u64 0, .int .u64 0, .int .u64 0, .int .u64 0, .int .u64 0] 56 (0, 0))] (by kernel_rfl) ?_
  simp only [List.drop_succ_cons, List.drop_zero]; clear HF HM hz6; intro a w HF HM
  refine wp_append_new HF HM rfl _ _ 36 rfl rfl 5 Try.underlying36 info_u8 rfl (by decide) rfl A n c (l.map Bv) rfl (by simp [hl]) (by omega) (HM.row hr) (Bv_one l) (by unfold maxLen; omega) (by omega) ?_
  clear HF HM; intro a w g cap cur HM htk hcs hmc hcm hbw HF
  replace HF := HF.sub [(0, .bool false), (1, .bool big), (2, .slice A n c), (6, .pointer (some ⟨z1, 0, none⟩)), (7, .bool false), (22, clsV false), (24, boV big), (26, .slice (some ⟨g, 0, none⟩) n cap)] (by kernel_rfl)
  have hrow : Row w (some ⟨g, 0, none⟩) (l.map Bv) := by have := (HM.rowAt (i := 0) rfl).take (n * 1); rwa [htk] at this
  refine wp_call HF (by kernel_rfl) 52 #[clsV false, boV big, .slice (some ⟨g, 0, none⟩) n cap] (by kernel_rfl) (fun w => by kernel_rfl) (Calls.mono (zzProg_any false big l g 0 n cap hn hl hmc hcm w hrow) ?_)
  rintro _ w3 ⟨rfl, hb⟩
  replace HM := HM.call hb
  clear hb
  refine ⟨_, rfl, ?_⟩; clear HF; intro a HF; replace HF := HF.sub [(0, .bool false), (1, .bool big), (2, .slice A n c), (6, .pointer (some ⟨z1, 0, none⟩)), (7, .bool false), (22, clsV false), (24, boV big), (26, .slice (some ⟨g, 0, none⟩) n cap), (27, progV false big l)] (by kernel_rfl)
  rw [hpv] at HF
  obtain ⟨z7, hz7⟩ : ∃ z, w3.heap.size = z := ⟨_, rfl⟩
  refine wp_sym HF HM hz7 2 [[2]] [(0, .bool false), (1, .bool big), (2, .slice A n c), (6, .pointer (some ⟨z1, 0, none⟩)), (7, .bool false), (8, .pointer (some ⟨z7, 0, none⟩))] [(z7, .cells #[.int .i64 a0, .int .u32 a1, .int .u64 a2, .int .u64 a3, .int .u64 a4, .int .u64 a5, .int .u64 a6, .int .u64 a7] 95 (0, 0)), (g, .cells cur 5 (0, 0)), (z1, .cells #[.int .i64 0, .int .i64 0, .int .u64 0, .int .u64 0, .int .u64 0, .int .u64 0, .int .u64 0, .int .u64 0] 56 (0, 0))] (by kernel_rfl) ?_
  simp only [List.drop_succ_cons, List.drop_zero]; clear HF HM hz7; intro a w HF HM
  refine nil_then ?_
  obtain ⟨z8, hz8⟩ : ∃ z, w.heap.size = z := ⟨_, rfl⟩
  refine reg_sym HF HM hz8 [[2], [2], [2], [2], [2], [2], [2], [2], [0]] [(0, .bool false), (1, .bool big), (2, .slice A n c), (6, .pointer (some ⟨z1, 0, none⟩)), (8, .pointer (some ⟨z7, 0, none⟩)), (7, .bool true)] [(z7, .cells #[.int .i64 a0, .int .u32 a1, .int .u64 a2, .int .u64 a3, .int .u64 a4, .int .u64 a5, .int .u64 a6, .int .u64 a7] 95 (0, 0)), (g, .cells cur 5 (0, 0)), (z1, .cells #[.int .i64 a0, .int .i64 (IntKind.i64.wrap a1), .int .u64 a2, .int .u64 a3, .int .u64 a4, .int .u64 a5, .int .u64 a6, .int .u64 a7] 56 (0, 0))] (by kernel_rfl) ?_
  clear HF HM hz8; intro a w HF HM
  rw [show IntKind.i64.wrap a1 = a1 from IntWalk.i64_in _ (by omega)] at HM
  refine wp_ret ?_
  exact bodyPost_ret (results_cell_tmp rfl (HF.getD rfl) (HF.getD rfl) (HM.get (i := 2) rfl) Try.underlying56 (by kernel_rfl)) HF.1 ⟨rfl, HM.below⟩

set_option maxRecDepth 100000 in
set_option maxHeartbeats 1000000 in
theorem progRow_wide (big : Bool) (l : List UInt8) (A : Option Addr) (n c : Nat) (hn : 56 ≤ n) (hl : n = l.length) (hbn : n ≤ 65536) (a0 a1 a2 a3 a4 a5 a6 a7 : Int) (hpv : progV true big l = .agg #[.int .i64 a0, .int .u32 a1, .int .u64 a2, .int .u64 a3, .int .u64 a4, .int .u64 a5, .int .u64 a6, .int .u64 a7]) (k1 : 0 ≤ a1) (k2 : a1 < 4294967296) (w0 : World) (hr : Row w0 A (l.map Bv)) :
    Calls Try.prog 31 #[.bool true, .bool big, .slice A n c] w0 fun e w' => e = .returned (.tuple #[.agg #[.int .i64 a0, .int .i64 a1, .int .u64 a2, .int .u64 a3, .int .u64 a4, .int .u64 a5, .int .u64 a6, .int .u64 a7], .bool true]) ∧ Below w0.heap.size w0 w' := by
  obtain ⟨w, hw⟩ : ∃ w, w0 = w := ⟨_, rfl⟩
  have HM : Mm w0 w [] := hw ▸ Mm.start w0
  conv => arg 4; rw [hw]
  clear hw
  refine calls_start Try.func31 rfl Try.ntmps31 [(0, .bool true), (1, .bool big), (2, .slice A n c)] (by kernel_rfl) (Nat.le_of_ble_eq_true rfl) ?_
  intro a HF
  obtain ⟨z1, hz1⟩ : ∃ z, w.heap.size = z := ⟨_, rfl⟩
  refine reg_sym HF HM hz1 [] [(0, .bool true), (1, .bool big), (2, .slice A n c), (6, .pointer (some ⟨z1, 0, none⟩)), (7, .bool false)] [(z1, .cells #[.int .i64 0, .int .i64 0, .int .u64 0, .int .u64 0, .int .u64 0, .int .u64 0, .int .u64 0, .int .u64 0] 56 (0, 0))] (by kernel_rfl) ?_
  clear HF HM hz1; intro a w HF HM
  refine wp_seq ?_
  refine wp_seq (wp_region_lit ?_)
  obtain ⟨z2, hz2⟩ : ∃ z, w.heap.size = z := ⟨_, rfl⟩
  refine wp_sym HF HM hz2 3 [] [(0, .bool true), (1, .bool big), (2, .slice A n c), (6, .pointer (some ⟨z1, 0, none⟩)), (7, .bool false), (11, .bool (decide ((n : Int) < 32)))] [(z1, .cells #[.int .i64 0, .int .i64 0, .int .u64 0, .int .u64 0, .int .u64 0, .int .u64 0, .int .u64 0, .int .u64 0] 56 (0, 0))] (by kernel_rfl) ?_
  simp only [List.drop_succ_cons, List.drop_zero]; clear HF HM hz2; intro a w HF HM
  rw [show decide ((n : Int) < 32) = false from dec_f (by omega)] at HF
  obtain ⟨z3, hz3⟩ : ∃ z, w.heap.size = z := ⟨_, rfl⟩
  refine wp_sym HF HM hz3 6 [] [(0, .bool true), (1, .bool big), (2, .slice A n c), (6, .pointer (some ⟨z1, 0, none⟩)), (7, .bool false), (11, .bool false), (12, .bool false), (14, .bool true), (17, .bool (decide ((n : Int) < 56)))] [(z1, .cells #[.int .i64 0, .int .i64 0, .int .u64 0, .int .u64 0, .int .u64 0, .int .u64 0, .int .u64 0, .int .u64 0] 56 (0, 0))] (by kernel_rfl) ?_
  simp only [List.drop_succ_cons, List.drop_zero]; clear HF HM hz3; intro a w HF HM
  rw [show decide ((n : Int) < 56) = false from dec_f (by omega)] at HF
  obtain ⟨z4, hz4⟩ : ∃ z, w.heap.size = z := ⟨_, rfl⟩
  refine wp_sym HF HM hz4 2 [] [(0, .bool true), (1, .bool big), (2, .slice A n c), (6, .pointer (some ⟨z1, 0, none⟩)), (7, .bool false), (19, .bool false)] [(z1, .cells #[.int .i64 0, .int .i64 0, .int .u64 0, .int .u64 0, .int .u64 0, .int .u64 0, .int .u64 0, .int .u64 0] 56 (0, 0))] (by kernel_rfl) ?_
  simp only [List.drop_succ_cons, List.drop_zero]; clear HF HM hz4; intro a w HF HM
  refine nil_then ?_
  refine wp_condF HF rfl (wp_skip ?_)
  repeat (first | refine then_norm ?_ | refine inb_norm ?_)
  replace HF := HF.sub [(0, .bool true), (1, .bool big), (2, .slice A n c), (6, .pointer (some ⟨z1, 0, none⟩)), (7, .bool false)] (by kernel_rfl)
  refine wp_seq (wp_region_lit ?_)
  obtain ⟨z5, hz5⟩ : ∃ z, w.heap.size = z := ⟨_, rfl⟩
  refine wp_sym HF HM hz5 1 [] [(0, .bool true), (1, .bool big), (2, .slice A n c), (6, .pointer (some ⟨z1, 0, none⟩)), (7, .bool false), (21, .bool true)] [(z1, .cells #[.int .i64 0, .int .i64 0, .int .u64 0, .int .u64 0, .int .u64 0, .int .u64 0, .int .u64 0, .int .u64 0] 56 (0, 0))] (by kernel_rfl) ?_
  simp only [List.drop_succ_cons, List.drop_zero]; clear HF HM hz5; intro a w HF HM
  refine wp_call HF (by kernel_rfl) 53 #[.bool true] (by kernel_rfl) (fun w => by kernel_rfl) (Calls.mono (class_any true w) ?_)
  rintro _ w1 ⟨rfl, hq⟩
  replace HM : Mm w0 w1 [(z1, .cells #[.int .i64 0, .int .i64 0, .int .u64 0, .int .u64 0, .int .u64 0, .int .u64 0, .int .u64 0, .int .u64 0] 56 (0, 0))] := by first | (rw [hq]; exact HM) | (rw [← hq]; exact HM)
  clear hq
  refine ⟨_, rfl, ?_⟩; clear HF; intro a HF; replace HF := HF.sub [(0, .bool true), (1, .bool big), (2, .slice A n c), (6, .pointer (some ⟨z1, 0, none⟩)), (7, .bool false), (21, .bool true), (22, clsV true)] (by kernel_rfl)
  obtain ⟨z6, hz6⟩ : ∃ z, w1.heap.size = z := ⟨_, rfl⟩
  refine wp_sym HF HM hz6 1 [] [(0, .bool true), (1, .bool big), (2, .slice A n c), (6, .pointer (some ⟨z1, 0, none⟩)), (7, .bool false), (21, .bool true), (22, clsV true), (23, .bool big)] [(z1, .cells #[.int .i64 0, .int .i64 0, .int .u64 0, .int .u64 0, .int .u64 0, .int .u64 0, .int .u64 0, .int .u64 0] 56 (0, 0))] (by kernel_rfl) ?_
  simp only [List.drop_succ_cons, List.drop_zero]; clear HF HM hz6; intro a w HF HM
  refine wp_call HF (by kernel_rfl) 49 #[.bool big] (by kernel_rfl) (fun w => by kernel_rfl) (Calls.mono (order_any big w) ?_)
  rintro _ w2 ⟨rfl, hq⟩
  replace HM : Mm w0 w2 [(z1, .cells #[.int .i64 0, .int .i64 0, .int .u64 0, .int .u64 0, .int .u64 0, .int .u64 0, .int .u64 0, .int .u64 0] 56 (0, 0))] := by first | (rw [hq]; exact HM) | (rw [← hq]; exact HM)
  clear hq
  refine ⟨_, rfl, ?_⟩; clear HF; intro a HF; replace HF := HF.sub [(0, .bool true), (1, .bool big), (2, .slice A n c), (6, .pointer (some ⟨z1, 0, none⟩)), (7, .bool false), (21, .bool true), (22, clsV true), (23, .bool big), (24, boV big)] (by kernel_rfl)
  obtain ⟨z7, hz7⟩ : ∃ z, w2.heap.size = z := ⟨_, rfl⟩
  refine wp_sym HF HM hz7 1 [] [(0, .bool true), (1, .bool big), (2, .slice A n c), (6, .pointer (some ⟨z1, 0, none⟩)), (7, .bool false), (21, .bool true), (22, clsV true), (23, .bool big), (24, boV big), (25, .slice A n c)] [(z1, .cells #[.int .i64 0, .int .i64 0, .int .u64 0, .int .u64 0, .int .u64 0, .int .u64 0, .int .u64 0, .int .u64 0] 56 (0, 0))] (by kernel_rfl) ?_
  simp only [List.drop_succ_cons, List.drop_zero]; clear HF HM hz7; intro a w HF HM
  refine wp_append_new HF HM rfl _ _ 36 rfl rfl 5 Try.underlying36 info_u8 rfl (by decide) rfl A n c (l.map Bv) rfl (by simp [hl]) (by omega) (HM.row hr) (Bv_one l) (by unfold maxLen; omega) (by omega) ?_
  clear HF HM; intro a w g cap cur HM htk hcs hmc hcm hbw HF
  replace HF := HF.sub [(0, .bool true), (1, .bool big), (2, .slice A n c), (6, .pointer (some ⟨z1, 0, none⟩)), (7, .bool false), (22, clsV true), (24, boV big), (26, .slice (some ⟨g, 0, none⟩) n cap)] (by kernel_rfl)
  have hrow : Row w (some ⟨g, 0, none⟩) (l.map Bv) := by have := (HM.rowAt (i := 0) rfl).take (n * 1); rwa [htk] at this
  refine wp_call HF (by kernel_rfl) 52 #[clsV true, boV big, .slice (some ⟨g, 0, none⟩) n cap] (by kernel_rfl) (fun w => by kernel_rfl) (Calls.mono (zzProg_any true big l g 0 n cap hn hl hmc hcm w hrow) ?_)
  rintro _ w3 ⟨rfl, hb⟩
  replace HM := HM.call hb
  clear hb
  refine ⟨_, rfl, ?_⟩; clear HF; intro a HF; replace HF := HF.sub [(0, .bool true), (1, .bool big), (2, .slice A n c), (6, .pointer (some ⟨z1, 0, none⟩)), (7, .bool false), (22, clsV true), (24, boV big), (26, .slice (some ⟨g, 0, none⟩) n cap), (27, progV true big l)] (by kernel_rfl)
  rw [hpv] at HF
  obtain ⟨z8, hz8⟩ : ∃ z, w3.heap.size = z := ⟨_, rfl⟩
  refine wp_sym HF HM hz8 2 [[2]] [(0, .bool true), (1, .bool big), (2, .slice A n c), (6, .pointer (some ⟨z1, 0, none⟩)), (7, .bool false), (8, .pointer (some ⟨z8, 0, none⟩))] [(z8, .cells #[.int .i64 a0, .int .u32 a1, .int .u64 a2, .int .u64 a3, .int .u64 a4, .int .u64 a5, .int .u64 a6, .int .u64 a7] 95 (0, 0)), (g, .cells cur 5 (0, 0)), (z1, .cells #[.int .i64 0, .int .i64 0, .int .u64 0, .int .u64 0, .int .u64 0, .int .u64 0, .int .u64 0, .int .u64 0] 56 (0, 0))] (by kernel_rfl) ?_
  simp only [List.drop_succ_cons, List.drop_zero]; clear HF HM hz8; intro a w HF HM
  refine nil_then ?_
  obtain ⟨z9, hz9⟩ : ∃ z, w.heap.size = z := ⟨_, rfl⟩
  refine reg_sym HF HM hz9 [[2], [2], [2], [2], [2], [2], [2], [2], [0]] [(0, .bool true), (1, .bool big), (2, .slice A n c), (6, .pointer (some ⟨z1, 0, none⟩)), (8, .pointer (some ⟨z8, 0, none⟩)), (7, .bool true)] [(z8, .cells #[.int .i64 a0, .int .u32 a1, .int .u64 a2, .int .u64 a3, .int .u64 a4, .int .u64 a5, .int .u64 a6, .int .u64 a7] 95 (0, 0)), (g, .cells cur 5 (0, 0)), (z1, .cells #[.int .i64 a0, .int .i64 (IntKind.i64.wrap a1), .int .u64 a2, .int .u64 a3, .int .u64 a4, .int .u64 a5, .int .u64 a6, .int .u64 a7] 56 (0, 0))] (by kernel_rfl) ?_
  clear HF HM hz9; intro a w HF HM
  rw [show IntKind.i64.wrap a1 = a1 from IntWalk.i64_in _ (by omega)] at HM
  refine wp_ret ?_
  exact bodyPost_ret (results_cell_tmp rfl (HF.getD rfl) (HF.getD rfl) (HM.get (i := 2) rfl) Try.underlying56 (by kernel_rfl)) HF.1 ⟨rfl, HM.below⟩

theorem eqGuard_prog (x y : Operand) (xs ys : Array Value) (w : World) (_ : Unit := ()) (_ : Unit := ()) : (eqGuard .eql 56 x y (.agg xs) (.agg ys)).run Try.prog w = .ok () w := run_eqGuard_agg _ _ _ _ _ _ _ (by kernel_rfl)
theorem eql_prog (a0 a1 a2 a3 a4 a5 a6 a7 : Int) (w : World) : (binOp .eql 56 (.agg #[.int .i64 a0, .int .i64 a1, .int .u64 a2, .int .u64 a3, .int .u64 a4, .int .u64 a5, .int .u64 a6, .int .u64 a7]) (.agg #[.int .i64 a0, .int .i64 a1, .int .u64 a2, .int .u64 a3, .int .u64 a4, .int .u64 a5, .int .u64 a6, .int .u64 a7])).run Try.prog w = .ok (.bool true) w := by
  have u := Try.underlying56
  have u3 := Try.underlying3
  have u30 := Try.underlying30
  go_simp

set_option maxRecDepth 100000 in
set_option maxHeartbeats 1000000 in
theorem walkProg_false_big (big : Bool) (ty flags vaddr paddr memsz align : Nat) (A : Option Addr) (n c : Nat) (offset : Nat) (hty : ty < 4294967296) (hfl : flags < 4294967296) (hva : vaddr < 18446744073709551616) (hpa : paddr < 18446744073709551616) (hms : memsz < 18446744073709551616) (hal : align < 18446744073709551616) (hof : offset < 4294967296) (hc : 2147483647 < n) (w0 : World) :
    Calls Try.prog 12 #[.bool false, .bool big, .agg #[.int .u32 (ty : Nat), .int .u32 (flags : Nat), .int .u64 (vaddr : Nat), .int .u64 (paddr : Nat), .int .u64 (memsz : Nat), .int .u64 (align : Nat), .slice A n c], .int .u32 (offset : Nat)] w0 fun e w' => e = .returned (.bool true) ∧ Below w0.heap.size w0 w' := by
  obtain ⟨w, hw⟩ : ∃ w, w0 = w := ⟨_, rfl⟩
  have HM : Mm w0 w [] := hw ▸ Mm.start w0
  conv => arg 4; rw [hw]
  clear hw
  refine calls_start Try.func12 rfl Try.ntmps12 [(0, .bool false), (1, .bool big), (2, .agg #[.int .u32 (ty : Nat), .int .u32 (flags : Nat), .int .u64 (vaddr : Nat), .int .u64 (paddr : Nat), .int .u64 (memsz : Nat), .int .u64 (align : Nat), .slice A n c]), (3, .int .u32 (offset : Nat))] (by kernel_rfl) (Nat.le_of_ble_eq_true rfl) ?_
  intro a HF
  obtain ⟨z1, hz1⟩ : ∃ z, w.heap.size = z := ⟨_, rfl⟩
  refine reg_sym HF HM hz1 [] [(0, .bool false), (1, .bool big), (3, .int .u32 (offset : Nat)), (6, .pointer (some ⟨z1, 0, none⟩)), (8, .bool false)] [(z1, .cells #[.int .u32 (ty : Nat), .int .u32 (flags : Nat), .int .u64 (vaddr : Nat), .int .u64 (paddr : Nat), .int .u64 (memsz : Nat), .int .u64 (align : Nat), .slice A n c] 53 (0, 0))] (by kernel_rfl) ?_
  clear HF HM hz1; intro a w HF HM
  refine wp_seq ?_
  refine wp_seq (wp_region_lit ?_)
  obtain ⟨z2, hz2⟩ : ∃ z, w.heap.size = z := ⟨_, rfl⟩
  refine wp_sym HF HM hz2 1 [[0]] [(0, .bool false), (1, .bool big), (3, .int .u32 (offset : Nat)), (6, .pointer (some ⟨z1, 0, none⟩)), (8, .bool false), (12, .agg #[.int .u32 (ty : Nat), .int .u32 (flags : Nat), .int .u64 (vaddr : Nat), .int .u64 (paddr : Nat), .int .u64 (memsz : Nat), .int .u64 (align : Nat), .slice A n c])] [(z1, .cells #[.int .u32 (ty : Nat), .int .u32 (flags : Nat), .int .u64 (vaddr : Nat), .int .u64 (paddr : Nat), .int .u64 (memsz : Nat), .int .u64 (align : Nat), .slice A n c] 53 (0, 0))] (by kernel_rfl) ?_
  simp only [List.drop_succ_cons, List.drop_zero]; clear HF HM hz2; intro a w HF HM
  refine wp_call HF (by kernel_rfl) 30 #[.agg #[.int .u32 (ty : Nat), .int .u32 (flags : Nat), .int .u64 (vaddr : Nat), .int .u64 (paddr : Nat), .int .u64 (memsz : Nat), .int .u64 (align : Nat), .slice A n c]] (by kernel_rfl) (fun w => by kernel_rfl) (Calls.mono (zzFits3_out ty flags vaddr paddr memsz align A n c hc w) ?_)
  rintro _ w1 ⟨rfl, hb⟩
  replace HM := HM.call hb
  clear hb
  refine ⟨_, rfl, ?_⟩; clear HF; intro a HF; replace HF := HF.sub [(0, .bool false), (1, .bool big), (3, .int .u32 (offset : Nat)), (6, .pointer (some ⟨z1, 0, none⟩)), (8, .bool false), (12, .agg #[.int .u32 (ty : Nat), .int .u32 (flags : Nat), .int .u64 (vaddr : Nat), .int .u64 (paddr : Nat), .int .u64 (memsz : Nat), .int .u64 (align : Nat), .slice A n c]), (13, .bool false)] (by kernel_rfl)
  obtain ⟨z3, hz3⟩ : ∃ z, w1.heap.size = z := ⟨_, rfl⟩
  refine wp_sym HF HM hz3 1 [] [(0, .bool false), (1, .bool big), (3, .int .u32 (offset : Nat)), (6, .pointer (some ⟨z1, 0, none⟩)), (8, .bool false), (14, .bool true)] [(z1, .cells #[.int .u32 (ty : Nat), .int .u32 (flags : Nat), .int .u64 (vaddr : Nat), .int .u64 (paddr : Nat), .int .u64 (memsz : Nat), .int .u64 (align : Nat), .slice A n c] 53 (0, 0))] (by kernel_rfl) ?_
  simp only [List.drop_succ_cons, List.drop_zero]; clear HF HM hz3; intro a w HF HM
  refine nil_then ?_
  refine wp_condT HF rfl ?_
  obtain ⟨z4, hz4⟩ : ∃ z, w.heap.size = z := ⟨_, rfl⟩
  refine reg_sym HF HM hz4 [] [(0, .bool false), (1, .bool big), (3, .int .u32 (offset : Nat)), (6, .pointer (some ⟨z1, 0, none⟩)), (14, .bool true), (8, .bool true)] [(z1, .cells #[.int .u32 (ty : Nat), .int .u32 (flags : Nat), .int .u64 (vaddr : Nat), .int .u64 (paddr : Nat), .int .u64 (memsz : Nat), .int .u64 (align : Nat), .slice A n c] 53 (0, 0))] (by kernel_rfl) ?_
  clear HF HM hz4; intro a w HF HM
  refine wp_ret ?_
  repeat (first | refine then_ret ?_ | refine inb_ret ?_)
  exact ret_one HF rfl rfl ⟨rfl, HM.below⟩

set_option maxRecDepth 100000 in
set_option maxHeartbeats 1000000 in
theorem walkProg_false_fits (big : Bool) (ty flags vaddr paddr memsz align : Nat) (A : Option Addr) (n c : Nat) (offset : Nat) (hty : ty < 4294967296) (hfl : flags < 4294967296) (hva : vaddr < 18446744073709551616) (hpa : paddr < 18446744073709551616) (hms : memsz < 18446744073709551616) (hal : align < 18446744073709551616) (hof : offset < 4294967296) (hc : n ≤ 2147483647) (hfb : fitsB false [vaddr, paddr, memsz, align] = false) (w0 : World) :
    Calls Try.prog 12 #[.bool false, .bool big, .agg #[.int .u32 (ty : Nat), .int .u32 (flags : Nat), .int .u64 (vaddr : Nat), .int .u64 (paddr : Nat), .int .u64 (memsz : Nat), .int .u64 (align : Nat), .slice A n c], .int .u32 (offset : Nat)] w0 fun e w' => e = .returned (.bool true) ∧ Below w0.heap.size w0 w' := by
  obtain ⟨w, hw⟩ : ∃ w, w0 = w := ⟨_, rfl⟩
  have HM : Mm w0 w [] := hw ▸ Mm.start w0
  conv => arg 4; rw [hw]
  clear hw
  refine calls_start Try.func12 rfl Try.ntmps12 [(0, .bool false), (1, .bool big), (2, .agg #[.int .u32 (ty : Nat), .int .u32 (flags : Nat), .int .u64 (vaddr : Nat), .int .u64 (paddr : Nat), .int .u64 (memsz : Nat), .int .u64 (align : Nat), .slice A n c]), (3, .int .u32 (offset : Nat))] (by kernel_rfl) (Nat.le_of_ble_eq_true rfl) ?_
  intro a HF
  obtain ⟨z1, hz1⟩ : ∃ z, w.heap.size = z := ⟨_, rfl⟩
  refine reg_sym HF HM hz1 [] [(0, .bool false), (1, .bool big), (3, .int .u32 (offset : Nat)), (6, .pointer (some ⟨z1, 0, none⟩)), (8, .bool false)] [(z1, .cells #[.int .u32 (ty : Nat), .int .u32 (flags : Nat), .int .u64 (vaddr : Nat), .int .u64 (paddr : Nat), .int .u64 (memsz : Nat), .int .u64 (align : Nat), .slice A n c] 53 (0, 0))] (by kernel_rfl) ?_
  clear HF HM hz1; intro a w HF HM
  refine wp_seq ?_
  refine wp_seq (wp_region_lit ?_)
  obtain ⟨z2, hz2⟩ : ∃ z, w.heap.size = z := ⟨_, rfl⟩
  refine wp_sym HF HM hz2 1 [[0]] [(0, .bool false), (1, .bool big), (3, .int .u32 (offset : Nat)), (6, .pointer (some ⟨z1, 0, none⟩)), (8, .bool false), (12, .agg #[.int .u32 (ty : Nat), .int .u32 (flags : Nat), .int .u64 (vaddr : Nat), .int .u64 (paddr : Nat), .int .u64 (memsz : Nat), .int .u64 (align : Nat), .slice A n c])] [(z1, .cells #[.int .u32 (ty : Nat), .int .u32 (flags : Nat), .int .u64 (vaddr : Nat), .int .u64 (paddr : Nat), .int .u64 (memsz : Nat), .int .u64 (align : Nat), .slice A n c] 53 (0, 0))] (by kernel_rfl) ?_
  simp only [List.drop_succ_cons, List.drop_zero]; clear HF HM hz2; intro a w HF HM
  refine wp_call HF (by kernel_rfl) 30 #[.agg #[.int .u32 (ty : Nat), .int .u32 (flags : Nat), .int .u64 (vaddr : Nat), .int .u64 (paddr : Nat), .int .u64 (memsz : Nat), .int .u64 (align : Nat), .slice A n c]] (by kernel_rfl) (fun w => by kernel_rfl) (Calls.mono (zzFits3_in ty flags vaddr paddr memsz align A n c hc w) ?_)
  rintro _ w1 ⟨rfl, hb⟩
  replace HM := HM.call hb
  clear hb
  refine ⟨_, rfl, ?_⟩; clear HF; intro a HF; replace HF := HF.sub [(0, .bool false), (1, .bool big), (3, .int .u32 (offset : Nat)), (6, .pointer (some ⟨z1, 0, none⟩)), (8, .bool false), (12, .agg #[.int .u32 (ty : Nat), .int .u32 (flags : Nat), .int .u64 (vaddr : Nat), .int .u64 (paddr : Nat), .int .u64 (memsz : Nat), .int .u64 (align : Nat), .slice A n c]), (13, .bool true)] (by kernel_rfl)
  obtain ⟨z3, hz3⟩ : ∃ z, w1.heap.size = z := ⟨_, rfl⟩
  refine wp_sym HF HM hz3 1 [] [(0, .bool false), (1, .bool big), (3, .int .u32 (offset : Nat)), (6, .pointer (some ⟨z1, 0, none⟩)), (8, .bool false), (14, .bool false)] [(z1, .cells #[.int .u32 (ty : Nat), .int .u32 (flags : Nat), .int .u64 (vaddr : Nat), .int .u64 (paddr : Nat), .int .u64 (memsz : Nat), .int .u64 (align : Nat), .slice A n c] 53 (0, 0))] (by kernel_rfl) ?_
  simp only [List.drop_succ_cons, List.drop_zero]; clear HF HM hz3; intro a w HF HM
  refine nil_then ?_
  refine wp_condF HF rfl ?_
  refine wp_skip ?_
  repeat (first | refine then_norm ?_ | refine inb_norm ?_)
  replace HF := HF.sub [(0, .bool false), (1, .bool big), (3, .int .u32 (offset : Nat)), (6, .pointer (some ⟨z1, 0, none⟩)), (8, .bool false)] (by kernel_rfl)
  obtain ⟨z4, hz4⟩ : ∃ z, w.heap.size = z := ⟨_, rfl⟩
  refine reg_sym HF HM hz4 [[1]] [(0, .bool false), (1, .bool big), (3, .int .u32 (offset : Nat)), (6, .pointer (some ⟨z1, 0, none⟩)), (8, .bool false), (9, .pointer (some ⟨z4, 0, none⟩))] [(z4, .cells #[.bool false, .bool big, .int .u8 0, .int .u8 0, .int .i64 0, .int .i64 0, .int .u64 0, .slice none 0 0, .slice none 0 0] 46 (0, 0)), (z1, .cells #[.int .u32 (ty : Nat), .int .u32 (flags : Nat), .int .u64 (vaddr : Nat), .int .u64 (paddr : Nat), .int .u64 (memsz : Nat), .int .u64 (align : Nat), .slice A n c] 53 (0, 0))] (by kernel_rfl) ?_
  clear HF HM hz4; intro a w HF HM
  refine wp_seq ?_
  refine wp_seq (wp_region_lit ?_)
  obtain ⟨z5, hz5⟩ : ∃ z, w.heap.size = z := ⟨_, rfl⟩
  refine wp_sym HF HM hz5 10 [[1], [0], [0], [0], [0]] [(0, .bool false), (1, .bool big), (3, .int .u32 (offset : Nat)), (6, .pointer (some ⟨z1, 0, none⟩)), (8, .bool false), (9, .pointer (some ⟨z4, 0, none⟩)), (18, .agg #[.bool false, .bool big, .int .u8 0, .int .u8 0, .int .i64 0, .int .i64 0, .int .u64 0, .slice none 0 0, .slice none 0 0]), (27, .slice (some ⟨z5, 0, none⟩) 4 4)] [(z5, .cells #[.int .u64 (vaddr : Nat), .int .u64 (paddr : Nat), .int .u64 (memsz : Nat), .int .u64 (align : Nat)] 30 (0, 0)), (z4, .cells #[.bool false, .bool big, .int .u8 0, .int .u8 0, .int .i64 0, .int .i64 0, .int .u64 0, .slice none 0 0, .slice none 0 0] 46 (0, 0)), (z1, .cells #[.int .u32 (ty : Nat), .int .u32 (flags : Nat), .int .u64 (vaddr : Nat), .int .u64 (paddr : Nat), .int .u64 (memsz : Nat), .int .u64 (align : Nat), .slice A n c] 53 (0, 0))] (by kernel_rfl) ?_
  simp only [List.drop_succ_cons, List.drop_zero]; clear HF HM hz5; intro a w HF HM
  have hrf : Row w (some ⟨z5, 0, none⟩) ([vaddr, paddr, memsz, align].map fun (k : Nat) => Value.int .u64 (k : Int)) := HM.rowAt (i := 0) rfl
  refine wp_call HF (by kernel_rfl) 26 #[.agg #[.bool false, .bool big, .int .u8 0, .int .u8 0, .int .i64 0, .int .i64 0, .int .u64 0, .slice none 0 0, .slice none 0 0], .slice (some ⟨z5, 0, none⟩) 4 4] (by kernel_rfl) (fun w => by kernel_rfl) (Calls.mono ((by have h := fits_any false (.bool big) (.int .u8 0) (.int .u8 0) (.int .i64 0) (.int .i64 0) (.int .u64 0) (.slice none 0 0) (.slice none 0 0) [vaddr, paddr, memsz, align] (some ⟨z5, 0, none⟩) 4 4 rfl (by decide) w hrf; rw [hfb] at h; exact h)) ?_)
  rintro _ w2 ⟨rfl, hb⟩
  replace HM := HM.call hb
  clear hb
  refine ⟨_, rfl, ?_⟩; clear HF; intro a HF; replace HF := HF.sub [(0, .bool false), (1, .bool big), (3, .int .u32 (offset : Nat)), (6, .pointer (some ⟨z1, 0, none⟩)), (8, .bool false), (9, .pointer (some ⟨z4, 0, none⟩)), (18, .agg #[.bool false, .bool big, .int .u8 0, .int .u8 0, .int .i64 0, .int .i64 0, .int .u64 0, .slice none 0 0, .slice none 0 0]), (27, .slice (some ⟨z5, 0, none⟩) 4 4), (28, .bool false)] (by kernel_rfl)
  replace HF := HF.sub [(0, .bool false), (1, .bool big), (3, .int .u32 (offset : Nat)), (6, .pointer (some ⟨z1, 0, none⟩)), (8, .bool false), (9, .pointer (some ⟨z4, 0, none⟩)), (28, .bool false)] (by kernel_rfl)
  obtain ⟨z6, hz6⟩ : ∃ z, w2.heap.size = z := ⟨_, rfl⟩
  refine wp_sym HF HM hz6 12 [] [(0, .bool false), (1, .bool big), (3, .int .u32 (offset : Nat)), (6, .pointer (some ⟨z1, 0, none⟩)), (8, .bool false), (9, .pointer (some ⟨z4, 0, none⟩)), (40, .bool true)] [(z5, .cells #[.int .u64 (vaddr : Nat), .int .u64 (paddr : Nat), .int .u64 (memsz : Nat), .int .u64 (align : Nat)] 30 (0, 0)), (z4, .cells #[.bool false, .bool big, .int .u8 0, .int .u8 0, .int .i64 0, .int .i64 0, .int .u64 0, .slice none 0 0, .slice none 0 0] 46 (0, 0)), (z1, .cells #[.int .u32 (ty : Nat), .int .u32 (flags : Nat), .int .u64 (vaddr : Nat), .int .u64 (paddr : Nat), .int .u64 (memsz : Nat), .int .u64 (align : Nat), .slice A n c] 53 (0, 0))] (by kernel_rfl) ?_
  simp only [List.drop_succ_cons, List.drop_zero]; clear HF HM hz6; intro a w HF HM
  refine nil_then ?_
  refine wp_condT HF rfl ?_
  obtain ⟨z7, hz7⟩ : ∃ z, w.heap.size = z := ⟨_, rfl⟩
  refine reg_sym HF HM hz7 [] [(0, .bool false), (1, .bool big), (3, .int .u32 (offset : Nat)), (6, .pointer (some ⟨z1, 0, none⟩)), (9, .pointer (some ⟨z4, 0, none⟩)), (40, .bool true), (8, .bool true)] [(z5, .cells #[.int .u64 (vaddr : Nat), .int .u64 (paddr : Nat), .int .u64 (memsz : Nat), .int .u64 (align : Nat)] 30 (0, 0)), (z4, .cells #[.bool false, .bool big, .int .u8 0, .int .u8 0, .int .i64 0, .int .i64 0, .int .u64 0, .slice none 0 0, .slice none 0 0] 46 (0, 0)), (z1, .cells #[.int .u32 (ty : Nat), .int .u32 (flags : Nat), .int .u64 (vaddr : Nat), .int .u64 (paddr : Nat), .int .u64 (memsz : Nat), .int .u64 (align : Nat), .slice A n c] 53 (0, 0))] (by kernel_rfl) ?_
  clear HF HM hz7; intro a w HF HM
  refine wp_ret ?_
  repeat (first | refine then_ret ?_ | refine inb_ret ?_)
  exact ret_one HF rfl rfl ⟨rfl, HM.below⟩

set_option maxRecDepth 100000 in
set_option maxHeartbeats 1000000 in
theorem walkProg_false_long (big : Bool) (ty flags vaddr paddr memsz align : Nat) (A : Option Addr) (n c : Nat) (offset : Nat) (hty : ty < 4294967296) (hfl : flags < 4294967296) (hva : vaddr < 18446744073709551616) (hpa : paddr < 18446744073709551616) (hms : memsz < 18446744073709551616) (hal : align < 18446744073709551616) (hof : offset < 4294967296) (hc : n ≤ 2147483647) (hfb : fitsB false [vaddr, paddr, memsz, align] = true) (hlong : 65536 < n) (w0 : World) :
    Calls Try.prog 12 #[.bool false, .bool big, .agg #[.int .u32 (ty : Nat), .int .u32 (flags : Nat), .int .u64 (vaddr : Nat), .int .u64 (paddr : Nat), .int .u64 (memsz : Nat), .int .u64 (align : Nat), .slice A n c], .int .u32 (offset : Nat)] w0 fun e w' => e = .returned (.bool true) ∧ Below w0.heap.size w0 w' := by
  obtain ⟨w, hw⟩ : ∃ w, w0 = w := ⟨_, rfl⟩
  have HM : Mm w0 w [] := hw ▸ Mm.start w0
  conv => arg 4; rw [hw]
  clear hw
  refine calls_start Try.func12 rfl Try.ntmps12 [(0, .bool false), (1, .bool big), (2, .agg #[.int .u32 (ty : Nat), .int .u32 (flags : Nat), .int .u64 (vaddr : Nat), .int .u64 (paddr : Nat), .int .u64 (memsz : Nat), .int .u64 (align : Nat), .slice A n c]), (3, .int .u32 (offset : Nat))] (by kernel_rfl) (Nat.le_of_ble_eq_true rfl) ?_
  intro a HF
  obtain ⟨z1, hz1⟩ : ∃ z, w.heap.size = z := ⟨_, rfl⟩
  refine reg_sym HF HM hz1 [] [(0, .bool false), (1, .bool big), (3, .int .u32 (offset : Nat)), (6, .pointer (some ⟨z1, 0, none⟩)), (8, .bool false)] [(z1, .cells #[.int .u32 (ty : Nat), .int .u32 (flags : Nat), .int .u64 (vaddr : Nat), .int .u64 (paddr : Nat), .int .u64 (memsz : Nat), .int .u64 (align : Nat), .slice A n c] 53 (0, 0))] (by kernel_rfl) ?_
  clear HF HM hz1; intro a w HF HM
  refine wp_seq ?_
  refine wp_seq (wp_region_lit ?_)
  obtain ⟨z2, hz2⟩ : ∃ z, w.heap.size = z := ⟨_, rfl⟩
  refine wp_sym HF HM hz2 1 [[0]] [(0, .bool false), (1, .bool big), (3, .int .u32 (offset : Nat)), (6, .pointer (some ⟨z1, 0, none⟩)), (8, .bool false), (12, .agg #[.int .u32 (ty : Nat), .int .u32 (flags : Nat), .int .u64 (vaddr : Nat), .int .u64 (paddr : Nat), .int .u64 (memsz : Nat), .int .u64 (align : Nat), .slice A n c])] [(z1, .cells #[.int .u32 (ty : Nat), .int .u32 (flags : Nat), .int .u64 (vaddr : Nat), .int .u64 (paddr : Nat), .int .u64 (memsz : Nat), .int .u64 (align : Nat), .slice A n c] 53 (0, 0))] (by kernel_rfl) ?_
  simp only [List.drop_succ_cons, List.drop_zero]; clear HF HM hz2; intro a w HF HM
  refine wp_call HF (by kernel_rfl) 30 #[.agg #[.int .u32 (ty : Nat), .int .u32 (flags : Nat), .int .u64 (vaddr : Nat), .int .u64 (paddr : Nat), .int .u64 (memsz : Nat), .int .u64 (align : Nat), .slice A n c]] (by kernel_rfl) (fun w => by kernel_rfl) (Calls.mono (zzFits3_in ty flags vaddr paddr memsz align A n c hc w) ?_)
  rintro _ w1 ⟨rfl, hb⟩
  replace HM := HM.call hb
  clear hb
  refine ⟨_, rfl, ?_⟩; clear HF; intro a HF; replace HF := HF.sub [(0, .bool false), (1, .bool big), (3, .int .u32 (offset : Nat)), (6, .pointer (some ⟨z1, 0, none⟩)), (8, .bool false), (12, .agg #[.int .u32 (ty : Nat), .int .u32 (flags : Nat), .int .u64 (vaddr : Nat), .int .u64 (paddr : Nat), .int .u64 (memsz : Nat), .int .u64 (align : Nat), .slice A n c]), (13, .bool true)] (by kernel_rfl)
  obtain ⟨z3, hz3⟩ : ∃ z, w1.heap.size = z := ⟨_, rfl⟩
  refine wp_sym HF HM hz3 1 [] [(0, .bool false), (1, .bool big), (3, .int .u32 (offset : Nat)), (6, .pointer (some ⟨z1, 0, none⟩)), (8, .bool false), (14, .bool false)] [(z1, .cells #[.int .u32 (ty : Nat), .int .u32 (flags : Nat), .int .u64 (vaddr : Nat), .int .u64 (paddr : Nat), .int .u64 (memsz : Nat), .int .u64 (align : Nat), .slice A n c] 53 (0, 0))] (by kernel_rfl) ?_
  simp only [List.drop_succ_cons, List.drop_zero]; clear HF HM hz3; intro a w HF HM
  refine nil_then ?_
  refine wp_condF HF rfl ?_
  refine wp_skip ?_
  repeat (first | refine then_norm ?_ | refine inb_norm ?_)
  replace HF := HF.sub [(0, .bool false), (1, .bool big), (3, .int .u32 (offset : Nat)), (6, .pointer (some ⟨z1, 0, none⟩)), (8, .bool false)] (by kernel_rfl)
  obtain ⟨z4, hz4⟩ : ∃ z, w.heap.size = z := ⟨_, rfl⟩
  refine reg_sym HF HM hz4 [[1]] [(0, .bool false), (1, .bool big), (3, .int .u32 (offset : Nat)), (6, .pointer (some ⟨z1, 0, none⟩)), (8, .bool false), (9, .pointer (some ⟨z4, 0, none⟩))] [(z4, .cells #[.bool false, .bool big, .int .u8 0, .int .u8 0, .int .i64 0, .int .i64 0, .int .u64 0, .slice none 0 0, .slice none 0 0] 46 (0, 0)), (z1, .cells #[.int .u32 (ty : Nat), .int .u32 (flags : Nat), .int .u64 (vaddr : Nat), .int .u64 (paddr : Nat), .int .u64 (memsz : Nat), .int .u64 (align : Nat), .slice A n c] 53 (0, 0))] (by kernel_rfl) ?_
  clear HF HM hz4; intro a w HF HM
  refine wp_seq ?_
  refine wp_seq (wp_region_lit ?_)
  obtain ⟨z5, hz5⟩ : ∃ z, w.heap.size = z := ⟨_, rfl⟩
  refine wp_sym HF HM hz5 10 [[1], [0], [0], [0], [0]] [(0, .bool false), (1, .bool big), (3, .int .u32 (offset : Nat)), (6, .pointer (some ⟨z1, 0, none⟩)), (8, .bool false), (9, .pointer (some ⟨z4, 0, none⟩)), (18, .agg #[.bool false, .bool big, .int .u8 0, .int .u8 0, .int .i64 0, .int .i64 0, .int .u64 0, .slice none 0 0, .slice none 0 0]), (27, .slice (some ⟨z5, 0, none⟩) 4 4)] [(z5, .cells #[.int .u64 (vaddr : Nat), .int .u64 (paddr : Nat), .int .u64 (memsz : Nat), .int .u64 (align : Nat)] 30 (0, 0)), (z4, .cells #[.bool false, .bool big, .int .u8 0, .int .u8 0, .int .i64 0, .int .i64 0, .int .u64 0, .slice none 0 0, .slice none 0 0] 46 (0, 0)), (z1, .cells #[.int .u32 (ty : Nat), .int .u32 (flags : Nat), .int .u64 (vaddr : Nat), .int .u64 (paddr : Nat), .int .u64 (memsz : Nat), .int .u64 (align : Nat), .slice A n c] 53 (0, 0))] (by kernel_rfl) ?_
  simp only [List.drop_succ_cons, List.drop_zero]; clear HF HM hz5; intro a w HF HM
  have hrf : Row w (some ⟨z5, 0, none⟩) ([vaddr, paddr, memsz, align].map fun (k : Nat) => Value.int .u64 (k : Int)) := HM.rowAt (i := 0) rfl
  refine wp_call HF (by kernel_rfl) 26 #[.agg #[.bool false, .bool big, .int .u8 0, .int .u8 0, .int .i64 0, .int .i64 0, .int .u64 0, .slice none 0 0, .slice none 0 0], .slice (some ⟨z5, 0, none⟩) 4 4] (by kernel_rfl) (fun w => by kernel_rfl) (Calls.mono ((by have h := fits_any false (.bool big) (.int .u8 0) (.int .u8 0) (.int .i64 0) (.int .i64 0) (.int .u64 0) (.slice none 0 0) (.slice none 0 0) [vaddr, paddr, memsz, align] (some ⟨z5, 0, none⟩) 4 4 rfl (by decide) w hrf; rw [hfb] at h; exact h)) ?_)
  rintro _ w2 ⟨rfl, hb⟩
  replace HM := HM.call hb
  clear hb
  refine ⟨_, rfl, ?_⟩; clear HF; intro a HF; replace HF := HF.sub [(0, .bool false), (1, .bool big), (3, .int .u32 (offset : Nat)), (6, .pointer (some ⟨z1, 0, none⟩)), (8, .bool false), (9, .pointer (some ⟨z4, 0, none⟩)), (18, .agg #[.bool false, .bool big, .int .u8 0, .int .u8 0, .int .i64 0, .int .i64 0, .int .u64 0, .slice none 0 0, .slice none 0 0]), (27, .slice (some ⟨z5, 0, none⟩) 4 4), (28, .bool true)] (by kernel_rfl)
  replace HF := HF.sub [(0, .bool false), (1, .bool big), (3, .int .u32 (offset : Nat)), (6, .pointer (some ⟨z1, 0, none⟩)), (8, .bool false), (9, .pointer (some ⟨z4, 0, none⟩)), (28, .bool true)] (by kernel_rfl)
  obtain ⟨z6, hz6⟩ : ∃ z, w2.heap.size = z := ⟨_, rfl⟩
  refine wp_sym HF HM hz6 6 [[0]] [(0, .bool false), (1, .bool big), (3, .int .u32 (offset : Nat)), (6, .pointer (some ⟨z1, 0, none⟩)), (8, .bool false), (9, .pointer (some ⟨z4, 0, none⟩)), (30, .bool false), (34, .bool (decide ((65536 : Int) < (n : Int))))] [(z5, .cells #[.int .u64 (vaddr : Nat), .int .u64 (paddr : Nat), .int .u64 (memsz : Nat), .int .u64 (align : Nat)] 30 (0, 0)), (z4, .cells #[.bool false, .bool big, .int .u8 0, .int .u8 0, .int .i64 0, .int .i64 0, .int .u64 0, .slice none 0 0, .slice none 0 0] 46 (0, 0)), (z1, .cells #[.int .u32 (ty : Nat), .int .u32 (flags : Nat), .int .u64 (vaddr : Nat), .int .u64 (paddr : Nat), .int .u64 (memsz : Nat), .int .u64 (align : Nat), .slice A n c] 53 (0, 0))] (by kernel_rfl) ?_
  simp only [List.drop_succ_cons, List.drop_zero]; clear HF HM hz6; intro a w HF HM
  rw [show decide ((65536 : Int) < (n : Int)) = true from dec_t (by omega)] at HF
  obtain ⟨z7, hz7⟩ : ∃ z, w.heap.size = z := ⟨_, rfl⟩
  refine wp_sym HF HM hz7 6 [] [(0, .bool false), (1, .bool big), (3, .int .u32 (offset : Nat)), (6, .pointer (some ⟨z1, 0, none⟩)), (8, .bool false), (9, .pointer (some ⟨z4, 0, none⟩)), (40, .bool true)] [(z5, .cells #[.int .u64 (vaddr : Nat), .int .u64 (paddr : Nat), .int .u64 (memsz : Nat), .int .u64 (align : Nat)] 30 (0, 0)), (z4, .cells #[.bool false, .bool big, .int .u8 0, .int .u8 0, .int .i64 0, .int .i64 0, .int .u64 0, .slice none 0 0, .slice none 0 0] 46 (0, 0)), (z1, .cells #[.int .u32 (ty : Nat), .int .u32 (flags : Nat), .int .u64 (vaddr : Nat), .int .u64 (paddr : Nat), .int .u64 (memsz : Nat), .int .u64 (align : Nat), .slice A n c] 53 (0, 0))] (by kernel_rfl) ?_
  simp only [List.drop_succ_cons, List.drop_zero]; clear HF HM hz7; intro a w HF HM
  refine nil_then ?_
  refine wp_condT HF rfl ?_
  obtain ⟨z8, hz8⟩ : ∃ z, w.heap.size = z := ⟨_, rfl⟩
  refine reg_sym HF HM hz8 [] [(0, .bool false), (1, .bool big), (3, .int .u32 (offset : Nat)), (6, .pointer (some ⟨z1, 0, none⟩)), (9, .pointer (some ⟨z4, 0, none⟩)), (40, .bool true), (8, .bool true)] [(z5, .cells #[.int .u64 (vaddr : Nat), .int .u64 (paddr : Nat), .int .u64 (memsz : Nat), .int .u64 (align : Nat)] 30 (0, 0)), (z4, .cells #[.bool false, .bool big, .int .u8 0, .int .u8 0, .int .i64 0, .int .i64 0, .int .u64 0, .slice none 0 0, .slice none 0 0] 46 (0, 0)), (z1, .cells #[.int .u32 (ty : Nat), .int .u32 (flags : Nat), .int .u64 (vaddr : Nat), .int .u64 (paddr : Nat), .int .u64 (memsz : Nat), .int .u64 (align : Nat), .slice A n c] 53 (0, 0))] (by kernel_rfl) ?_
  clear HF HM hz8; intro a w HF HM
  refine wp_ret ?_
  repeat (first | refine then_ret ?_ | refine inb_ret ?_)
  exact ret_one HF rfl rfl ⟨rfl, HM.below⟩

set_option maxRecDepth 100000 in
set_option maxHeartbeats 1000000 in
theorem walkProg_false_kind (big : Bool) (ty flags vaddr paddr memsz align : Nat) (A : Option Addr) (n c : Nat) (offset : Nat) (hty : ty < 4294967296) (hfl : flags < 4294967296) (hva : vaddr < 18446744073709551616) (hpa : paddr < 18446744073709551616) (hms : memsz < 18446744073709551616) (hal : align < 18446744073709551616) (hof : offset < 4294967296) (hc : n ≤ 2147483647) (hfb : fitsB false [vaddr, paddr, memsz, align] = true) (hshort : n ≤ 65536) (hkind : 2147483648 ≤ ty) (w0 : World) :
    Calls Try.prog 12 #[.bool false, .bool big, .agg #[.int .u32 (ty : Nat), .int .u32 (flags : Nat), .int .u64 (vaddr : Nat), .int .u64 (paddr : Nat), .int .u64 (memsz : Nat), .int .u64 (align : Nat), .slice A n c], .int .u32 (offset : Nat)] w0 fun e w' => e = .returned (.bool true) ∧ Below w0.heap.size w0 w' := by
  obtain ⟨w, hw⟩ : ∃ w, w0 = w := ⟨_, rfl⟩
  have HM : Mm w0 w [] := hw ▸ Mm.start w0
  conv => arg 4; rw [hw]
  clear hw
  refine calls_start Try.func12 rfl Try.ntmps12 [(0, .bool false), (1, .bool big), (2, .agg #[.int .u32 (ty : Nat), .int .u32 (flags : Nat), .int .u64 (vaddr : Nat), .int .u64 (paddr : Nat), .int .u64 (memsz : Nat), .int .u64 (align : Nat), .slice A n c]), (3, .int .u32 (offset : Nat))] (by kernel_rfl) (Nat.le_of_ble_eq_true rfl) ?_
  intro a HF
  obtain ⟨z1, hz1⟩ : ∃ z, w.heap.size = z := ⟨_, rfl⟩
  refine reg_sym HF HM hz1 [] [(0, .bool false), (1, .bool big), (3, .int .u32 (offset : Nat)), (6, .pointer (some ⟨z1, 0, none⟩)), (8, .bool false)] [(z1, .cells #[.int .u32 (ty : Nat), .int .u32 (flags : Nat), .int .u64 (vaddr : Nat), .int .u64 (paddr : Nat), .int .u64 (memsz : Nat), .int .u64 (align : Nat), .slice A n c] 53 (0, 0))] (by kernel_rfl) ?_
  clear HF HM hz1; intro a w HF HM
  refine wp_seq ?_
  refine wp_seq (wp_region_lit ?_)
  obtain ⟨z2, hz2⟩ : ∃ z, w.heap.size = z := ⟨_, rfl⟩
  refine wp_sym HF HM hz2 1 [[0]] [(0, .bool false), (1, .bool big), (3, .int .u32 (offset : Nat)), (6, .pointer (some ⟨z1, 0, none⟩)), (8, .bool false), (12, .agg #[.int .u32 (ty : Nat), .int .u32 (flags : Nat), .int .u64 (vaddr : Nat), .int .u64 (paddr : Nat), .int .u64 (memsz : Nat), .int .u64 (align : Nat), .slice A n c])] [(z1, .cells #[.int .u32 (ty : Nat), .int .u32 (flags : Nat), .int .u64 (vaddr : Nat), .int .u64 (paddr : Nat), .int .u64 (memsz : Nat), .int .u64 (align : Nat), .slice A n c] 53 (0, 0))] (by kernel_rfl) ?_
  simp only [List.drop_succ_cons, List.drop_zero]; clear HF HM hz2; intro a w HF HM
  refine wp_call HF (by kernel_rfl) 30 #[.agg #[.int .u32 (ty : Nat), .int .u32 (flags : Nat), .int .u64 (vaddr : Nat), .int .u64 (paddr : Nat), .int .u64 (memsz : Nat), .int .u64 (align : Nat), .slice A n c]] (by kernel_rfl) (fun w => by kernel_rfl) (Calls.mono (zzFits3_in ty flags vaddr paddr memsz align A n c hc w) ?_)
  rintro _ w1 ⟨rfl, hb⟩
  replace HM := HM.call hb
  clear hb
  refine ⟨_, rfl, ?_⟩; clear HF; intro a HF; replace HF := HF.sub [(0, .bool false), (1, .bool big), (3, .int .u32 (offset : Nat)), (6, .pointer (some ⟨z1, 0, none⟩)), (8, .bool false), (12, .agg #[.int .u32 (ty : Nat), .int .u32 (flags : Nat), .int .u64 (vaddr : Nat), .int .u64 (paddr : Nat), .int .u64 (memsz : Nat), .int .u64 (align : Nat), .slice A n c]), (13, .bool true)] (by kernel_rfl)
  obtain ⟨z3, hz3⟩ : ∃ z, w1.heap.size = z := ⟨_, rfl⟩
  refine wp_sym HF HM hz3 1 [] [(0, .bool false), (1, .bool big), (3, .int .u32 (offset : Nat)), (6, .pointer (some ⟨z1, 0, none⟩)), (8, .bool false), (14, .bool false)] [(z1, .cells #[.int .u32 (ty : Nat), .int .u32 (flags : Nat), .int .u64 (vaddr : Nat), .int .u64 (paddr : Nat), .int .u64 (memsz : Nat), .int .u64 (align : Nat), .slice A n c] 53 (0, 0))] (by kernel_rfl) ?_
  simp only [List.drop_succ_cons, List.drop_zero]; clear HF HM hz3; intro a w HF HM
  refine nil_then ?_
  refine wp_condF HF rfl ?_
  refine wp_skip ?_
  repeat (first | refine then_norm ?_ | refine inb_norm ?_)
  replace HF := HF.sub [(0, .bool false), (1, .bool big), (3, .int .u32 (offset : Nat)), (6, .pointer (some ⟨z1, 0, none⟩)), (8, .bool false)] (by kernel_rfl)
  obtain ⟨z4, hz4⟩ : ∃ z, w.heap.size = z := ⟨_, rfl⟩
  refine reg_sym HF HM hz4 [[1]] [(0, .bool false), (1, .bool big), (3, .int .u32 (offset : Nat)), (6, .pointer (some ⟨z1, 0, none⟩)), (8, .bool false), (9, .pointer (some ⟨z4, 0, none⟩))] [(z4, .cells #[.bool false, .bool big, .int .u8 0, .int .u8 0, .int .i64 0, .int .i64 0, .int .u64 0, .slice none 0 0, .slice none 0 0] 46 (0, 0)), (z1, .cells #[.int .u32 (ty : Nat), .int .u32 (flags : Nat), .int .u64 (vaddr : Nat), .int .u64 (paddr : Nat), .int .u64 (memsz : Nat), .int .u64 (align : Nat), .slice A n c] 53 (0, 0))] (by kernel_rfl) ?_
  clear HF HM hz4; intro a w HF HM
  refine wp_seq ?_
  refine wp_seq (wp_region_lit ?_)
  obtain ⟨z5, hz5⟩ : ∃ z, w.heap.size = z := ⟨_, rfl⟩
  refine wp_sym HF HM hz5 10 [[1], [0], [0], [0], [0]] [(0, .bool false), (1, .bool big), (3, .int .u32 (offset : Nat)), (6, .pointer (some ⟨z1, 0, none⟩)), (8, .bool false), (9, .pointer (some ⟨z4, 0, none⟩)), (18, .agg #[.bool false, .bool big, .int .u8 0, .int .u8 0, .int .i64 0, .int .i64 0, .int .u64 0, .slice none 0 0, .slice none 0 0]), (27, .slice (some ⟨z5, 0, none⟩) 4 4)] [(z5, .cells #[.int .u64 (vaddr : Nat), .int .u64 (paddr : Nat), .int .u64 (memsz : Nat), .int .u64 (align : Nat)] 30 (0, 0)), (z4, .cells #[.bool false, .bool big, .int .u8 0, .int .u8 0, .int .i64 0, .int .i64 0, .int .u64 0, .slice none 0 0, .slice none 0 0] 46 (0, 0)), (z1, .cells #[.int .u32 (ty : Nat), .int .u32 (flags : Nat), .int .u64 (vaddr : Nat), .int .u64 (paddr : Nat), .int .u64 (memsz : Nat), .int .u64 (align : Nat), .slice A n c] 53 (0, 0))] (by kernel_rfl) ?_
  simp only [List.drop_succ_cons, List.drop_zero]; clear HF HM hz5; intro a w HF HM
  have hrf : Row w (some ⟨z5, 0, none⟩) ([vaddr, paddr, memsz, align].map fun (k : Nat) => Value.int .u64 (k : Int)) := HM.rowAt (i := 0) rfl
  refine wp_call HF (by kernel_rfl) 26 #[.agg #[.bool false, .bool big, .int .u8 0, .int .u8 0, .int .i64 0, .int .i64 0, .int .u64 0, .slice none 0 0, .slice none 0 0], .slice (some ⟨z5, 0, none⟩) 4 4] (by kernel_rfl) (fun w => by kernel_rfl) (Calls.mono ((by have h := fits_any false (.bool big) (.int .u8 0) (.int .u8 0) (.int .i64 0) (.int .i64 0) (.int .u64 0) (.slice none 0 0) (.slice none 0 0) [vaddr, paddr, memsz, align] (some ⟨z5, 0, none⟩) 4 4 rfl (by decide) w hrf; rw [hfb] at h; exact h)) ?_)
  rintro _ w2 ⟨rfl, hb⟩
  replace HM := HM.call hb
  clear hb
  refine ⟨_, rfl, ?_⟩; clear HF; intro a HF; replace HF := HF.sub [(0, .bool false), (1, .bool big), (3, .int .u32 (offset : Nat)), (6, .pointer (some ⟨z1, 0, none⟩)), (8, .bool false), (9, .pointer (some ⟨z4, 0, none⟩)), (18, .agg #[.bool false, .bool big, .int .u8 0, .int .u8 0, .int .i64 0, .int .i64 0, .int .u64 0, .slice none 0 0, .slice none 0 0]), (27, .slice (some ⟨z5, 0, none⟩) 4 4), (28, .bool true)] (by kernel_rfl)
  replace HF := HF.sub [(0, .bool false), (1, .bool big), (3, .int .u32 (offset : Nat)), (6, .pointer (some ⟨z1, 0, none⟩)), (8, .bool false), (9, .pointer (some ⟨z4, 0, none⟩)), (28, .bool true)] (by kernel_rfl)
  obtain ⟨z6, hz6⟩ : ∃ z, w2.heap.size = z := ⟨_, rfl⟩
  refine wp_sym HF HM hz6 6 [[0]] [(0, .bool false), (1, .bool big), (3, .int .u32 (offset : Nat)), (6, .pointer (some ⟨z1, 0, none⟩)), (8, .bool false), (9, .pointer (some ⟨z4, 0, none⟩)), (30, .bool false), (34, .bool (decide ((65536 : Int) < (n : Int))))] [(z5, .cells #[.int .u64 (vaddr : Nat), .int .u64 (paddr : Nat), .int .u64 (memsz : Nat), .int .u64 (align : Nat)] 30 (0, 0)), (z4, .cells #[.bool false, .bool big, .int .u8 0, .int .u8 0, .int .i64 0, .int .i64 0, .int .u64 0, .slice none 0 0, .slice none 0 0] 46 (0, 0)), (z1, .cells #[.int .u32 (ty : Nat), .int .u32 (flags : Nat), .int .u64 (vaddr : Nat), .int .u64 (paddr : Nat), .int .u64 (memsz : Nat), .int .u64 (align : Nat), .slice A n c] 53 (0, 0))] (by kernel_rfl) ?_
  simp only [List.drop_succ_cons, List.drop_zero]; clear HF HM hz6; intro a w HF HM
  rw [show decide ((65536 : Int) < (n : Int)) = false from dec_f (by omega)] at HF
  obtain ⟨z7, hz7⟩ : ∃ z, w.heap.size = z := ⟨_, rfl⟩
  refine wp_sym HF HM hz7 5 [[0]] [(0, .bool false), (1, .bool big), (3, .int .u32 (offset : Nat)), (6, .pointer (some ⟨z1, 0, none⟩)), (8, .bool false), (9, .pointer (some ⟨z4, 0, none⟩)), (36, .bool false), (39, .bool (decide ((2147483648 : Int) ≤ ((ty : Nat) : Int))))] [(z5, .cells #[.int .u64 (vaddr : Nat), .int .u64 (paddr : Nat), .int .u64 (memsz : Nat), .int .u64 (align : Nat)] 30 (0, 0)), (z4, .cells #[.bool false, .bool big, .int .u8 0, .int .u8 0, .int .i64 0, .int .i64 0, .int .u64 0, .slice none 0 0, .slice none 0 0] 46 (0, 0)), (z1, .cells #[.int .u32 (ty : Nat), .int .u32 (flags : Nat), .int .u64 (vaddr : Nat), .int .u64 (paddr : Nat), .int .u64 (memsz : Nat), .int .u64 (align : Nat), .slice A n c] 53 (0, 0))] (by kernel_rfl) ?_
  simp only [List.drop_succ_cons, List.drop_zero]; clear HF HM hz7; intro a w HF HM
  rw [show decide ((2147483648 : Int) ≤ ((ty : Nat) : Int)) = true from dec_t (by omega)] at HF
  obtain ⟨z8, hz8⟩ : ∃ z, w.heap.size = z := ⟨_, rfl⟩
  refine wp_sym HF HM hz8 1 [] [(0, .bool false), (1, .bool big), (3, .int .u32 (offset : Nat)), (6, .pointer (some ⟨z1, 0, none⟩)), (8, .bool false), (9, .pointer (some ⟨z4, 0, none⟩)), (40, .bool true)] [(z5, .cells #[.int .u64 (vaddr : Nat), .int .u64 (paddr : Nat), .int .u64 (memsz : Nat), .int .u64 (align : Nat)] 30 (0, 0)), (z4, .cells #[.bool false, .bool big, .int .u8 0, .int .u8 0, .int .i64 0, .int .i64 0, .int .u64 0, .slice none 0 0, .slice none 0 0] 46 (0, 0)), (z1, .cells #[.int .u32 (ty : Nat), .int .u32 (flags : Nat), .int .u64 (vaddr : Nat), .int .u64 (paddr : Nat), .int .u64 (memsz : Nat), .int .u64 (align : Nat), .slice A n c] 53 (0, 0))] (by kernel_rfl) ?_
  simp only [List.drop_succ_cons, List.drop_zero]; clear HF HM hz8; intro a w HF HM
  refine nil_then ?_
  refine wp_condT HF rfl ?_
  obtain ⟨z9, hz9⟩ : ∃ z, w.heap.size = z := ⟨_, rfl⟩
  refine reg_sym HF HM hz9 [] [(0, .bool false), (1, .bool big), (3, .int .u32 (offset : Nat)), (6, .pointer (some ⟨z1, 0, none⟩)), (9, .pointer (some ⟨z4, 0, none⟩)), (40, .bool true), (8, .bool true)] [(z5, .cells #[.int .u64 (vaddr : Nat), .int .u64 (paddr : Nat), .int .u64 (memsz : Nat), .int .u64 (align : Nat)] 30 (0, 0)), (z4, .cells #[.bool false, .bool big, .int .u8 0, .int .u8 0, .int .i64 0, .int .i64 0, .int .u64 0, .slice none 0 0, .slice none 0 0] 46 (0, 0)), (z1, .cells #[.int .u32 (ty : Nat), .int .u32 (flags : Nat), .int .u64 (vaddr : Nat), .int .u64 (paddr : Nat), .int .u64 (memsz : Nat), .int .u64 (align : Nat), .slice A n c] 53 (0, 0))] (by kernel_rfl) ?_
  clear HF HM hz9; intro a w HF HM
  refine wp_ret ?_
  repeat (first | refine then_ret ?_ | refine inb_ret ?_)
  exact ret_one HF rfl rfl ⟨rfl, HM.below⟩

set_option maxRecDepth 100000 in
set_option maxHeartbeats 1000000 in
theorem walkProg_false_ok (big : Bool) (ty flags vaddr paddr memsz align : Nat) (A : Option Addr) (n c : Nat) (offset : Nat) (hty : ty < 4294967296) (hfl : flags < 4294967296) (hva : vaddr < 18446744073709551616) (hpa : paddr < 18446744073709551616) (hms : memsz < 18446744073709551616) (hal : align < 18446744073709551616) (hof : offset < 4294967296) (hc : n ≤ 2147483647) (hfb : fitsB false [vaddr, paddr, memsz, align] = true) (hshort : n ≤ 65536) (hkind : ty < 2147483648) (w0 : World) :
    Calls Try.prog 12 #[.bool false, .bool big, .agg #[.int .u32 (ty : Nat), .int .u32 (flags : Nat), .int .u64 (vaddr : Nat), .int .u64 (paddr : Nat), .int .u64 (memsz : Nat), .int .u64 (align : Nat), .slice A n c], .int .u32 (offset : Nat)] w0 fun e w' => e = .returned (.bool true) ∧ Below w0.heap.size w0 w' := by
  obtain ⟨w, hw⟩ : ∃ w, w0 = w := ⟨_, rfl⟩
  have HM : Mm w0 w [] := hw ▸ Mm.start w0
  conv => arg 4; rw [hw]
  clear hw
  refine calls_start Try.func12 rfl Try.ntmps12 [(0, .bool false), (1, .bool big), (2, .agg #[.int .u32 (ty : Nat), .int .u32 (flags : Nat), .int .u64 (vaddr : Nat), .int .u64 (paddr : Nat), .int .u64 (memsz : Nat), .int .u64 (align : Nat), .slice A n c]), (3, .int .u32 (offset : Nat))] (by kernel_rfl) (Nat.le_of_ble_eq_true rfl) ?_
  intro a HF
  obtain ⟨z1, hz1⟩ : ∃ z, w.heap.size = z := ⟨_, rfl⟩
  refine reg_sym HF HM hz1 [] [(0, .bool false), (1, .bool big), (3, .int .u32 (offset : Nat)), (6, .pointer (some ⟨z1, 0, none⟩)), (8, .bool false)] [(z1, .cells #[.int .u32 (ty : Nat), .int .u32 (flags : Nat), .int .u64 (vaddr : Nat), .int .u64 (paddr : Nat), .int .u64 (memsz : Nat), .int .u64 (align : Nat), .slice A n c] 53 (0, 0))] (by kernel_rfl) ?_
  clear HF HM hz1; intro a w HF HM
  refine wp_seq ?_
  refine wp_seq (wp_region_lit ?_)
  obtain ⟨z2, hz2⟩ : ∃ z, w.heap.size = z := ⟨_, rfl⟩
  refine wp_sym HF HM hz2 1 [[0]] [(0, .bool false), (1, .bool big), (3, .int .u32 (offset : Nat)), (6, .pointer (some ⟨z1, 0, none⟩)), (8, .bool false), (12, .agg #[.int .u32 (ty : Nat), .int .u32 (flags : Nat), .int .u64 (vaddr : Nat), .int .u64 (paddr : Nat), .int .u64 (memsz : Nat), .int .u64 (align : Nat), .slice A n c])] [(z1, .cells #[.int .u32 (ty : Nat), .int .u32 (flags : Nat), .int .u64 (vaddr : Nat), .int .u64 (paddr : Nat), .int .u64 (memsz : Nat), .int .u64 (align : Nat), .slice A n c] 53 (0, 0))] (by kernel_rfl) ?_
  simp only [List.drop_succ_cons, List.drop_zero]; clear HF HM hz2; intro a w HF HM
  refine wp_call HF (by kernel_rfl) 30 #[.agg #[.int .u32 (ty : Nat), .int .u32 (flags : Nat), .int .u64 (vaddr : Nat), .int .u64 (paddr : Nat), .int .u64 (memsz : Nat), .int .u64 (align : Nat), .slice A n c]] (by kernel_rfl) (fun w => by kernel_rfl) (Calls.mono (zzFits3_in ty flags vaddr paddr memsz align A n c hc w) ?_)
  rintro _ w1 ⟨rfl, hb⟩
  replace HM := HM.call hb
  clear hb
  refine ⟨_, rfl, ?_⟩; clear HF; intro a HF; replace HF := HF.sub [(0, .bool false), (1, .bool big), (3, .int .u32 (offset : Nat)), (6, .pointer (some ⟨z1, 0, none⟩)), (8, .bool false), (12, .agg #[.int .u32 (ty : Nat), .int .u32 (flags : Nat), .int .u64 (vaddr : Nat), .int .u64 (paddr : Nat), .int .u64 (memsz : Nat), .int .u64 (align : Nat), .slice A n c]), (13, .bool true)] (by kernel_rfl)
  obtain ⟨z3, hz3⟩ : ∃ z, w1.heap.size = z := ⟨_, rfl⟩
  refine wp_sym HF HM hz3 1 [] [(0, .bool false), (1, .bool big), (3, .int .u32 (offset : Nat)), (6, .pointer (some ⟨z1, 0, none⟩)), (8, .bool false), (14, .bool false)] [(z1, .cells #[.int .u32 (ty : Nat), .int .u32 (flags : Nat), .int .u64 (vaddr : Nat), .int .u64 (paddr : Nat), .int .u64 (memsz : Nat), .int .u64 (align : Nat), .slice A n c] 53 (0, 0))] (by kernel_rfl) ?_
  simp only [List.drop_succ_cons, List.drop_zero]; clear HF HM hz3; intro a w HF HM
  refine nil_then ?_
  refine wp_condF HF rfl ?_
  refine wp_skip ?_
  repeat (first | refine then_norm ?_ | refine inb_norm ?_)
  replace HF := HF.sub [(0, .bool false), (1, .bool big), (3, .int .u32 (offset : Nat)), (6, .pointer (some ⟨z1, 0, none⟩)), (8, .bool false)] (by kernel_rfl)
  obtain ⟨z4, hz4⟩ : ∃ z, w.heap.size = z := ⟨_, rfl⟩
  refine reg_sym HF HM hz4 [[1]] [(0, .bool false), (1, .bool big), (3, .int .u32 (offset : Nat)), (6, .pointer (some ⟨z1, 0, none⟩)), (8, .bool false), (9, .pointer (some ⟨z4, 0, none⟩))] [(z4, .cells #[.bool false, .bool big, .int .u8 0, .int .u8 0, .int .i64 0, .int .i64 0, .int .u64 0, .slice none 0 0, .slice none 0 0] 46 (0, 0)), (z1, .cells #[.int .u32 (ty : Nat), .int .u32 (flags : Nat), .int .u64 (vaddr : Nat), .int .u64 (paddr : Nat), .int .u64 (memsz : Nat), .int .u64 (align : Nat), .slice A n c] 53 (0, 0))] (by kernel_rfl) ?_
  clear HF HM hz4; intro a w HF HM
  refine wp_seq ?_
  refine wp_seq (wp_region_lit ?_)
  obtain ⟨z5, hz5⟩ : ∃ z, w.heap.size = z := ⟨_, rfl⟩
  refine wp_sym HF HM hz5 10 [[1], [0], [0], [0], [0]] [(0, .bool false), (1, .bool big), (3, .int .u32 (offset : Nat)), (6, .pointer (some ⟨z1, 0, none⟩)), (8, .bool false), (9, .pointer (some ⟨z4, 0, none⟩)), (18, .agg #[.bool false, .bool big, .int .u8 0, .int .u8 0, .int .i64 0, .int .i64 0, .int .u64 0, .slice none 0 0, .slice none 0 0]), (27, .slice (some ⟨z5, 0, none⟩) 4 4)] [(z5, .cells #[.int .u64 (vaddr : Nat), .int .u64 (paddr : Nat), .int .u64 (memsz : Nat), .int .u64 (align : Nat)] 30 (0, 0)), (z4, .cells #[.bool false, .bool big, .int .u8 0, .int .u8 0, .int .i64 0, .int .i64 0, .int .u64 0, .slice none 0 0, .slice none 0 0] 46 (0, 0)), (z1, .cells #[.int .u32 (ty : Nat), .int .u32 (flags : Nat), .int .u64 (vaddr : Nat), .int .u64 (paddr : Nat), .int .u64 (memsz : Nat), .int .u64 (align : Nat), .slice A n c] 53 (0, 0))] (by kernel_rfl) ?_
  simp only [List.drop_succ_cons, List.drop_zero]; clear HF HM hz5; intro a w HF HM
  have hrf : Row w (some ⟨z5, 0, none⟩) ([vaddr, paddr, memsz, align].map fun (k : Nat) => Value.int .u64 (k : Int)) := HM.rowAt (i := 0) rfl
  refine wp_call HF (by kernel_rfl) 26 #[.agg #[.bool false, .bool big, .int .u8 0, .int .u8 0, .int .i64 0, .int .i64 0, .int .u64 0, .slice none 0 0, .slice none 0 0], .slice (some ⟨z5, 0, none⟩) 4 4] (by kernel_rfl) (fun w => by kernel_rfl) (Calls.mono ((by have h := fits_any false (.bool big) (.int .u8 0) (.int .u8 0) (.int .i64 0) (.int .i64 0) (.int .u64 0) (.slice none 0 0) (.slice none 0 0) [vaddr, paddr, memsz, align] (some ⟨z5, 0, none⟩) 4 4 rfl (by decide) w hrf; rw [hfb] at h; exact h)) ?_)
  rintro _ w2 ⟨rfl, hb⟩
  replace HM := HM.call hb
  clear hb
  refine ⟨_, rfl, ?_⟩; clear HF; intro a HF; replace HF := HF.sub [(0, .bool false), (1, .bool big), (3, .int .u32 (offset : Nat)), (6, .pointer (some ⟨z1, 0, none⟩)), (8, .bool false), (9, .pointer (some ⟨z4, 0, none⟩)), (18, .agg #[.bool false, .bool big, .int .u8 0, .int .u8 0, .int .i64 0, .int .i64 0, .int .u64 0, .slice none 0 0, .slice none 0 0]), (27, .slice (some ⟨z5, 0, none⟩) 4 4), (28, .bool true)] (by kernel_rfl)
  replace HF := HF.sub [(0, .bool false), (1, .bool big), (3, .int .u32 (offset : Nat)), (6, .pointer (some ⟨z1, 0, none⟩)), (8, .bool false), (9, .pointer (some ⟨z4, 0, none⟩)), (28, .bool true)] (by kernel_rfl)
  obtain ⟨z6, hz6⟩ : ∃ z, w2.heap.size = z := ⟨_, rfl⟩
  refine wp_sym HF HM hz6 6 [[0]] [(0, .bool false), (1, .bool big), (3, .int .u32 (offset : Nat)), (6, .pointer (some ⟨z1, 0, none⟩)), (8, .bool false), (9, .pointer (some ⟨z4, 0, none⟩)), (30, .bool false), (34, .bool (decide ((65536 : Int) < (n : Int))))] [(z5, .cells #[.int .u64 (vaddr : Nat), .int .u64 (paddr : Nat), .int .u64 (memsz : Nat), .int .u64 (align : Nat)] 30 (0, 0)), (z4, .cells #[.bool false, .bool big, .int .u8 0, .int .u8 0, .int .i64 0, .int .i64 0, .int .u64 0, .slice none 0 0, .slice none 0 0] 46 (0, 0)), (z1, .cells #[.int .u32 (ty : Nat), .int .u32 (flags : Nat), .int .u64 (vaddr : Nat), .int .u64 (paddr : Nat), .int .u64 (memsz : Nat), .int .u64 (align : Nat), .slice A n c] 53 (0, 0))] (by kernel_rfl) ?_
  simp only [List.drop_succ_cons, List.drop_zero]; clear HF HM hz6; intro a w HF HM
  rw [show decide ((65536 : Int) < (n : Int)) = false from dec_f (by omega)] at HF
  obtain ⟨z7, hz7⟩ : ∃ z, w.heap.size = z := ⟨_, rfl⟩
  refine wp_sym HF HM hz7 5 [[0]] [(0, .bool false), (1, .bool big), (3, .int .u32 (offset : Nat)), (6, .pointer (some ⟨z1, 0, none⟩)), (8, .bool false), (9, .pointer (some ⟨z4, 0, none⟩)), (36, .bool false), (39, .bool (decide ((2147483648 : Int) ≤ ((ty : Nat) : Int))))] [(z5, .cells #[.int .u64 (vaddr : Nat), .int .u64 (paddr : Nat), .int .u64 (memsz : Nat), .int .u64 (align : Nat)] 30 (0, 0)), (z4, .cells #[.bool false, .bool big, .int .u8 0, .int .u8 0, .int .i64 0, .int .i64 0, .int .u64 0, .slice none 0 0, .slice none 0 0] 46 (0, 0)), (z1, .cells #[.int .u32 (ty : Nat), .int .u32 (flags : Nat), .int .u64 (vaddr : Nat), .int .u64 (paddr : Nat), .int .u64 (memsz : Nat), .int .u64 (align : Nat), .slice A n c] 53 (0, 0))] (by kernel_rfl) ?_
  simp only [List.drop_succ_cons, List.drop_zero]; clear HF HM hz7; intro a w HF HM
  rw [show decide ((2147483648 : Int) ≤ ((ty : Nat) : Int)) = false from dec_f (by omega)] at HF
  obtain ⟨z8, hz8⟩ : ∃ z, w.heap.size = z := ⟨_, rfl⟩
  refine wp_sym HF HM hz8 1 [] [(0, .bool false), (1, .bool big), (3, .int .u32 (offset : Nat)), (6, .pointer (some ⟨z1, 0, none⟩)), (8, .bool false), (9, .pointer (some ⟨z4, 0, none⟩)), (40, .bool false)] [(z5, .cells #[.int .u64 (vaddr : Nat), .int .u64 (paddr : Nat), .int .u64 (memsz : Nat), .int .u64 (align : Nat)] 30 (0, 0)), (z4, .cells #[.bool false, .bool big, .int .u8 0, .int .u8 0, .int .i64 0, .int .i64 0, .int .u64 0, .slice none 0 0, .slice none 0 0] 46 (0, 0)), (z1, .cells #[.int .u32 (ty : Nat), .int .u32 (flags : Nat), .int .u64 (vaddr : Nat), .int .u64 (paddr : Nat), .int .u64 (memsz : Nat), .int .u64 (align : Nat), .slice A n c] 53 (0, 0))] (by kernel_rfl) ?_
  simp only [List.drop_succ_cons, List.drop_zero]; clear HF HM hz8; intro a w HF HM
  refine nil_then ?_
  refine wp_condF HF rfl ?_
  refine wp_skip ?_
  repeat (first | refine then_norm ?_ | refine inb_norm ?_)
  replace HF := HF.sub [(0, .bool false), (1, .bool big), (3, .int .u32 (offset : Nat)), (6, .pointer (some ⟨z1, 0, none⟩)), (8, .bool false), (9, .pointer (some ⟨z4, 0, none⟩))] (by kernel_rfl)
  refine wp_seq (wp_region_lit ?_)
  obtain ⟨z9, hz9⟩ : ∃ z, w.heap.size = z := ⟨_, rfl⟩
  refine wp_sym HF HM hz9 6 [[1], [0]] [(0, .bool false), (1, .bool big), (3, .int .u32 (offset : Nat)), (6, .pointer (some ⟨z1, 0, none⟩)), (8, .bool false), (9, .pointer (some ⟨z4, 0, none⟩)), (42, .bool false), (43, .bool big), (44, .agg #[.bool false, .bool big, .int .u8 0, .int .u8 0, .int .i64 0, .int .i64 0, .int .u64 0, .slice none 0 0, .slice none 0 0]), (45, .agg #[.int .u32 (ty : Nat), .int .u32 (flags : Nat), .int .u64 (vaddr : Nat), .int .u64 (paddr : Nat), .int .u64 (memsz : Nat), .int .u64 (align : Nat), .slice A n c]), (47, .int .i64 (IntKind.i64.wrap (offset : Nat)))] [(z5, .cells #[.int .u64 (vaddr : Nat), .int .u64 (paddr : Nat), .int .u64 (memsz : Nat), .int .u64 (align : Nat)] 30 (0, 0)), (z4, .cells #[.bool false, .bool big, .int .u8 0, .int .u8 0, .int .i64 0, .int .i64 0, .int .u64 0, .slice none 0 0, .slice none 0 0] 46 (0, 0)), (z1, .cells #[.int .u32 (ty : Nat), .int .u32 (flags : Nat), .int .u64 (vaddr : Nat), .int .u64 (paddr : Nat), .int .u64 (memsz : Nat), .int .u64 (align : Nat), .slice A n c] 53 (0, 0))] (by kernel_rfl) ?_
  simp only [List.drop_succ_cons, List.drop_zero]; clear HF HM hz9; intro a w HF HM
  rw [show IntKind.i64.wrap ((offset : Nat) : Int) = (offset : Nat) from IntWalk.i64_in _ (by omega)] at HF
  refine wp_call HF (by kernel_rfl) 32 #[.agg #[.bool false, .bool big, .int .u8 0, .int .u8 0, .int .i64 0, .int .i64 0, .int .u64 0, .slice none 0 0, .slice none 0 0], .agg #[.int .u32 (ty : Nat), .int .u32 (flags : Nat), .int .u64 (vaddr : Nat), .int .u64 (paddr : Nat), .int .u64 (memsz : Nat), .int .u64 (align : Nat), .slice A n c], .int .i64 (offset : Nat)] (by kernel_rfl) (fun w => by kernel_rfl) (Calls.mono (segmentRow_thin big (.int .u8 0) (.int .u8 0) (.int .i64 0) (.int .i64 0) (.int .u64 0) (.slice none 0 0) (.slice none 0 0) ty flags vaddr paddr memsz align n c offset A (by omega) (by omega) (by omega) (by omega) w) ?_)
  rintro _ w3 ⟨v2, rfl, hown, hb⟩
  obtain ⟨A2, c2, rfl, hnc2, hrow2, -⟩ := own_form hown
  replace HM := HM.call hb
  clear hb hown
  refine ⟨_, rfl, ?_⟩; clear HF; intro a HF; replace HF := HF.sub [(0, .bool false), (1, .bool big), (3, .int .u32 (offset : Nat)), (6, .pointer (some ⟨z1, 0, none⟩)), (8, .bool false), (9, .pointer (some ⟨z4, 0, none⟩)), (42, .bool false), (43, .bool big), (44, .agg #[.bool false, .bool big, .int .u8 0, .int .u8 0, .int .i64 0, .int .i64 0, .int .u64 0, .slice none 0 0, .slice none 0 0]), (45, .agg #[.int .u32 (ty : Nat), .int .u32 (flags : Nat), .int .u64 (vaddr : Nat), .int .u64 (paddr : Nat), .int .u64 (memsz : Nat), .int .u64 (align : Nat), .slice A n c]), (47, .int .i64 (offset : Nat)), (48, .slice A2 (segB false big ty flags vaddr paddr memsz align n offset).length c2)] (by kernel_rfl)
  replace HF := HF.sub [(0, .bool false), (1, .bool big), (3, .int .u32 (offset : Nat)), (6, .pointer (some ⟨z1, 0, none⟩)), (8, .bool false), (9, .pointer (some ⟨z4, 0, none⟩)), (42, .bool false), (43, .bool big), (48, .slice A2 (segB false big ty flags vaddr paddr memsz align n offset).length c2)] (by kernel_rfl)
  refine wp_call HF (by kernel_rfl) 31 #[.bool false, .bool big, .slice A2 (segB false big ty flags vaddr paddr memsz align n offset).length c2] (by kernel_rfl) (fun w => by kernel_rfl) (Calls.mono (progRow_thin big (segB false big ty flags vaddr paddr memsz align n offset) A2 (segB false big ty flags vaddr paddr memsz align n offset).length c2 (by rw [segB_length]; decide) rfl (by rw [segB_length]; decide) ty flags offset vaddr paddr n memsz align (progV_seg false big ty flags vaddr paddr memsz align n offset (by omega) (by omega) (by omega) hfb hva hpa hms hal (by omega)) (by omega) (by omega) w3 hrow2) ?_)
  rintro _ w4 ⟨rfl, hb⟩
  replace HM := HM.call hb
  clear hb
  refine ⟨_, rfl, ?_⟩; clear HF; intro a HF; replace HF := HF.sub [(0, .bool false), (1, .bool big), (3, .int .u32 (offset : Nat)), (6, .pointer (some ⟨z1, 0, none⟩)), (8, .bool false), (9, .pointer (some ⟨z4, 0, none⟩)), (42, .bool false), (43, .bool big), (48, .slice A2 (segB false big ty flags vaddr paddr memsz align n offset).length c2), (49, .tuple #[.agg #[.int .i64 (ty : Nat), .int .i64 (flags : Nat), .int .u64 (offset : Nat), .int .u64 (vaddr : Nat), .int .u64 (paddr : Nat), .int .u64 (n : Nat), .int .u64 (memsz : Nat), .int .u64 (align : Nat)], .bool true])] (by kernel_rfl)
  obtain ⟨z10, hz10⟩ : ∃ z, w4.heap.size = z := ⟨_, rfl⟩
  refine wp_sym HF HM hz10 6 [[3]] [(0, .bool false), (1, .bool big), (3, .int .u32 (offset : Nat)), (6, .pointer (some ⟨z1, 0, none⟩)), (8, .bool false), (9, .pointer (some ⟨z4, 0, none⟩)), (10, .pointer (some ⟨z10, 0, none⟩)), (11, .bool true)] [(z10, .cells #[.int .i64 (ty : Nat), .int .i64 (flags : Nat), .int .u64 (offset : Nat), .int .u64 (vaddr : Nat), .int .u64 (paddr : Nat), .int .u64 (n : Nat), .int .u64 (memsz : Nat), .int .u64 (align : Nat)] 56 (0, 0)), (z5, .cells #[.int .u64 (vaddr : Nat), .int .u64 (paddr : Nat), .int .u64 (memsz : Nat), .int .u64 (align : Nat)] 30 (0, 0)), (z4, .cells #[.bool false, .bool big, .int .u8 0, .int .u8 0, .int .i64 0, .int .i64 0, .int .u64 0, .slice none 0 0, .slice none 0 0] 46 (0, 0)), (z1, .cells #[.int .u32 (ty : Nat), .int .u32 (flags : Nat), .int .u64 (vaddr : Nat), .int .u64 (paddr : Nat), .int .u64 (memsz : Nat), .int .u64 (align : Nat), .slice A n c] 53 (0, 0))] (by kernel_rfl) ?_
  simp only [List.drop_succ_cons, List.drop_zero]; clear HF HM hz10; intro a w HF HM
  refine nil_then ?_
  refine wp_seq (wp_region_lit ?_)
  obtain ⟨z11, hz11⟩ : ∃ z, w.heap.size = z := ⟨_, rfl⟩
  refine wp_sym HF HM hz11 24 [[3], [0], [0], [0], [0], [0], [], [0], [0]] [(0, .bool false), (1, .bool big), (3, .int .u32 (offset : Nat)), (6, .pointer (some ⟨z1, 0, none⟩)), (8, .bool false), (9, .pointer (some ⟨z4, 0, none⟩)), (10, .pointer (some ⟨z10, 0, none⟩)), (11, .bool true), (53, .bool true), (54, .agg #[.int .i64 (ty : Nat), .int .i64 (flags : Nat), .int .u64 (offset : Nat), .int .u64 (vaddr : Nat), .int .u64 (paddr : Nat), .int .u64 (n : Nat), .int .u64 (memsz : Nat), .int .u64 (align : Nat)]), (75, .agg #[.int .i64 (IntKind.i64.wrap (ty : Nat)), .int .i64 (IntKind.i64.wrap (flags : Nat)), .int .u64 (IntKind.u64.wrap (offset : Nat)), .int .u64 (vaddr : Nat), .int .u64 (paddr : Nat), .int .u64 (IntKind.u64.wrap (n : Nat)), .int .u64 (memsz : Nat), .int .u64 (align : Nat)])] [(z10, .cells #[.int .i64 (ty : Nat), .int .i64 (flags : Nat), .int .u64 (offset : Nat), .int .u64 (vaddr : Nat), .int .u64 (paddr : Nat), .int .u64 (n : Nat), .int .u64 (memsz : Nat), .int .u64 (align : Nat)] 56 (0, 0)), (z5, .cells #[.int .u64 (vaddr : Nat), .int .u64 (paddr : Nat), .int .u64 (memsz : Nat), .int .u64 (align : Nat)] 30 (0, 0)), (z4, .cells #[.bool false, .bool big, .int .u8 0, .int .u8 0, .int .i64 0, .int .i64 0, .int .u64 0, .slice none 0 0, .slice none 0 0] 46 (0, 0)), (z1, .cells #[.int .u32 (ty : Nat), .int .u32 (flags : Nat), .int .u64 (vaddr : Nat), .int .u64 (paddr : Nat), .int .u64 (memsz : Nat), .int .u64 (align : Nat), .slice A n c] 53 (0, 0))] (by kernel_rfl) ?_
  simp only [List.drop_succ_cons, List.drop_zero]; clear HF HM hz11; intro a w HF HM
  rw [show IntKind.i64.wrap ((ty : Nat) : Int) = (ty : Nat) from IntWalk.i64_in _ (by omega)] at HF
  rw [show IntKind.i64.wrap ((flags : Nat) : Int) = (flags : Nat) from IntWalk.i64_in _ (by omega)] at HF
  rw [show IntKind.u64.wrap ((offset : Nat) : Int) = (offset : Nat) from IntWalk.u64_in _ (by omega)] at HF
  rw [show IntKind.u64.wrap ((n : Nat) : Int) = (n : Nat) from IntWalk.u64_in _ (by omega)] at HF
  refine wp_run HF (by kernel_rfl) (.bool true) (by kernel_rfl) (run_binop_eql (by rfl) (by rfl) (by rfl) (eqGuard_prog _ _ _ _ _) (eql_prog (ty : Nat) (flags : Nat) (offset : Nat) (vaddr : Nat) (paddr : Nat) (n : Nat) (memsz : Nat) (align : Nat) _)) ?_
  clear HF; intro a HF; replace HF := HF.sub [(0, .bool false), (1, .bool big), (3, .int .u32 (offset : Nat)), (6, .pointer (some ⟨z1, 0, none⟩)), (8, .bool false), (9, .pointer (some ⟨z4, 0, none⟩)), (10, .pointer (some ⟨z10, 0, none⟩)), (11, .bool true), (53, .bool true), (54, .agg #[.int .i64 (ty : Nat), .int .i64 (flags : Nat), .int .u64 (offset : Nat), .int .u64 (vaddr : Nat), .int .u64 (paddr : Nat), .int .u64 (n : Nat), .int .u64 (memsz : Nat), .int .u64 (align : Nat)]), (75, .agg #[.int .i64 (ty : Nat), .int .i64 (flags : Nat), .int .u64 (offset : Nat), .int .u64 (vaddr : Nat), .int .u64 (paddr : Nat), .int .u64 (n : Nat), .int .u64 (memsz : Nat), .int .u64 (align : Nat)]), (76, .bool true)] (by kernel_rfl)
  obtain ⟨z12, hz12⟩ : ∃ z, w.heap.size = z := ⟨_, rfl⟩
  refine wp_sym HF HM hz12 2 [] [(0, .bool false), (1, .bool big), (3, .int .u32 (offset : Nat)), (6, .pointer (some ⟨z1, 0, none⟩)), (9, .pointer (some ⟨z4, 0, none⟩)), (10, .pointer (some ⟨z10, 0, none⟩)), (11, .bool true), (8, .bool true)] [(z10, .cells #[.int .i64 (ty : Nat), .int .i64 (flags : Nat), .int .u64 (offset : Nat), .int .u64 (vaddr : Nat), .int .u64 (paddr : Nat), .int .u64 (n : Nat), .int .u64 (memsz : Nat), .int .u64 (align : Nat)] 56 (0, 0)), (z5, .cells #[.int .u64 (vaddr : Nat), .int .u64 (paddr : Nat), .int .u64 (memsz : Nat), .int .u64 (align : Nat)] 30 (0, 0)), (z4, .cells #[.bool false, .bool big, .int .u8 0, .int .u8 0, .int .i64 0, .int .i64 0, .int .u64 0, .slice none 0 0, .slice none 0 0] 46 (0, 0)), (z1, .cells #[.int .u32 (ty : Nat), .int .u32 (flags : Nat), .int .u64 (vaddr : Nat), .int .u64 (paddr : Nat), .int .u64 (memsz : Nat), .int .u64 (align : Nat), .slice A n c] 53 (0, 0))] (by kernel_rfl) ?_
  simp only [List.drop_succ_cons, List.drop_zero]; clear HF HM hz12; intro a w HF HM
  refine nil_then ?_
  refine wp_ret ?_
  exact ret_one HF rfl rfl ⟨rfl, HM.below⟩

set_option maxRecDepth 100000 in
set_option maxHeartbeats 1000000 in
theorem walkProg_true_big (big : Bool) (ty flags vaddr paddr memsz align : Nat) (A : Option Addr) (n c : Nat) (offset : Nat) (hty : ty < 4294967296) (hfl : flags < 4294967296) (hva : vaddr < 18446744073709551616) (hpa : paddr < 18446744073709551616) (hms : memsz < 18446744073709551616) (hal : align < 18446744073709551616) (hof : offset < 4294967296) (hc : 2147483647 < n) (w0 : World) :
    Calls Try.prog 12 #[.bool true, .bool big, .agg #[.int .u32 (ty : Nat), .int .u32 (flags : Nat), .int .u64 (vaddr : Nat), .int .u64 (paddr : Nat), .int .u64 (memsz : Nat), .int .u64 (align : Nat), .slice A n c], .int .u32 (offset : Nat)] w0 fun e w' => e = .returned (.bool true) ∧ Below w0.heap.size w0 w' := by
  obtain ⟨w, hw⟩ : ∃ w, w0 = w := ⟨_, rfl⟩
  have HM : Mm w0 w [] := hw ▸ Mm.start w0
  conv => arg 4; rw [hw]
  clear hw
  refine calls_start Try.func12 rfl Try.ntmps12 [(0, .bool true), (1, .bool big), (2, .agg #[.int .u32 (ty : Nat), .int .u32 (flags : Nat), .int .u64 (vaddr : Nat), .int .u64 (paddr : Nat), .int .u64 (memsz : Nat), .int .u64 (align : Nat), .slice A n c]), (3, .int .u32 (offset : Nat))] (by kernel_rfl) (Nat.le_of_ble_eq_true rfl) ?_
  intro a HF
  obtain ⟨z1, hz1⟩ : ∃ z, w.heap.size = z := ⟨_, rfl⟩
  refine reg_sym HF HM hz1 [] [(0, .bool true), (1, .bool big), (3, .int .u32 (offset : Nat)), (6, .pointer (some ⟨z1, 0, none⟩)), (8, .bool false)] [(z1, .cells #[.int .u32 (ty : Nat), .int .u32 (flags : Nat), .int .u64 (vaddr : Nat), .int .u64 (paddr : Nat), .int .u64 (memsz : Nat), .int .u64 (align : Nat), .slice A n c] 53 (0, 0))] (by kernel_rfl) ?_
  clear HF HM hz1; intro a w HF HM
  refine wp_seq ?_
  refine wp_seq (wp_region_lit ?_)
  obtain ⟨z2, hz2⟩ : ∃ z, w.heap.size = z := ⟨_, rfl⟩
  refine wp_sym HF HM hz2 1 [[0]] [(0, .bool true), (1, .bool big), (3, .int .u32 (offset : Nat)), (6, .pointer (some ⟨z1, 0, none⟩)), (8, .bool false), (12, .agg #[.int .u32 (ty : Nat), .int .u32 (flags : Nat), .int .u64 (vaddr : Nat), .int .u64 (paddr : Nat), .int .u64 (memsz : Nat), .int .u64 (align : Nat), .slice A n c])] [(z1, .cells #[.int .u32 (ty : Nat), .int .u32 (flags : Nat), .int .u64 (vaddr : Nat), .int .u64 (paddr : Nat), .int .u64 (memsz : Nat), .int .u64 (align : Nat), .slice A n c] 53 (0, 0))] (by kernel_rfl) ?_
  simp only [List.drop_succ_cons, List.drop_zero]; clear HF HM hz2; intro a w HF HM
  refine wp_call HF (by kernel_rfl) 30 #[.agg #[.int .u32 (ty : Nat), .int .u32 (flags : Nat), .int .u64 (vaddr : Nat), .int .u64 (paddr : Nat), .int .u64 (memsz : Nat), .int .u64 (align : Nat), .slice A n c]] (by kernel_rfl) (fun w => by kernel_rfl) (Calls.mono (zzFits3_out ty flags vaddr paddr memsz align A n c hc w) ?_)
  rintro _ w1 ⟨rfl, hb⟩
  replace HM := HM.call hb
  clear hb
  refine ⟨_, rfl, ?_⟩; clear HF; intro a HF; replace HF := HF.sub [(0, .bool true), (1, .bool big), (3, .int .u32 (offset : Nat)), (6, .pointer (some ⟨z1, 0, none⟩)), (8, .bool false), (12, .agg #[.int .u32 (ty : Nat), .int .u32 (flags : Nat), .int .u64 (vaddr : Nat), .int .u64 (paddr : Nat), .int .u64 (memsz : Nat), .int .u64 (align : Nat), .slice A n c]), (13, .bool false)] (by kernel_rfl)
  obtain ⟨z3, hz3⟩ : ∃ z, w1.heap.size = z := ⟨_, rfl⟩
  refine wp_sym HF HM hz3 1 [] [(0, .bool true), (1, .bool big), (3, .int .u32 (offset : Nat)), (6, .pointer (some ⟨z1, 0, none⟩)), (8, .bool false), (14, .bool true)] [(z1, .cells #[.int .u32 (ty : Nat), .int .u32 (flags : Nat), .int .u64 (vaddr : Nat), .int .u64 (paddr : Nat), .int .u64 (memsz : Nat), .int .u64 (align : Nat), .slice A n c] 53 (0, 0))] (by kernel_rfl) ?_
  simp only [List.drop_succ_cons, List.drop_zero]; clear HF HM hz3; intro a w HF HM
  refine nil_then ?_
  refine wp_condT HF rfl ?_
  obtain ⟨z4, hz4⟩ : ∃ z, w.heap.size = z := ⟨_, rfl⟩
  refine reg_sym HF HM hz4 [] [(0, .bool true), (1, .bool big), (3, .int .u32 (offset : Nat)), (6, .pointer (some ⟨z1, 0, none⟩)), (14, .bool true), (8, .bool true)] [(z1, .cells #[.int .u32 (ty : Nat), .int .u32 (flags : Nat), .int .u64 (vaddr : Nat), .int .u64 (paddr : Nat), .int .u64 (memsz : Nat), .int .u64 (align : Nat), .slice A n c] 53 (0, 0))] (by kernel_rfl) ?_
  clear HF HM hz4; intro a w HF HM
  refine wp_ret ?_
  repeat (first | refine then_ret ?_ | refine inb_ret ?_)
  exact ret_one HF rfl rfl ⟨rfl, HM.below⟩

set_option maxRecDepth 100000 in
set_option maxHeartbeats 1000000 in
theorem walkProg_true_long (big : Bool) (ty flags vaddr paddr memsz align : Nat) (A : Option Addr) (n c : Nat) (offset : Nat) (hty : ty < 4294967296) (hfl : flags < 4294967296) (hva : vaddr < 18446744073709551616) (hpa : paddr < 18446744073709551616) (hms : memsz < 18446744073709551616) (hal : align < 18446744073709551616) (hof : offset < 4294967296) (hc : n ≤ 2147483647) (hfb : fitsB true [vaddr, paddr, memsz, align] = true) (hlong : 65536 < n) (w0 : World) :
    Calls Try.prog 12 #[.bool true, .bool big, .agg #[.int .u32 (ty : Nat), .int .u32 (flags : Nat), .int .u64 (vaddr : Nat), .int .u64 (paddr : Nat), .int .u64 (memsz : Nat), .int .u64 (align : Nat), .slice A n c], .int .u32 (offset : Nat)] w0 fun e w' => e = .returned (.bool true) ∧ Below w0.heap.size w0 w' := by
  obtain ⟨w, hw⟩ : ∃ w, w0 = w := ⟨_, rfl⟩
  have HM : Mm w0 w [] := hw ▸ Mm.start w0
  conv => arg 4; rw [hw]
  clear hw
  refine calls_start Try.func12 rfl Try.ntmps12 [(0, .bool true), (1, .bool big), (2, .agg #[.int .u32 (ty : Nat), .int .u32 (flags : Nat), .int .u64 (vaddr : Nat), .int .u64 (paddr : Nat), .int .u64 (memsz : Nat), .int .u64 (align : Nat), .slice A n c]), (3, .int .u32 (offset : Nat))] (by kernel_rfl) (Nat.le_of_ble_eq_true rfl) ?_
  intro a HF
  obtain ⟨z1, hz1⟩ : ∃ z, w.heap.size = z := ⟨_, rfl⟩
  refine reg_sym HF HM hz1 [] [(0, .bool true), (1, .bool big), (3, .int .u32 (offset : Nat)), (6, .pointer (some ⟨z1, 0, none⟩)), (8, .bool false)] [(z1, .cells #[.int .u32 (ty : Nat), .int .u32 (flags : Nat), .int .u64 (vaddr : Nat), .int .u64 (paddr : Nat), .int .u64 (memsz : Nat), .int .u64 (align : Nat), .slice A n c] 53 (0, 0))] (by kernel_rfl) ?_
  clear HF HM hz1; intro a w HF HM
  refine wp_seq ?_
  refine wp_seq (wp_region_lit ?_)
  obtain ⟨z2, hz2⟩ : ∃ z, w.heap.size = z := ⟨_, rfl⟩
  refine wp_sym HF HM hz2 1 [[0]] [(0, .bool true), (1, .bool big), (3, .int .u32 (offset : Nat)), (6, .pointer (some ⟨z1, 0, none⟩)), (8, .bool false), (12, .agg #[.int .u32 (ty : Nat), .int .u32 (flags : Nat), .int .u64 (vaddr : Nat), .int .u64 (paddr : Nat), .int .u64 (memsz : Nat), .int .u64 (align : Nat), .slice A n c])] [(z1, .cells #[.int .u32 (ty : Nat), .int .u32 (flags : Nat), .int .u64 (vaddr : Nat), .int .u64 (paddr : Nat), .int .u64 (memsz : Nat), .int .u64 (align : Nat), .slice A n c] 53 (0, 0))] (by kernel_rfl) ?_
  simp only [List.drop_succ_cons, List.drop_zero]; clear HF HM hz2; intro a w HF HM
  refine wp_call HF (by kernel_rfl) 30 #[.agg #[.int .u32 (ty : Nat), .int .u32 (flags : Nat), .int .u64 (vaddr : Nat), .int .u64 (paddr : Nat), .int .u64 (memsz : Nat), .int .u64 (align : Nat), .slice A n c]] (by kernel_rfl) (fun w => by kernel_rfl) (Calls.mono (zzFits3_in ty flags vaddr paddr memsz align A n c hc w) ?_)
  rintro _ w1 ⟨rfl, hb⟩
  replace HM := HM.call hb
  clear hb
  refine ⟨_, rfl, ?_⟩; clear HF; intro a HF; replace HF := HF.sub [(0, .bool true), (1, .bool big), (3, .int .u32 (offset : Nat)), (6, .pointer (some ⟨z1, 0, none⟩)), (8, .bool false), (12, .agg #[.int .u32 (ty : Nat), .int .u32 (flags : Nat), .int .u64 (vaddr : Nat), .int .u64 (paddr : Nat), .int .u64 (memsz : Nat), .int .u64 (align : Nat), .slice A n c]), (13, .bool true)] (by kernel_rfl)
  obtain ⟨z3, hz3⟩ : ∃ z, w1.heap.size = z := ⟨_, rfl⟩
  refine wp_sym HF HM hz3 1 [] [(0, .bool true), (1, .bool big), (3, .int .u32 (offset : Nat)), (6, .pointer (some ⟨z1, 0, none⟩)), (8, .bool false), (14, .bool false)] [(z1, .cells #[.int .u32 (ty : Nat), .int .u32 (flags : Nat), .int .u64 (vaddr : Nat), .int .u64 (paddr : Nat), .int .u64 (memsz : Nat), .int .u64 (align : Nat), .slice A n c] 53 (0, 0))] (by kernel_rfl) ?_
  simp only [List.drop_succ_cons, List.drop_zero]; clear HF HM hz3; intro a w HF HM
  refine nil_then ?_
  refine wp_condF HF rfl ?_
  refine wp_skip ?_
  repeat (first | refine then_norm ?_ | refine inb_norm ?_)
  replace HF := HF.sub [(0, .bool true), (1, .bool big), (3, .int .u32 (offset : Nat)), (6, .pointer (some ⟨z1, 0, none⟩)), (8, .bool false)] (by kernel_rfl)
  obtain ⟨z4, hz4⟩ : ∃ z, w.heap.size = z := ⟨_, rfl⟩
  refine reg_sym HF HM hz4 [[1]] [(0, .bool true), (1, .bool big), (3, .int .u32 (offset : Nat)), (6, .pointer (some ⟨z1, 0, none⟩)), (8, .bool false), (9, .pointer (some ⟨z4, 0, none⟩))] [(z4, .cells #[.bool true, .bool big, .int .u8 0, .int .u8 0, .int .i64 0, .int .i64 0, .int .u64 0, .slice none 0 0, .slice none 0 0] 46 (0, 0)), (z1, .cells #[.int .u32 (ty : Nat), .int .u32 (flags : Nat), .int .u64 (vaddr : Nat), .int .u64 (paddr : Nat), .int .u64 (memsz : Nat), .int .u64 (align : Nat), .slice A n c] 53 (0, 0))] (by kernel_rfl) ?_
  clear HF HM hz4; intro a w HF HM
  refine wp_seq ?_
  refine wp_seq (wp_region_lit ?_)
  obtain ⟨z5, hz5⟩ : ∃ z, w.heap.size = z := ⟨_, rfl⟩
  refine wp_sym HF HM hz5 10 [[1], [0], [0], [0], [0]] [(0, .bool true), (1, .bool big), (3, .int .u32 (offset : Nat)), (6, .pointer (some ⟨z1, 0, none⟩)), (8, .bool false), (9, .pointer (some ⟨z4, 0, none⟩)), (18, .agg #[.bool true, .bool big, .int .u8 0, .int .u8 0, .int .i64 0, .int .i64 0, .int .u64 0, .slice none 0 0, .slice none 0 0]), (27, .slice (some ⟨z5, 0, none⟩) 4 4)] [(z5, .cells #[.int .u64 (vaddr : Nat), .int .u64 (paddr : Nat), .int .u64 (memsz : Nat), .int .u64 (align : Nat)] 30 (0, 0)), (z4, .cells #[.bool true, .bool big, .int .u8 0, .int .u8 0, .int .i64 0, .int .i64 0, .int .u64 0, .slice none 0 0, .slice none 0 0] 46 (0, 0)), (z1, .cells #[.int .u32 (ty : Nat), .int .u32 (flags : Nat), .int .u64 (vaddr : Nat), .int .u64 (paddr : Nat), .int .u64 (memsz : Nat), .int .u64 (align : Nat), .slice A n c] 53 (0, 0))] (by kernel_rfl) ?_
  simp only [List.drop_succ_cons, List.drop_zero]; clear HF HM hz5; intro a w HF HM
  have hrf : Row w (some ⟨z5, 0, none⟩) ([vaddr, paddr, memsz, align].map fun (k : Nat) => Value.int .u64 (k : Int)) := HM.rowAt (i := 0) rfl
  refine wp_call HF (by kernel_rfl) 26 #[.agg #[.bool true, .bool big, .int .u8 0, .int .u8 0, .int .i64 0, .int .i64 0, .int .u64 0, .slice none 0 0, .slice none 0 0], .slice (some ⟨z5, 0, none⟩) 4 4] (by kernel_rfl) (fun w => by kernel_rfl) (Calls.mono ((by have h := fits_any true (.bool big) (.int .u8 0) (.int .u8 0) (.int .i64 0) (.int .i64 0) (.int .u64 0) (.slice none 0 0) (.slice none 0 0) [vaddr, paddr, memsz, align] (some ⟨z5, 0, none⟩) 4 4 rfl (by decide) w hrf; rw [hfb] at h; exact h)) ?_)
  rintro _ w2 ⟨rfl, hb⟩
  replace HM := HM.call hb
  clear hb
  refine ⟨_, rfl, ?_⟩; clear HF; intro a HF; replace HF := HF.sub [(0, .bool true), (1, .bool big), (3, .int .u32 (offset : Nat)), (6, .pointer (some ⟨z1, 0, none⟩)), (8, .bool false), (9, .pointer (some ⟨z4, 0, none⟩)), (18, .agg #[.bool true, .bool big, .int .u8 0, .int .u8 0, .int .i64 0, .int .i64 0, .int .u64 0, .slice none 0 0, .slice none 0 0]), (27, .slice (some ⟨z5, 0, none⟩) 4 4), (28, .bool true)] (by kernel_rfl)
  replace HF := HF.sub [(0, .bool true), (1, .bool big), (3, .int .u32 (offset : Nat)), (6, .pointer (some ⟨z1, 0, none⟩)), (8, .bool false), (9, .pointer (some ⟨z4, 0, none⟩)), (28, .bool true)] (by kernel_rfl)
  obtain ⟨z6, hz6⟩ : ∃ z, w2.heap.size = z := ⟨_, rfl⟩
  refine wp_sym HF HM hz6 6 [[0]] [(0, .bool true), (1, .bool big), (3, .int .u32 (offset : Nat)), (6, .pointer (some ⟨z1, 0, none⟩)), (8, .bool false), (9, .pointer (some ⟨z4, 0, none⟩)), (30, .bool false), (34, .bool (decide ((65536 : Int) < (n : Int))))] [(z5, .cells #[.int .u64 (vaddr : Nat), .int .u64 (paddr : Nat), .int .u64 (memsz : Nat), .int .u64 (align : Nat)] 30 (0, 0)), (z4, .cells #[.bool true, .bool big, .int .u8 0, .int .u8 0, .int .i64 0, .int .i64 0, .int .u64 0, .slice none 0 0, .slice none 0 0] 46 (0, 0)), (z1, .cells #[.int .u32 (ty : Nat), .int .u32 (flags : Nat), .int .u64 (vaddr : Nat), .int .u64 (paddr : Nat), .int .u64 (memsz : Nat), .int .u64 (align : Nat), .slice A n c] 53 (0, 0))] (by kernel_rfl) ?_
  simp only [List.drop_succ_cons, List.drop_zero]; clear HF HM hz6; intro a w HF HM
  rw [show decide ((65536 : Int) < (n : Int)) = true from dec_t (by omega)] at HF
  obtain ⟨z7, hz7⟩ : ∃ z, w.heap.size = z := ⟨_, rfl⟩
  refine wp_sym HF HM hz7 6 [] [(0, .bool true), (1, .bool big), (3, .int .u32 (offset : Nat)), (6, .pointer (some ⟨z1, 0, none⟩)), (8, .bool false), (9, .pointer (some ⟨z4, 0, none⟩)), (40, .bool true)] [(z5, .cells #[.int .u64 (vaddr : Nat), .int .u64 (paddr : Nat), .int .u64 (memsz : Nat), .int .u64 (align : Nat)] 30 (0, 0)), (z4, .cells #[.bool true, .bool big, .int .u8 0, .int .u8 0, .int .i64 0, .int .i64 0, .int .u64 0, .slice none 0 0, .slice none 0 0] 46 (0, 0)), (z1, .cells #[.int .u32 (ty : Nat), .int .u32 (flags : Nat), .int .u64 (vaddr : Nat), .int .u64 (paddr : Nat), .int .u64 (memsz : Nat), .int .u64 (align : Nat), .slice A n c] 53 (0, 0))] (by kernel_rfl) ?_
  simp only [List.drop_succ_cons, List.drop_zero]; clear HF HM hz7; intro a w HF HM
  refine nil_then ?_
  refine wp_condT HF rfl ?_
  obtain ⟨z8, hz8⟩ : ∃ z, w.heap.size = z := ⟨_, rfl⟩
  refine reg_sym HF HM hz8 [] [(0, .bool true), (1, .bool big), (3, .int .u32 (offset : Nat)), (6, .pointer (some ⟨z1, 0, none⟩)), (9, .pointer (some ⟨z4, 0, none⟩)), (40, .bool true), (8, .bool true)] [(z5, .cells #[.int .u64 (vaddr : Nat), .int .u64 (paddr : Nat), .int .u64 (memsz : Nat), .int .u64 (align : Nat)] 30 (0, 0)), (z4, .cells #[.bool true, .bool big, .int .u8 0, .int .u8 0, .int .i64 0, .int .i64 0, .int .u64 0, .slice none 0 0, .slice none 0 0] 46 (0, 0)), (z1, .cells #[.int .u32 (ty : Nat), .int .u32 (flags : Nat), .int .u64 (vaddr : Nat), .int .u64 (paddr : Nat), .int .u64 (memsz : Nat), .int .u64 (align : Nat), .slice A n c] 53 (0, 0))] (by kernel_rfl) ?_
  clear HF HM hz8; intro a w HF HM
  refine wp_ret ?_
  repeat (first | refine then_ret ?_ | refine inb_ret ?_)
  exact ret_one HF rfl rfl ⟨rfl, HM.below⟩

set_option maxRecDepth 100000 in
set_option maxHeartbeats 1000000 in
theorem walkProg_true_kind (big : Bool) (ty flags vaddr paddr memsz align : Nat) (A : Option Addr) (n c : Nat) (offset : Nat) (hty : ty < 4294967296) (hfl : flags < 4294967296) (hva : vaddr < 18446744073709551616) (hpa : paddr < 18446744073709551616) (hms : memsz < 18446744073709551616) (hal : align < 18446744073709551616) (hof : offset < 4294967296) (hc : n ≤ 2147483647) (hfb : fitsB true [vaddr, paddr, memsz, align] = true) (hshort : n ≤ 65536) (hkind : 2147483648 ≤ ty) (w0 : World) :
    Calls Try.prog 12 #[.bool true, .bool big, .agg #[.int .u32 (ty : Nat), .int .u32 (flags : Nat), .int .u64 (vaddr : Nat), .int .u64 (paddr : Nat), .int .u64 (memsz : Nat), .int .u64 (align : Nat), .slice A n c], .int .u32 (offset : Nat)] w0 fun e w' => e = .returned (.bool true) ∧ Below w0.heap.size w0 w' := by
  obtain ⟨w, hw⟩ : ∃ w, w0 = w := ⟨_, rfl⟩
  have HM : Mm w0 w [] := hw ▸ Mm.start w0
  conv => arg 4; rw [hw]
  clear hw
  refine calls_start Try.func12 rfl Try.ntmps12 [(0, .bool true), (1, .bool big), (2, .agg #[.int .u32 (ty : Nat), .int .u32 (flags : Nat), .int .u64 (vaddr : Nat), .int .u64 (paddr : Nat), .int .u64 (memsz : Nat), .int .u64 (align : Nat), .slice A n c]), (3, .int .u32 (offset : Nat))] (by kernel_rfl) (Nat.le_of_ble_eq_true rfl) ?_
  intro a HF
  obtain ⟨z1, hz1⟩ : ∃ z, w.heap.size = z := ⟨_, rfl⟩
  refine reg_sym HF HM hz1 [] [(0, .bool true), (1, .bool big), (3, .int .u32 (offset : Nat)), (6, .pointer (some ⟨z1, 0, none⟩)), (8, .bool false)] [(z1, .cells #[.int .u32 (ty : Nat), .int .u32 (flags : Nat), .int .u64 (vaddr : Nat), .int .u64 (paddr : Nat), .int .u64 (memsz : Nat), .int .u64 (align : Nat), .slice A n c] 53 (0, 0))] (by kernel_rfl) ?_
  clear HF HM hz1; intro a w HF HM
  refine wp_seq ?_
  refine wp_seq (wp_region_lit ?_)
  obtain ⟨z2, hz2⟩ : ∃ z, w.heap.size = z := ⟨_, rfl⟩
  refine wp_sym HF HM hz2 1 [[0]] [(0, .bool true), (1, .bool big), (3, .int .u32 (offset : Nat)), (6, .pointer (some ⟨z1, 0, none⟩)), (8, .bool false), (12, .agg #[.int .u32 (ty : Nat), .int .u32 (flags : Nat), .int .u64 (vaddr : Nat), .int .u64 (paddr : Nat), .int .u64 (memsz : Nat), .int .u64 (align : Nat), .slice A n c])] [(z1, .cells #[.int .u32 (ty : Nat), .int .u32 (flags : Nat), .int .u64 (vaddr : Nat), .int .u64 (paddr : Nat), .int .u64 (memsz : Nat), .int .u64 (align : Nat), .slice A n c] 53 (0, 0))] (by kernel_rfl) ?_
  simp only [List.drop_succ_cons, List.drop_zero]; clear HF HM hz2; intro a w HF HM
  refine wp_call HF (by kernel_rfl) 30 #[.agg #[.int .u32 (ty : Nat), .int .u32 (flags : Nat), .int .u64 (vaddr : Nat), .int .u64 (paddr : Nat), .int .u64 (memsz : Nat), .int .u64 (align : Nat), .slice A n c]] (by kernel_rfl) (fun w => by kernel_rfl) (Calls.mono (zzFits3_in ty flags vaddr paddr memsz align A n c hc w) ?_)
  rintro _ w1 ⟨rfl, hb⟩
  replace HM := HM.call hb
  clear hb
  refine ⟨_, rfl, ?_⟩; clear HF; intro a HF; replace HF := HF.sub [(0, .bool true), (1, .bool big), (3, .int .u32 (offset : Nat)), (6, .pointer (some ⟨z1, 0, none⟩)), (8, .bool false), (12, .agg #[.int .u32 (ty : Nat), .int .u32 (flags : Nat), .int .u64 (vaddr : Nat), .int .u64 (paddr : Nat), .int .u64 (memsz : Nat), .int .u64 (align : Nat), .slice A n c]), (13, .bool true)] (by kernel_rfl)
  obtain ⟨z3, hz3⟩ : ∃ z, w1.heap.size = z := ⟨_, rfl⟩
  refine wp_sym HF HM hz3 1 [] [(0, .bool true), (1, .bool big), (3, .int .u32 (offset : Nat)), (6, .pointer (some ⟨z1, 0, none⟩)), (8, .bool false), (14, .bool false)] [(z1, .cells #[.int .u32 (ty : Nat), .int .u32 (flags : Nat), .int .u64 (vaddr : Nat), .int .u64 (paddr : Nat), .int .u64 (memsz : Nat), .int .u64 (align : Nat), .slice A n c] 53 (0, 0))] (by kernel_rfl) ?_
  simp only [List.drop_succ_cons, List.drop_zero]; clear HF HM hz3; intro a w HF HM
  refine nil_then ?_
  refine wp_condF HF rfl ?_
  refine wp_skip ?_
  repeat (first | refine then_norm ?_ | refine inb_norm ?_)
  replace HF := HF.sub [(0, .bool true), (1, .bool big), (3, .int .u32 (offset : Nat)), (6, .pointer (some ⟨z1, 0, none⟩)), (8, .bool false)] (by kernel_rfl)
  obtain ⟨z4, hz4⟩ : ∃ z, w.heap.size = z := ⟨_, rfl⟩
  refine reg_sym HF HM hz4 [[1]] [(0, .bool true), (1, .bool big), (3, .int .u32 (offset : Nat)), (6, .pointer (some ⟨z1, 0, none⟩)), (8, .bool false), (9, .pointer (some ⟨z4, 0, none⟩))] [(z4, .cells #[.bool true, .bool big, .int .u8 0, .int .u8 0, .int .i64 0, .int .i64 0, .int .u64 0, .slice none 0 0, .slice none 0 0] 46 (0, 0)), (z1, .cells #[.int .u32 (ty : Nat), .int .u32 (flags : Nat), .int .u64 (vaddr : Nat), .int .u64 (paddr : Nat), .int .u64 (memsz : Nat), .int .u64 (align : Nat), .slice A n c] 53 (0, 0))] (by kernel_rfl) ?_
  clear HF HM hz4; intro a w HF HM
  refine wp_seq ?_
  refine wp_seq (wp_region_lit ?_)
  obtain ⟨z5, hz5⟩ : ∃ z, w.heap.size = z := ⟨_, rfl⟩
  refine wp_sym HF HM hz5 10 [[1], [0], [0], [0], [0]] [(0, .bool true), (1, .bool big), (3, .int .u32 (offset : Nat)), (6, .pointer (some ⟨z1, 0, none⟩)), (8, .bool false), (9, .pointer (some ⟨z4, 0, none⟩)), (18, .agg #[.bool true, .bool big, .int .u8 0, .int .u8 0, .int .i64 0, .int .i64 0, .int .u64 0, .slice none 0 0, .slice none 0 0]), (27, .slice (some ⟨z5, 0, none⟩) 4 4)] [(z5, .cells #[.int .u64 (vaddr : Nat), .int .u64 (paddr : Nat), .int .u64 (memsz : Nat), .int .u64 (align : Nat)] 30 (0, 0)), (z4, .cells #[.bool true, .bool big, .int .u8 0, .int .u8 0, .int .i64 0, .int .i64 0, .int .u64 0, .slice none 0 0, .slice none 0 0] 46 (0, 0)), (z1, .cells #[.int .u32 (ty : Nat), .int .u32 (flags : Nat), .int .u64 (vaddr : Nat), .int .u64 (paddr : Nat), .int .u64 (memsz : Nat), .int .u64 (align : Nat), .slice A n c] 53 (0, 0))] (by kernel_rfl) ?_
  simp only [List.drop_succ_cons, List.drop_zero]; clear HF HM hz5; intro a w HF HM
  have hrf : Row w (some ⟨z5, 0, none⟩) ([vaddr, paddr, memsz, align].map fun (k : Nat) => Value.int .u64 (k : Int)) := HM.rowAt (i := 0) rfl
  refine wp_call HF (by kernel_rfl) 26 #[.agg #[.bool true, .bool big, .int .u8 0, .int .u8 0, .int .i64 0, .int .i64 0, .int .u64 0, .slice none 0 0, .slice none 0 0], .slice (some ⟨z5, 0, none⟩) 4 4] (by kernel_rfl) (fun w => by kernel_rfl) (Calls.mono ((by have h := fits_any true (.bool big) (.int .u8 0) (.int .u8 0) (.int .i64 0) (.int .i64 0) (.int .u64 0) (.slice none 0 0) (.slice none 0 0) [vaddr, paddr, memsz, align] (some ⟨z5, 0, none⟩) 4 4 rfl (by decide) w hrf; rw [hfb] at h; exact h)) ?_)
  rintro _ w2 ⟨rfl, hb⟩
  replace HM := HM.call hb
  clear hb
  refine ⟨_, rfl, ?_⟩; clear HF; intro a HF; replace HF := HF.sub [(0, .bool true), (1, .bool big), (3, .int .u32 (offset : Nat)), (6, .pointer (some ⟨z1, 0, none⟩)), (8, .bool false), (9, .pointer (some ⟨z4, 0, none⟩)), (18, .agg #[.bool true, .bool big, .int .u8 0, .int .u8 0, .int .i64 0, .int .i64 0, .int .u64 0, .slice none 0 0, .slice none 0 0]), (27, .slice (some ⟨z5, 0, none⟩) 4 4), (28, .bool true)] (by kernel_rfl)
  replace HF := HF.sub [(0, .bool true), (1, .bool big), (3, .int .u32 (offset : Nat)), (6, .pointer (some ⟨z1, 0, none⟩)), (8, .bool false), (9, .pointer (some ⟨z4, 0, none⟩)), (28, .bool true)] (by kernel_rfl)
  obtain ⟨z6, hz6⟩ : ∃ z, w2.heap.size = z := ⟨_, rfl⟩
  refine wp_sym HF HM hz6 6 [[0]] [(0, .bool true), (1, .bool big), (3, .int .u32 (offset : Nat)), (6, .pointer (some ⟨z1, 0, none⟩)), (8, .bool false), (9, .pointer (some ⟨z4, 0, none⟩)), (30, .bool false), (34, .bool (decide ((65536 : Int) < (n : Int))))] [(z5, .cells #[.int .u64 (vaddr : Nat), .int .u64 (paddr : Nat), .int .u64 (memsz : Nat), .int .u64 (align : Nat)] 30 (0, 0)), (z4, .cells #[.bool true, .bool big, .int .u8 0, .int .u8 0, .int .i64 0, .int .i64 0, .int .u64 0, .slice none 0 0, .slice none 0 0] 46 (0, 0)), (z1, .cells #[.int .u32 (ty : Nat), .int .u32 (flags : Nat), .int .u64 (vaddr : Nat), .int .u64 (paddr : Nat), .int .u64 (memsz : Nat), .int .u64 (align : Nat), .slice A n c] 53 (0, 0))] (by kernel_rfl) ?_
  simp only [List.drop_succ_cons, List.drop_zero]; clear HF HM hz6; intro a w HF HM
  rw [show decide ((65536 : Int) < (n : Int)) = false from dec_f (by omega)] at HF
  obtain ⟨z7, hz7⟩ : ∃ z, w.heap.size = z := ⟨_, rfl⟩
  refine wp_sym HF HM hz7 5 [[0]] [(0, .bool true), (1, .bool big), (3, .int .u32 (offset : Nat)), (6, .pointer (some ⟨z1, 0, none⟩)), (8, .bool false), (9, .pointer (some ⟨z4, 0, none⟩)), (36, .bool false), (39, .bool (decide ((2147483648 : Int) ≤ ((ty : Nat) : Int))))] [(z5, .cells #[.int .u64 (vaddr : Nat), .int .u64 (paddr : Nat), .int .u64 (memsz : Nat), .int .u64 (align : Nat)] 30 (0, 0)), (z4, .cells #[.bool true, .bool big, .int .u8 0, .int .u8 0, .int .i64 0, .int .i64 0, .int .u64 0, .slice none 0 0, .slice none 0 0] 46 (0, 0)), (z1, .cells #[.int .u32 (ty : Nat), .int .u32 (flags : Nat), .int .u64 (vaddr : Nat), .int .u64 (paddr : Nat), .int .u64 (memsz : Nat), .int .u64 (align : Nat), .slice A n c] 53 (0, 0))] (by kernel_rfl) ?_
  simp only [List.drop_succ_cons, List.drop_zero]; clear HF HM hz7; intro a w HF HM
  rw [show decide ((2147483648 : Int) ≤ ((ty : Nat) : Int)) = true from dec_t (by omega)] at HF
  obtain ⟨z8, hz8⟩ : ∃ z, w.heap.size = z := ⟨_, rfl⟩
  refine wp_sym HF HM hz8 1 [] [(0, .bool true), (1, .bool big), (3, .int .u32 (offset : Nat)), (6, .pointer (some ⟨z1, 0, none⟩)), (8, .bool false), (9, .pointer (some ⟨z4, 0, none⟩)), (40, .bool true)] [(z5, .cells #[.int .u64 (vaddr : Nat), .int .u64 (paddr : Nat), .int .u64 (memsz : Nat), .int .u64 (align : Nat)] 30 (0, 0)), (z4, .cells #[.bool true, .bool big, .int .u8 0, .int .u8 0, .int .i64 0, .int .i64 0, .int .u64 0, .slice none 0 0, .slice none 0 0] 46 (0, 0)), (z1, .cells #[.int .u32 (ty : Nat), .int .u32 (flags : Nat), .int .u64 (vaddr : Nat), .int .u64 (paddr : Nat), .int .u64 (memsz : Nat), .int .u64 (align : Nat), .slice A n c] 53 (0, 0))] (by kernel_rfl) ?_
  simp only [List.drop_succ_cons, List.drop_zero]; clear HF HM hz8; intro a w HF HM
  refine nil_then ?_
  refine wp_condT HF rfl ?_
  obtain ⟨z9, hz9⟩ : ∃ z, w.heap.size = z := ⟨_, rfl⟩
  refine reg_sym HF HM hz9 [] [(0, .bool true), (1, .bool big), (3, .int .u32 (offset : Nat)), (6, .pointer (some ⟨z1, 0, none⟩)), (9, .pointer (some ⟨z4, 0, none⟩)), (40, .bool true), (8, .bool true)] [(z5, .cells #[.int .u64 (vaddr : Nat), .int .u64 (paddr : Nat), .int .u64 (memsz : Nat), .int .u64 (align : Nat)] 30 (0, 0)), (z4, .cells #[.bool true, .bool big, .int .u8 0, .int .u8 0, .int .i64 0, .int .i64 0, .int .u64 0, .slice none 0 0, .slice none 0 0] 46 (0, 0)), (z1, .cells #[.int .u32 (ty : Nat), .int .u32 (flags : Nat), .int .u64 (vaddr : Nat), .int .u64 (paddr : Nat), .int .u64 (memsz : Nat), .int .u64 (align : Nat), .slice A n c] 53 (0, 0))] (by kernel_rfl) ?_
  clear HF HM hz9; intro a w HF HM
  refine wp_ret ?_
  repeat (first | refine then_ret ?_ | refine inb_ret ?_)
  exact ret_one HF rfl rfl ⟨rfl, HM.below⟩

set_option maxRecDepth 100000 in
set_option maxHeartbeats 1000000 in
theorem walkProg_true_ok (big : Bool) (ty flags vaddr paddr memsz align : Nat) (A : Option Addr) (n c : Nat) (offset : Nat) (hty : ty < 4294967296) (hfl : flags < 4294967296) (hva : vaddr < 18446744073709551616) (hpa : paddr < 18446744073709551616) (hms : memsz < 18446744073709551616) (hal : align < 18446744073709551616) (hof : offset < 4294967296) (hc : n ≤ 2147483647) (hfb : fitsB true [vaddr, paddr, memsz, align] = true) (hshort : n ≤ 65536) (hkind : ty < 2147483648) (w0 : World) :
    Calls Try.prog 12 #[.bool true, .bool big, .agg #[.int .u32 (ty : Nat), .int .u32 (flags : Nat), .int .u64 (vaddr : Nat), .int .u64 (paddr : Nat), .int .u64 (memsz : Nat), .int .u64 (align : Nat), .slice A n c], .int .u32 (offset : Nat)] w0 fun e w' => e = .returned (.bool true) ∧ Below w0.heap.size w0 w' := by
  obtain ⟨w, hw⟩ : ∃ w, w0 = w := ⟨_, rfl⟩
  have HM : Mm w0 w [] := hw ▸ Mm.start w0
  conv => arg 4; rw [hw]
  clear hw
  refine calls_start Try.func12 rfl Try.ntmps12 [(0, .bool true), (1, .bool big), (2, .agg #[.int .u32 (ty : Nat), .int .u32 (flags : Nat), .int .u64 (vaddr : Nat), .int .u64 (paddr : Nat), .int .u64 (memsz : Nat), .int .u64 (align : Nat), .slice A n c]), (3, .int .u32 (offset : Nat))] (by kernel_rfl) (Nat.le_of_ble_eq_true rfl) ?_
  intro a HF
  obtain ⟨z1, hz1⟩ : ∃ z, w.heap.size = z := ⟨_, rfl⟩
  refine reg_sym HF HM hz1 [] [(0, .bool true), (1, .bool big), (3, .int .u32 (offset : Nat)), (6, .pointer (some ⟨z1, 0, none⟩)), (8, .bool false)] [(z1, .cells #[.int .u32 (ty : Nat), .int .u32 (flags : Nat), .int .u64 (vaddr : Nat), .int .u64 (paddr : Nat), .int .u64 (memsz : Nat), .int .u64 (align : Nat), .slice A n c] 53 (0, 0))] (by kernel_rfl) ?_
  clear HF HM hz1; intro a w HF HM
  refine wp_seq ?_
  refine wp_seq (wp_region_lit ?_)
  obtain ⟨z2, hz2⟩ : ∃ z, w.heap.size = z := ⟨_, rfl⟩
  refine wp_sym HF HM hz2 1 [[0]] [(0, .bool true), (1, .bool big), (3, .int .u32 (offset : Nat)), (6, .pointer (some ⟨z1, 0, none⟩)), (8, .bool false), (12, .agg #[.int .u32 (ty : Nat), .int .u32 (flags : Nat), .int .u64 (vaddr : Nat), .int .u64 (paddr : Nat), .int .u64 (memsz : Nat), .int .u64 (align : Nat), .slice A n c])] [(z1, .cells #[.int .u32 (ty : Nat), .int .u32 (flags : Nat), .int .u64 (vaddr : Nat), .int .u64 (paddr : Nat), .int .u64 (memsz : Nat), .int .u64 (align : Nat), .slice A n c] 53 (0, 0))] (by kernel_rfl) ?_
  simp only [List.drop_succ_cons, List.drop_zero]; clear HF HM hz2; intro a w HF HM
  refine wp_call HF (by kernel_rfl) 30 #[.agg #[.int .u32 (ty : Nat), .int .u32 (flags : Nat), .int .u64 (vaddr : Nat), .int .u64 (paddr : Nat), .int .u64 (memsz : Nat), .int .u64 (align : Nat), .slice A n c]] (by kernel_rfl) (fun w => by kernel_rfl) (Calls.mono (zzFits3_in ty flags vaddr paddr memsz align A n c hc w) ?_)
  rintro _ w1 ⟨rfl, hb⟩
  replace HM := HM.call hb
  clear hb
  refine ⟨_, rfl, ?_⟩; clear HF; intro a HF; replace HF := HF.sub [(0, .bool true), (1, .bool big), (3, .int .u32 (offset : Nat)), (6, .pointer (some ⟨z1, 0, none⟩)), (8, .bool false), (12, .agg #[.int .u32 (ty : Nat), .int .u32 (flags : Nat), .int .u64 (vaddr : Nat), .int .u64 (paddr : Nat), .int .u64 (memsz : Nat), .int .u64 (align : Nat), .slice A n c]), (13, .bool true)] (by kernel_rfl)
  obtain ⟨z3, hz3⟩ : ∃ z, w1.heap.size = z := ⟨_, rfl⟩
  refine wp_sym HF HM hz3 1 [] [(0, .bool true), (1, .bool big), (3, .int .u32 (offset : Nat)), (6, .pointer (some ⟨z1, 0, none⟩)), (8, .bool false), (14, .bool false)] [(z1, .cells #[.int .u32 (ty : Nat), .int .u32 (flags : Nat), .int .u64 (vaddr : Nat), .int .u64 (paddr : Nat), .int .u64 (memsz : Nat), .int .u64 (align : Nat), .slice A n c] 53 (0, 0))] (by kernel_rfl) ?_
  simp only [List.drop_succ_cons, List.drop_zero]; clear HF HM hz3; intro a w HF HM
  refine nil_then ?_
  refine wp_condF HF rfl ?_
  refine wp_skip ?_
  repeat (first | refine then_norm ?_ | refine inb_norm ?_)
  replace HF := HF.sub [(0, .bool true), (1, .bool big), (3, .int .u32 (offset : Nat)), (6, .pointer (some ⟨z1, 0, none⟩)), (8, .bool false)] (by kernel_rfl)
  obtain ⟨z4, hz4⟩ : ∃ z, w.heap.size = z := ⟨_, rfl⟩
  refine reg_sym HF HM hz4 [[1]] [(0, .bool true), (1, .bool big), (3, .int .u32 (offset : Nat)), (6, .pointer (some ⟨z1, 0, none⟩)), (8, .bool false), (9, .pointer (some ⟨z4, 0, none⟩))] [(z4, .cells #[.bool true, .bool big, .int .u8 0, .int .u8 0, .int .i64 0, .int .i64 0, .int .u64 0, .slice none 0 0, .slice none 0 0] 46 (0, 0)), (z1, .cells #[.int .u32 (ty : Nat), .int .u32 (flags : Nat), .int .u64 (vaddr : Nat), .int .u64 (paddr : Nat), .int .u64 (memsz : Nat), .int .u64 (align : Nat), .slice A n c] 53 (0, 0))] (by kernel_rfl) ?_
  clear HF HM hz4; intro a w HF HM
  refine wp_seq ?_
  refine wp_seq (wp_region_lit ?_)
  obtain ⟨z5, hz5⟩ : ∃ z, w.heap.size = z := ⟨_, rfl⟩
  refine wp_sym HF HM hz5 10 [[1], [0], [0], [0], [0]] [(0, .bool true), (1, .bool big), (3, .int .u32 (offset : Nat)), (6, .pointer (some ⟨z1, 0, none⟩)), (8, .bool false), (9, .pointer (some ⟨z4, 0, none⟩)), (18, .agg #[.bool true, .bool big, .int .u8 0, .int .u8 0, .int .i64 0, .int .i64 0, .int .u64 0, .slice none 0 0, .slice none 0 0]), (27, .slice (some ⟨z5, 0, none⟩) 4 4)] [(z5, .cells #[.int .u64 (vaddr : Nat), .int .u64 (paddr : Nat), .int .u64 (memsz : Nat), .int .u64 (align : Nat)] 30 (0, 0)), (z4, .cells #[.bool true, .bool big, .int .u8 0, .int .u8 0, .int .i64 0, .int .i64 0, .int .u64 0, .slice none 0 0, .slice none 0 0] 46 (0, 0)), (z1, .cells #[.int .u32 (ty : Nat), .int .u32 (flags : Nat), .int .u64 (vaddr : Nat), .int .u64 (paddr : Nat), .int .u64 (memsz : Nat), .int .u64 (align : Nat), .slice A n c] 53 (0, 0))] (by kernel_rfl) ?_
  simp only [List.drop_succ_cons, List.drop_zero]; clear HF HM hz5; intro a w HF HM
  have hrf : Row w (some ⟨z5, 0, none⟩) ([vaddr, paddr, memsz, align].map fun (k : Nat) => Value.int .u64 (k : Int)) := HM.rowAt (i := 0) rfl
  refine wp_call HF (by kernel_rfl) 26 #[.agg #[.bool true, .bool big, .int .u8 0, .int .u8 0, .int .i64 0, .int .i64 0, .int .u64 0, .slice none 0 0, .slice none 0 0], .slice (some ⟨z5, 0, none⟩) 4 4] (by kernel_rfl) (fun w => by kernel_rfl) (Calls.mono ((by have h := fits_any true (.bool big) (.int .u8 0) (.int .u8 0) (.int .i64 0) (.int .i64 0) (.int .u64 0) (.slice none 0 0) (.slice none 0 0) [vaddr, paddr, memsz, align] (some ⟨z5, 0, none⟩) 4 4 rfl (by decide) w hrf; rw [hfb] at h; exact h)) ?_)
  rintro _ w2 ⟨rfl, hb⟩
  replace HM := HM.call hb
  clear hb
  refine ⟨_, rfl, ?_⟩; clear HF; intro a HF; replace HF := HF.sub [(0, .bool true), (1, .bool big), (3, .int .u32 (offset : Nat)), (6, .pointer (some ⟨z1, 0, none⟩)), (8, .bool false), (9, .pointer (some ⟨z4, 0, none⟩)), (18, .agg #[.bool true, .bool big, .int .u8 0, .int .u8 0, .int .i64 0, .int .i64 0, .int .u64 0, .slice none 0 0, .slice none 0 0]), (27, .slice (some ⟨z5, 0, none⟩) 4 4), (28, .bool true)] (by kernel_rfl)
  replace HF := HF.sub [(0, .bool true), (1, .bool big), (3, .int .u32 (offset : Nat)), (6, .pointer (some ⟨z1, 0, none⟩)), (8, .bool false), (9, .pointer (some ⟨z4, 0, none⟩)), (28, .bool true)] (by kernel_rfl)
  obtain ⟨z6, hz6⟩ : ∃ z, w2.heap.size = z := ⟨_, rfl⟩
  refine wp_sym HF HM hz6 6 [[0]] [(0, .bool true), (1, .bool big), (3, .int .u32 (offset : Nat)), (6, .pointer (some ⟨z1, 0, none⟩)), (8, .bool false), (9, .pointer (some ⟨z4, 0, none⟩)), (30, .bool false), (34, .bool (decide ((65536 : Int) < (n : Int))))] [(z5, .cells #[.int .u64 (vaddr : Nat), .int .u64 (paddr : Nat), .int .u64 (memsz : Nat), .int .u64 (align : Nat)] 30 (0, 0)), (z4, .cells #[.bool true, .bool big, .int .u8 0, .int .u8 0, .int .i64 0, .int .i64 0, .int .u64 0, .slice none 0 0, .slice none 0 0] 46 (0, 0)), (z1, .cells #[.int .u32 (ty : Nat), .int .u32 (flags : Nat), .int .u64 (vaddr : Nat), .int .u64 (paddr : Nat), .int .u64 (memsz : Nat), .int .u64 (align : Nat), .slice A n c] 53 (0, 0))] (by kernel_rfl) ?_
  simp only [List.drop_succ_cons, List.drop_zero]; clear HF HM hz6; intro a w HF HM
  rw [show decide ((65536 : Int) < (n : Int)) = false from dec_f (by omega)] at HF
  obtain ⟨z7, hz7⟩ : ∃ z, w.heap.size = z := ⟨_, rfl⟩
  refine wp_sym HF HM hz7 5 [[0]] [(0, .bool true), (1, .bool big), (3, .int .u32 (offset : Nat)), (6, .pointer (some ⟨z1, 0, none⟩)), (8, .bool false), (9, .pointer (some ⟨z4, 0, none⟩)), (36, .bool false), (39, .bool (decide ((2147483648 : Int) ≤ ((ty : Nat) : Int))))] [(z5, .cells #[.int .u64 (vaddr : Nat), .int .u64 (paddr : Nat), .int .u64 (memsz : Nat), .int .u64 (align : Nat)] 30 (0, 0)), (z4, .cells #[.bool true, .bool big, .int .u8 0, .int .u8 0, .int .i64 0, .int .i64 0, .int .u64 0, .slice none 0 0, .slice none 0 0] 46 (0, 0)), (z1, .cells #[.int .u32 (ty : Nat), .int .u32 (flags : Nat), .int .u64 (vaddr : Nat), .int .u64 (paddr : Nat), .int .u64 (memsz : Nat), .int .u64 (align : Nat), .slice A n c] 53 (0, 0))] (by kernel_rfl) ?_
  simp only [List.drop_succ_cons, List.drop_zero]; clear HF HM hz7; intro a w HF HM
  rw [show decide ((2147483648 : Int) ≤ ((ty : Nat) : Int)) = false from dec_f (by omega)] at HF
  obtain ⟨z8, hz8⟩ : ∃ z, w.heap.size = z := ⟨_, rfl⟩
  refine wp_sym HF HM hz8 1 [] [(0, .bool true), (1, .bool big), (3, .int .u32 (offset : Nat)), (6, .pointer (some ⟨z1, 0, none⟩)), (8, .bool false), (9, .pointer (some ⟨z4, 0, none⟩)), (40, .bool false)] [(z5, .cells #[.int .u64 (vaddr : Nat), .int .u64 (paddr : Nat), .int .u64 (memsz : Nat), .int .u64 (align : Nat)] 30 (0, 0)), (z4, .cells #[.bool true, .bool big, .int .u8 0, .int .u8 0, .int .i64 0, .int .i64 0, .int .u64 0, .slice none 0 0, .slice none 0 0] 46 (0, 0)), (z1, .cells #[.int .u32 (ty : Nat), .int .u32 (flags : Nat), .int .u64 (vaddr : Nat), .int .u64 (paddr : Nat), .int .u64 (memsz : Nat), .int .u64 (align : Nat), .slice A n c] 53 (0, 0))] (by kernel_rfl) ?_
  simp only [List.drop_succ_cons, List.drop_zero]; clear HF HM hz8; intro a w HF HM
  refine nil_then ?_
  refine wp_condF HF rfl ?_
  refine wp_skip ?_
  repeat (first | refine then_norm ?_ | refine inb_norm ?_)
  replace HF := HF.sub [(0, .bool true), (1, .bool big), (3, .int .u32 (offset : Nat)), (6, .pointer (some ⟨z1, 0, none⟩)), (8, .bool false), (9, .pointer (some ⟨z4, 0, none⟩))] (by kernel_rfl)
  refine wp_seq (wp_region_lit ?_)
  obtain ⟨z9, hz9⟩ : ∃ z, w.heap.size = z := ⟨_, rfl⟩
  refine wp_sym HF HM hz9 6 [[1], [0]] [(0, .bool true), (1, .bool big), (3, .int .u32 (offset : Nat)), (6, .pointer (some ⟨z1, 0, none⟩)), (8, .bool false), (9, .pointer (some ⟨z4, 0, none⟩)), (42, .bool true), (43, .bool big), (44, .agg #[.bool true, .bool big, .int .u8 0, .int .u8 0, .int .i64 0, .int .i64 0, .int .u64 0, .slice none 0 0, .slice none 0 0]), (45, .agg #[.int .u32 (ty : Nat), .int .u32 (flags : Nat), .int .u64 (vaddr : Nat), .int .u64 (paddr : Nat), .int .u64 (memsz : Nat), .int .u64 (align : Nat), .slice A n c]), (47, .int .i64 (IntKind.i64.wrap (offset : Nat)))] [(z5, .cells #[.int .u64 (vaddr : Nat), .int .u64 (paddr : Nat), .int .u64 (memsz : Nat), .int .u64 (align : Nat)] 30 (0, 0)), (z4, .cells #[.bool true, .bool big, .int .u8 0, .int .u8 0, .int .i64 0, .int .i64 0, .int .u64 0, .slice none 0 0, .slice none 0 0] 46 (0, 0)), (z1, .cells #[.int .u32 (ty : Nat), .int .u32 (flags : Nat), .int .u64 (vaddr : Nat), .int .u64 (paddr : Nat), .int .u64 (memsz : Nat), .int .u64 (align : Nat), .slice A n c] 53 (0, 0))] (by kernel_rfl) ?_
  simp only [List.drop_succ_cons, List.drop_zero]; clear HF HM hz9; intro a w HF HM
  rw [show IntKind.i64.wrap ((offset : Nat) : Int) = (offset : Nat) from IntWalk.i64_in _ (by omega)] at HF
  refine wp_call HF (by kernel_rfl) 32 #[.agg #[.bool true, .bool big, .int .u8 0, .int .u8 0, .int .i64 0, .int .i64 0, .int .u64 0, .slice none 0 0, .slice none 0 0], .agg #[.int .u32 (ty : Nat), .int .u32 (flags : Nat), .int .u64 (vaddr : Nat), .int .u64 (paddr : Nat), .int .u64 (memsz : Nat), .int .u64 (align : Nat), .slice A n c], .int .i64 (offset : Nat)] (by kernel_rfl) (fun w => by kernel_rfl) (Calls.mono (segmentRow_wide big (.int .u8 0) (.int .u8 0) (.int .i64 0) (.int .i64 0) (.int .u64 0) (.slice none 0 0) (.slice none 0 0) ty flags vaddr paddr memsz align n c offset A (by omega) (by omega) (by omega) (by omega) w) ?_)
  rintro _ w3 ⟨v2, rfl, hown, hb⟩
  obtain ⟨A2, c2, rfl, hnc2, hrow2, -⟩ := own_form hown
  replace HM := HM.call hb
  clear hb hown
  refine ⟨_, rfl, ?_⟩; clear HF; intro a HF; replace HF := HF.sub [(0, .bool true), (1, .bool big), (3, .int .u32 (offset : Nat)), (6, .pointer (some ⟨z1, 0, none⟩)), (8, .bool false), (9, .pointer (some ⟨z4, 0, none⟩)), (42, .bool true), (43, .bool big), (44, .agg #[.bool true, .bool big, .int .u8 0, .int .u8 0, .int .i64 0, .int .i64 0, .int .u64 0, .slice none 0 0, .slice none 0 0]), (45, .agg #[.int .u32 (ty : Nat), .int .u32 (flags : Nat), .int .u64 (vaddr : Nat), .int .u64 (paddr : Nat), .int .u64 (memsz : Nat), .int .u64 (align : Nat), .slice A n c]), (47, .int .i64 (offset : Nat)), (48, .slice A2 (segB true big ty flags vaddr paddr memsz align n offset).length c2)] (by kernel_rfl)
  replace HF := HF.sub [(0, .bool true), (1, .bool big), (3, .int .u32 (offset : Nat)), (6, .pointer (some ⟨z1, 0, none⟩)), (8, .bool false), (9, .pointer (some ⟨z4, 0, none⟩)), (42, .bool true), (43, .bool big), (48, .slice A2 (segB true big ty flags vaddr paddr memsz align n offset).length c2)] (by kernel_rfl)
  refine wp_call HF (by kernel_rfl) 31 #[.bool true, .bool big, .slice A2 (segB true big ty flags vaddr paddr memsz align n offset).length c2] (by kernel_rfl) (fun w => by kernel_rfl) (Calls.mono (progRow_wide big (segB true big ty flags vaddr paddr memsz align n offset) A2 (segB true big ty flags vaddr paddr memsz align n offset).length c2 (by rw [segB_length]; decide) rfl (by rw [segB_length]; decide) ty flags offset vaddr paddr n memsz align (progV_seg true big ty flags vaddr paddr memsz align n offset (by omega) (by omega) (by omega) hfb hva hpa hms hal (by omega)) (by omega) (by omega) w3 hrow2) ?_)
  rintro _ w4 ⟨rfl, hb⟩
  replace HM := HM.call hb
  clear hb
  refine ⟨_, rfl, ?_⟩; clear HF; intro a HF; replace HF := HF.sub [(0, .bool true), (1, .bool big), (3, .int .u32 (offset : Nat)), (6, .pointer (some ⟨z1, 0, none⟩)), (8, .bool false), (9, .pointer (some ⟨z4, 0, none⟩)), (42, .bool true), (43, .bool big), (48, .slice A2 (segB true big ty flags vaddr paddr memsz align n offset).length c2), (49, .tuple #[.agg #[.int .i64 (ty : Nat), .int .i64 (flags : Nat), .int .u64 (offset : Nat), .int .u64 (vaddr : Nat), .int .u64 (paddr : Nat), .int .u64 (n : Nat), .int .u64 (memsz : Nat), .int .u64 (align : Nat)], .bool true])] (by kernel_rfl)
  obtain ⟨z10, hz10⟩ : ∃ z, w4.heap.size = z := ⟨_, rfl⟩
  refine wp_sym HF HM hz10 6 [[3]] [(0, .bool true), (1, .bool big), (3, .int .u32 (offset : Nat)), (6, .pointer (some ⟨z1, 0, none⟩)), (8, .bool false), (9, .pointer (some ⟨z4, 0, none⟩)), (10, .pointer (some ⟨z10, 0, none⟩)), (11, .bool true)] [(z10, .cells #[.int .i64 (ty : Nat), .int .i64 (flags : Nat), .int .u64 (offset : Nat), .int .u64 (vaddr : Nat), .int .u64 (paddr : Nat), .int .u64 (n : Nat), .int .u64 (memsz : Nat), .int .u64 (align : Nat)] 56 (0, 0)), (z5, .cells #[.int .u64 (vaddr : Nat), .int .u64 (paddr : Nat), .int .u64 (memsz : Nat), .int .u64 (align : Nat)] 30 (0, 0)), (z4, .cells #[.bool true, .bool big, .int .u8 0, .int .u8 0, .int .i64 0, .int .i64 0, .int .u64 0, .slice none 0 0, .slice none 0 0] 46 (0, 0)), (z1, .cells #[.int .u32 (ty : Nat), .int .u32 (flags : Nat), .int .u64 (vaddr : Nat), .int .u64 (paddr : Nat), .int .u64 (memsz : Nat), .int .u64 (align : Nat), .slice A n c] 53 (0, 0))] (by kernel_rfl) ?_
  simp only [List.drop_succ_cons, List.drop_zero]; clear HF HM hz10; intro a w HF HM
  refine nil_then ?_
  refine wp_seq (wp_region_lit ?_)
  obtain ⟨z11, hz11⟩ : ∃ z, w.heap.size = z := ⟨_, rfl⟩
  refine wp_sym HF HM hz11 24 [[3], [0], [0], [0], [0], [0], [], [0], [0]] [(0, .bool true), (1, .bool big), (3, .int .u32 (offset : Nat)), (6, .pointer (some ⟨z1, 0, none⟩)), (8, .bool false), (9, .pointer (some ⟨z4, 0, none⟩)), (10, .pointer (some ⟨z10, 0, none⟩)), (11, .bool true), (53, .bool true), (54, .agg #[.int .i64 (ty : Nat), .int .i64 (flags : Nat), .int .u64 (offset : Nat), .int .u64 (vaddr : Nat), .int .u64 (paddr : Nat), .int .u64 (n : Nat), .int .u64 (memsz : Nat), .int .u64 (align : Nat)]), (75, .agg #[.int .i64 (IntKind.i64.wrap (ty : Nat)), .int .i64 (IntKind.i64.wrap (flags : Nat)), .int .u64 (IntKind.u64.wrap (offset : Nat)), .int .u64 (vaddr : Nat), .int .u64 (paddr : Nat), .int .u64 (IntKind.u64.wrap (n : Nat)), .int .u64 (memsz : Nat), .int .u64 (align : Nat)])] [(z10, .cells #[.int .i64 (ty : Nat), .int .i64 (flags : Nat), .int .u64 (offset : Nat), .int .u64 (vaddr : Nat), .int .u64 (paddr : Nat), .int .u64 (n : Nat), .int .u64 (memsz : Nat), .int .u64 (align : Nat)] 56 (0, 0)), (z5, .cells #[.int .u64 (vaddr : Nat), .int .u64 (paddr : Nat), .int .u64 (memsz : Nat), .int .u64 (align : Nat)] 30 (0, 0)), (z4, .cells #[.bool true, .bool big, .int .u8 0, .int .u8 0, .int .i64 0, .int .i64 0, .int .u64 0, .slice none 0 0, .slice none 0 0] 46 (0, 0)), (z1, .cells #[.int .u32 (ty : Nat), .int .u32 (flags : Nat), .int .u64 (vaddr : Nat), .int .u64 (paddr : Nat), .int .u64 (memsz : Nat), .int .u64 (align : Nat), .slice A n c] 53 (0, 0))] (by kernel_rfl) ?_
  simp only [List.drop_succ_cons, List.drop_zero]; clear HF HM hz11; intro a w HF HM
  rw [show IntKind.i64.wrap ((ty : Nat) : Int) = (ty : Nat) from IntWalk.i64_in _ (by omega)] at HF
  rw [show IntKind.i64.wrap ((flags : Nat) : Int) = (flags : Nat) from IntWalk.i64_in _ (by omega)] at HF
  rw [show IntKind.u64.wrap ((offset : Nat) : Int) = (offset : Nat) from IntWalk.u64_in _ (by omega)] at HF
  rw [show IntKind.u64.wrap ((n : Nat) : Int) = (n : Nat) from IntWalk.u64_in _ (by omega)] at HF
  refine wp_run HF (by kernel_rfl) (.bool true) (by kernel_rfl) (run_binop_eql (by rfl) (by rfl) (by rfl) (eqGuard_prog _ _ _ _ _) (eql_prog (ty : Nat) (flags : Nat) (offset : Nat) (vaddr : Nat) (paddr : Nat) (n : Nat) (memsz : Nat) (align : Nat) _)) ?_
  clear HF; intro a HF; replace HF := HF.sub [(0, .bool true), (1, .bool big), (3, .int .u32 (offset : Nat)), (6, .pointer (some ⟨z1, 0, none⟩)), (8, .bool false), (9, .pointer (some ⟨z4, 0, none⟩)), (10, .pointer (some ⟨z10, 0, none⟩)), (11, .bool true), (53, .bool true), (54, .agg #[.int .i64 (ty : Nat), .int .i64 (flags : Nat), .int .u64 (offset : Nat), .int .u64 (vaddr : Nat), .int .u64 (paddr : Nat), .int .u64 (n : Nat), .int .u64 (memsz : Nat), .int .u64 (align : Nat)]), (75, .agg #[.int .i64 (ty : Nat), .int .i64 (flags : Nat), .int .u64 (offset : Nat), .int .u64 (vaddr : Nat), .int .u64 (paddr : Nat), .int .u64 (n : Nat), .int .u64 (memsz : Nat), .int .u64 (align : Nat)]), (76, .bool true)] (by kernel_rfl)
  obtain ⟨z12, hz12⟩ : ∃ z, w.heap.size = z := ⟨_, rfl⟩
  refine wp_sym HF HM hz12 2 [] [(0, .bool true), (1, .bool big), (3, .int .u32 (offset : Nat)), (6, .pointer (some ⟨z1, 0, none⟩)), (9, .pointer (some ⟨z4, 0, none⟩)), (10, .pointer (some ⟨z10, 0, none⟩)), (11, .bool true), (8, .bool true)] [(z10, .cells #[.int .i64 (ty : Nat), .int .i64 (flags : Nat), .int .u64 (offset : Nat), .int .u64 (vaddr : Nat), .int .u64 (paddr : Nat), .int .u64 (n : Nat), .int .u64 (memsz : Nat), .int .u64 (align : Nat)] 56 (0, 0)), (z5, .cells #[.int .u64 (vaddr : Nat), .int .u64 (paddr : Nat), .int .u64 (memsz : Nat), .int .u64 (align : Nat)] 30 (0, 0)), (z4, .cells #[.bool true, .bool big, .int .u8 0, .int .u8 0, .int .i64 0, .int .i64 0, .int .u64 0, .slice none 0 0, .slice none 0 0] 46 (0, 0)), (z1, .cells #[.int .u32 (ty : Nat), .int .u32 (flags : Nat), .int .u64 (vaddr : Nat), .int .u64 (paddr : Nat), .int .u64 (memsz : Nat), .int .u64 (align : Nat), .slice A n c] 53 (0, 0))] (by kernel_rfl) ?_
  simp only [List.drop_succ_cons, List.drop_zero]; clear HF HM hz12; intro a w HF HM
  refine nil_then ?_
  refine wp_ret ?_
  exact ret_one HF rfl rfl ⟨rfl, HM.below⟩

theorem walk_prog (wide big : Bool) (ty flags vaddr paddr memsz align : Nat) (A : Option Addr) (n c : Nat) (offset : Nat) (hty : ty < 4294967296) (hfl : flags < 4294967296) (hva : vaddr < 18446744073709551616) (hpa : paddr < 18446744073709551616) (hms : memsz < 18446744073709551616) (hal : align < 18446744073709551616) (hof : offset < 4294967296) (w0 : World) :
    Calls Try.prog 12 #[.bool wide, .bool big, .agg #[.int .u32 (ty : Nat), .int .u32 (flags : Nat), .int .u64 (vaddr : Nat), .int .u64 (paddr : Nat), .int .u64 (memsz : Nat), .int .u64 (align : Nat), .slice A n c], .int .u32 (offset : Nat)] w0 fun e w' => e = .returned (.bool true) ∧ Below w0.heap.size w0 w' := by
  cases wide
  · by_cases hc : n ≤ 2147483647
    case neg => exact walkProg_false_big big ty flags vaddr paddr memsz align A n c offset hty hfl hva hpa hms hal hof (by omega) w0
    cases hfb : fitsB false [vaddr, paddr, memsz, align] with
    | false => exact walkProg_false_fits big ty flags vaddr paddr memsz align A n c offset hty hfl hva hpa hms hal hof hc hfb w0
    | true =>
      by_cases hl : n ≤ 65536
      case neg => exact walkProg_false_long big ty flags vaddr paddr memsz align A n c offset hty hfl hva hpa hms hal hof hc hfb (by omega) w0
      by_cases hk : ty < 2147483648
      case neg => exact walkProg_false_kind big ty flags vaddr paddr memsz align A n c offset hty hfl hva hpa hms hal hof hc hfb hl (by omega) w0
      exact walkProg_false_ok big ty flags vaddr paddr memsz align A n c offset hty hfl hva hpa hms hal hof hc hfb hl hk w0
  · by_cases hc : n ≤ 2147483647
    case neg => exact walkProg_true_big big ty flags vaddr paddr memsz align A n c offset hty hfl hva hpa hms hal hof (by omega) w0
    have hfb : fitsB true [vaddr, paddr, memsz, align] = true := rfl
    by_cases hl : n ≤ 65536
    case neg => exact walkProg_true_long big ty flags vaddr paddr memsz align A n c offset hty hfl hva hpa hms hal hof hc hfb (by omega) w0
    by_cases hk : ty < 2147483648
    case neg => exact walkProg_true_kind big ty flags vaddr paddr memsz align A n c offset hty hfl hva hpa hms hal hof hc hfb hl (by omega) w0
    exact walkProg_true_ok big ty flags vaddr paddr memsz align A n c offset hty hfl hva hpa hms hal hof hc hfb hl hk w0

end Go.Proofs.Ytlgigipjgahecaa
