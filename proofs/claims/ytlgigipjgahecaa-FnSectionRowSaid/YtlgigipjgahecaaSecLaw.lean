/- impl.SectionRow, zzFits5, and the walk of the law FnSectionRow. -/
import Derived.Test.YtlgigipjgahecaaPLaw
namespace Go.Proofs.Ytlgigipjgahecaa
open Go.RowKit
set_option linter.unusedVariables false

set_option maxRecDepth 100000 in
set_option maxHeartbeats 1000000 in
theorem zzFits5_name (nm : ByteArray) (ty flags addr link info align ent size : Nat) (A : Option Addr) (n c : Nat) (h1 : 2147483647 < nm.size) (w0 : World) :
    Calls Try.prog 33 #[.agg #[.string nm, .int .u32 (ty : Nat), .int .u32 (flags : Nat), .int .u64 (addr : Nat), .int .u32 (link : Nat), .int .u32 (info : Nat), .int .u64 (align : Nat), .int .u64 (ent : Nat), .int .u64 (size : Nat), .slice A n c]] w0 fun e w' => e = .returned (.bool false) ∧ Below w0.heap.size w0 w' := by
  obtain ⟨w, hw⟩ : ∃ w, w0 = w := ⟨_, rfl⟩
  have HM : Mm w0 w [] := hw ▸ Mm.start w0
  conv => arg 4; rw [hw]
  clear hw
  refine calls_start Try.func33 rfl Try.ntmps33 [(0, .agg #[.string nm, .int .u32 (ty : Nat), .int .u32 (flags : Nat), .int .u64 (addr : Nat), .int .u32 (link : Nat), .int .u32 (info : Nat), .int .u64 (align : Nat), .int .u64 (ent : Nat), .int .u64 (size : Nat), .slice A n c])] (by kernel_rfl) (Nat.le_of_ble_eq_true rfl) ?_
  intro a HF
  obtain ⟨z1, hz1⟩ : ∃ z, w.heap.size = z := ⟨_, rfl⟩
  refine reg_sym HF HM hz1 [] [(1, .pointer (some ⟨z1, 0, none⟩)), (2, .bool false)] [(z1, .cells #[.string nm, .int .u32 (ty : Nat), .int .u32 (flags : Nat), .int .u64 (addr : Nat), .int .u32 (link : Nat), .int .u32 (info : Nat), .int .u64 (align : Nat), .int .u64 (ent : Nat), .int .u64 (size : Nat), .slice A n c] 62 (0, 0))] (by kernel_rfl) ?_
  clear HF HM hz1; intro a w HF HM
  refine wp_seq ?_
  refine wp_seq (wp_region_lit ?_)
  obtain ⟨z2, hz2⟩ : ∃ z, w.heap.size = z := ⟨_, rfl⟩
  refine wp_sym HF HM hz2 4 [[0]] [(1, .pointer (some ⟨z1, 0, none⟩)), (2, .bool false), (6, .bool (decide ((2147483647 : Int) < (nm.size : Int))))] [(z1, .cells #[.string nm, .int .u32 (ty : Nat), .int .u32 (flags : Nat), .int .u64 (addr : Nat), .int .u32 (link : Nat), .int .u32 (info : Nat), .int .u64 (align : Nat), .int .u64 (ent : Nat), .int .u64 (size : Nat), .slice A n c] 62 (0, 0))] (by kernel_rfl) ?_
  simp only [List.drop_succ_cons, List.drop_zero]; clear HF HM hz2; intro a w HF HM
  rw [show decide ((2147483647 : Int) < (nm.size : Int)) = true from dec_t (by omega)] at HF
  refine nil_then ?_
  refine wp_condT HF rfl ?_
  obtain ⟨z3, hz3⟩ : ∃ z, w.heap.size = z := ⟨_, rfl⟩
  refine reg_sym HF HM hz3 [] [(1, .pointer (some ⟨z1, 0, none⟩)), (6, .bool true), (2, .bool false)] [(z1, .cells #[.string nm, .int .u32 (ty : Nat), .int .u32 (flags : Nat), .int .u64 (addr : Nat), .int .u32 (link : Nat), .int .u32 (info : Nat), .int .u64 (align : Nat), .int .u64 (ent : Nat), .int .u64 (size : Nat), .slice A n c] 62 (0, 0))] (by kernel_rfl) ?_
  clear HF HM hz3; intro a w HF HM
  refine wp_ret ?_
  repeat (first | refine then_ret ?_ | refine inb_ret ?_)
  exact ret_one HF rfl rfl ⟨rfl, HM.below⟩

set_option maxRecDepth 100000 in
set_option maxHeartbeats 1000000 in
theorem zzFits5_data (nm : ByteArray) (ty flags addr link info align ent size : Nat) (A : Option Addr) (n c : Nat) (h1 : nm.size ≤ 2147483647) (h2 : 2147483647 < n) (w0 : World) :
    Calls Try.prog 33 #[.agg #[.string nm, .int .u32 (ty : Nat), .int .u32 (flags : Nat), .int .u64 (addr : Nat), .int .u32 (link : Nat), .int .u32 (info : Nat), .int .u64 (align : Nat), .int .u64 (ent : Nat), .int .u64 (size : Nat), .slice A n c]] w0 fun e w' => e = .returned (.bool false) ∧ Below w0.heap.size w0 w' := by
  obtain ⟨w, hw⟩ : ∃ w, w0 = w := ⟨_, rfl⟩
  have HM : Mm w0 w [] := hw ▸ Mm.start w0
  conv => arg 4; rw [hw]
  clear hw
  refine calls_start Try.func33 rfl Try.ntmps33 [(0, .agg #[.string nm, .int .u32 (ty : Nat), .int .u32 (flags : Nat), .int .u64 (addr : Nat), .int .u32 (link : Nat), .int .u32 (info : Nat), .int .u64 (align : Nat), .int .u64 (ent : Nat), .int .u64 (size : Nat), .slice A n c])] (by kernel_rfl) (Nat.le_of_ble_eq_true rfl) ?_
  intro a HF
  obtain ⟨z1, hz1⟩ : ∃ z, w.heap.size = z := ⟨_, rfl⟩
  refine reg_sym HF HM hz1 [] [(1, .pointer (some ⟨z1, 0, none⟩)), (2, .bool false)] [(z1, .cells #[.string nm, .int .u32 (ty : Nat), .int .u32 (flags : Nat), .int .u64 (addr : Nat), .int .u32 (link : Nat), .int .u32 (info : Nat), .int .u64 (align : Nat), .int .u64 (ent : Nat), .int .u64 (size : Nat), .slice A n c] 62 (0, 0))] (by kernel_rfl) ?_
  clear HF HM hz1; intro a w HF HM
  refine wp_seq ?_
  refine wp_seq (wp_region_lit ?_)
  obtain ⟨z2, hz2⟩ : ∃ z, w.heap.size = z := ⟨_, rfl⟩
  refine wp_sym HF HM hz2 4 [[0]] [(1, .pointer (some ⟨z1, 0, none⟩)), (2, .bool false), (6, .bool (decide ((2147483647 : Int) < (nm.size : Int))))] [(z1, .cells #[.string nm, .int .u32 (ty : Nat), .int .u32 (flags : Nat), .int .u64 (addr : Nat), .int .u32 (link : Nat), .int .u32 (info : Nat), .int .u64 (align : Nat), .int .u64 (ent : Nat), .int .u64 (size : Nat), .slice A n c] 62 (0, 0))] (by kernel_rfl) ?_
  simp only [List.drop_succ_cons, List.drop_zero]; clear HF HM hz2; intro a w HF HM
  rw [show decide ((2147483647 : Int) < (nm.size : Int)) = false from dec_f (by omega)] at HF
  refine nil_then ?_
  refine wp_condF HF rfl ?_
  refine wp_skip ?_
  repeat (first | refine then_norm ?_ | refine inb_norm ?_)
  replace HF := HF.sub [(1, .pointer (some ⟨z1, 0, none⟩)), (2, .bool false)] (by kernel_rfl)
  refine wp_seq ?_
  refine wp_seq (wp_region_lit ?_)
  obtain ⟨z3, hz3⟩ : ∃ z, w.heap.size = z := ⟨_, rfl⟩
  refine wp_sym HF HM hz3 4 [[0]] [(1, .pointer (some ⟨z1, 0, none⟩)), (2, .bool false), (10, .bool (decide ((2147483647 : Int) < (n : Int))))] [(z1, .cells #[.string nm, .int .u32 (ty : Nat), .int .u32 (flags : Nat), .int .u64 (addr : Nat), .int .u32 (link : Nat), .int .u32 (info : Nat), .int .u64 (align : Nat), .int .u64 (ent : Nat), .int .u64 (size : Nat), .slice A n c] 62 (0, 0))] (by kernel_rfl) ?_
  simp only [List.drop_succ_cons, List.drop_zero]; clear HF HM hz3; intro a w HF HM
  rw [show decide ((2147483647 : Int) < (n : Int)) = true from dec_t (by omega)] at HF
  refine nil_then ?_
  refine wp_condT HF rfl ?_
  obtain ⟨z4, hz4⟩ : ∃ z, w.heap.size = z := ⟨_, rfl⟩
  refine reg_sym HF HM hz4 [] [(1, .pointer (some ⟨z1, 0, none⟩)), (10, .bool true), (2, .bool false)] [(z1, .cells #[.string nm, .int .u32 (ty : Nat), .int .u32 (flags : Nat), .int .u64 (addr : Nat), .int .u32 (link : Nat), .int .u32 (info : Nat), .int .u64 (align : Nat), .int .u64 (ent : Nat), .int .u64 (size : Nat), .slice A n c] 62 (0, 0))] (by kernel_rfl) ?_
  clear HF HM hz4; intro a w HF HM
  refine wp_ret ?_
  repeat (first | refine then_ret ?_ | refine inb_ret ?_)
  exact ret_one HF rfl rfl ⟨rfl, HM.below⟩

set_option maxRecDepth 100000 in
set_option maxHeartbeats 1000000 in
theorem zzFits5_in (nm : ByteArray) (ty flags addr link info align ent size : Nat) (A : Option Addr) (n c : Nat) (h1 : nm.size ≤ 2147483647) (h2 : n ≤ 2147483647) (w0 : World) :
    Calls Try.prog 33 #[.agg #[.string nm, .int .u32 (ty : Nat), .int .u32 (flags : Nat), .int .u64 (addr : Nat), .int .u32 (link : Nat), .int .u32 (info : Nat), .int .u64 (align : Nat), .int .u64 (ent : Nat), .int .u64 (size : Nat), .slice A n c]] w0 fun e w' => e = .returned (.bool true) ∧ Below w0.heap.size w0 w' := by
  obtain ⟨w, hw⟩ : ∃ w, w0 = w := ⟨_, rfl⟩
  have HM : Mm w0 w [] := hw ▸ Mm.start w0
  conv => arg 4; rw [hw]
  clear hw
  refine calls_start Try.func33 rfl Try.ntmps33 [(0, .agg #[.string nm, .int .u32 (ty : Nat), .int .u32 (flags : Nat), .int .u64 (addr : Nat), .int .u32 (link : Nat), .int .u32 (info : Nat), .int .u64 (align : Nat), .int .u64 (ent : Nat), .int .u64 (size : Nat), .slice A n c])] (by kernel_rfl) (Nat.le_of_ble_eq_true rfl) ?_
  intro a HF
  obtain ⟨z1, hz1⟩ : ∃ z, w.heap.size = z := ⟨_, rfl⟩
  refine reg_sym HF HM hz1 [] [(1, .pointer (some ⟨z1, 0, none⟩)), (2, .bool false)] [(z1, .cells #[.string nm, .int .u32 (ty : Nat), .int .u32 (flags : Nat), .int .u64 (addr : Nat), .int .u32 (link : Nat), .int .u32 (info : Nat), .int .u64 (align : Nat), .int .u64 (ent : Nat), .int .u64 (size : Nat), .slice A n c] 62 (0, 0))] (by kernel_rfl) ?_
  clear HF HM hz1; intro a w HF HM
  refine wp_seq ?_
  refine wp_seq (wp_region_lit ?_)
  obtain ⟨z2, hz2⟩ : ∃ z, w.heap.size = z := ⟨_, rfl⟩
  refine wp_sym HF HM hz2 4 [[0]] [(1, .pointer (some ⟨z1, 0, none⟩)), (2, .bool false), (6, .bool (decide ((2147483647 : Int) < (nm.size : Int))))] [(z1, .cells #[.string nm, .int .u32 (ty : Nat), .int .u32 (flags : Nat), .int .u64 (addr : Nat), .int .u32 (link : Nat), .int .u32 (info : Nat), .int .u64 (align : Nat), .int .u64 (ent : Nat), .int .u64 (size : Nat), .slice A n c] 62 (0, 0))] (by kernel_rfl) ?_
  simp only [List.drop_succ_cons, List.drop_zero]; clear HF HM hz2; intro a w HF HM
  rw [show decide ((2147483647 : Int) < (nm.size : Int)) = false from dec_f (by omega)] at HF
  refine nil_then ?_
  refine wp_condF HF rfl ?_
  refine wp_skip ?_
  repeat (first | refine then_norm ?_ | refine inb_norm ?_)
  replace HF := HF.sub [(1, .pointer (some ⟨z1, 0, none⟩)), (2, .bool false)] (by kernel_rfl)
  refine wp_seq ?_
  refine wp_seq (wp_region_lit ?_)
  obtain ⟨z3, hz3⟩ : ∃ z, w.heap.size = z := ⟨_, rfl⟩
  refine wp_sym HF HM hz3 4 [[0]] [(1, .pointer (some ⟨z1, 0, none⟩)), (2, .bool false), (10, .bool (decide ((2147483647 : Int) < (n : Int))))] [(z1, .cells #[.string nm, .int .u32 (ty : Nat), .int .u32 (flags : Nat), .int .u64 (addr : Nat), .int .u32 (link : Nat), .int .u32 (info : Nat), .int .u64 (align : Nat), .int .u64 (ent : Nat), .int .u64 (size : Nat), .slice A n c] 62 (0, 0))] (by kernel_rfl) ?_
  simp only [List.drop_succ_cons, List.drop_zero]; clear HF HM hz3; intro a w HF HM
  rw [show decide ((2147483647 : Int) < (n : Int)) = false from dec_f (by omega)] at HF
  refine nil_then ?_
  refine wp_condF HF rfl ?_
  refine wp_skip ?_
  repeat (first | refine then_norm ?_ | refine inb_norm ?_)
  obtain ⟨z4, hz4⟩ : ∃ z, w.heap.size = z := ⟨_, rfl⟩
  refine reg_sym HF HM hz4 [] [(1, .pointer (some ⟨z1, 0, none⟩)), (10, .bool false), (2, .bool true)] [(z1, .cells #[.string nm, .int .u32 (ty : Nat), .int .u32 (flags : Nat), .int .u64 (addr : Nat), .int .u32 (link : Nat), .int .u32 (info : Nat), .int .u64 (align : Nat), .int .u64 (ent : Nat), .int .u64 (size : Nat), .slice A n c] 62 (0, 0))] (by kernel_rfl) ?_
  clear HF HM hz4; intro a w HF HM
  refine wp_ret ?_
  exact ret_one HF rfl rfl ⟨rfl, HM.below⟩

set_option maxRecDepth 100000 in
set_option maxHeartbeats 1000000 in
theorem sectionRow2_thin (big : Bool) (l : List UInt8) (A : Option Addr) (n c : Nat) (hn : 40 ≤ n) (hl : n = l.length) (hbn : n ≤ 65536) (a0 a1 a2 a3 a4 a6 a7 a8 a9 a10 : Int) (hnm : ((numB big ((l.drop 0).take 4) : Nat) : Int) = a0) (hpv : secV false big l = .agg #[.string ⟨#[]⟩, .int .u32 a1, .int .u32 a2, .int .u64 a3, .int .u64 a4, .int .u64 0, .int .u32 a6, .int .u32 a7, .int .u64 a8, .int .u64 a9, .int .u64 a10]) (k1 : 0 ≤ a1 ∧ a1 < 4294967296) (k2 : 0 ≤ a2 ∧ a2 < 4294967296) (k6 : 0 ≤ a6 ∧ a6 < 4294967296) (k7 : 0 ≤ a7 ∧ a7 < 4294967296) (w0 : World) (hr : Row w0 A (l.map Bv)) :
    Calls Try.prog 34 #[.bool false, .bool big, .slice A n c] w0 fun e w' => e = .returned (.tuple #[.int .u32 a0, .agg #[.string ⟨#[]⟩, .int .i64 a1, .int .i64 a2, .int .u64 a3, .int .u64 a4, .int .u64 0, .int .i64 a6, .int .i64 a7, .int .u64 a8, .int .u64 a9, .int .u64 a10], .bool true]) ∧ Below w0.heap.size w0 w' := by
  obtain ⟨w, hw⟩ : ∃ w, w0 = w := ⟨_, rfl⟩
  have HM : Mm w0 w [] := hw ▸ Mm.start w0
  conv => arg 4; rw [hw]
  clear hw
  refine calls_start Try.func34 rfl Try.ntmps34 [(0, .bool false), (1, .bool big), (2, .slice A n c)] (by kernel_rfl) (Nat.le_of_ble_eq_true rfl) ?_
  intro a HF
  obtain ⟨z1, hz1⟩ : ∃ z, w.heap.size = z := ⟨_, rfl⟩
  refine reg_sym HF HM hz1 [] [(0, .bool false), (1, .bool big), (2, .slice A n c), (6, .int .u32 0), (7, .pointer (some ⟨z1, 0, none⟩)), (8, .bool false)] [(z1, .cells #[.string ⟨#[]⟩, .int .i64 0, .int .i64 0, .int .u64 0, .int .u64 0, .int .u64 0, .int .i64 0, .int .i64 0, .int .u64 0, .int .u64 0, .int .u64 0] 65 (0, 0))] (by kernel_rfl) ?_
  clear HF HM hz1; intro a w HF HM
  refine wp_seq ?_
  refine wp_seq (wp_region_lit ?_)
  obtain ⟨z2, hz2⟩ : ∃ z, w.heap.size = z := ⟨_, rfl⟩
  refine wp_sym HF HM hz2 3 [] [(0, .bool false), (1, .bool big), (2, .slice A n c), (6, .int .u32 0), (7, .pointer (some ⟨z1, 0, none⟩)), (8, .bool false), (13, .bool (decide ((n : Int) < 40)))] [(z1, .cells #[.string ⟨#[]⟩, .int .i64 0, .int .i64 0, .int .u64 0, .int .u64 0, .int .u64 0, .int .i64 0, .int .i64 0, .int .u64 0, .int .u64 0, .int .u64 0] 65 (0, 0))] (by kernel_rfl) ?_
  simp only [List.drop_succ_cons, List.drop_zero]; clear HF HM hz2; intro a w HF HM
  rw [show decide ((n : Int) < 40) = false from dec_f (by omega)] at HF
  obtain ⟨z3, hz3⟩ : ∃ z, w.heap.size = z := ⟨_, rfl⟩
  refine wp_sym HF HM hz3 8 [] [(0, .bool false), (1, .bool big), (2, .slice A n c), (6, .int .u32 0), (7, .pointer (some ⟨z1, 0, none⟩)), (8, .bool false), (21, .bool false)] [(z1, .cells #[.string ⟨#[]⟩, .int .i64 0, .int .i64 0, .int .u64 0, .int .u64 0, .int .u64 0, .int .i64 0, .int .i64 0, .int .u64 0, .int .u64 0, .int .u64 0] 65 (0, 0))] (by kernel_rfl) ?_
  simp only [List.drop_succ_cons, List.drop_zero]; clear HF HM hz3; intro a w HF HM
  refine nil_then ?_
  refine wp_condF HF rfl ?_
  refine wp_skip ?_
  repeat (first | refine then_norm ?_ | refine inb_norm ?_)
  replace HF := HF.sub [(0, .bool false), (1, .bool big), (2, .slice A n c), (6, .int .u32 0), (7, .pointer (some ⟨z1, 0, none⟩)), (8, .bool false)] (by kernel_rfl)
  refine wp_seq (wp_region_lit ?_)
  obtain ⟨z4, hz4⟩ : ∃ z, w.heap.size = z := ⟨_, rfl⟩
  refine wp_sym HF HM hz4 1 [] [(0, .bool false), (1, .bool big), (2, .slice A n c), (6, .int .u32 0), (7, .pointer (some ⟨z1, 0, none⟩)), (8, .bool false), (24, .bool false)] [(z1, .cells #[.string ⟨#[]⟩, .int .i64 0, .int .i64 0, .int .u64 0, .int .u64 0, .int .u64 0, .int .i64 0, .int .i64 0, .int .u64 0, .int .u64 0, .int .u64 0] 65 (0, 0))] (by kernel_rfl) ?_
  simp only [List.drop_succ_cons, List.drop_zero]; clear HF HM hz4; intro a w HF HM
  refine wp_call HF (by kernel_rfl) 53 #[.bool false] (by kernel_rfl) (fun w => by kernel_rfl) (Calls.mono (class_any false w) ?_)
  rintro _ w1 ⟨rfl, hq⟩
  replace HM : Mm w0 w1 [(z1, .cells #[.string ⟨#[]⟩, .int .i64 0, .int .i64 0, .int .u64 0, .int .u64 0, .int .u64 0, .int .i64 0, .int .i64 0, .int .u64 0, .int .u64 0, .int .u64 0] 65 (0, 0))] := by first | (rw [hq]; exact HM) | (rw [← hq]; exact HM)
  clear hq
  refine ⟨_, rfl, ?_⟩; clear HF; intro a HF; replace HF := HF.sub [(0, .bool false), (1, .bool big), (2, .slice A n c), (6, .int .u32 0), (7, .pointer (some ⟨z1, 0, none⟩)), (8, .bool false), (24, .bool false), (25, clsV false)] (by kernel_rfl)
  obtain ⟨z5, hz5⟩ : ∃ z, w1.heap.size = z := ⟨_, rfl⟩
  refine wp_sym HF HM hz5 1 [] [(0, .bool false), (1, .bool big), (2, .slice A n c), (6, .int .u32 0), (7, .pointer (some ⟨z1, 0, none⟩)), (8, .bool false), (24, .bool false), (25, clsV false), (26, .bool big)] [(z1, .cells #[.string ⟨#[]⟩, .int .i64 0, .int .i64 0, .int .u64 0, .int .u64 0, .int .u64 0, .int .i64 0, .int .i64 0, .int .u64 0, .int .u64 0, .int .u64 0] 65 (0, 0))] (by kernel_rfl) ?_
  simp only [List.drop_succ_cons, List.drop_zero]; clear HF HM hz5; intro a w HF HM
  refine wp_call HF (by kernel_rfl) 49 #[.bool big] (by kernel_rfl) (fun w => by kernel_rfl) (Calls.mono (order_any big w) ?_)
  rintro _ w2 ⟨rfl, hq⟩
  replace HM : Mm w0 w2 [(z1, .cells #[.string ⟨#[]⟩, .int .i64 0, .int .i64 0, .int .u64 0, .int .u64 0, .int .u64 0, .int .i64 0, .int .i64 0, .int .u64 0, .int .u64 0, .int .u64 0] 65 (0, 0))] := by first | (rw [hq]; exact HM) | (rw [← hq]; exact HM)
  clear hq
  refine ⟨_, rfl, ?_⟩; clear HF; intro a HF; replace HF := HF.sub [(0, .bool false), (1, .bool big), (2, .slice A n c), (6, .int .u32 0), (7, .pointer (some ⟨z1, 0, none⟩)), (8, .bool false), (24, .bool false), (25, clsV false), (26, .bool big), (27, boV big)] (by kernel_rfl)
  obtain ⟨z6, hz6⟩ : ∃ z, w2.heap.size = z := ⟨_, rfl⟩
  refine wp_sym HF HM hz6 1 [] [(0, .bool false), (1, .bool big), (2, .slice A n c), (6, .int .u32 0), (7, .pointer (some ⟨z1, 0, none⟩)), (8, .bool false), (24, .bool false), (25, clsV false), (26, .bool big), (27, boV big), (28, .slice A n c)] [(z1, .cells #[.string ⟨#[]⟩, .int .i64 0, .int .i64 0, .int .u64 0, .int .u64 0, .int .u64 0, .int .i64 0, .int .i64 0, .int .u64 0, .int .u64 0, .int .u64 0] 65 (0, 0))] (by kernel_rfl) ?_
  simp only [List.drop_succ_cons, List.drop_zero]; clear HF HM hz6; intro a w HF HM
  refine wp_append_new HF HM rfl _ _ 36 rfl rfl 5 Try.underlying36 info_u8 rfl (by decide) rfl A n c (l.map Bv) rfl (by simp [hl]) (by omega) (HM.row hr) (Bv_one l) (by unfold maxLen; omega) (by omega) ?_
  clear HF HM; intro a w g cap cur HM htk hcs hmc hcm hbw HF
  replace HF := HF.sub [(0, .bool false), (1, .bool big), (2, .slice A n c), (6, .int .u32 0), (7, .pointer (some ⟨z1, 0, none⟩)), (8, .bool false), (25, clsV false), (27, boV big), (29, .slice (some ⟨g, 0, none⟩) n cap)] (by kernel_rfl)
  have hrow : Row w (some ⟨g, 0, none⟩) (l.map Bv) := by have := (HM.rowAt (i := 0) rfl).take (n * 1); rwa [htk] at this
  refine wp_call HF (by kernel_rfl) 54 #[clsV false, boV big, .slice (some ⟨g, 0, none⟩) n cap] (by kernel_rfl) (fun w => by kernel_rfl) (Calls.mono ((by have h := zzSec_thin big l g 0 n cap hn hl hmc hcm w hrow; rw [hpv, hnm] at h; exact h)) ?_)
  rintro _ w3 ⟨rfl, hb⟩
  replace HM := HM.call hb
  clear hb
  refine ⟨_, rfl, ?_⟩; clear HF; intro a HF; replace HF := HF.sub [(0, .bool false), (1, .bool big), (2, .slice A n c), (6, .int .u32 0), (7, .pointer (some ⟨z1, 0, none⟩)), (8, .bool false), (25, clsV false), (27, boV big), (29, .slice (some ⟨g, 0, none⟩) n cap), (30, .tuple #[.int .u32 a0, .agg #[.string ⟨#[]⟩, .int .u32 a1, .int .u32 a2, .int .u64 a3, .int .u64 a4, .int .u64 0, .int .u32 a6, .int .u32 a7, .int .u64 a8, .int .u64 a9, .int .u64 a10]])] (by kernel_rfl)
  obtain ⟨z7, hz7⟩ : ∃ z, w3.heap.size = z := ⟨_, rfl⟩
  refine wp_sym HF HM hz7 6 [[2]] [(0, .bool false), (1, .bool big), (2, .slice A n c), (6, .int .u32 0), (7, .pointer (some ⟨z1, 0, none⟩)), (8, .bool false), (9, .int .u32 a0), (10, .pointer (some ⟨z7, 0, none⟩))] [(z7, .cells #[.string ⟨#[]⟩, .int .u32 a1, .int .u32 a2, .int .u64 a3, .int .u64 a4, .int .u64 0, .int .u32 a6, .int .u32 a7, .int .u64 a8, .int .u64 a9, .int .u64 a10] 102 (0, 0)), (g, .cells cur 5 (0, 0)), (z1, .cells #[.string ⟨#[]⟩, .int .i64 0, .int .i64 0, .int .u64 0, .int .u64 0, .int .u64 0, .int .i64 0, .int .i64 0, .int .u64 0, .int .u64 0, .int .u64 0] 65 (0, 0))] (by kernel_rfl) ?_
  simp only [List.drop_succ_cons, List.drop_zero]; clear HF HM hz7; intro a w HF HM
  refine nil_then ?_
  refine reg_quiet 29 (by kernel_rfl) (by kernel_rfl) ?_
  simp only [List.take_succ_cons, List.take_zero]
  obtain ⟨z8, hz8⟩ : ∃ z, w.heap.size = z := ⟨_, rfl⟩
  refine quiet_sym HF HM hz8 29 [[2], [2], [2], [2], [2], [2], [2], [2], [2], [2], [2]] [(0, .bool false), (1, .bool big), (2, .slice A n c), (7, .pointer (some ⟨z1, 0, none⟩)), (8, .bool false), (9, .int .u32 a0), (10, .pointer (some ⟨z7, 0, none⟩)), (6, .int .u32 a0), (60, .agg #[.string ⟨#[]⟩, .int .i64 (IntKind.i64.wrap a1), .int .i64 (IntKind.i64.wrap a2), .int .u64 a3, .int .u64 a4, .int .u64 0, .int .i64 (IntKind.i64.wrap a6), .int .i64 (IntKind.i64.wrap a7), .int .u64 a8, .int .u64 a9, .int .u64 a10])] (by kernel_rfl) ?_
  simp only [List.drop_succ_cons, List.drop_zero]; clear HF hz8; intro a HF
  rw [show IntKind.i64.wrap a1 = a1 from IntWalk.i64_in _ (by omega)] at HF
  rw [show IntKind.i64.wrap a2 = a2 from IntWalk.i64_in _ (by omega)] at HF
  rw [show IntKind.i64.wrap a6 = a6 from IntWalk.i64_in _ (by omega)] at HF
  rw [show IntKind.i64.wrap a7 = a7 from IntWalk.i64_in _ (by omega)] at HF
  refine quiet_end ?_
  rintro _ ⟨nq, rfl⟩
  replace HM := HM.drewN nq
  try simp only [List.drop_succ_cons, List.drop_zero]
  obtain ⟨w, hw⟩ : ∃ w2, w.drewN nq = w2 := ⟨_, rfl⟩
  rw [hw] at HM ⊢
  clear hw
  obtain ⟨z9, hz9⟩ : ∃ z, w.heap.size = z := ⟨_, rfl⟩
  refine wp_sym HF HM hz9 2 [[0]] [(0, .bool false), (1, .bool big), (2, .slice A n c), (7, .pointer (some ⟨z1, 0, none⟩)), (9, .int .u32 a0), (10, .pointer (some ⟨z7, 0, none⟩)), (6, .int .u32 a0), (8, .bool true)] [(z7, .cells #[.string ⟨#[]⟩, .int .u32 a1, .int .u32 a2, .int .u64 a3, .int .u64 a4, .int .u64 0, .int .u32 a6, .int .u32 a7, .int .u64 a8, .int .u64 a9, .int .u64 a10] 102 (0, 0)), (g, .cells cur 5 (0, 0)), (z1, .cells #[.string ⟨#[]⟩, .int .i64 a1, .int .i64 a2, .int .u64 a3, .int .u64 a4, .int .u64 0, .int .i64 a6, .int .i64 a7, .int .u64 a8, .int .u64 a9, .int .u64 a10] 65 (0, 0))] (by kernel_rfl) ?_
  simp only [List.drop_succ_cons, List.drop_zero]; clear HF HM hz9; intro a w HF HM
  refine nil_then ?_
  refine wp_ret ?_
  exact bodyPost_ret (results_tct rfl (HF.getD rfl) (HF.getD rfl) (HF.getD rfl) (HM.get (i := 2) rfl) Try.underlying65 (by kernel_rfl)) HF.1 ⟨rfl, HM.below⟩

set_option maxRecDepth 100000 in
set_option maxHeartbeats 1000000 in
theorem sectionRow2_wide (big : Bool) (l : List UInt8) (A : Option Addr) (n c : Nat) (hn : 64 ≤ n) (hl : n = l.length) (hbn : n ≤ 65536) (a0 a1 a2 a3 a4 a6 a7 a8 a9 a10 : Int) (hnm : ((numB big ((l.drop 0).take 4) : Nat) : Int) = a0) (hpv : secV true big l = .agg #[.string ⟨#[]⟩, .int .u32 a1, .int .u32 a2, .int .u64 a3, .int .u64 a4, .int .u64 0, .int .u32 a6, .int .u32 a7, .int .u64 a8, .int .u64 a9, .int .u64 a10]) (k1 : 0 ≤ a1 ∧ a1 < 4294967296) (k2 : 0 ≤ a2 ∧ a2 < 4294967296) (k6 : 0 ≤ a6 ∧ a6 < 4294967296) (k7 : 0 ≤ a7 ∧ a7 < 4294967296) (w0 : World) (hr : Row w0 A (l.map Bv)) :
    Calls Try.prog 34 #[.bool true, .bool big, .slice A n c] w0 fun e w' => e = .returned (.tuple #[.int .u32 a0, .agg #[.string ⟨#[]⟩, .int .i64 a1, .int .i64 a2, .int .u64 a3, .int .u64 a4, .int .u64 0, .int .i64 a6, .int .i64 a7, .int .u64 a8, .int .u64 a9, .int .u64 a10], .bool true]) ∧ Below w0.heap.size w0 w' := by
  obtain ⟨w, hw⟩ : ∃ w, w0 = w := ⟨_, rfl⟩
  have HM : Mm w0 w [] := hw ▸ Mm.start w0
  conv => arg 4; rw [hw]
  clear hw
  refine calls_start Try.func34 rfl Try.ntmps34 [(0, .bool true), (1, .bool big), (2, .slice A n c)] (by kernel_rfl) (Nat.le_of_ble_eq_true rfl) ?_
  intro a HF
  obtain ⟨z1, hz1⟩ : ∃ z, w.heap.size = z := ⟨_, rfl⟩
  refine reg_sym HF HM hz1 [] [(0, .bool true), (1, .bool big), (2, .slice A n c), (6, .int .u32 0), (7, .pointer (some ⟨z1, 0, none⟩)), (8, .bool false)] [(z1, .cells #[.string ⟨#[]⟩, .int .i64 0, .int .i64 0, .int .u64 0, .int .u64 0, .int .u64 0, .int .i64 0, .int .i64 0, .int .u64 0, .int .u64 0, .int .u64 0] 65 (0, 0))] (by kernel_rfl) ?_
  clear HF HM hz1; intro a w HF HM
  refine wp_seq ?_
  refine wp_seq (wp_region_lit ?_)
  obtain ⟨z2, hz2⟩ : ∃ z, w.heap.size = z := ⟨_, rfl⟩
  refine wp_sym HF HM hz2 3 [] [(0, .bool true), (1, .bool big), (2, .slice A n c), (6, .int .u32 0), (7, .pointer (some ⟨z1, 0, none⟩)), (8, .bool false), (13, .bool (decide ((n : Int) < 40)))] [(z1, .cells #[.string ⟨#[]⟩, .int .i64 0, .int .i64 0, .int .u64 0, .int .u64 0, .int .u64 0, .int .i64 0, .int .i64 0, .int .u64 0, .int .u64 0, .int .u64 0] 65 (0, 0))] (by kernel_rfl) ?_
  simp only [List.drop_succ_cons, List.drop_zero]; clear HF HM hz2; intro a w HF HM
  rw [show decide ((n : Int) < 40) = false from dec_f (by omega)] at HF
  obtain ⟨z3, hz3⟩ : ∃ z, w.heap.size = z := ⟨_, rfl⟩
  refine wp_sym HF HM hz3 6 [] [(0, .bool true), (1, .bool big), (2, .slice A n c), (6, .int .u32 0), (7, .pointer (some ⟨z1, 0, none⟩)), (8, .bool false), (13, .bool false), (14, .bool false), (16, .bool true), (19, .bool (decide ((n : Int) < 64)))] [(z1, .cells #[.string ⟨#[]⟩, .int .i64 0, .int .i64 0, .int .u64 0, .int .u64 0, .int .u64 0, .int .i64 0, .int .i64 0, .int .u64 0, .int .u64 0, .int .u64 0] 65 (0, 0))] (by kernel_rfl) ?_
  simp only [List.drop_succ_cons, List.drop_zero]; clear HF HM hz3; intro a w HF HM
  rw [show decide ((n : Int) < 64) = false from dec_f (by omega)] at HF
  obtain ⟨z4, hz4⟩ : ∃ z, w.heap.size = z := ⟨_, rfl⟩
  refine wp_sym HF HM hz4 2 [] [(0, .bool true), (1, .bool big), (2, .slice A n c), (6, .int .u32 0), (7, .pointer (some ⟨z1, 0, none⟩)), (8, .bool false), (21, .bool false)] [(z1, .cells #[.string ⟨#[]⟩, .int .i64 0, .int .i64 0, .int .u64 0, .int .u64 0, .int .u64 0, .int .i64 0, .int .i64 0, .int .u64 0, .int .u64 0, .int .u64 0] 65 (0, 0))] (by kernel_rfl) ?_
  simp only [List.drop_succ_cons, List.drop_zero]; clear HF HM hz4; intro a w HF HM
  refine nil_then ?_
  refine wp_condF HF rfl ?_
  refine wp_skip ?_
  repeat (first | refine then_norm ?_ | refine inb_norm ?_)
  replace HF := HF.sub [(0, .bool true), (1, .bool big), (2, .slice A n c), (6, .int .u32 0), (7, .pointer (some ⟨z1, 0, none⟩)), (8, .bool false)] (by kernel_rfl)
  refine wp_seq (wp_region_lit ?_)
  obtain ⟨z5, hz5⟩ : ∃ z, w.heap.size = z := ⟨_, rfl⟩
  refine wp_sym HF HM hz5 1 [] [(0, .bool true), (1, .bool big), (2, .slice A n c), (6, .int .u32 0), (7, .pointer (some ⟨z1, 0, none⟩)), (8, .bool false), (24, .bool true)] [(z1, .cells #[.string ⟨#[]⟩, .int .i64 0, .int .i64 0, .int .u64 0, .int .u64 0, .int .u64 0, .int .i64 0, .int .i64 0, .int .u64 0, .int .u64 0, .int .u64 0] 65 (0, 0))] (by kernel_rfl) ?_
  simp only [List.drop_succ_cons, List.drop_zero]; clear HF HM hz5; intro a w HF HM
  refine wp_call HF (by kernel_rfl) 53 #[.bool true] (by kernel_rfl) (fun w => by kernel_rfl) (Calls.mono (class_any true w) ?_)
  rintro _ w1 ⟨rfl, hq⟩
  replace HM : Mm w0 w1 [(z1, .cells #[.string ⟨#[]⟩, .int .i64 0, .int .i64 0, .int .u64 0, .int .u64 0, .int .u64 0, .int .i64 0, .int .i64 0, .int .u64 0, .int .u64 0, .int .u64 0] 65 (0, 0))] := by first | (rw [hq]; exact HM) | (rw [← hq]; exact HM)
  clear hq
  refine ⟨_, rfl, ?_⟩; clear HF; intro a HF; replace HF := HF.sub [(0, .bool true), (1, .bool big), (2, .slice A n c), (6, .int .u32 0), (7, .pointer (some ⟨z1, 0, none⟩)), (8, .bool false), (24, .bool true), (25, clsV true)] (by kernel_rfl)
  obtain ⟨z6, hz6⟩ : ∃ z, w1.heap.size = z := ⟨_, rfl⟩
  refine wp_sym HF HM hz6 1 [] [(0, .bool true), (1, .bool big), (2, .slice A n c), (6, .int .u32 0), (7, .pointer (some ⟨z1, 0, none⟩)), (8, .bool false), (24, .bool true), (25, clsV true), (26, .bool big)] [(z1, .cells #[.string ⟨#[]⟩, .int .i64 0, .int .i64 0, .int .u64 0, .int .u64 0, .int .u64 0, .int .i64 0, .int .i64 0, .int .u64 0, .int .u64 0, .int .u64 0] 65 (0, 0))] (by kernel_rfl) ?_
  simp only [List.drop_succ_cons, List.drop_zero]; clear HF HM hz6; intro a w HF HM
  refine wp_call HF (by kernel_rfl) 49 #[.bool big] (by kernel_rfl) (fun w => by kernel_rfl) (Calls.mono (order_any big w) ?_)
  rintro _ w2 ⟨rfl, hq⟩
  replace HM : Mm w0 w2 [(z1, .cells #[.string ⟨#[]⟩, .int .i64 0, .int .i64 0, .int .u64 0, .int .u64 0, .int .u64 0, .int .i64 0, .int .i64 0, .int .u64 0, .int .u64 0, .int .u64 0] 65 (0, 0))] := by first | (rw [hq]; exact HM) | (rw [← hq]; exact HM)
  clear hq
  refine ⟨_, rfl, ?_⟩; clear HF; intro a HF; replace HF := HF.sub [(0, .bool true), (1, .bool big), (2, .slice A n c), (6, .int .u32 0), (7, .pointer (some ⟨z1, 0, none⟩)), (8, .bool false), (24, .bool true), (25, clsV true), (26, .bool big), (27, boV big)] (by kernel_rfl)
  obtain ⟨z7, hz7⟩ : ∃ z, w2.heap.size = z := ⟨_, rfl⟩
  refine wp_sym HF HM hz7 1 [] [(0, .bool true), (1, .bool big), (2, .slice A n c), (6, .int .u32 0), (7, .pointer (some ⟨z1, 0, none⟩)), (8, .bool false), (24, .bool true), (25, clsV true), (26, .bool big), (27, boV big), (28, .slice A n c)] [(z1, .cells #[.string ⟨#[]⟩, .int .i64 0, .int .i64 0, .int .u64 0, .int .u64 0, .int .u64 0, .int .i64 0, .int .i64 0, .int .u64 0, .int .u64 0, .int .u64 0] 65 (0, 0))] (by kernel_rfl) ?_
  simp only [List.drop_succ_cons, List.drop_zero]; clear HF HM hz7; intro a w HF HM
  refine wp_append_new HF HM rfl _ _ 36 rfl rfl 5 Try.underlying36 info_u8 rfl (by decide) rfl A n c (l.map Bv) rfl (by simp [hl]) (by omega) (HM.row hr) (Bv_one l) (by unfold maxLen; omega) (by omega) ?_
  clear HF HM; intro a w g cap cur HM htk hcs hmc hcm hbw HF
  replace HF := HF.sub [(0, .bool true), (1, .bool big), (2, .slice A n c), (6, .int .u32 0), (7, .pointer (some ⟨z1, 0, none⟩)), (8, .bool false), (25, clsV true), (27, boV big), (29, .slice (some ⟨g, 0, none⟩) n cap)] (by kernel_rfl)
  have hrow : Row w (some ⟨g, 0, none⟩) (l.map Bv) := by have := (HM.rowAt (i := 0) rfl).take (n * 1); rwa [htk] at this
  refine wp_call HF (by kernel_rfl) 54 #[clsV true, boV big, .slice (some ⟨g, 0, none⟩) n cap] (by kernel_rfl) (fun w => by kernel_rfl) (Calls.mono ((by have h := zzSec_wide big l g 0 n cap hn hl hmc hcm w hrow; rw [hpv, hnm] at h; exact h)) ?_)
  rintro _ w3 ⟨rfl, hb⟩
  replace HM := HM.call hb
  clear hb
  refine ⟨_, rfl, ?_⟩; clear HF; intro a HF; replace HF := HF.sub [(0, .bool true), (1, .bool big), (2, .slice A n c), (6, .int .u32 0), (7, .pointer (some ⟨z1, 0, none⟩)), (8, .bool false), (25, clsV true), (27, boV big), (29, .slice (some ⟨g, 0, none⟩) n cap), (30, .tuple #[.int .u32 a0, .agg #[.string ⟨#[]⟩, .int .u32 a1, .int .u32 a2, .int .u64 a3, .int .u64 a4, .int .u64 0, .int .u32 a6, .int .u32 a7, .int .u64 a8, .int .u64 a9, .int .u64 a10]])] (by kernel_rfl)
  obtain ⟨z8, hz8⟩ : ∃ z, w3.heap.size = z := ⟨_, rfl⟩
  refine wp_sym HF HM hz8 6 [[2]] [(0, .bool true), (1, .bool big), (2, .slice A n c), (6, .int .u32 0), (7, .pointer (some ⟨z1, 0, none⟩)), (8, .bool false), (9, .int .u32 a0), (10, .pointer (some ⟨z8, 0, none⟩))] [(z8, .cells #[.string ⟨#[]⟩, .int .u32 a1, .int .u32 a2, .int .u64 a3, .int .u64 a4, .int .u64 0, .int .u32 a6, .int .u32 a7, .int .u64 a8, .int .u64 a9, .int .u64 a10] 102 (0, 0)), (g, .cells cur 5 (0, 0)), (z1, .cells #[.string ⟨#[]⟩, .int .i64 0, .int .i64 0, .int .u64 0, .int .u64 0, .int .u64 0, .int .i64 0, .int .i64 0, .int .u64 0, .int .u64 0, .int .u64 0] 65 (0, 0))] (by kernel_rfl) ?_
  simp only [List.drop_succ_cons, List.drop_zero]; clear HF HM hz8; intro a w HF HM
  refine nil_then ?_
  refine reg_quiet 29 (by kernel_rfl) (by kernel_rfl) ?_
  simp only [List.take_succ_cons, List.take_zero]
  obtain ⟨z9, hz9⟩ : ∃ z, w.heap.size = z := ⟨_, rfl⟩
  refine quiet_sym HF HM hz9 29 [[2], [2], [2], [2], [2], [2], [2], [2], [2], [2], [2]] [(0, .bool true), (1, .bool big), (2, .slice A n c), (7, .pointer (some ⟨z1, 0, none⟩)), (8, .bool false), (9, .int .u32 a0), (10, .pointer (some ⟨z8, 0, none⟩)), (6, .int .u32 a0), (60, .agg #[.string ⟨#[]⟩, .int .i64 (IntKind.i64.wrap a1), .int .i64 (IntKind.i64.wrap a2), .int .u64 a3, .int .u64 a4, .int .u64 0, .int .i64 (IntKind.i64.wrap a6), .int .i64 (IntKind.i64.wrap a7), .int .u64 a8, .int .u64 a9, .int .u64 a10])] (by kernel_rfl) ?_
  simp only [List.drop_succ_cons, List.drop_zero]; clear HF hz9; intro a HF
  rw [show IntKind.i64.wrap a1 = a1 from IntWalk.i64_in _ (by omega)] at HF
  rw [show IntKind.i64.wrap a2 = a2 from IntWalk.i64_in _ (by omega)] at HF
  rw [show IntKind.i64.wrap a6 = a6 from IntWalk.i64_in _ (by omega)] at HF
  rw [show IntKind.i64.wrap a7 = a7 from IntWalk.i64_in _ (by omega)] at HF
  refine quiet_end ?_
  rintro _ ⟨nq, rfl⟩
  replace HM := HM.drewN nq
  try simp only [List.drop_succ_cons, List.drop_zero]
  obtain ⟨w, hw⟩ : ∃ w2, w.drewN nq = w2 := ⟨_, rfl⟩
  rw [hw] at HM ⊢
  clear hw
  obtain ⟨z10, hz10⟩ : ∃ z, w.heap.size = z := ⟨_, rfl⟩
  refine wp_sym HF HM hz10 2 [[0]] [(0, .bool true), (1, .bool big), (2, .slice A n c), (7, .pointer (some ⟨z1, 0, none⟩)), (9, .int .u32 a0), (10, .pointer (some ⟨z8, 0, none⟩)), (6, .int .u32 a0), (8, .bool true)] [(z8, .cells #[.string ⟨#[]⟩, .int .u32 a1, .int .u32 a2, .int .u64 a3, .int .u64 a4, .int .u64 0, .int .u32 a6, .int .u32 a7, .int .u64 a8, .int .u64 a9, .int .u64 a10] 102 (0, 0)), (g, .cells cur 5 (0, 0)), (z1, .cells #[.string ⟨#[]⟩, .int .i64 a1, .int .i64 a2, .int .u64 a3, .int .u64 a4, .int .u64 0, .int .i64 a6, .int .i64 a7, .int .u64 a8, .int .u64 a9, .int .u64 a10] 65 (0, 0))] (by kernel_rfl) ?_
  simp only [List.drop_succ_cons, List.drop_zero]; clear HF HM hz10; intro a w HF HM
  refine nil_then ?_
  refine wp_ret ?_
  exact bodyPost_ret (results_tct rfl (HF.getD rfl) (HF.getD rfl) (HF.getD rfl) (HM.get (i := 2) rfl) Try.underlying65 (by kernel_rfl)) HF.1 ⟨rfl, HM.below⟩

theorem eqGuard_sect (x y : Operand) (xs ys : Array Value) (w : World) : (eqGuard .eql 65 x y (.agg xs) (.agg ys)).run Try.prog w = .ok () w := run_eqGuard_agg _ _ _ _ _ _ _ (by kernel_rfl)
theorem eql_sect (a1 a2 a3 a4 a5 a6 a7 a8 a9 a10 : Int) (w : World) : (binOp .eql 65 (.agg #[.string ⟨#[]⟩, .int .i64 a1, .int .i64 a2, .int .u64 a3, .int .u64 a4, .int .u64 a5, .int .i64 a6, .int .i64 a7, .int .u64 a8, .int .u64 a9, .int .u64 a10]) (.agg #[.string ⟨#[]⟩, .int .i64 a1, .int .i64 a2, .int .u64 a3, .int .u64 a4, .int .u64 a5, .int .i64 a6, .int .i64 a7, .int .u64 a8, .int .u64 a9, .int .u64 a10])).run Try.prog w = .ok (.bool true) w := by
  have u := Try.underlying65
  have u3 := Try.underlying3
  have u30 := Try.underlying30
  have u9 := Try.underlying9
  go_simp
theorem secV_sec (wide big : Bool) (name ty flags addr offset size link info align ent : Nat) (h0 : name < 4294967296) (h1 : ty < 4294967296) (h2 : flags < 4294967296) (h3 : addr < 256 ^ aSz wide) (h4 : offset < 256 ^ aSz wide) (h5 : size < 256 ^ aSz wide) (h6 : link < 4294967296) (h7 : info < 4294967296) (h8 : align < 256 ^ aSz wide) (h9 : ent < 256 ^ aSz wide) :
    ((numB big (((secB wide big name ty flags addr offset size link info align ent).drop 0).take 4) : Nat) : Int) = (name : Nat) ∧ secV wide big (secB wide big name ty flags addr offset size link info align ent) = .agg #[.string ⟨#[]⟩, .int .u32 (ty : Nat), .int .u32 (flags : Nat), .int .u64 (addr : Nat), .int .u64 (offset : Nat), .int .u64 0, .int .u32 (link : Nat), .int .u32 (info : Nat), .int .u64 (align : Nat), .int .u64 (ent : Nat), .int .u64 (size : Nat)] := by
  have h := sec_ok wide big name ty flags addr offset size link info align ent [] h0 h1 h2 h3 h4 h5 h6 h7 h8 h9
  rw [List.append_nil] at h
  obtain ⟨e0, e1, e2, e3, e4, e5, e6, e7, e8, e9⟩ := h
  have ew : IntKind.u32.wrap ((flags : Nat) : Int) = (flags : Nat) := IntWalk.u32_in _ (by omega)
  cases wide <;> simp only [aSz, num, if_true, Bool.false_eq_true, if_false, Nat.reduceMul, Nat.reduceAdd] at e0 e1 e2 e3 e4 e5 e6 e7 e8 e9 <;> simp only [secV, if_true, Bool.false_eq_true, if_false, e0, e1, e2, e3, e4, e5, e6, e7, e8, e9, ew, true_and]

set_option maxRecDepth 100000 in
set_option maxHeartbeats 1000000 in
theorem walkSec_false_name (big : Bool) (nm : ByteArray) (ty flags addr link info align ent size : Nat) (A : Option Addr) (n c : Nat) (name offset : Nat) (hty : ty < 4294967296) (hfl : flags < 4294967296) (had : addr < 18446744073709551616) (hli : link < 4294967296) (hin : info < 4294967296) (hal : align < 18446744073709551616) (hen : ent < 18446744073709551616) (hsi : size < 18446744073709551616) (hna : name < 4294967296) (hof : offset < 4294967296) (h1 : 2147483647 < nm.size) (w0 : World) :
    Calls Try.prog 13 #[.bool false, .bool big, .agg #[.string nm, .int .u32 (ty : Nat), .int .u32 (flags : Nat), .int .u64 (addr : Nat), .int .u32 (link : Nat), .int .u32 (info : Nat), .int .u64 (align : Nat), .int .u64 (ent : Nat), .int .u64 (size : Nat), .slice A n c], .int .u32 (name : Nat), .int .u32 (offset : Nat)] w0 fun e w' => e = .returned (.bool true) ∧ Below w0.heap.size w0 w' := by
  obtain ⟨w, hw⟩ : ∃ w, w0 = w := ⟨_, rfl⟩
  have HM : Mm w0 w [] := hw ▸ Mm.start w0
  conv => arg 4; rw [hw]
  clear hw
  refine calls_start Try.func13 rfl Try.ntmps13 [(0, .bool false), (1, .bool big), (2, .agg #[.string nm, .int .u32 (ty : Nat), .int .u32 (flags : Nat), .int .u64 (addr : Nat), .int .u32 (link : Nat), .int .u32 (info : Nat), .int .u64 (align : Nat), .int .u64 (ent : Nat), .int .u64 (size : Nat), .slice A n c]), (3, .int .u32 (name : Nat)), (4, .int .u32 (offset : Nat))] (by kernel_rfl) (Nat.le_of_ble_eq_true rfl) ?_
  intro a HF
  obtain ⟨z1, hz1⟩ : ∃ z, w.heap.size = z := ⟨_, rfl⟩
  refine reg_sym HF HM hz1 [] [(0, .bool false), (1, .bool big), (3, .int .u32 (name : Nat)), (4, .int .u32 (offset : Nat)), (7, .pointer (some ⟨z1, 0, none⟩)), (10, .bool false)] [(z1, .cells #[.string nm, .int .u32 (ty : Nat), .int .u32 (flags : Nat), .int .u64 (addr : Nat), .int .u32 (link : Nat), .int .u32 (info : Nat), .int .u64 (align : Nat), .int .u64 (ent : Nat), .int .u64 (size : Nat), .slice A n c] 62 (0, 0))] (by kernel_rfl) ?_
  clear HF HM hz1; intro a w HF HM
  refine wp_seq ?_
  refine wp_seq (wp_region_lit ?_)
  obtain ⟨z2, hz2⟩ : ∃ z, w.heap.size = z := ⟨_, rfl⟩
  refine wp_sym HF HM hz2 1 [[0]] [(0, .bool false), (1, .bool big), (3, .int .u32 (name : Nat)), (4, .int .u32 (offset : Nat)), (7, .pointer (some ⟨z1, 0, none⟩)), (10, .bool false), (16, .agg #[.string nm, .int .u32 (ty : Nat), .int .u32 (flags : Nat), .int .u64 (addr : Nat), .int .u32 (link : Nat), .int .u32 (info : Nat), .int .u64 (align : Nat), .int .u64 (ent : Nat), .int .u64 (size : Nat), .slice A n c])] [(z1, .cells #[.string nm, .int .u32 (ty : Nat), .int .u32 (flags : Nat), .int .u64 (addr : Nat), .int .u32 (link : Nat), .int .u32 (info : Nat), .int .u64 (align : Nat), .int .u64 (ent : Nat), .int .u64 (size : Nat), .slice A n c] 62 (0, 0))] (by kernel_rfl) ?_
  simp only [List.drop_succ_cons, List.drop_zero]; clear HF HM hz2; intro a w HF HM
  refine wp_call HF (by kernel_rfl) 33 #[.agg #[.string nm, .int .u32 (ty : Nat), .int .u32 (flags : Nat), .int .u64 (addr : Nat), .int .u32 (link : Nat), .int .u32 (info : Nat), .int .u64 (align : Nat), .int .u64 (ent : Nat), .int .u64 (size : Nat), .slice A n c]] (by kernel_rfl) (fun w => by kernel_rfl) (Calls.mono (zzFits5_name nm ty flags addr link info align ent size A n c h1 w) ?_)
  rintro _ w1 ⟨rfl, hb⟩
  replace HM := HM.call hb
  clear hb
  refine ⟨_, rfl, ?_⟩; clear HF; intro a HF; replace HF := HF.sub [(0, .bool false), (1, .bool big), (3, .int .u32 (name : Nat)), (4, .int .u32 (offset : Nat)), (7, .pointer (some ⟨z1, 0, none⟩)), (10, .bool false), (16, .agg #[.string nm, .int .u32 (ty : Nat), .int .u32 (flags : Nat), .int .u64 (addr : Nat), .int .u32 (link : Nat), .int .u32 (info : Nat), .int .u64 (align : Nat), .int .u64 (ent : Nat), .int .u64 (size : Nat), .slice A n c]), (17, .bool false)] (by kernel_rfl)
  obtain ⟨z3, hz3⟩ : ∃ z, w1.heap.size = z := ⟨_, rfl⟩
  refine wp_sym HF HM hz3 1 [] [(0, .bool false), (1, .bool big), (3, .int .u32 (name : Nat)), (4, .int .u32 (offset : Nat)), (7, .pointer (some ⟨z1, 0, none⟩)), (10, .bool false), (18, .bool true)] [(z1, .cells #[.string nm, .int .u32 (ty : Nat), .int .u32 (flags : Nat), .int .u64 (addr : Nat), .int .u32 (link : Nat), .int .u32 (info : Nat), .int .u64 (align : Nat), .int .u64 (ent : Nat), .int .u64 (size : Nat), .slice A n c] 62 (0, 0))] (by kernel_rfl) ?_
  simp only [List.drop_succ_cons, List.drop_zero]; clear HF HM hz3; intro a w HF HM
  refine nil_then ?_
  refine wp_condT HF rfl ?_
  obtain ⟨z4, hz4⟩ : ∃ z, w.heap.size = z := ⟨_, rfl⟩
  refine reg_sym HF HM hz4 [] [(0, .bool false), (1, .bool big), (3, .int .u32 (name : Nat)), (4, .int .u32 (offset : Nat)), (7, .pointer (some ⟨z1, 0, none⟩)), (18, .bool true), (10, .bool true)] [(z1, .cells #[.string nm, .int .u32 (ty : Nat), .int .u32 (flags : Nat), .int .u64 (addr : Nat), .int .u32 (link : Nat), .int .u32 (info : Nat), .int .u64 (align : Nat), .int .u64 (ent : Nat), .int .u64 (size : Nat), .slice A n c] 62 (0, 0))] (by kernel_rfl) ?_
  clear HF HM hz4; intro a w HF HM
  refine wp_ret ?_
  repeat (first | refine then_ret ?_ | refine inb_ret ?_)
  exact ret_one HF rfl rfl ⟨rfl, HM.below⟩

set_option maxRecDepth 100000 in
set_option maxHeartbeats 1000000 in
theorem walkSec_false_data (big : Bool) (nm : ByteArray) (ty flags addr link info align ent size : Nat) (A : Option Addr) (n c : Nat) (name offset : Nat) (hty : ty < 4294967296) (hfl : flags < 4294967296) (had : addr < 18446744073709551616) (hli : link < 4294967296) (hin : info < 4294967296) (hal : align < 18446744073709551616) (hen : ent < 18446744073709551616) (hsi : size < 18446744073709551616) (hna : name < 4294967296) (hof : offset < 4294967296) (h1 : nm.size ≤ 2147483647) (h2 : 2147483647 < n) (w0 : World) :
    Calls Try.prog 13 #[.bool false, .bool big, .agg #[.string nm, .int .u32 (ty : Nat), .int .u32 (flags : Nat), .int .u64 (addr : Nat), .int .u32 (link : Nat), .int .u32 (info : Nat), .int .u64 (align : Nat), .int .u64 (ent : Nat), .int .u64 (size : Nat), .slice A n c], .int .u32 (name : Nat), .int .u32 (offset : Nat)] w0 fun e w' => e = .returned (.bool true) ∧ Below w0.heap.size w0 w' := by
  obtain ⟨w, hw⟩ : ∃ w, w0 = w := ⟨_, rfl⟩
  have HM : Mm w0 w [] := hw ▸ Mm.start w0
  conv => arg 4; rw [hw]
  clear hw
  refine calls_start Try.func13 rfl Try.ntmps13 [(0, .bool false), (1, .bool big), (2, .agg #[.string nm, .int .u32 (ty : Nat), .int .u32 (flags : Nat), .int .u64 (addr : Nat), .int .u32 (link : Nat), .int .u32 (info : Nat), .int .u64 (align : Nat), .int .u64 (ent : Nat), .int .u64 (size : Nat), .slice A n c]), (3, .int .u32 (name : Nat)), (4, .int .u32 (offset : Nat))] (by kernel_rfl) (Nat.le_of_ble_eq_true rfl) ?_
  intro a HF
  obtain ⟨z1, hz1⟩ : ∃ z, w.heap.size = z := ⟨_, rfl⟩
  refine reg_sym HF HM hz1 [] [(0, .bool false), (1, .bool big), (3, .int .u32 (name : Nat)), (4, .int .u32 (offset : Nat)), (7, .pointer (some ⟨z1, 0, none⟩)), (10, .bool false)] [(z1, .cells #[.string nm, .int .u32 (ty : Nat), .int .u32 (flags : Nat), .int .u64 (addr : Nat), .int .u32 (link : Nat), .int .u32 (info : Nat), .int .u64 (align : Nat), .int .u64 (ent : Nat), .int .u64 (size : Nat), .slice A n c] 62 (0, 0))] (by kernel_rfl) ?_
  clear HF HM hz1; intro a w HF HM
  refine wp_seq ?_
  refine wp_seq (wp_region_lit ?_)
  obtain ⟨z2, hz2⟩ : ∃ z, w.heap.size = z := ⟨_, rfl⟩
  refine wp_sym HF HM hz2 1 [[0]] [(0, .bool false), (1, .bool big), (3, .int .u32 (name : Nat)), (4, .int .u32 (offset : Nat)), (7, .pointer (some ⟨z1, 0, none⟩)), (10, .bool false), (16, .agg #[.string nm, .int .u32 (ty : Nat), .int .u32 (flags : Nat), .int .u64 (addr : Nat), .int .u32 (link : Nat), .int .u32 (info : Nat), .int .u64 (align : Nat), .int .u64 (ent : Nat), .int .u64 (size : Nat), .slice A n c])] [(z1, .cells #[.string nm, .int .u32 (ty : Nat), .int .u32 (flags : Nat), .int .u64 (addr : Nat), .int .u32 (link : Nat), .int .u32 (info : Nat), .int .u64 (align : Nat), .int .u64 (ent : Nat), .int .u64 (size : Nat), .slice A n c] 62 (0, 0))] (by kernel_rfl) ?_
  simp only [List.drop_succ_cons, List.drop_zero]; clear HF HM hz2; intro a w HF HM
  refine wp_call HF (by kernel_rfl) 33 #[.agg #[.string nm, .int .u32 (ty : Nat), .int .u32 (flags : Nat), .int .u64 (addr : Nat), .int .u32 (link : Nat), .int .u32 (info : Nat), .int .u64 (align : Nat), .int .u64 (ent : Nat), .int .u64 (size : Nat), .slice A n c]] (by kernel_rfl) (fun w => by kernel_rfl) (Calls.mono (zzFits5_data nm ty flags addr link info align ent size A n c h1 h2 w) ?_)
  rintro _ w1 ⟨rfl, hb⟩
  replace HM := HM.call hb
  clear hb
  refine ⟨_, rfl, ?_⟩; clear HF; intro a HF; replace HF := HF.sub [(0, .bool false), (1, .bool big), (3, .int .u32 (name : Nat)), (4, .int .u32 (offset : Nat)), (7, .pointer (some ⟨z1, 0, none⟩)), (10, .bool false), (16, .agg #[.string nm, .int .u32 (ty : Nat), .int .u32 (flags : Nat), .int .u64 (addr : Nat), .int .u32 (link : Nat), .int .u32 (info : Nat), .int .u64 (align : Nat), .int .u64 (ent : Nat), .int .u64 (size : Nat), .slice A n c]), (17, .bool false)] (by kernel_rfl)
  obtain ⟨z3, hz3⟩ : ∃ z, w1.heap.size = z := ⟨_, rfl⟩
  refine wp_sym HF HM hz3 1 [] [(0, .bool false), (1, .bool big), (3, .int .u32 (name : Nat)), (4, .int .u32 (offset : Nat)), (7, .pointer (some ⟨z1, 0, none⟩)), (10, .bool false), (18, .bool true)] [(z1, .cells #[.string nm, .int .u32 (ty : Nat), .int .u32 (flags : Nat), .int .u64 (addr : Nat), .int .u32 (link : Nat), .int .u32 (info : Nat), .int .u64 (align : Nat), .int .u64 (ent : Nat), .int .u64 (size : Nat), .slice A n c] 62 (0, 0))] (by kernel_rfl) ?_
  simp only [List.drop_succ_cons, List.drop_zero]; clear HF HM hz3; intro a w HF HM
  refine nil_then ?_
  refine wp_condT HF rfl ?_
  obtain ⟨z4, hz4⟩ : ∃ z, w.heap.size = z := ⟨_, rfl⟩
  refine reg_sym HF HM hz4 [] [(0, .bool false), (1, .bool big), (3, .int .u32 (name : Nat)), (4, .int .u32 (offset : Nat)), (7, .pointer (some ⟨z1, 0, none⟩)), (18, .bool true), (10, .bool true)] [(z1, .cells #[.string nm, .int .u32 (ty : Nat), .int .u32 (flags : Nat), .int .u64 (addr : Nat), .int .u32 (link : Nat), .int .u32 (info : Nat), .int .u64 (align : Nat), .int .u64 (ent : Nat), .int .u64 (size : Nat), .slice A n c] 62 (0, 0))] (by kernel_rfl) ?_
  clear HF HM hz4; intro a w HF HM
  refine wp_ret ?_
  repeat (first | refine then_ret ?_ | refine inb_ret ?_)
  exact ret_one HF rfl rfl ⟨rfl, HM.below⟩

set_option maxRecDepth 100000 in
set_option maxHeartbeats 1000000 in
theorem walkSec_false_fits (big : Bool) (nm : ByteArray) (ty flags addr link info align ent size : Nat) (A : Option Addr) (n c : Nat) (name offset : Nat) (hty : ty < 4294967296) (hfl : flags < 4294967296) (had : addr < 18446744073709551616) (hli : link < 4294967296) (hin : info < 4294967296) (hal : align < 18446744073709551616) (hen : ent < 18446744073709551616) (hsi : size < 18446744073709551616) (hna : name < 4294967296) (hof : offset < 4294967296) (h1 : nm.size ≤ 2147483647) (h2 : n ≤ 2147483647) (hfb : fitsB false [addr, align, ent, size] = false) (w0 : World) :
    Calls Try.prog 13 #[.bool false, .bool big, .agg #[.string nm, .int .u32 (ty : Nat), .int .u32 (flags : Nat), .int .u64 (addr : Nat), .int .u32 (link : Nat), .int .u32 (info : Nat), .int .u64 (align : Nat), .int .u64 (ent : Nat), .int .u64 (size : Nat), .slice A n c], .int .u32 (name : Nat), .int .u32 (offset : Nat)] w0 fun e w' => e = .returned (.bool true) ∧ Below w0.heap.size w0 w' := by
  obtain ⟨w, hw⟩ : ∃ w, w0 = w := ⟨_, rfl⟩
  have HM : Mm w0 w [] := hw ▸ Mm.start w0
  conv => arg 4; rw [hw]
  clear hw
  refine calls_start Try.func13 rfl Try.ntmps13 [(0, .bool false), (1, .bool big), (2, .agg #[.string nm, .int .u32 (ty : Nat), .int .u32 (flags : Nat), .int .u64 (addr : Nat), .int .u32 (link : Nat), .int .u32 (info : Nat), .int .u64 (align : Nat), .int .u64 (ent : Nat), .int .u64 (size : Nat), .slice A n c]), (3, .int .u32 (name : Nat)), (4, .int .u32 (offset : Nat))] (by kernel_rfl) (Nat.le_of_ble_eq_true rfl) ?_
  intro a HF
  obtain ⟨z1, hz1⟩ : ∃ z, w.heap.size = z := ⟨_, rfl⟩
  refine reg_sym HF HM hz1 [] [(0, .bool false), (1, .bool big), (3, .int .u32 (name : Nat)), (4, .int .u32 (offset : Nat)), (7, .pointer (some ⟨z1, 0, none⟩)), (10, .bool false)] [(z1, .cells #[.string nm, .int .u32 (ty : Nat), .int .u32 (flags : Nat), .int .u64 (addr : Nat), .int .u32 (link : Nat), .int .u32 (info : Nat), .int .u64 (align : Nat), .int .u64 (ent : Nat), .int .u64 (size : Nat), .slice A n c] 62 (0, 0))] (by kernel_rfl) ?_
  clear HF HM hz1; intro a w HF HM
  refine wp_seq ?_
  refine wp_seq (wp_region_lit ?_)
  obtain ⟨z2, hz2⟩ : ∃ z, w.heap.size = z := ⟨_, rfl⟩
  refine wp_sym HF HM hz2 1 [[0]] [(0, .bool false), (1, .bool big), (3, .int .u32 (name : Nat)), (4, .int .u32 (offset : Nat)), (7, .pointer (some ⟨z1, 0, none⟩)), (10, .bool false), (16, .agg #[.string nm, .int .u32 (ty : Nat), .int .u32 (flags : Nat), .int .u64 (addr : Nat), .int .u32 (link : Nat), .int .u32 (info : Nat), .int .u64 (align : Nat), .int .u64 (ent : Nat), .int .u64 (size : Nat), .slice A n c])] [(z1, .cells #[.string nm, .int .u32 (ty : Nat), .int .u32 (flags : Nat), .int .u64 (addr : Nat), .int .u32 (link : Nat), .int .u32 (info : Nat), .int .u64 (align : Nat), .int .u64 (ent : Nat), .int .u64 (size : Nat), .slice A n c] 62 (0, 0))] (by kernel_rfl) ?_
  simp only [List.drop_succ_cons, List.drop_zero]; clear HF HM hz2; intro a w HF HM
  refine wp_call HF (by kernel_rfl) 33 #[.agg #[.string nm, .int .u32 (ty : Nat), .int .u32 (flags : Nat), .int .u64 (addr : Nat), .int .u32 (link : Nat), .int .u32 (info : Nat), .int .u64 (align : Nat), .int .u64 (ent : Nat), .int .u64 (size : Nat), .slice A n c]] (by kernel_rfl) (fun w => by kernel_rfl) (Calls.mono (zzFits5_in nm ty flags addr link info align ent size A n c h1 h2 w) ?_)
  rintro _ w1 ⟨rfl, hb⟩
  replace HM := HM.call hb
  clear hb
  refine ⟨_, rfl, ?_⟩; clear HF; intro a HF; replace HF := HF.sub [(0, .bool false), (1, .bool big), (3, .int .u32 (name : Nat)), (4, .int .u32 (offset : Nat)), (7, .pointer (some ⟨z1, 0, none⟩)), (10, .bool false), (16, .agg #[.string nm, .int .u32 (ty : Nat), .int .u32 (flags : Nat), .int .u64 (addr : Nat), .int .u32 (link : Nat), .int .u32 (info : Nat), .int .u64 (align : Nat), .int .u64 (ent : Nat), .int .u64 (size : Nat), .slice A n c]), (17, .bool true)] (by kernel_rfl)
  obtain ⟨z3, hz3⟩ : ∃ z, w1.heap.size = z := ⟨_, rfl⟩
  refine wp_sym HF HM hz3 1 [] [(0, .bool false), (1, .bool big), (3, .int .u32 (name : Nat)), (4, .int .u32 (offset : Nat)), (7, .pointer (some ⟨z1, 0, none⟩)), (10, .bool false), (18, .bool false)] [(z1, .cells #[.string nm, .int .u32 (ty : Nat), .int .u32 (flags : Nat), .int .u64 (addr : Nat), .int .u32 (link : Nat), .int .u32 (info : Nat), .int .u64 (align : Nat), .int .u64 (ent : Nat), .int .u64 (size : Nat), .slice A n c] 62 (0, 0))] (by kernel_rfl) ?_
  simp only [List.drop_succ_cons, List.drop_zero]; clear HF HM hz3; intro a w HF HM
  refine nil_then ?_
  refine wp_condF HF rfl ?_
  refine wp_skip ?_
  repeat (first | refine then_norm ?_ | refine inb_norm ?_)
  replace HF := HF.sub [(0, .bool false), (1, .bool big), (3, .int .u32 (name : Nat)), (4, .int .u32 (offset : Nat)), (7, .pointer (some ⟨z1, 0, none⟩)), (10, .bool false)] (by kernel_rfl)
  obtain ⟨z4, hz4⟩ : ∃ z, w.heap.size = z := ⟨_, rfl⟩
  refine reg_sym HF HM hz4 [[1]] [(0, .bool false), (1, .bool big), (3, .int .u32 (name : Nat)), (4, .int .u32 (offset : Nat)), (7, .pointer (some ⟨z1, 0, none⟩)), (10, .bool false), (11, .pointer (some ⟨z4, 0, none⟩))] [(z4, .cells #[.bool false, .bool big, .int .u8 0, .int .u8 0, .int .i64 0, .int .i64 0, .int .u64 0, .slice none 0 0, .slice none 0 0] 46 (0, 0)), (z1, .cells #[.string nm, .int .u32 (ty : Nat), .int .u32 (flags : Nat), .int .u64 (addr : Nat), .int .u32 (link : Nat), .int .u32 (info : Nat), .int .u64 (align : Nat), .int .u64 (ent : Nat), .int .u64 (size : Nat), .slice A n c] 62 (0, 0))] (by kernel_rfl) ?_
  clear HF HM hz4; intro a w HF HM
  refine wp_seq ?_
  refine wp_seq (wp_region_lit ?_)
  obtain ⟨z5, hz5⟩ : ∃ z, w.heap.size = z := ⟨_, rfl⟩
  refine wp_sym HF HM hz5 10 [[1], [0], [0], [0], [0]] [(0, .bool false), (1, .bool big), (3, .int .u32 (name : Nat)), (4, .int .u32 (offset : Nat)), (7, .pointer (some ⟨z1, 0, none⟩)), (10, .bool false), (11, .pointer (some ⟨z4, 0, none⟩)), (22, .agg #[.bool false, .bool big, .int .u8 0, .int .u8 0, .int .i64 0, .int .i64 0, .int .u64 0, .slice none 0 0, .slice none 0 0]), (31, .slice (some ⟨z5, 0, none⟩) 4 4)] [(z5, .cells #[.int .u64 (addr : Nat), .int .u64 (align : Nat), .int .u64 (ent : Nat), .int .u64 (size : Nat)] 30 (0, 0)), (z4, .cells #[.bool false, .bool big, .int .u8 0, .int .u8 0, .int .i64 0, .int .i64 0, .int .u64 0, .slice none 0 0, .slice none 0 0] 46 (0, 0)), (z1, .cells #[.string nm, .int .u32 (ty : Nat), .int .u32 (flags : Nat), .int .u64 (addr : Nat), .int .u32 (link : Nat), .int .u32 (info : Nat), .int .u64 (align : Nat), .int .u64 (ent : Nat), .int .u64 (size : Nat), .slice A n c] 62 (0, 0))] (by kernel_rfl) ?_
  simp only [List.drop_succ_cons, List.drop_zero]; clear HF HM hz5; intro a w HF HM
  have hrf : Row w (some ⟨z5, 0, none⟩) ([addr, align, ent, size].map fun (k : Nat) => Value.int .u64 (k : Int)) := HM.rowAt (i := 0) rfl
  refine wp_call HF (by kernel_rfl) 26 #[.agg #[.bool false, .bool big, .int .u8 0, .int .u8 0, .int .i64 0, .int .i64 0, .int .u64 0, .slice none 0 0, .slice none 0 0], .slice (some ⟨z5, 0, none⟩) 4 4] (by kernel_rfl) (fun w => by kernel_rfl) (Calls.mono ((by have h := fits_any false (.bool big) (.int .u8 0) (.int .u8 0) (.int .i64 0) (.int .i64 0) (.int .u64 0) (.slice none 0 0) (.slice none 0 0) [addr, align, ent, size] (some ⟨z5, 0, none⟩) 4 4 rfl (by decide) w hrf; rw [hfb] at h; exact h)) ?_)
  rintro _ w2 ⟨rfl, hb⟩
  replace HM := HM.call hb
  clear hb
  refine ⟨_, rfl, ?_⟩; clear HF; intro a HF; replace HF := HF.sub [(0, .bool false), (1, .bool big), (3, .int .u32 (name : Nat)), (4, .int .u32 (offset : Nat)), (7, .pointer (some ⟨z1, 0, none⟩)), (10, .bool false), (11, .pointer (some ⟨z4, 0, none⟩)), (22, .agg #[.bool false, .bool big, .int .u8 0, .int .u8 0, .int .i64 0, .int .i64 0, .int .u64 0, .slice none 0 0, .slice none 0 0]), (31, .slice (some ⟨z5, 0, none⟩) 4 4), (32, .bool false)] (by kernel_rfl)
  replace HF := HF.sub [(0, .bool false), (1, .bool big), (3, .int .u32 (name : Nat)), (4, .int .u32 (offset : Nat)), (7, .pointer (some ⟨z1, 0, none⟩)), (10, .bool false), (11, .pointer (some ⟨z4, 0, none⟩)), (32, .bool false)] (by kernel_rfl)
  obtain ⟨z6, hz6⟩ : ∃ z, w2.heap.size = z := ⟨_, rfl⟩
  refine wp_sym HF HM hz6 7 [] [(0, .bool false), (1, .bool big), (3, .int .u32 (name : Nat)), (4, .int .u32 (offset : Nat)), (7, .pointer (some ⟨z1, 0, none⟩)), (10, .bool false), (11, .pointer (some ⟨z4, 0, none⟩)), (39, .bool true)] [(z5, .cells #[.int .u64 (addr : Nat), .int .u64 (align : Nat), .int .u64 (ent : Nat), .int .u64 (size : Nat)] 30 (0, 0)), (z4, .cells #[.bool false, .bool big, .int .u8 0, .int .u8 0, .int .i64 0, .int .i64 0, .int .u64 0, .slice none 0 0, .slice none 0 0] 46 (0, 0)), (z1, .cells #[.string nm, .int .u32 (ty : Nat), .int .u32 (flags : Nat), .int .u64 (addr : Nat), .int .u32 (link : Nat), .int .u32 (info : Nat), .int .u64 (align : Nat), .int .u64 (ent : Nat), .int .u64 (size : Nat), .slice A n c] 62 (0, 0))] (by kernel_rfl) ?_
  simp only [List.drop_succ_cons, List.drop_zero]; clear HF HM hz6; intro a w HF HM
  refine nil_then ?_
  refine wp_condT HF rfl ?_
  obtain ⟨z7, hz7⟩ : ∃ z, w.heap.size = z := ⟨_, rfl⟩
  refine reg_sym HF HM hz7 [] [(0, .bool false), (1, .bool big), (3, .int .u32 (name : Nat)), (4, .int .u32 (offset : Nat)), (7, .pointer (some ⟨z1, 0, none⟩)), (11, .pointer (some ⟨z4, 0, none⟩)), (39, .bool true), (10, .bool true)] [(z5, .cells #[.int .u64 (addr : Nat), .int .u64 (align : Nat), .int .u64 (ent : Nat), .int .u64 (size : Nat)] 30 (0, 0)), (z4, .cells #[.bool false, .bool big, .int .u8 0, .int .u8 0, .int .i64 0, .int .i64 0, .int .u64 0, .slice none 0 0, .slice none 0 0] 46 (0, 0)), (z1, .cells #[.string nm, .int .u32 (ty : Nat), .int .u32 (flags : Nat), .int .u64 (addr : Nat), .int .u32 (link : Nat), .int .u32 (info : Nat), .int .u64 (align : Nat), .int .u64 (ent : Nat), .int .u64 (size : Nat), .slice A n c] 62 (0, 0))] (by kernel_rfl) ?_
  clear HF HM hz7; intro a w HF HM
  refine wp_ret ?_
  repeat (first | refine then_ret ?_ | refine inb_ret ?_)
  exact ret_one HF rfl rfl ⟨rfl, HM.below⟩

set_option maxRecDepth 100000 in
set_option maxHeartbeats 1000000 in
theorem walkSec_false_long (big : Bool) (nm : ByteArray) (ty flags addr link info align ent size : Nat) (A : Option Addr) (n c : Nat) (name offset : Nat) (hty : ty < 4294967296) (hfl : flags < 4294967296) (had : addr < 18446744073709551616) (hli : link < 4294967296) (hin : info < 4294967296) (hal : align < 18446744073709551616) (hen : ent < 18446744073709551616) (hsi : size < 18446744073709551616) (hna : name < 4294967296) (hof : offset < 4294967296) (h1 : nm.size ≤ 2147483647) (h2 : n ≤ 2147483647) (hfb : fitsB false [addr, align, ent, size] = true) (hlong : 65536 < n) (w0 : World) :
    Calls Try.prog 13 #[.bool false, .bool big, .agg #[.string nm, .int .u32 (ty : Nat), .int .u32 (flags : Nat), .int .u64 (addr : Nat), .int .u32 (link : Nat), .int .u32 (info : Nat), .int .u64 (align : Nat), .int .u64 (ent : Nat), .int .u64 (size : Nat), .slice A n c], .int .u32 (name : Nat), .int .u32 (offset : Nat)] w0 fun e w' => e = .returned (.bool true) ∧ Below w0.heap.size w0 w' := by
  obtain ⟨w, hw⟩ : ∃ w, w0 = w := ⟨_, rfl⟩
  have HM : Mm w0 w [] := hw ▸ Mm.start w0
  conv => arg 4; rw [hw]
  clear hw
  refine calls_start Try.func13 rfl Try.ntmps13 [(0, .bool false), (1, .bool big), (2, .agg #[.string nm, .int .u32 (ty : Nat), .int .u32 (flags : Nat), .int .u64 (addr : Nat), .int .u32 (link : Nat), .int .u32 (info : Nat), .int .u64 (align : Nat), .int .u64 (ent : Nat), .int .u64 (size : Nat), .slice A n c]), (3, .int .u32 (name : Nat)), (4, .int .u32 (offset : Nat))] (by kernel_rfl) (Nat.le_of_ble_eq_true rfl) ?_
  intro a HF
  obtain ⟨z1, hz1⟩ : ∃ z, w.heap.size = z := ⟨_, rfl⟩
  refine reg_sym HF HM hz1 [] [(0, .bool false), (1, .bool big), (3, .int .u32 (name : Nat)), (4, .int .u32 (offset : Nat)), (7, .pointer (some ⟨z1, 0, none⟩)), (10, .bool false)] [(z1, .cells #[.string nm, .int .u32 (ty : Nat), .int .u32 (flags : Nat), .int .u64 (addr : Nat), .int .u32 (link : Nat), .int .u32 (info : Nat), .int .u64 (align : Nat), .int .u64 (ent : Nat), .int .u64 (size : Nat), .slice A n c] 62 (0, 0))] (by kernel_rfl) ?_
  clear HF HM hz1; intro a w HF HM
  refine wp_seq ?_
  refine wp_seq (wp_region_lit ?_)
  obtain ⟨z2, hz2⟩ : ∃ z, w.heap.size = z := ⟨_, rfl⟩
  refine wp_sym HF HM hz2 1 [[0]] [(0, .bool false), (1, .bool big), (3, .int .u32 (name : Nat)), (4, .int .u32 (offset : Nat)), (7, .pointer (some ⟨z1, 0, none⟩)), (10, .bool false), (16, .agg #[.string nm, .int .u32 (ty : Nat), .int .u32 (flags : Nat), .int .u64 (addr : Nat), .int .u32 (link : Nat), .int .u32 (info : Nat), .int .u64 (align : Nat), .int .u64 (ent : Nat), .int .u64 (size : Nat), .slice A n c])] [(z1, .cells #[.string nm, .int .u32 (ty : Nat), .int .u32 (flags : Nat), .int .u64 (addr : Nat), .int .u32 (link : Nat), .int .u32 (info : Nat), .int .u64 (align : Nat), .int .u64 (ent : Nat), .int .u64 (size : Nat), .slice A n c] 62 (0, 0))] (by kernel_rfl) ?_
  simp only [List.drop_succ_cons, List.drop_zero]; clear HF HM hz2; intro a w HF HM
  refine wp_call HF (by kernel_rfl) 33 #[.agg #[.string nm, .int .u32 (ty : Nat), .int .u32 (flags : Nat), .int .u64 (addr : Nat), .int .u32 (link : Nat), .int .u32 (info : Nat), .int .u64 (align : Nat), .int .u64 (ent : Nat), .int .u64 (size : Nat), .slice A n c]] (by kernel_rfl) (fun w => by kernel_rfl) (Calls.mono (zzFits5_in nm ty flags addr link info align ent size A n c h1 h2 w) ?_)
  rintro _ w1 ⟨rfl, hb⟩
  replace HM := HM.call hb
  clear hb
  refine ⟨_, rfl, ?_⟩; clear HF; intro a HF; replace HF := HF.sub [(0, .bool false), (1, .bool big), (3, .int .u32 (name : Nat)), (4, .int .u32 (offset : Nat)), (7, .pointer (some ⟨z1, 0, none⟩)), (10, .bool false), (16, .agg #[.string nm, .int .u32 (ty : Nat), .int .u32 (flags : Nat), .int .u64 (addr : Nat), .int .u32 (link : Nat), .int .u32 (info : Nat), .int .u64 (align : Nat), .int .u64 (ent : Nat), .int .u64 (size : Nat), .slice A n c]), (17, .bool true)] (by kernel_rfl)
  obtain ⟨z3, hz3⟩ : ∃ z, w1.heap.size = z := ⟨_, rfl⟩
  refine wp_sym HF HM hz3 1 [] [(0, .bool false), (1, .bool big), (3, .int .u32 (name : Nat)), (4, .int .u32 (offset : Nat)), (7, .pointer (some ⟨z1, 0, none⟩)), (10, .bool false), (18, .bool false)] [(z1, .cells #[.string nm, .int .u32 (ty : Nat), .int .u32 (flags : Nat), .int .u64 (addr : Nat), .int .u32 (link : Nat), .int .u32 (info : Nat), .int .u64 (align : Nat), .int .u64 (ent : Nat), .int .u64 (size : Nat), .slice A n c] 62 (0, 0))] (by kernel_rfl) ?_
  simp only [List.drop_succ_cons, List.drop_zero]; clear HF HM hz3; intro a w HF HM
  refine nil_then ?_
  refine wp_condF HF rfl ?_
  refine wp_skip ?_
  repeat (first | refine then_norm ?_ | refine inb_norm ?_)
  replace HF := HF.sub [(0, .bool false), (1, .bool big), (3, .int .u32 (name : Nat)), (4, .int .u32 (offset : Nat)), (7, .pointer (some ⟨z1, 0, none⟩)), (10, .bool false)] (by kernel_rfl)
  obtain ⟨z4, hz4⟩ : ∃ z, w.heap.size = z := ⟨_, rfl⟩
  refine reg_sym HF HM hz4 [[1]] [(0, .bool false), (1, .bool big), (3, .int .u32 (name : Nat)), (4, .int .u32 (offset : Nat)), (7, .pointer (some ⟨z1, 0, none⟩)), (10, .bool false), (11, .pointer (some ⟨z4, 0, none⟩))] [(z4, .cells #[.bool false, .bool big, .int .u8 0, .int .u8 0, .int .i64 0, .int .i64 0, .int .u64 0, .slice none 0 0, .slice none 0 0] 46 (0, 0)), (z1, .cells #[.string nm, .int .u32 (ty : Nat), .int .u32 (flags : Nat), .int .u64 (addr : Nat), .int .u32 (link : Nat), .int .u32 (info : Nat), .int .u64 (align : Nat), .int .u64 (ent : Nat), .int .u64 (size : Nat), .slice A n c] 62 (0, 0))] (by kernel_rfl) ?_
  clear HF HM hz4; intro a w HF HM
  refine wp_seq ?_
  refine wp_seq (wp_region_lit ?_)
  obtain ⟨z5, hz5⟩ : ∃ z, w.heap.size = z := ⟨_, rfl⟩
  refine wp_sym HF HM hz5 10 [[1], [0], [0], [0], [0]] [(0, .bool false), (1, .bool big), (3, .int .u32 (name : Nat)), (4, .int .u32 (offset : Nat)), (7, .pointer (some ⟨z1, 0, none⟩)), (10, .bool false), (11, .pointer (some ⟨z4, 0, none⟩)), (22, .agg #[.bool false, .bool big, .int .u8 0, .int .u8 0, .int .i64 0, .int .i64 0, .int .u64 0, .slice none 0 0, .slice none 0 0]), (31, .slice (some ⟨z5, 0, none⟩) 4 4)] [(z5, .cells #[.int .u64 (addr : Nat), .int .u64 (align : Nat), .int .u64 (ent : Nat), .int .u64 (size : Nat)] 30 (0, 0)), (z4, .cells #[.bool false, .bool big, .int .u8 0, .int .u8 0, .int .i64 0, .int .i64 0, .int .u64 0, .slice none 0 0, .slice none 0 0] 46 (0, 0)), (z1, .cells #[.string nm, .int .u32 (ty : Nat), .int .u32 (flags : Nat), .int .u64 (addr : Nat), .int .u32 (link : Nat), .int .u32 (info : Nat), .int .u64 (align : Nat), .int .u64 (ent : Nat), .int .u64 (size : Nat), .slice A n c] 62 (0, 0))] (by kernel_rfl) ?_
  simp only [List.drop_succ_cons, List.drop_zero]; clear HF HM hz5; intro a w HF HM
  have hrf : Row w (some ⟨z5, 0, none⟩) ([addr, align, ent, size].map fun (k : Nat) => Value.int .u64 (k : Int)) := HM.rowAt (i := 0) rfl
  refine wp_call HF (by kernel_rfl) 26 #[.agg #[.bool false, .bool big, .int .u8 0, .int .u8 0, .int .i64 0, .int .i64 0, .int .u64 0, .slice none 0 0, .slice none 0 0], .slice (some ⟨z5, 0, none⟩) 4 4] (by kernel_rfl) (fun w => by kernel_rfl) (Calls.mono ((by have h := fits_any false (.bool big) (.int .u8 0) (.int .u8 0) (.int .i64 0) (.int .i64 0) (.int .u64 0) (.slice none 0 0) (.slice none 0 0) [addr, align, ent, size] (some ⟨z5, 0, none⟩) 4 4 rfl (by decide) w hrf; rw [hfb] at h; exact h)) ?_)
  rintro _ w2 ⟨rfl, hb⟩
  replace HM := HM.call hb
  clear hb
  refine ⟨_, rfl, ?_⟩; clear HF; intro a HF; replace HF := HF.sub [(0, .bool false), (1, .bool big), (3, .int .u32 (name : Nat)), (4, .int .u32 (offset : Nat)), (7, .pointer (some ⟨z1, 0, none⟩)), (10, .bool false), (11, .pointer (some ⟨z4, 0, none⟩)), (22, .agg #[.bool false, .bool big, .int .u8 0, .int .u8 0, .int .i64 0, .int .i64 0, .int .u64 0, .slice none 0 0, .slice none 0 0]), (31, .slice (some ⟨z5, 0, none⟩) 4 4), (32, .bool true)] (by kernel_rfl)
  replace HF := HF.sub [(0, .bool false), (1, .bool big), (3, .int .u32 (name : Nat)), (4, .int .u32 (offset : Nat)), (7, .pointer (some ⟨z1, 0, none⟩)), (10, .bool false), (11, .pointer (some ⟨z4, 0, none⟩)), (32, .bool true)] (by kernel_rfl)
  obtain ⟨z6, hz6⟩ : ∃ z, w2.heap.size = z := ⟨_, rfl⟩
  refine wp_sym HF HM hz6 6 [[0]] [(0, .bool false), (1, .bool big), (3, .int .u32 (name : Nat)), (4, .int .u32 (offset : Nat)), (7, .pointer (some ⟨z1, 0, none⟩)), (10, .bool false), (11, .pointer (some ⟨z4, 0, none⟩)), (34, .bool false), (38, .bool (decide ((65536 : Int) < (n : Int))))] [(z5, .cells #[.int .u64 (addr : Nat), .int .u64 (align : Nat), .int .u64 (ent : Nat), .int .u64 (size : Nat)] 30 (0, 0)), (z4, .cells #[.bool false, .bool big, .int .u8 0, .int .u8 0, .int .i64 0, .int .i64 0, .int .u64 0, .slice none 0 0, .slice none 0 0] 46 (0, 0)), (z1, .cells #[.string nm, .int .u32 (ty : Nat), .int .u32 (flags : Nat), .int .u64 (addr : Nat), .int .u32 (link : Nat), .int .u32 (info : Nat), .int .u64 (align : Nat), .int .u64 (ent : Nat), .int .u64 (size : Nat), .slice A n c] 62 (0, 0))] (by kernel_rfl) ?_
  simp only [List.drop_succ_cons, List.drop_zero]; clear HF HM hz6; intro a w HF HM
  rw [show decide ((65536 : Int) < (n : Int)) = true from dec_t (by omega)] at HF
  obtain ⟨z7, hz7⟩ : ∃ z, w.heap.size = z := ⟨_, rfl⟩
  refine wp_sym HF HM hz7 1 [] [(0, .bool false), (1, .bool big), (3, .int .u32 (name : Nat)), (4, .int .u32 (offset : Nat)), (7, .pointer (some ⟨z1, 0, none⟩)), (10, .bool false), (11, .pointer (some ⟨z4, 0, none⟩)), (39, .bool true)] [(z5, .cells #[.int .u64 (addr : Nat), .int .u64 (align : Nat), .int .u64 (ent : Nat), .int .u64 (size : Nat)] 30 (0, 0)), (z4, .cells #[.bool false, .bool big, .int .u8 0, .int .u8 0, .int .i64 0, .int .i64 0, .int .u64 0, .slice none 0 0, .slice none 0 0] 46 (0, 0)), (z1, .cells #[.string nm, .int .u32 (ty : Nat), .int .u32 (flags : Nat), .int .u64 (addr : Nat), .int .u32 (link : Nat), .int .u32 (info : Nat), .int .u64 (align : Nat), .int .u64 (ent : Nat), .int .u64 (size : Nat), .slice A n c] 62 (0, 0))] (by kernel_rfl) ?_
  simp only [List.drop_succ_cons, List.drop_zero]; clear HF HM hz7; intro a w HF HM
  refine nil_then ?_
  refine wp_condT HF rfl ?_
  obtain ⟨z8, hz8⟩ : ∃ z, w.heap.size = z := ⟨_, rfl⟩
  refine reg_sym HF HM hz8 [] [(0, .bool false), (1, .bool big), (3, .int .u32 (name : Nat)), (4, .int .u32 (offset : Nat)), (7, .pointer (some ⟨z1, 0, none⟩)), (11, .pointer (some ⟨z4, 0, none⟩)), (39, .bool true), (10, .bool true)] [(z5, .cells #[.int .u64 (addr : Nat), .int .u64 (align : Nat), .int .u64 (ent : Nat), .int .u64 (size : Nat)] 30 (0, 0)), (z4, .cells #[.bool false, .bool big, .int .u8 0, .int .u8 0, .int .i64 0, .int .i64 0, .int .u64 0, .slice none 0 0, .slice none 0 0] 46 (0, 0)), (z1, .cells #[.string nm, .int .u32 (ty : Nat), .int .u32 (flags : Nat), .int .u64 (addr : Nat), .int .u32 (link : Nat), .int .u32 (info : Nat), .int .u64 (align : Nat), .int .u64 (ent : Nat), .int .u64 (size : Nat), .slice A n c] 62 (0, 0))] (by kernel_rfl) ?_
  clear HF HM hz8; intro a w HF HM
  refine wp_ret ?_
  repeat (first | refine then_ret ?_ | refine inb_ret ?_)
  exact ret_one HF rfl rfl ⟨rfl, HM.below⟩

set_option maxRecDepth 100000 in
set_option maxHeartbeats 1000000 in
theorem walkSec_false_ok (big : Bool) (nm : ByteArray) (ty flags addr link info align ent size : Nat) (A : Option Addr) (n c : Nat) (name offset : Nat) (hty : ty < 4294967296) (hfl : flags < 4294967296) (had : addr < 18446744073709551616) (hli : link < 4294967296) (hin : info < 4294967296) (hal : align < 18446744073709551616) (hen : ent < 18446744073709551616) (hsi : size < 18446744073709551616) (hna : name < 4294967296) (hof : offset < 4294967296) (h1 : nm.size ≤ 2147483647) (h2 : n ≤ 2147483647) (hfb : fitsB false [addr, align, ent, size] = true) (hshort : n ≤ 65536) (w0 : World) :
    Calls Try.prog 13 #[.bool false, .bool big, .agg #[.string nm, .int .u32 (ty : Nat), .int .u32 (flags : Nat), .int .u64 (addr : Nat), .int .u32 (link : Nat), .int .u32 (info : Nat), .int .u64 (align : Nat), .int .u64 (ent : Nat), .int .u64 (size : Nat), .slice A n c], .int .u32 (name : Nat), .int .u32 (offset : Nat)] w0 fun e w' => e = .returned (.bool true) ∧ Below w0.heap.size w0 w' := by
  obtain ⟨w, hw⟩ : ∃ w, w0 = w := ⟨_, rfl⟩
  have HM : Mm w0 w [] := hw ▸ Mm.start w0
  conv => arg 4; rw [hw]
  clear hw
  refine calls_start Try.func13 rfl Try.ntmps13 [(0, .bool false), (1, .bool big), (2, .agg #[.string nm, .int .u32 (ty : Nat), .int .u32 (flags : Nat), .int .u64 (addr : Nat), .int .u32 (link : Nat), .int .u32 (info : Nat), .int .u64 (align : Nat), .int .u64 (ent : Nat), .int .u64 (size : Nat), .slice A n c]), (3, .int .u32 (name : Nat)), (4, .int .u32 (offset : Nat))] (by kernel_rfl) (Nat.le_of_ble_eq_true rfl) ?_
  intro a HF
  obtain ⟨z1, hz1⟩ : ∃ z, w.heap.size = z := ⟨_, rfl⟩
  refine reg_sym HF HM hz1 [] [(0, .bool false), (1, .bool big), (3, .int .u32 (name : Nat)), (4, .int .u32 (offset : Nat)), (7, .pointer (some ⟨z1, 0, none⟩)), (10, .bool false)] [(z1, .cells #[.string nm, .int .u32 (ty : Nat), .int .u32 (flags : Nat), .int .u64 (addr : Nat), .int .u32 (link : Nat), .int .u32 (info : Nat), .int .u64 (align : Nat), .int .u64 (ent : Nat), .int .u64 (size : Nat), .slice A n c] 62 (0, 0))] (by kernel_rfl) ?_
  clear HF HM hz1; intro a w HF HM
  refine wp_seq ?_
  refine wp_seq (wp_region_lit ?_)
  obtain ⟨z2, hz2⟩ : ∃ z, w.heap.size = z := ⟨_, rfl⟩
  refine wp_sym HF HM hz2 1 [[0]] [(0, .bool false), (1, .bool big), (3, .int .u32 (name : Nat)), (4, .int .u32 (offset : Nat)), (7, .pointer (some ⟨z1, 0, none⟩)), (10, .bool false), (16, .agg #[.string nm, .int .u32 (ty : Nat), .int .u32 (flags : Nat), .int .u64 (addr : Nat), .int .u32 (link : Nat), .int .u32 (info : Nat), .int .u64 (align : Nat), .int .u64 (ent : Nat), .int .u64 (size : Nat), .slice A n c])] [(z1, .cells #[.string nm, .int .u32 (ty : Nat), .int .u32 (flags : Nat), .int .u64 (addr : Nat), .int .u32 (link : Nat), .int .u32 (info : Nat), .int .u64 (align : Nat), .int .u64 (ent : Nat), .int .u64 (size : Nat), .slice A n c] 62 (0, 0))] (by kernel_rfl) ?_
  simp only [List.drop_succ_cons, List.drop_zero]; clear HF HM hz2; intro a w HF HM
  refine wp_call HF (by kernel_rfl) 33 #[.agg #[.string nm, .int .u32 (ty : Nat), .int .u32 (flags : Nat), .int .u64 (addr : Nat), .int .u32 (link : Nat), .int .u32 (info : Nat), .int .u64 (align : Nat), .int .u64 (ent : Nat), .int .u64 (size : Nat), .slice A n c]] (by kernel_rfl) (fun w => by kernel_rfl) (Calls.mono (zzFits5_in nm ty flags addr link info align ent size A n c h1 h2 w) ?_)
  rintro _ w1 ⟨rfl, hb⟩
  replace HM := HM.call hb
  clear hb
  refine ⟨_, rfl, ?_⟩; clear HF; intro a HF; replace HF := HF.sub [(0, .bool false), (1, .bool big), (3, .int .u32 (name : Nat)), (4, .int .u32 (offset : Nat)), (7, .pointer (some ⟨z1, 0, none⟩)), (10, .bool false), (16, .agg #[.string nm, .int .u32 (ty : Nat), .int .u32 (flags : Nat), .int .u64 (addr : Nat), .int .u32 (link : Nat), .int .u32 (info : Nat), .int .u64 (align : Nat), .int .u64 (ent : Nat), .int .u64 (size : Nat), .slice A n c]), (17, .bool true)] (by kernel_rfl)
  obtain ⟨z3, hz3⟩ : ∃ z, w1.heap.size = z := ⟨_, rfl⟩
  refine wp_sym HF HM hz3 1 [] [(0, .bool false), (1, .bool big), (3, .int .u32 (name : Nat)), (4, .int .u32 (offset : Nat)), (7, .pointer (some ⟨z1, 0, none⟩)), (10, .bool false), (18, .bool false)] [(z1, .cells #[.string nm, .int .u32 (ty : Nat), .int .u32 (flags : Nat), .int .u64 (addr : Nat), .int .u32 (link : Nat), .int .u32 (info : Nat), .int .u64 (align : Nat), .int .u64 (ent : Nat), .int .u64 (size : Nat), .slice A n c] 62 (0, 0))] (by kernel_rfl) ?_
  simp only [List.drop_succ_cons, List.drop_zero]; clear HF HM hz3; intro a w HF HM
  refine nil_then ?_
  refine wp_condF HF rfl ?_
  refine wp_skip ?_
  repeat (first | refine then_norm ?_ | refine inb_norm ?_)
  replace HF := HF.sub [(0, .bool false), (1, .bool big), (3, .int .u32 (name : Nat)), (4, .int .u32 (offset : Nat)), (7, .pointer (some ⟨z1, 0, none⟩)), (10, .bool false)] (by kernel_rfl)
  obtain ⟨z4, hz4⟩ : ∃ z, w.heap.size = z := ⟨_, rfl⟩
  refine reg_sym HF HM hz4 [[1]] [(0, .bool false), (1, .bool big), (3, .int .u32 (name : Nat)), (4, .int .u32 (offset : Nat)), (7, .pointer (some ⟨z1, 0, none⟩)), (10, .bool false), (11, .pointer (some ⟨z4, 0, none⟩))] [(z4, .cells #[.bool false, .bool big, .int .u8 0, .int .u8 0, .int .i64 0, .int .i64 0, .int .u64 0, .slice none 0 0, .slice none 0 0] 46 (0, 0)), (z1, .cells #[.string nm, .int .u32 (ty : Nat), .int .u32 (flags : Nat), .int .u64 (addr : Nat), .int .u32 (link : Nat), .int .u32 (info : Nat), .int .u64 (align : Nat), .int .u64 (ent : Nat), .int .u64 (size : Nat), .slice A n c] 62 (0, 0))] (by kernel_rfl) ?_
  clear HF HM hz4; intro a w HF HM
  refine wp_seq ?_
  refine wp_seq (wp_region_lit ?_)
  obtain ⟨z5, hz5⟩ : ∃ z, w.heap.size = z := ⟨_, rfl⟩
  refine wp_sym HF HM hz5 10 [[1], [0], [0], [0], [0]] [(0, .bool false), (1, .bool big), (3, .int .u32 (name : Nat)), (4, .int .u32 (offset : Nat)), (7, .pointer (some ⟨z1, 0, none⟩)), (10, .bool false), (11, .pointer (some ⟨z4, 0, none⟩)), (22, .agg #[.bool false, .bool big, .int .u8 0, .int .u8 0, .int .i64 0, .int .i64 0, .int .u64 0, .slice none 0 0, .slice none 0 0]), (31, .slice (some ⟨z5, 0, none⟩) 4 4)] [(z5, .cells #[.int .u64 (addr : Nat), .int .u64 (align : Nat), .int .u64 (ent : Nat), .int .u64 (size : Nat)] 30 (0, 0)), (z4, .cells #[.bool false, .bool big, .int .u8 0, .int .u8 0, .int .i64 0, .int .i64 0, .int .u64 0, .slice none 0 0, .slice none 0 0] 46 (0, 0)), (z1, .cells #[.string nm, .int .u32 (ty : Nat), .int .u32 (flags : Nat), .int .u64 (addr : Nat), .int .u32 (link : Nat), .int .u32 (info : Nat), .int .u64 (align : Nat), .int .u64 (ent : Nat), .int .u64 (size : Nat), .slice A n c] 62 (0, 0))] (by kernel_rfl) ?_
  simp only [List.drop_succ_cons, List.drop_zero]; clear HF HM hz5; intro a w HF HM
  have hrf : Row w (some ⟨z5, 0, none⟩) ([addr, align, ent, size].map fun (k : Nat) => Value.int .u64 (k : Int)) := HM.rowAt (i := 0) rfl
  refine wp_call HF (by kernel_rfl) 26 #[.agg #[.bool false, .bool big, .int .u8 0, .int .u8 0, .int .i64 0, .int .i64 0, .int .u64 0, .slice none 0 0, .slice none 0 0], .slice (some ⟨z5, 0, none⟩) 4 4] (by kernel_rfl) (fun w => by kernel_rfl) (Calls.mono ((by have h := fits_any false (.bool big) (.int .u8 0) (.int .u8 0) (.int .i64 0) (.int .i64 0) (.int .u64 0) (.slice none 0 0) (.slice none 0 0) [addr, align, ent, size] (some ⟨z5, 0, none⟩) 4 4 rfl (by decide) w hrf; rw [hfb] at h; exact h)) ?_)
  rintro _ w2 ⟨rfl, hb⟩
  replace HM := HM.call hb
  clear hb
  refine ⟨_, rfl, ?_⟩; clear HF; intro a HF; replace HF := HF.sub [(0, .bool false), (1, .bool big), (3, .int .u32 (name : Nat)), (4, .int .u32 (offset : Nat)), (7, .pointer (some ⟨z1, 0, none⟩)), (10, .bool false), (11, .pointer (some ⟨z4, 0, none⟩)), (22, .agg #[.bool false, .bool big, .int .u8 0, .int .u8 0, .int .i64 0, .int .i64 0, .int .u64 0, .slice none 0 0, .slice none 0 0]), (31, .slice (some ⟨z5, 0, none⟩) 4 4), (32, .bool true)] (by kernel_rfl)
  replace HF := HF.sub [(0, .bool false), (1, .bool big), (3, .int .u32 (name : Nat)), (4, .int .u32 (offset : Nat)), (7, .pointer (some ⟨z1, 0, none⟩)), (10, .bool false), (11, .pointer (some ⟨z4, 0, none⟩)), (32, .bool true)] (by kernel_rfl)
  obtain ⟨z6, hz6⟩ : ∃ z, w2.heap.size = z := ⟨_, rfl⟩
  refine wp_sym HF HM hz6 6 [[0]] [(0, .bool false), (1, .bool big), (3, .int .u32 (name : Nat)), (4, .int .u32 (offset : Nat)), (7, .pointer (some ⟨z1, 0, none⟩)), (10, .bool false), (11, .pointer (some ⟨z4, 0, none⟩)), (34, .bool false), (38, .bool (decide ((65536 : Int) < (n : Int))))] [(z5, .cells #[.int .u64 (addr : Nat), .int .u64 (align : Nat), .int .u64 (ent : Nat), .int .u64 (size : Nat)] 30 (0, 0)), (z4, .cells #[.bool false, .bool big, .int .u8 0, .int .u8 0, .int .i64 0, .int .i64 0, .int .u64 0, .slice none 0 0, .slice none 0 0] 46 (0, 0)), (z1, .cells #[.string nm, .int .u32 (ty : Nat), .int .u32 (flags : Nat), .int .u64 (addr : Nat), .int .u32 (link : Nat), .int .u32 (info : Nat), .int .u64 (align : Nat), .int .u64 (ent : Nat), .int .u64 (size : Nat), .slice A n c] 62 (0, 0))] (by kernel_rfl) ?_
  simp only [List.drop_succ_cons, List.drop_zero]; clear HF HM hz6; intro a w HF HM
  rw [show decide ((65536 : Int) < (n : Int)) = false from dec_f (by omega)] at HF
  obtain ⟨z7, hz7⟩ : ∃ z, w.heap.size = z := ⟨_, rfl⟩
  refine wp_sym HF HM hz7 1 [] [(0, .bool false), (1, .bool big), (3, .int .u32 (name : Nat)), (4, .int .u32 (offset : Nat)), (7, .pointer (some ⟨z1, 0, none⟩)), (10, .bool false), (11, .pointer (some ⟨z4, 0, none⟩)), (39, .bool false)] [(z5, .cells #[.int .u64 (addr : Nat), .int .u64 (align : Nat), .int .u64 (ent : Nat), .int .u64 (size : Nat)] 30 (0, 0)), (z4, .cells #[.bool false, .bool big, .int .u8 0, .int .u8 0, .int .i64 0, .int .i64 0, .int .u64 0, .slice none 0 0, .slice none 0 0] 46 (0, 0)), (z1, .cells #[.string nm, .int .u32 (ty : Nat), .int .u32 (flags : Nat), .int .u64 (addr : Nat), .int .u32 (link : Nat), .int .u32 (info : Nat), .int .u64 (align : Nat), .int .u64 (ent : Nat), .int .u64 (size : Nat), .slice A n c] 62 (0, 0))] (by kernel_rfl) ?_
  simp only [List.drop_succ_cons, List.drop_zero]; clear HF HM hz7; intro a w HF HM
  refine nil_then ?_
  refine wp_condF HF rfl ?_
  refine wp_skip ?_
  repeat (first | refine then_norm ?_ | refine inb_norm ?_)
  replace HF := HF.sub [(0, .bool false), (1, .bool big), (3, .int .u32 (name : Nat)), (4, .int .u32 (offset : Nat)), (7, .pointer (some ⟨z1, 0, none⟩)), (10, .bool false), (11, .pointer (some ⟨z4, 0, none⟩))] (by kernel_rfl)
  refine wp_seq (wp_region_lit ?_)
  obtain ⟨z8, hz8⟩ : ∃ z, w.heap.size = z := ⟨_, rfl⟩
  refine wp_sym HF HM hz8 8 [[1], [0]] [(0, .bool false), (1, .bool big), (3, .int .u32 (name : Nat)), (4, .int .u32 (offset : Nat)), (7, .pointer (some ⟨z1, 0, none⟩)), (10, .bool false), (11, .pointer (some ⟨z4, 0, none⟩)), (41, .bool false), (42, .bool big), (43, .agg #[.bool false, .bool big, .int .u8 0, .int .u8 0, .int .i64 0, .int .i64 0, .int .u64 0, .slice none 0 0, .slice none 0 0]), (45, .int .i64 (IntKind.i64.wrap (name : Nat))), (46, .agg #[.string nm, .int .u32 (ty : Nat), .int .u32 (flags : Nat), .int .u64 (addr : Nat), .int .u32 (link : Nat), .int .u32 (info : Nat), .int .u64 (align : Nat), .int .u64 (ent : Nat), .int .u64 (size : Nat), .slice A n c]), (48, .int .i64 (IntKind.i64.wrap (offset : Nat)))] [(z5, .cells #[.int .u64 (addr : Nat), .int .u64 (align : Nat), .int .u64 (ent : Nat), .int .u64 (size : Nat)] 30 (0, 0)), (z4, .cells #[.bool false, .bool big, .int .u8 0, .int .u8 0, .int .i64 0, .int .i64 0, .int .u64 0, .slice none 0 0, .slice none 0 0] 46 (0, 0)), (z1, .cells #[.string nm, .int .u32 (ty : Nat), .int .u32 (flags : Nat), .int .u64 (addr : Nat), .int .u32 (link : Nat), .int .u32 (info : Nat), .int .u64 (align : Nat), .int .u64 (ent : Nat), .int .u64 (size : Nat), .slice A n c] 62 (0, 0))] (by kernel_rfl) ?_
  simp only [List.drop_succ_cons, List.drop_zero]; clear HF HM hz8; intro a w HF HM
  rw [show IntKind.i64.wrap ((name : Nat) : Int) = (name : Nat) from IntWalk.i64_in _ (by omega)] at HF
  rw [show IntKind.i64.wrap ((offset : Nat) : Int) = (offset : Nat) from IntWalk.i64_in _ (by omega)] at HF
  refine wp_call HF (by kernel_rfl) 35 #[.agg #[.bool false, .bool big, .int .u8 0, .int .u8 0, .int .i64 0, .int .i64 0, .int .u64 0, .slice none 0 0, .slice none 0 0], .int .i64 (name : Nat), .agg #[.string nm, .int .u32 (ty : Nat), .int .u32 (flags : Nat), .int .u64 (addr : Nat), .int .u32 (link : Nat), .int .u32 (info : Nat), .int .u64 (align : Nat), .int .u64 (ent : Nat), .int .u64 (size : Nat), .slice A n c], .int .i64 (offset : Nat)] (by kernel_rfl) (fun w => by kernel_rfl) (Calls.mono (sectionRow_any false big (.int .u8 0) (.int .u8 0) (.int .i64 0) (.int .i64 0) (.int .u64 0) (.slice none 0 0) (.slice none 0 0) name nm ty flags addr link info align ent size n c offset A (by omega) (by omega) (by omega) (by omega) (by omega) (by omega) (by omega) w) ?_)
  rintro _ w3 ⟨v2, rfl, hown, hb⟩
  obtain ⟨A2, c2, rfl, hnc2, hrow2, -⟩ := own_form hown
  replace HM := HM.call hb
  clear hb hown
  refine ⟨_, rfl, ?_⟩; clear HF; intro a HF; replace HF := HF.sub [(0, .bool false), (1, .bool big), (3, .int .u32 (name : Nat)), (4, .int .u32 (offset : Nat)), (7, .pointer (some ⟨z1, 0, none⟩)), (10, .bool false), (11, .pointer (some ⟨z4, 0, none⟩)), (41, .bool false), (42, .bool big), (43, .agg #[.bool false, .bool big, .int .u8 0, .int .u8 0, .int .i64 0, .int .i64 0, .int .u64 0, .slice none 0 0, .slice none 0 0]), (45, .int .i64 (name : Nat)), (46, .agg #[.string nm, .int .u32 (ty : Nat), .int .u32 (flags : Nat), .int .u64 (addr : Nat), .int .u32 (link : Nat), .int .u32 (info : Nat), .int .u64 (align : Nat), .int .u64 (ent : Nat), .int .u64 (size : Nat), .slice A n c]), (48, .int .i64 (offset : Nat)), (49, .slice A2 (secB false big name ty flags addr offset (sizeB ty size n) link info align ent).length c2)] (by kernel_rfl)
  replace HF := HF.sub [(0, .bool false), (1, .bool big), (3, .int .u32 (name : Nat)), (4, .int .u32 (offset : Nat)), (7, .pointer (some ⟨z1, 0, none⟩)), (10, .bool false), (11, .pointer (some ⟨z4, 0, none⟩)), (41, .bool false), (42, .bool big), (49, .slice A2 (secB false big name ty flags addr offset (sizeB ty size n) link info align ent).length c2)] (by kernel_rfl)
  have hsz : sizeB ty size n < 256 ^ aSz false := by unfold sizeB; split; exact fits_lt hfb (by simp) hsi; exact Nat.lt_of_le_of_lt hshort (by decide)
  have hsv := secV_sec false big name ty flags addr offset (sizeB ty size n) link info align ent hna hty hfl (fits_lt hfb (by simp) had) (Nat.lt_of_lt_of_le hof (by decide)) hsz hli hin (fits_lt hfb (by simp) hal) (fits_lt hfb (by simp) hen)
  refine wp_call HF (by kernel_rfl) 34 #[.bool false, .bool big, .slice A2 (secB false big name ty flags addr offset (sizeB ty size n) link info align ent).length c2] (by kernel_rfl) (fun w => by kernel_rfl) (Calls.mono (sectionRow2_thin big (secB false big name ty flags addr offset (sizeB ty size n) link info align ent) A2 (secB false big name ty flags addr offset (sizeB ty size n) link info align ent).length c2 (by rw [secB_length]; decide) rfl (by rw [secB_length]; decide) name ty flags addr offset link info align ent (sizeB ty size n) hsv.1 hsv.2 (by omega) (by omega) (by omega) (by omega) w3 hrow2) ?_)
  rintro _ w4 ⟨rfl, hb⟩
  replace HM := HM.call hb
  clear hb
  refine ⟨_, rfl, ?_⟩; clear HF; intro a HF; replace HF := HF.sub [(0, .bool false), (1, .bool big), (3, .int .u32 (name : Nat)), (4, .int .u32 (offset : Nat)), (7, .pointer (some ⟨z1, 0, none⟩)), (10, .bool false), (11, .pointer (some ⟨z4, 0, none⟩)), (41, .bool false), (42, .bool big), (49, .slice A2 (secB false big name ty flags addr offset (sizeB ty size n) link info align ent).length c2), (50, .tuple #[.int .u32 (name : Nat), .agg #[.string ⟨#[]⟩, .int .i64 (ty : Nat), .int .i64 (flags : Nat), .int .u64 (addr : Nat), .int .u64 (offset : Nat), .int .u64 0, .int .i64 (link : Nat), .int .i64 (info : Nat), .int .u64 (align : Nat), .int .u64 (ent : Nat), .int .u64 (sizeB ty size n : Nat)], .bool true])] (by kernel_rfl)
  obtain ⟨z9, hz9⟩ : ∃ z, w4.heap.size = z := ⟨_, rfl⟩
  refine wp_sym HF HM hz9 8 [[3]] [(0, .bool false), (1, .bool big), (3, .int .u32 (name : Nat)), (4, .int .u32 (offset : Nat)), (7, .pointer (some ⟨z1, 0, none⟩)), (10, .bool false), (11, .pointer (some ⟨z4, 0, none⟩)), (13, .pointer (some ⟨z9, 0, none⟩)), (12, .int .u32 (name : Nat)), (14, .bool true)] [(z9, .cells #[.string ⟨#[]⟩, .int .i64 (ty : Nat), .int .i64 (flags : Nat), .int .u64 (addr : Nat), .int .u64 (offset : Nat), .int .u64 0, .int .i64 (link : Nat), .int .i64 (info : Nat), .int .u64 (align : Nat), .int .u64 (ent : Nat), .int .u64 (sizeB ty size n : Nat)] 65 (0, 0)), (z5, .cells #[.int .u64 (addr : Nat), .int .u64 (align : Nat), .int .u64 (ent : Nat), .int .u64 (size : Nat)] 30 (0, 0)), (z4, .cells #[.bool false, .bool big, .int .u8 0, .int .u8 0, .int .i64 0, .int .i64 0, .int .u64 0, .slice none 0 0, .slice none 0 0] 46 (0, 0)), (z1, .cells #[.string nm, .int .u32 (ty : Nat), .int .u32 (flags : Nat), .int .u64 (addr : Nat), .int .u32 (link : Nat), .int .u32 (info : Nat), .int .u64 (align : Nat), .int .u64 (ent : Nat), .int .u64 (size : Nat), .slice A n c] 62 (0, 0))] (by kernel_rfl) ?_
  simp only [List.drop_succ_cons, List.drop_zero]; clear HF HM hz9; intro a w HF HM
  refine nil_then ?_
  refine wp_seq (wp_region_lit ?_)
  obtain ⟨z10, hz10⟩ : ∃ z, w.heap.size = z := ⟨_, rfl⟩
  refine wp_sym HF HM hz10 1 [[0]] [(0, .bool false), (1, .bool big), (3, .int .u32 (name : Nat)), (4, .int .u32 (offset : Nat)), (7, .pointer (some ⟨z1, 0, none⟩)), (10, .bool false), (11, .pointer (some ⟨z4, 0, none⟩)), (13, .pointer (some ⟨z9, 0, none⟩)), (12, .int .u32 (name : Nat)), (14, .bool true), (54, .agg #[.string nm, .int .u32 (ty : Nat), .int .u32 (flags : Nat), .int .u64 (addr : Nat), .int .u32 (link : Nat), .int .u32 (info : Nat), .int .u64 (align : Nat), .int .u64 (ent : Nat), .int .u64 (size : Nat), .slice A n c])] [(z9, .cells #[.string ⟨#[]⟩, .int .i64 (ty : Nat), .int .i64 (flags : Nat), .int .u64 (addr : Nat), .int .u64 (offset : Nat), .int .u64 0, .int .i64 (link : Nat), .int .i64 (info : Nat), .int .u64 (align : Nat), .int .u64 (ent : Nat), .int .u64 (sizeB ty size n : Nat)] 65 (0, 0)), (z5, .cells #[.int .u64 (addr : Nat), .int .u64 (align : Nat), .int .u64 (ent : Nat), .int .u64 (size : Nat)] 30 (0, 0)), (z4, .cells #[.bool false, .bool big, .int .u8 0, .int .u8 0, .int .i64 0, .int .i64 0, .int .u64 0, .slice none 0 0, .slice none 0 0] 46 (0, 0)), (z1, .cells #[.string nm, .int .u32 (ty : Nat), .int .u32 (flags : Nat), .int .u64 (addr : Nat), .int .u32 (link : Nat), .int .u32 (info : Nat), .int .u64 (align : Nat), .int .u64 (ent : Nat), .int .u64 (size : Nat), .slice A n c] 62 (0, 0))] (by kernel_rfl) ?_
  simp only [List.drop_succ_cons, List.drop_zero]; clear HF HM hz10; intro a w HF HM
  refine wp_call HF (by kernel_rfl) 36 #[.agg #[.string nm, .int .u32 (ty : Nat), .int .u32 (flags : Nat), .int .u64 (addr : Nat), .int .u32 (link : Nat), .int .u32 (info : Nat), .int .u64 (align : Nat), .int .u64 (ent : Nat), .int .u64 (size : Nat), .slice A n c]] (by kernel_rfl) (fun w => by kernel_rfl) (Calls.mono (size_any nm ty flags addr link info align ent size n c A (by omega) w) ?_)
  rintro _ w5 ⟨rfl, hb⟩
  replace HM := HM.call hb
  clear hb
  refine ⟨_, rfl, ?_⟩; clear HF; intro a HF; replace HF := HF.sub [(0, .bool false), (1, .bool big), (3, .int .u32 (name : Nat)), (4, .int .u32 (offset : Nat)), (7, .pointer (some ⟨z1, 0, none⟩)), (10, .bool false), (11, .pointer (some ⟨z4, 0, none⟩)), (13, .pointer (some ⟨z9, 0, none⟩)), (12, .int .u32 (name : Nat)), (14, .bool true), (54, .agg #[.string nm, .int .u32 (ty : Nat), .int .u32 (flags : Nat), .int .u64 (addr : Nat), .int .u32 (link : Nat), .int .u32 (info : Nat), .int .u64 (align : Nat), .int .u64 (ent : Nat), .int .u64 (size : Nat), .slice A n c]), (55, .int .u64 (sizeB ty size n : Nat))] (by kernel_rfl)
  obtain ⟨z11, hz11⟩ : ∃ z, w5.heap.size = z := ⟨_, rfl⟩
  refine wp_sym HF HM hz11 1 [] [(0, .bool false), (1, .bool big), (3, .int .u32 (name : Nat)), (4, .int .u32 (offset : Nat)), (7, .pointer (some ⟨z1, 0, none⟩)), (10, .bool false), (11, .pointer (some ⟨z4, 0, none⟩)), (13, .pointer (some ⟨z9, 0, none⟩)), (12, .int .u32 (name : Nat)), (14, .bool true), (15, .int .u64 (sizeB ty size n : Nat))] [(z9, .cells #[.string ⟨#[]⟩, .int .i64 (ty : Nat), .int .i64 (flags : Nat), .int .u64 (addr : Nat), .int .u64 (offset : Nat), .int .u64 0, .int .i64 (link : Nat), .int .i64 (info : Nat), .int .u64 (align : Nat), .int .u64 (ent : Nat), .int .u64 (sizeB ty size n : Nat)] 65 (0, 0)), (z5, .cells #[.int .u64 (addr : Nat), .int .u64 (align : Nat), .int .u64 (ent : Nat), .int .u64 (size : Nat)] 30 (0, 0)), (z4, .cells #[.bool false, .bool big, .int .u8 0, .int .u8 0, .int .i64 0, .int .i64 0, .int .u64 0, .slice none 0 0, .slice none 0 0] 46 (0, 0)), (z1, .cells #[.string nm, .int .u32 (ty : Nat), .int .u32 (flags : Nat), .int .u64 (addr : Nat), .int .u32 (link : Nat), .int .u32 (info : Nat), .int .u64 (align : Nat), .int .u64 (ent : Nat), .int .u64 (size : Nat), .slice A n c] 62 (0, 0))] (by kernel_rfl) ?_
  simp only [List.drop_succ_cons, List.drop_zero]; clear HF HM hz11; intro a w HF HM
  refine nil_then ?_
  obtain ⟨z12, hz12⟩ : ∃ z, w.heap.size = z := ⟨_, rfl⟩
  refine reg_sym HF HM hz12 [[3]] [(0, .bool false), (1, .bool big), (3, .int .u32 (name : Nat)), (4, .int .u32 (offset : Nat)), (7, .pointer (some ⟨z1, 0, none⟩)), (10, .bool false), (11, .pointer (some ⟨z4, 0, none⟩)), (13, .pointer (some ⟨z9, 0, none⟩)), (12, .int .u32 (name : Nat)), (14, .bool true), (15, .int .u64 (sizeB ty size n : Nat))] [(z9, .cells #[.string ⟨#[]⟩, .int .i64 (ty : Nat), .int .i64 (flags : Nat), .int .u64 (addr : Nat), .int .u64 (offset : Nat), .int .u64 (sizeB ty size n : Nat), .int .i64 (link : Nat), .int .i64 (info : Nat), .int .u64 (align : Nat), .int .u64 (ent : Nat), .int .u64 (sizeB ty size n : Nat)] 65 (0, 0)), (z5, .cells #[.int .u64 (addr : Nat), .int .u64 (align : Nat), .int .u64 (ent : Nat), .int .u64 (size : Nat)] 30 (0, 0)), (z4, .cells #[.bool false, .bool big, .int .u8 0, .int .u8 0, .int .i64 0, .int .i64 0, .int .u64 0, .slice none 0 0, .slice none 0 0] 46 (0, 0)), (z1, .cells #[.string nm, .int .u32 (ty : Nat), .int .u32 (flags : Nat), .int .u64 (addr : Nat), .int .u32 (link : Nat), .int .u32 (info : Nat), .int .u64 (align : Nat), .int .u64 (ent : Nat), .int .u64 (size : Nat), .slice A n c] 62 (0, 0))] (by kernel_rfl) ?_
  clear HF HM hz12; intro a w HF HM
  refine wp_seq (wp_region_lit ?_)
  obtain ⟨z13, hz13⟩ : ∃ z, w.heap.size = z := ⟨_, rfl⟩
  refine wp_sym HF HM hz13 5 [] [(0, .bool false), (1, .bool big), (3, .int .u32 (name : Nat)), (4, .int .u32 (offset : Nat)), (7, .pointer (some ⟨z1, 0, none⟩)), (10, .bool false), (11, .pointer (some ⟨z4, 0, none⟩)), (13, .pointer (some ⟨z9, 0, none⟩)), (12, .int .u32 (name : Nat)), (14, .bool true), (15, .int .u64 (sizeB ty size n : Nat)), (59, .bool true), (62, .bool ((((name : Nat) : Int)) == ((name : Nat) : Int)))] [(z9, .cells #[.string ⟨#[]⟩, .int .i64 (ty : Nat), .int .i64 (flags : Nat), .int .u64 (addr : Nat), .int .u64 (offset : Nat), .int .u64 (sizeB ty size n : Nat), .int .i64 (link : Nat), .int .i64 (info : Nat), .int .u64 (align : Nat), .int .u64 (ent : Nat), .int .u64 (sizeB ty size n : Nat)] 65 (0, 0)), (z5, .cells #[.int .u64 (addr : Nat), .int .u64 (align : Nat), .int .u64 (ent : Nat), .int .u64 (size : Nat)] 30 (0, 0)), (z4, .cells #[.bool false, .bool big, .int .u8 0, .int .u8 0, .int .i64 0, .int .i64 0, .int .u64 0, .slice none 0 0, .slice none 0 0] 46 (0, 0)), (z1, .cells #[.string nm, .int .u32 (ty : Nat), .int .u32 (flags : Nat), .int .u64 (addr : Nat), .int .u32 (link : Nat), .int .u32 (info : Nat), .int .u64 (align : Nat), .int .u64 (ent : Nat), .int .u64 (size : Nat), .slice A n c] 62 (0, 0))] (by kernel_rfl) ?_
  simp only [List.drop_succ_cons, List.drop_zero]; clear HF HM hz13; intro a w HF HM
  rw [show ((((name : Nat) : Int)) == ((name : Nat) : Int)) = true from beq_self_eq_true _] at HF
  obtain ⟨z14, hz14⟩ : ∃ z, w.heap.size = z := ⟨_, rfl⟩
  refine wp_sym HF HM hz14 26 [[3], [0], [0], [0], [0], [0], [0], [0], [0]] [(0, .bool false), (1, .bool big), (3, .int .u32 (name : Nat)), (4, .int .u32 (offset : Nat)), (7, .pointer (some ⟨z1, 0, none⟩)), (10, .bool false), (11, .pointer (some ⟨z4, 0, none⟩)), (13, .pointer (some ⟨z9, 0, none⟩)), (12, .int .u32 (name : Nat)), (14, .bool true), (15, .int .u64 (sizeB ty size n : Nat)), (64, .bool true), (65, .agg #[.string ⟨#[]⟩, .int .i64 (ty : Nat), .int .i64 (flags : Nat), .int .u64 (addr : Nat), .int .u64 (offset : Nat), .int .u64 (sizeB ty size n : Nat), .int .i64 (link : Nat), .int .i64 (info : Nat), .int .u64 (align : Nat), .int .u64 (ent : Nat), .int .u64 (sizeB ty size n : Nat)]), (88, .agg #[.string ⟨#[]⟩, .int .i64 (IntKind.i64.wrap (ty : Nat)), .int .i64 (IntKind.i64.wrap (flags : Nat)), .int .u64 (addr : Nat), .int .u64 (IntKind.u64.wrap (offset : Nat)), .int .u64 (sizeB ty size n : Nat), .int .i64 (IntKind.i64.wrap (link : Nat)), .int .i64 (IntKind.i64.wrap (info : Nat)), .int .u64 (align : Nat), .int .u64 (ent : Nat), .int .u64 (sizeB ty size n : Nat)])] [(z9, .cells #[.string ⟨#[]⟩, .int .i64 (ty : Nat), .int .i64 (flags : Nat), .int .u64 (addr : Nat), .int .u64 (offset : Nat), .int .u64 (sizeB ty size n : Nat), .int .i64 (link : Nat), .int .i64 (info : Nat), .int .u64 (align : Nat), .int .u64 (ent : Nat), .int .u64 (sizeB ty size n : Nat)] 65 (0, 0)), (z5, .cells #[.int .u64 (addr : Nat), .int .u64 (align : Nat), .int .u64 (ent : Nat), .int .u64 (size : Nat)] 30 (0, 0)), (z4, .cells #[.bool false, .bool big, .int .u8 0, .int .u8 0, .int .i64 0, .int .i64 0, .int .u64 0, .slice none 0 0, .slice none 0 0] 46 (0, 0)), (z1, .cells #[.string nm, .int .u32 (ty : Nat), .int .u32 (flags : Nat), .int .u64 (addr : Nat), .int .u32 (link : Nat), .int .u32 (info : Nat), .int .u64 (align : Nat), .int .u64 (ent : Nat), .int .u64 (size : Nat), .slice A n c] 62 (0, 0))] (by kernel_rfl) ?_
  simp only [List.drop_succ_cons, List.drop_zero]; clear HF HM hz14; intro a w HF HM
  rw [show IntKind.i64.wrap ((ty : Nat) : Int) = (ty : Nat) from IntWalk.i64_in _ (by omega)] at HF
  rw [show IntKind.i64.wrap ((flags : Nat) : Int) = (flags : Nat) from IntWalk.i64_in _ (by omega)] at HF
  rw [show IntKind.u64.wrap ((offset : Nat) : Int) = (offset : Nat) from IntWalk.u64_in _ (by omega)] at HF
  rw [show IntKind.i64.wrap ((link : Nat) : Int) = (link : Nat) from IntWalk.i64_in _ (by omega)] at HF
  rw [show IntKind.i64.wrap ((info : Nat) : Int) = (info : Nat) from IntWalk.i64_in _ (by omega)] at HF
  refine wp_run HF (by kernel_rfl) (.bool true) (by kernel_rfl) (run_binop_eql (by rfl) (by rfl) (by rfl) (eqGuard_sect _ _ _ _ _) (eql_sect (ty : Nat) (flags : Nat) (addr : Nat) (offset : Nat) (sizeB ty size n : Nat) (link : Nat) (info : Nat) (align : Nat) (ent : Nat) (sizeB ty size n : Nat) _)) ?_
  clear HF; intro a HF; replace HF := HF.sub [(0, .bool false), (1, .bool big), (3, .int .u32 (name : Nat)), (4, .int .u32 (offset : Nat)), (7, .pointer (some ⟨z1, 0, none⟩)), (10, .bool false), (11, .pointer (some ⟨z4, 0, none⟩)), (13, .pointer (some ⟨z9, 0, none⟩)), (12, .int .u32 (name : Nat)), (14, .bool true), (15, .int .u64 (sizeB ty size n : Nat)), (64, .bool true), (65, .agg #[.string ⟨#[]⟩, .int .i64 (ty : Nat), .int .i64 (flags : Nat), .int .u64 (addr : Nat), .int .u64 (offset : Nat), .int .u64 (sizeB ty size n : Nat), .int .i64 (link : Nat), .int .i64 (info : Nat), .int .u64 (align : Nat), .int .u64 (ent : Nat), .int .u64 (sizeB ty size n : Nat)]), (88, .agg #[.string ⟨#[]⟩, .int .i64 (ty : Nat), .int .i64 (flags : Nat), .int .u64 (addr : Nat), .int .u64 (offset : Nat), .int .u64 (sizeB ty size n : Nat), .int .i64 (link : Nat), .int .i64 (info : Nat), .int .u64 (align : Nat), .int .u64 (ent : Nat), .int .u64 (sizeB ty size n : Nat)]), (89, .bool true)] (by kernel_rfl)
  obtain ⟨z15, hz15⟩ : ∃ z, w.heap.size = z := ⟨_, rfl⟩
  refine wp_sym HF HM hz15 2 [] [(0, .bool false), (1, .bool big), (3, .int .u32 (name : Nat)), (4, .int .u32 (offset : Nat)), (7, .pointer (some ⟨z1, 0, none⟩)), (11, .pointer (some ⟨z4, 0, none⟩)), (13, .pointer (some ⟨z9, 0, none⟩)), (12, .int .u32 (name : Nat)), (14, .bool true), (15, .int .u64 (sizeB ty size n : Nat)), (10, .bool true)] [(z9, .cells #[.string ⟨#[]⟩, .int .i64 (ty : Nat), .int .i64 (flags : Nat), .int .u64 (addr : Nat), .int .u64 (offset : Nat), .int .u64 (sizeB ty size n : Nat), .int .i64 (link : Nat), .int .i64 (info : Nat), .int .u64 (align : Nat), .int .u64 (ent : Nat), .int .u64 (sizeB ty size n : Nat)] 65 (0, 0)), (z5, .cells #[.int .u64 (addr : Nat), .int .u64 (align : Nat), .int .u64 (ent : Nat), .int .u64 (size : Nat)] 30 (0, 0)), (z4, .cells #[.bool false, .bool big, .int .u8 0, .int .u8 0, .int .i64 0, .int .i64 0, .int .u64 0, .slice none 0 0, .slice none 0 0] 46 (0, 0)), (z1, .cells #[.string nm, .int .u32 (ty : Nat), .int .u32 (flags : Nat), .int .u64 (addr : Nat), .int .u32 (link : Nat), .int .u32 (info : Nat), .int .u64 (align : Nat), .int .u64 (ent : Nat), .int .u64 (size : Nat), .slice A n c] 62 (0, 0))] (by kernel_rfl) ?_
  simp only [List.drop_succ_cons, List.drop_zero]; clear HF HM hz15; intro a w HF HM
  refine nil_then ?_
  refine wp_ret ?_
  exact ret_one HF rfl rfl ⟨rfl, HM.below⟩

set_option maxRecDepth 100000 in
set_option maxHeartbeats 1000000 in
theorem walkSec_true_name (big : Bool) (nm : ByteArray) (ty flags addr link info align ent size : Nat) (A : Option Addr) (n c : Nat) (name offset : Nat) (hty : ty < 4294967296) (hfl : flags < 4294967296) (had : addr < 18446744073709551616) (hli : link < 4294967296) (hin : info < 4294967296) (hal : align < 18446744073709551616) (hen : ent < 18446744073709551616) (hsi : size < 18446744073709551616) (hna : name < 4294967296) (hof : offset < 4294967296) (h1 : 2147483647 < nm.size) (w0 : World) :
    Calls Try.prog 13 #[.bool true, .bool big, .agg #[.string nm, .int .u32 (ty : Nat), .int .u32 (flags : Nat), .int .u64 (addr : Nat), .int .u32 (link : Nat), .int .u32 (info : Nat), .int .u64 (align : Nat), .int .u64 (ent : Nat), .int .u64 (size : Nat), .slice A n c], .int .u32 (name : Nat), .int .u32 (offset : Nat)] w0 fun e w' => e = .returned (.bool true) ∧ Below w0.heap.size w0 w' := by
  obtain ⟨w, hw⟩ : ∃ w, w0 = w := ⟨_, rfl⟩
  have HM : Mm w0 w [] := hw ▸ Mm.start w0
  conv => arg 4; rw [hw]
  clear hw
  refine calls_start Try.func13 rfl Try.ntmps13 [(0, .bool true), (1, .bool big), (2, .agg #[.string nm, .int .u32 (ty : Nat), .int .u32 (flags : Nat), .int .u64 (addr : Nat), .int .u32 (link : Nat), .int .u32 (info : Nat), .int .u64 (align : Nat), .int .u64 (ent : Nat), .int .u64 (size : Nat), .slice A n c]), (3, .int .u32 (name : Nat)), (4, .int .u32 (offset : Nat))] (by kernel_rfl) (Nat.le_of_ble_eq_true rfl) ?_
  intro a HF
  obtain ⟨z1, hz1⟩ : ∃ z, w.heap.size = z := ⟨_, rfl⟩
  refine reg_sym HF HM hz1 [] [(0, .bool true), (1, .bool big), (3, .int .u32 (name : Nat)), (4, .int .u32 (offset : Nat)), (7, .pointer (some ⟨z1, 0, none⟩)), (10, .bool false)] [(z1, .cells #[.string nm, .int .u32 (ty : Nat), .int .u32 (flags : Nat), .int .u64 (addr : Nat), .int .u32 (link : Nat), .int .u32 (info : Nat), .int .u64 (align : Nat), .int .u64 (ent : Nat), .int .u64 (size : Nat), .slice A n c] 62 (0, 0))] (by kernel_rfl) ?_
  clear HF HM hz1; intro a w HF HM
  refine wp_seq ?_
  refine wp_seq (wp_region_lit ?_)
  obtain ⟨z2, hz2⟩ : ∃ z, w.heap.size = z := ⟨_, rfl⟩
  refine wp_sym HF HM hz2 1 [[0]] [(0, .bool true), (1, .bool big), (3, .int .u32 (name : Nat)), (4, .int .u32 (offset : Nat)), (7, .pointer (some ⟨z1, 0, none⟩)), (10, .bool false), (16, .agg #[.string nm, .int .u32 (ty : Nat), .int .u32 (flags : Nat), .int .u64 (addr : Nat), .int .u32 (link : Nat), .int .u32 (info : Nat), .int .u64 (align : Nat), .int .u64 (ent : Nat), .int .u64 (size : Nat), .slice A n c])] [(z1, .cells #[.string nm, .int .u32 (ty : Nat), .int .u32 (flags : Nat), .int .u64 (addr : Nat), .int .u32 (link : Nat), .int .u32 (info : Nat), .int .u64 (align : Nat), .int .u64 (ent : Nat), .int .u64 (size : Nat), .slice A n c] 62 (0, 0))] (by kernel_rfl) ?_
  simp only [List.drop_succ_cons, List.drop_zero]; clear HF HM hz2; intro a w HF HM
  refine wp_call HF (by kernel_rfl) 33 #[.agg #[.string nm, .int .u32 (ty : Nat), .int .u32 (flags : Nat), .int .u64 (addr : Nat), .int .u32 (link : Nat), .int .u32 (info : Nat), .int .u64 (align : Nat), .int .u64 (ent : Nat), .int .u64 (size : Nat), .slice A n c]] (by kernel_rfl) (fun w => by kernel_rfl) (Calls.mono (zzFits5_name nm ty flags addr link info align ent size A n c h1 w) ?_)
  rintro _ w1 ⟨rfl, hb⟩
  replace HM := HM.call hb
  clear hb
  refine ⟨_, rfl, ?_⟩; clear HF; intro a HF; replace HF := HF.sub [(0, .bool true), (1, .bool big), (3, .int .u32 (name : Nat)), (4, .int .u32 (offset : Nat)), (7, .pointer (some ⟨z1, 0, none⟩)), (10, .bool false), (16, .agg #[.string nm, .int .u32 (ty : Nat), .int .u32 (flags : Nat), .int .u64 (addr : Nat), .int .u32 (link : Nat), .int .u32 (info : Nat), .int .u64 (align : Nat), .int .u64 (ent : Nat), .int .u64 (size : Nat), .slice A n c]), (17, .bool false)] (by kernel_rfl)
  obtain ⟨z3, hz3⟩ : ∃ z, w1.heap.size = z := ⟨_, rfl⟩
  refine wp_sym HF HM hz3 1 [] [(0, .bool true), (1, .bool big), (3, .int .u32 (name : Nat)), (4, .int .u32 (offset : Nat)), (7, .pointer (some ⟨z1, 0, none⟩)), (10, .bool false), (18, .bool true)] [(z1, .cells #[.string nm, .int .u32 (ty : Nat), .int .u32 (flags : Nat), .int .u64 (addr : Nat), .int .u32 (link : Nat), .int .u32 (info : Nat), .int .u64 (align : Nat), .int .u64 (ent : Nat), .int .u64 (size : Nat), .slice A n c] 62 (0, 0))] (by kernel_rfl) ?_
  simp only [List.drop_succ_cons, List.drop_zero]; clear HF HM hz3; intro a w HF HM
  refine nil_then ?_
  refine wp_condT HF rfl ?_
  obtain ⟨z4, hz4⟩ : ∃ z, w.heap.size = z := ⟨_, rfl⟩
  refine reg_sym HF HM hz4 [] [(0, .bool true), (1, .bool big), (3, .int .u32 (name : Nat)), (4, .int .u32 (offset : Nat)), (7, .pointer (some ⟨z1, 0, none⟩)), (18, .bool true), (10, .bool true)] [(z1, .cells #[.string nm, .int .u32 (ty : Nat), .int .u32 (flags : Nat), .int .u64 (addr : Nat), .int .u32 (link : Nat), .int .u32 (info : Nat), .int .u64 (align : Nat), .int .u64 (ent : Nat), .int .u64 (size : Nat), .slice A n c] 62 (0, 0))] (by kernel_rfl) ?_
  clear HF HM hz4; intro a w HF HM
  refine wp_ret ?_
  repeat (first | refine then_ret ?_ | refine inb_ret ?_)
  exact ret_one HF rfl rfl ⟨rfl, HM.below⟩

set_option maxRecDepth 100000 in
set_option maxHeartbeats 1000000 in
theorem walkSec_true_data (big : Bool) (nm : ByteArray) (ty flags addr link info align ent size : Nat) (A : Option Addr) (n c : Nat) (name offset : Nat) (hty : ty < 4294967296) (hfl : flags < 4294967296) (had : addr < 18446744073709551616) (hli : link < 4294967296) (hin : info < 4294967296) (hal : align < 18446744073709551616) (hen : ent < 18446744073709551616) (hsi : size < 18446744073709551616) (hna : name < 4294967296) (hof : offset < 4294967296) (h1 : nm.size ≤ 2147483647) (h2 : 2147483647 < n) (w0 : World) :
    Calls Try.prog 13 #[.bool true, .bool big, .agg #[.string nm, .int .u32 (ty : Nat), .int .u32 (flags : Nat), .int .u64 (addr : Nat), .int .u32 (link : Nat), .int .u32 (info : Nat), .int .u64 (align : Nat), .int .u64 (ent : Nat), .int .u64 (size : Nat), .slice A n c], .int .u32 (name : Nat), .int .u32 (offset : Nat)] w0 fun e w' => e = .returned (.bool true) ∧ Below w0.heap.size w0 w' := by
  obtain ⟨w, hw⟩ : ∃ w, w0 = w := ⟨_, rfl⟩
  have HM : Mm w0 w [] := hw ▸ Mm.start w0
  conv => arg 4; rw [hw]
  clear hw
  refine calls_start Try.func13 rfl Try.ntmps13 [(0, .bool true), (1, .bool big), (2, .agg #[.string nm, .int .u32 (ty : Nat), .int .u32 (flags : Nat), .int .u64 (addr : Nat), .int .u32 (link : Nat), .int .u32 (info : Nat), .int .u64 (align : Nat), .int .u64 (ent : Nat), .int .u64 (size : Nat), .slice A n c]), (3, .int .u32 (name : Nat)), (4, .int .u32 (offset : Nat))] (by kernel_rfl) (Nat.le_of_ble_eq_true rfl) ?_
  intro a HF
  obtain ⟨z1, hz1⟩ : ∃ z, w.heap.size = z := ⟨_, rfl⟩
  refine reg_sym HF HM hz1 [] [(0, .bool true), (1, .bool big), (3, .int .u32 (name : Nat)), (4, .int .u32 (offset : Nat)), (7, .pointer (some ⟨z1, 0, none⟩)), (10, .bool false)] [(z1, .cells #[.string nm, .int .u32 (ty : Nat), .int .u32 (flags : Nat), .int .u64 (addr : Nat), .int .u32 (link : Nat), .int .u32 (info : Nat), .int .u64 (align : Nat), .int .u64 (ent : Nat), .int .u64 (size : Nat), .slice A n c] 62 (0, 0))] (by kernel_rfl) ?_
  clear HF HM hz1; intro a w HF HM
  refine wp_seq ?_
  refine wp_seq (wp_region_lit ?_)
  obtain ⟨z2, hz2⟩ : ∃ z, w.heap.size = z := ⟨_, rfl⟩
  refine wp_sym HF HM hz2 1 [[0]] [(0, .bool true), (1, .bool big), (3, .int .u32 (name : Nat)), (4, .int .u32 (offset : Nat)), (7, .pointer (some ⟨z1, 0, none⟩)), (10, .bool false), (16, .agg #[.string nm, .int .u32 (ty : Nat), .int .u32 (flags : Nat), .int .u64 (addr : Nat), .int .u32 (link : Nat), .int .u32 (info : Nat), .int .u64 (align : Nat), .int .u64 (ent : Nat), .int .u64 (size : Nat), .slice A n c])] [(z1, .cells #[.string nm, .int .u32 (ty : Nat), .int .u32 (flags : Nat), .int .u64 (addr : Nat), .int .u32 (link : Nat), .int .u32 (info : Nat), .int .u64 (align : Nat), .int .u64 (ent : Nat), .int .u64 (size : Nat), .slice A n c] 62 (0, 0))] (by kernel_rfl) ?_
  simp only [List.drop_succ_cons, List.drop_zero]; clear HF HM hz2; intro a w HF HM
  refine wp_call HF (by kernel_rfl) 33 #[.agg #[.string nm, .int .u32 (ty : Nat), .int .u32 (flags : Nat), .int .u64 (addr : Nat), .int .u32 (link : Nat), .int .u32 (info : Nat), .int .u64 (align : Nat), .int .u64 (ent : Nat), .int .u64 (size : Nat), .slice A n c]] (by kernel_rfl) (fun w => by kernel_rfl) (Calls.mono (zzFits5_data nm ty flags addr link info align ent size A n c h1 h2 w) ?_)
  rintro _ w1 ⟨rfl, hb⟩
  replace HM := HM.call hb
  clear hb
  refine ⟨_, rfl, ?_⟩; clear HF; intro a HF; replace HF := HF.sub [(0, .bool true), (1, .bool big), (3, .int .u32 (name : Nat)), (4, .int .u32 (offset : Nat)), (7, .pointer (some ⟨z1, 0, none⟩)), (10, .bool false), (16, .agg #[.string nm, .int .u32 (ty : Nat), .int .u32 (flags : Nat), .int .u64 (addr : Nat), .int .u32 (link : Nat), .int .u32 (info : Nat), .int .u64 (align : Nat), .int .u64 (ent : Nat), .int .u64 (size : Nat), .slice A n c]), (17, .bool false)] (by kernel_rfl)
  obtain ⟨z3, hz3⟩ : ∃ z, w1.heap.size = z := ⟨_, rfl⟩
  refine wp_sym HF HM hz3 1 [] [(0, .bool true), (1, .bool big), (3, .int .u32 (name : Nat)), (4, .int .u32 (offset : Nat)), (7, .pointer (some ⟨z1, 0, none⟩)), (10, .bool false), (18, .bool true)] [(z1, .cells #[.string nm, .int .u32 (ty : Nat), .int .u32 (flags : Nat), .int .u64 (addr : Nat), .int .u32 (link : Nat), .int .u32 (info : Nat), .int .u64 (align : Nat), .int .u64 (ent : Nat), .int .u64 (size : Nat), .slice A n c] 62 (0, 0))] (by kernel_rfl) ?_
  simp only [List.drop_succ_cons, List.drop_zero]; clear HF HM hz3; intro a w HF HM
  refine nil_then ?_
  refine wp_condT HF rfl ?_
  obtain ⟨z4, hz4⟩ : ∃ z, w.heap.size = z := ⟨_, rfl⟩
  refine reg_sym HF HM hz4 [] [(0, .bool true), (1, .bool big), (3, .int .u32 (name : Nat)), (4, .int .u32 (offset : Nat)), (7, .pointer (some ⟨z1, 0, none⟩)), (18, .bool true), (10, .bool true)] [(z1, .cells #[.string nm, .int .u32 (ty : Nat), .int .u32 (flags : Nat), .int .u64 (addr : Nat), .int .u32 (link : Nat), .int .u32 (info : Nat), .int .u64 (align : Nat), .int .u64 (ent : Nat), .int .u64 (size : Nat), .slice A n c] 62 (0, 0))] (by kernel_rfl) ?_
  clear HF HM hz4; intro a w HF HM
  refine wp_ret ?_
  repeat (first | refine then_ret ?_ | refine inb_ret ?_)
  exact ret_one HF rfl rfl ⟨rfl, HM.below⟩

set_option maxRecDepth 100000 in
set_option maxHeartbeats 1000000 in
theorem walkSec_true_long (big : Bool) (nm : ByteArray) (ty flags addr link info align ent size : Nat) (A : Option Addr) (n c : Nat) (name offset : Nat) (hty : ty < 4294967296) (hfl : flags < 4294967296) (had : addr < 18446744073709551616) (hli : link < 4294967296) (hin : info < 4294967296) (hal : align < 18446744073709551616) (hen : ent < 18446744073709551616) (hsi : size < 18446744073709551616) (hna : name < 4294967296) (hof : offset < 4294967296) (h1 : nm.size ≤ 2147483647) (h2 : n ≤ 2147483647) (hfb : fitsB true [addr, align, ent, size] = true) (hlong : 65536 < n) (w0 : World) :
    Calls Try.prog 13 #[.bool true, .bool big, .agg #[.string nm, .int .u32 (ty : Nat), .int .u32 (flags : Nat), .int .u64 (addr : Nat), .int .u32 (link : Nat), .int .u32 (info : Nat), .int .u64 (align : Nat), .int .u64 (ent : Nat), .int .u64 (size : Nat), .slice A n c], .int .u32 (name : Nat), .int .u32 (offset : Nat)] w0 fun e w' => e = .returned (.bool true) ∧ Below w0.heap.size w0 w' := by
  obtain ⟨w, hw⟩ : ∃ w, w0 = w := ⟨_, rfl⟩
  have HM : Mm w0 w [] := hw ▸ Mm.start w0
  conv => arg 4; rw [hw]
  clear hw
  refine calls_start Try.func13 rfl Try.ntmps13 [(0, .bool true), (1, .bool big), (2, .agg #[.string nm, .int .u32 (ty : Nat), .int .u32 (flags : Nat), .int .u64 (addr : Nat), .int .u32 (link : Nat), .int .u32 (info : Nat), .int .u64 (align : Nat), .int .u64 (ent : Nat), .int .u64 (size : Nat), .slice A n c]), (3, .int .u32 (name : Nat)), (4, .int .u32 (offset : Nat))] (by kernel_rfl) (Nat.le_of_ble_eq_true rfl) ?_
  intro a HF
  obtain ⟨z1, hz1⟩ : ∃ z, w.heap.size = z := ⟨_, rfl⟩
  refine reg_sym HF HM hz1 [] [(0, .bool true), (1, .bool big), (3, .int .u32 (name : Nat)), (4, .int .u32 (offset : Nat)), (7, .pointer (some ⟨z1, 0, none⟩)), (10, .bool false)] [(z1, .cells #[.string nm, .int .u32 (ty : Nat), .int .u32 (flags : Nat), .int .u64 (addr : Nat), .int .u32 (link : Nat), .int .u32 (info : Nat), .int .u64 (align : Nat), .int .u64 (ent : Nat), .int .u64 (size : Nat), .slice A n c] 62 (0, 0))] (by kernel_rfl) ?_
  clear HF HM hz1; intro a w HF HM
  refine wp_seq ?_
  refine wp_seq (wp_region_lit ?_)
  obtain ⟨z2, hz2⟩ : ∃ z, w.heap.size = z := ⟨_, rfl⟩
  refine wp_sym HF HM hz2 1 [[0]] [(0, .bool true), (1, .bool big), (3, .int .u32 (name : Nat)), (4, .int .u32 (offset : Nat)), (7, .pointer (some ⟨z1, 0, none⟩)), (10, .bool false), (16, .agg #[.string nm, .int .u32 (ty : Nat), .int .u32 (flags : Nat), .int .u64 (addr : Nat), .int .u32 (link : Nat), .int .u32 (info : Nat), .int .u64 (align : Nat), .int .u64 (ent : Nat), .int .u64 (size : Nat), .slice A n c])] [(z1, .cells #[.string nm, .int .u32 (ty : Nat), .int .u32 (flags : Nat), .int .u64 (addr : Nat), .int .u32 (link : Nat), .int .u32 (info : Nat), .int .u64 (align : Nat), .int .u64 (ent : Nat), .int .u64 (size : Nat), .slice A n c] 62 (0, 0))] (by kernel_rfl) ?_
  simp only [List.drop_succ_cons, List.drop_zero]; clear HF HM hz2; intro a w HF HM
  refine wp_call HF (by kernel_rfl) 33 #[.agg #[.string nm, .int .u32 (ty : Nat), .int .u32 (flags : Nat), .int .u64 (addr : Nat), .int .u32 (link : Nat), .int .u32 (info : Nat), .int .u64 (align : Nat), .int .u64 (ent : Nat), .int .u64 (size : Nat), .slice A n c]] (by kernel_rfl) (fun w => by kernel_rfl) (Calls.mono (zzFits5_in nm ty flags addr link info align ent size A n c h1 h2 w) ?_)
  rintro _ w1 ⟨rfl, hb⟩
  replace HM := HM.call hb
  clear hb
  refine ⟨_, rfl, ?_⟩; clear HF; intro a HF; replace HF := HF.sub [(0, .bool true), (1, .bool big), (3, .int .u32 (name : Nat)), (4, .int .u32 (offset : Nat)), (7, .pointer (some ⟨z1, 0, none⟩)), (10, .bool false), (16, .agg #[.string nm, .int .u32 (ty : Nat), .int .u32 (flags : Nat), .int .u64 (addr : Nat), .int .u32 (link : Nat), .int .u32 (info : Nat), .int .u64 (align : Nat), .int .u64 (ent : Nat), .int .u64 (size : Nat), .slice A n c]), (17, .bool true)] (by kernel_rfl)
  obtain ⟨z3, hz3⟩ : ∃ z, w1.heap.size = z := ⟨_, rfl⟩
  refine wp_sym HF HM hz3 1 [] [(0, .bool true), (1, .bool big), (3, .int .u32 (name : Nat)), (4, .int .u32 (offset : Nat)), (7, .pointer (some ⟨z1, 0, none⟩)), (10, .bool false), (18, .bool false)] [(z1, .cells #[.string nm, .int .u32 (ty : Nat), .int .u32 (flags : Nat), .int .u64 (addr : Nat), .int .u32 (link : Nat), .int .u32 (info : Nat), .int .u64 (align : Nat), .int .u64 (ent : Nat), .int .u64 (size : Nat), .slice A n c] 62 (0, 0))] (by kernel_rfl) ?_
  simp only [List.drop_succ_cons, List.drop_zero]; clear HF HM hz3; intro a w HF HM
  refine nil_then ?_
  refine wp_condF HF rfl ?_
  refine wp_skip ?_
  repeat (first | refine then_norm ?_ | refine inb_norm ?_)
  replace HF := HF.sub [(0, .bool true), (1, .bool big), (3, .int .u32 (name : Nat)), (4, .int .u32 (offset : Nat)), (7, .pointer (some ⟨z1, 0, none⟩)), (10, .bool false)] (by kernel_rfl)
  obtain ⟨z4, hz4⟩ : ∃ z, w.heap.size = z := ⟨_, rfl⟩
  refine reg_sym HF HM hz4 [[1]] [(0, .bool true), (1, .bool big), (3, .int .u32 (name : Nat)), (4, .int .u32 (offset : Nat)), (7, .pointer (some ⟨z1, 0, none⟩)), (10, .bool false), (11, .pointer (some ⟨z4, 0, none⟩))] [(z4, .cells #[.bool true, .bool big, .int .u8 0, .int .u8 0, .int .i64 0, .int .i64 0, .int .u64 0, .slice none 0 0, .slice none 0 0] 46 (0, 0)), (z1, .cells #[.string nm, .int .u32 (ty : Nat), .int .u32 (flags : Nat), .int .u64 (addr : Nat), .int .u32 (link : Nat), .int .u32 (info : Nat), .int .u64 (align : Nat), .int .u64 (ent : Nat), .int .u64 (size : Nat), .slice A n c] 62 (0, 0))] (by kernel_rfl) ?_
  clear HF HM hz4; intro a w HF HM
  refine wp_seq ?_
  refine wp_seq (wp_region_lit ?_)
  obtain ⟨z5, hz5⟩ : ∃ z, w.heap.size = z := ⟨_, rfl⟩
  refine wp_sym HF HM hz5 10 [[1], [0], [0], [0], [0]] [(0, .bool true), (1, .bool big), (3, .int .u32 (name : Nat)), (4, .int .u32 (offset : Nat)), (7, .pointer (some ⟨z1, 0, none⟩)), (10, .bool false), (11, .pointer (some ⟨z4, 0, none⟩)), (22, .agg #[.bool true, .bool big, .int .u8 0, .int .u8 0, .int .i64 0, .int .i64 0, .int .u64 0, .slice none 0 0, .slice none 0 0]), (31, .slice (some ⟨z5, 0, none⟩) 4 4)] [(z5, .cells #[.int .u64 (addr : Nat), .int .u64 (align : Nat), .int .u64 (ent : Nat), .int .u64 (size : Nat)] 30 (0, 0)), (z4, .cells #[.bool true, .bool big, .int .u8 0, .int .u8 0, .int .i64 0, .int .i64 0, .int .u64 0, .slice none 0 0, .slice none 0 0] 46 (0, 0)), (z1, .cells #[.string nm, .int .u32 (ty : Nat), .int .u32 (flags : Nat), .int .u64 (addr : Nat), .int .u32 (link : Nat), .int .u32 (info : Nat), .int .u64 (align : Nat), .int .u64 (ent : Nat), .int .u64 (size : Nat), .slice A n c] 62 (0, 0))] (by kernel_rfl) ?_
  simp only [List.drop_succ_cons, List.drop_zero]; clear HF HM hz5; intro a w HF HM
  have hrf : Row w (some ⟨z5, 0, none⟩) ([addr, align, ent, size].map fun (k : Nat) => Value.int .u64 (k : Int)) := HM.rowAt (i := 0) rfl
  refine wp_call HF (by kernel_rfl) 26 #[.agg #[.bool true, .bool big, .int .u8 0, .int .u8 0, .int .i64 0, .int .i64 0, .int .u64 0, .slice none 0 0, .slice none 0 0], .slice (some ⟨z5, 0, none⟩) 4 4] (by kernel_rfl) (fun w => by kernel_rfl) (Calls.mono ((by have h := fits_any true (.bool big) (.int .u8 0) (.int .u8 0) (.int .i64 0) (.int .i64 0) (.int .u64 0) (.slice none 0 0) (.slice none 0 0) [addr, align, ent, size] (some ⟨z5, 0, none⟩) 4 4 rfl (by decide) w hrf; rw [hfb] at h; exact h)) ?_)
  rintro _ w2 ⟨rfl, hb⟩
  replace HM := HM.call hb
  clear hb
  refine ⟨_, rfl, ?_⟩; clear HF; intro a HF; replace HF := HF.sub [(0, .bool true), (1, .bool big), (3, .int .u32 (name : Nat)), (4, .int .u32 (offset : Nat)), (7, .pointer (some ⟨z1, 0, none⟩)), (10, .bool false), (11, .pointer (some ⟨z4, 0, none⟩)), (22, .agg #[.bool true, .bool big, .int .u8 0, .int .u8 0, .int .i64 0, .int .i64 0, .int .u64 0, .slice none 0 0, .slice none 0 0]), (31, .slice (some ⟨z5, 0, none⟩) 4 4), (32, .bool true)] (by kernel_rfl)
  replace HF := HF.sub [(0, .bool true), (1, .bool big), (3, .int .u32 (name : Nat)), (4, .int .u32 (offset : Nat)), (7, .pointer (some ⟨z1, 0, none⟩)), (10, .bool false), (11, .pointer (some ⟨z4, 0, none⟩)), (32, .bool true)] (by kernel_rfl)
  obtain ⟨z6, hz6⟩ : ∃ z, w2.heap.size = z := ⟨_, rfl⟩
  refine wp_sym HF HM hz6 6 [[0]] [(0, .bool true), (1, .bool big), (3, .int .u32 (name : Nat)), (4, .int .u32 (offset : Nat)), (7, .pointer (some ⟨z1, 0, none⟩)), (10, .bool false), (11, .pointer (some ⟨z4, 0, none⟩)), (34, .bool false), (38, .bool (decide ((65536 : Int) < (n : Int))))] [(z5, .cells #[.int .u64 (addr : Nat), .int .u64 (align : Nat), .int .u64 (ent : Nat), .int .u64 (size : Nat)] 30 (0, 0)), (z4, .cells #[.bool true, .bool big, .int .u8 0, .int .u8 0, .int .i64 0, .int .i64 0, .int .u64 0, .slice none 0 0, .slice none 0 0] 46 (0, 0)), (z1, .cells #[.string nm, .int .u32 (ty : Nat), .int .u32 (flags : Nat), .int .u64 (addr : Nat), .int .u32 (link : Nat), .int .u32 (info : Nat), .int .u64 (align : Nat), .int .u64 (ent : Nat), .int .u64 (size : Nat), .slice A n c] 62 (0, 0))] (by kernel_rfl) ?_
  simp only [List.drop_succ_cons, List.drop_zero]; clear HF HM hz6; intro a w HF HM
  rw [show decide ((65536 : Int) < (n : Int)) = true from dec_t (by omega)] at HF
  obtain ⟨z7, hz7⟩ : ∃ z, w.heap.size = z := ⟨_, rfl⟩
  refine wp_sym HF HM hz7 1 [] [(0, .bool true), (1, .bool big), (3, .int .u32 (name : Nat)), (4, .int .u32 (offset : Nat)), (7, .pointer (some ⟨z1, 0, none⟩)), (10, .bool false), (11, .pointer (some ⟨z4, 0, none⟩)), (39, .bool true)] [(z5, .cells #[.int .u64 (addr : Nat), .int .u64 (align : Nat), .int .u64 (ent : Nat), .int .u64 (size : Nat)] 30 (0, 0)), (z4, .cells #[.bool true, .bool big, .int .u8 0, .int .u8 0, .int .i64 0, .int .i64 0, .int .u64 0, .slice none 0 0, .slice none 0 0] 46 (0, 0)), (z1, .cells #[.string nm, .int .u32 (ty : Nat), .int .u32 (flags : Nat), .int .u64 (addr : Nat), .int .u32 (link : Nat), .int .u32 (info : Nat), .int .u64 (align : Nat), .int .u64 (ent : Nat), .int .u64 (size : Nat), .slice A n c] 62 (0, 0))] (by kernel_rfl) ?_
  simp only [List.drop_succ_cons, List.drop_zero]; clear HF HM hz7; intro a w HF HM
  refine nil_then ?_
  refine wp_condT HF rfl ?_
  obtain ⟨z8, hz8⟩ : ∃ z, w.heap.size = z := ⟨_, rfl⟩
  refine reg_sym HF HM hz8 [] [(0, .bool true), (1, .bool big), (3, .int .u32 (name : Nat)), (4, .int .u32 (offset : Nat)), (7, .pointer (some ⟨z1, 0, none⟩)), (11, .pointer (some ⟨z4, 0, none⟩)), (39, .bool true), (10, .bool true)] [(z5, .cells #[.int .u64 (addr : Nat), .int .u64 (align : Nat), .int .u64 (ent : Nat), .int .u64 (size : Nat)] 30 (0, 0)), (z4, .cells #[.bool true, .bool big, .int .u8 0, .int .u8 0, .int .i64 0, .int .i64 0, .int .u64 0, .slice none 0 0, .slice none 0 0] 46 (0, 0)), (z1, .cells #[.string nm, .int .u32 (ty : Nat), .int .u32 (flags : Nat), .int .u64 (addr : Nat), .int .u32 (link : Nat), .int .u32 (info : Nat), .int .u64 (align : Nat), .int .u64 (ent : Nat), .int .u64 (size : Nat), .slice A n c] 62 (0, 0))] (by kernel_rfl) ?_
  clear HF HM hz8; intro a w HF HM
  refine wp_ret ?_
  repeat (first | refine then_ret ?_ | refine inb_ret ?_)
  exact ret_one HF rfl rfl ⟨rfl, HM.below⟩

set_option maxRecDepth 100000 in
set_option maxHeartbeats 1000000 in
theorem walkSec_true_ok (big : Bool) (nm : ByteArray) (ty flags addr link info align ent size : Nat) (A : Option Addr) (n c : Nat) (name offset : Nat) (hty : ty < 4294967296) (hfl : flags < 4294967296) (had : addr < 18446744073709551616) (hli : link < 4294967296) (hin : info < 4294967296) (hal : align < 18446744073709551616) (hen : ent < 18446744073709551616) (hsi : size < 18446744073709551616) (hna : name < 4294967296) (hof : offset < 4294967296) (h1 : nm.size ≤ 2147483647) (h2 : n ≤ 2147483647) (hfb : fitsB true [addr, align, ent, size] = true) (hshort : n ≤ 65536) (w0 : World) :
    Calls Try.prog 13 #[.bool true, .bool big, .agg #[.string nm, .int .u32 (ty : Nat), .int .u32 (flags : Nat), .int .u64 (addr : Nat), .int .u32 (link : Nat), .int .u32 (info : Nat), .int .u64 (align : Nat), .int .u64 (ent : Nat), .int .u64 (size : Nat), .slice A n c], .int .u32 (name : Nat), .int .u32 (offset : Nat)] w0 fun e w' => e = .returned (.bool true) ∧ Below w0.heap.size w0 w' := by
  obtain ⟨w, hw⟩ : ∃ w, w0 = w := ⟨_, rfl⟩
  have HM : Mm w0 w [] := hw ▸ Mm.start w0
  conv => arg 4; rw [hw]
  clear hw
  refine calls_start Try.func13 rfl Try.ntmps13 [(0, .bool true), (1, .bool big), (2, .agg #[.string nm, .int .u32 (ty : Nat), .int .u32 (flags : Nat), .int .u64 (addr : Nat), .int .u32 (link : Nat), .int .u32 (info : Nat), .int .u64 (align : Nat), .int .u64 (ent : Nat), .int .u64 (size : Nat), .slice A n c]), (3, .int .u32 (name : Nat)), (4, .int .u32 (offset : Nat))] (by kernel_rfl) (Nat.le_of_ble_eq_true rfl) ?_
  intro a HF
  obtain ⟨z1, hz1⟩ : ∃ z, w.heap.size = z := ⟨_, rfl⟩
  refine reg_sym HF HM hz1 [] [(0, .bool true), (1, .bool big), (3, .int .u32 (name : Nat)), (4, .int .u32 (offset : Nat)), (7, .pointer (some ⟨z1, 0, none⟩)), (10, .bool false)] [(z1, .cells #[.string nm, .int .u32 (ty : Nat), .int .u32 (flags : Nat), .int .u64 (addr : Nat), .int .u32 (link : Nat), .int .u32 (info : Nat), .int .u64 (align : Nat), .int .u64 (ent : Nat), .int .u64 (size : Nat), .slice A n c] 62 (0, 0))] (by kernel_rfl) ?_
  clear HF HM hz1; intro a w HF HM
  refine wp_seq ?_
  refine wp_seq (wp_region_lit ?_)
  obtain ⟨z2, hz2⟩ : ∃ z, w.heap.size = z := ⟨_, rfl⟩
  refine wp_sym HF HM hz2 1 [[0]] [(0, .bool true), (1, .bool big), (3, .int .u32 (name : Nat)), (4, .int .u32 (offset : Nat)), (7, .pointer (some ⟨z1, 0, none⟩)), (10, .bool false), (16, .agg #[.string nm, .int .u32 (ty : Nat), .int .u32 (flags : Nat), .int .u64 (addr : Nat), .int .u32 (link : Nat), .int .u32 (info : Nat), .int .u64 (align : Nat), .int .u64 (ent : Nat), .int .u64 (size : Nat), .slice A n c])] [(z1, .cells #[.string nm, .int .u32 (ty : Nat), .int .u32 (flags : Nat), .int .u64 (addr : Nat), .int .u32 (link : Nat), .int .u32 (info : Nat), .int .u64 (align : Nat), .int .u64 (ent : Nat), .int .u64 (size : Nat), .slice A n c] 62 (0, 0))] (by kernel_rfl) ?_
  simp only [List.drop_succ_cons, List.drop_zero]; clear HF HM hz2; intro a w HF HM
  refine wp_call HF (by kernel_rfl) 33 #[.agg #[.string nm, .int .u32 (ty : Nat), .int .u32 (flags : Nat), .int .u64 (addr : Nat), .int .u32 (link : Nat), .int .u32 (info : Nat), .int .u64 (align : Nat), .int .u64 (ent : Nat), .int .u64 (size : Nat), .slice A n c]] (by kernel_rfl) (fun w => by kernel_rfl) (Calls.mono (zzFits5_in nm ty flags addr link info align ent size A n c h1 h2 w) ?_)
  rintro _ w1 ⟨rfl, hb⟩
  replace HM := HM.call hb
  clear hb
  refine ⟨_, rfl, ?_⟩; clear HF; intro a HF; replace HF := HF.sub [(0, .bool true), (1, .bool big), (3, .int .u32 (name : Nat)), (4, .int .u32 (offset : Nat)), (7, .pointer (some ⟨z1, 0, none⟩)), (10, .bool false), (16, .agg #[.string nm, .int .u32 (ty : Nat), .int .u32 (flags : Nat), .int .u64 (addr : Nat), .int .u32 (link : Nat), .int .u32 (info : Nat), .int .u64 (align : Nat), .int .u64 (ent : Nat), .int .u64 (size : Nat), .slice A n c]), (17, .bool true)] (by kernel_rfl)
  obtain ⟨z3, hz3⟩ : ∃ z, w1.heap.size = z := ⟨_, rfl⟩
  refine wp_sym HF HM hz3 1 [] [(0, .bool true), (1, .bool big), (3, .int .u32 (name : Nat)), (4, .int .u32 (offset : Nat)), (7, .pointer (some ⟨z1, 0, none⟩)), (10, .bool false), (18, .bool false)] [(z1, .cells #[.string nm, .int .u32 (ty : Nat), .int .u32 (flags : Nat), .int .u64 (addr : Nat), .int .u32 (link : Nat), .int .u32 (info : Nat), .int .u64 (align : Nat), .int .u64 (ent : Nat), .int .u64 (size : Nat), .slice A n c] 62 (0, 0))] (by kernel_rfl) ?_
  simp only [List.drop_succ_cons, List.drop_zero]; clear HF HM hz3; intro a w HF HM
  refine nil_then ?_
  refine wp_condF HF rfl ?_
  refine wp_skip ?_
  repeat (first | refine then_norm ?_ | refine inb_norm ?_)
  replace HF := HF.sub [(0, .bool true), (1, .bool big), (3, .int .u32 (name : Nat)), (4, .int .u32 (offset : Nat)), (7, .pointer (some ⟨z1, 0, none⟩)), (10, .bool false)] (by kernel_rfl)
  obtain ⟨z4, hz4⟩ : ∃ z, w.heap.size = z := ⟨_, rfl⟩
  refine reg_sym HF HM hz4 [[1]] [(0, .bool true), (1, .bool big), (3, .int .u32 (name : Nat)), (4, .int .u32 (offset : Nat)), (7, .pointer (some ⟨z1, 0, none⟩)), (10, .bool false), (11, .pointer (some ⟨z4, 0, none⟩))] [(z4, .cells #[.bool true, .bool big, .int .u8 0, .int .u8 0, .int .i64 0, .int .i64 0, .int .u64 0, .slice none 0 0, .slice none 0 0] 46 (0, 0)), (z1, .cells #[.string nm, .int .u32 (ty : Nat), .int .u32 (flags : Nat), .int .u64 (addr : Nat), .int .u32 (link : Nat), .int .u32 (info : Nat), .int .u64 (align : Nat), .int .u64 (ent : Nat), .int .u64 (size : Nat), .slice A n c] 62 (0, 0))] (by kernel_rfl) ?_
  clear HF HM hz4; intro a w HF HM
  refine wp_seq ?_
  refine wp_seq (wp_region_lit ?_)
  obtain ⟨z5, hz5⟩ : ∃ z, w.heap.size = z := ⟨_, rfl⟩
  refine wp_sym HF HM hz5 10 [[1], [0], [0], [0], [0]] [(0, .bool true), (1, .bool big), (3, .int .u32 (name : Nat)), (4, .int .u32 (offset : Nat)), (7, .pointer (some ⟨z1, 0, none⟩)), (10, .bool false), (11, .pointer (some ⟨z4, 0, none⟩)), (22, .agg #[.bool true, .bool big, .int .u8 0, .int .u8 0, .int .i64 0, .int .i64 0, .int .u64 0, .slice none 0 0, .slice none 0 0]), (31, .slice (some ⟨z5, 0, none⟩) 4 4)] [(z5, .cells #[.int .u64 (addr : Nat), .int .u64 (align : Nat), .int .u64 (ent : Nat), .int .u64 (size : Nat)] 30 (0, 0)), (z4, .cells #[.bool true, .bool big, .int .u8 0, .int .u8 0, .int .i64 0, .int .i64 0, .int .u64 0, .slice none 0 0, .slice none 0 0] 46 (0, 0)), (z1, .cells #[.string nm, .int .u32 (ty : Nat), .int .u32 (flags : Nat), .int .u64 (addr : Nat), .int .u32 (link : Nat), .int .u32 (info : Nat), .int .u64 (align : Nat), .int .u64 (ent : Nat), .int .u64 (size : Nat), .slice A n c] 62 (0, 0))] (by kernel_rfl) ?_
  simp only [List.drop_succ_cons, List.drop_zero]; clear HF HM hz5; intro a w HF HM
  have hrf : Row w (some ⟨z5, 0, none⟩) ([addr, align, ent, size].map fun (k : Nat) => Value.int .u64 (k : Int)) := HM.rowAt (i := 0) rfl
  refine wp_call HF (by kernel_rfl) 26 #[.agg #[.bool true, .bool big, .int .u8 0, .int .u8 0, .int .i64 0, .int .i64 0, .int .u64 0, .slice none 0 0, .slice none 0 0], .slice (some ⟨z5, 0, none⟩) 4 4] (by kernel_rfl) (fun w => by kernel_rfl) (Calls.mono ((by have h := fits_any true (.bool big) (.int .u8 0) (.int .u8 0) (.int .i64 0) (.int .i64 0) (.int .u64 0) (.slice none 0 0) (.slice none 0 0) [addr, align, ent, size] (some ⟨z5, 0, none⟩) 4 4 rfl (by decide) w hrf; rw [hfb] at h; exact h)) ?_)
  rintro _ w2 ⟨rfl, hb⟩
  replace HM := HM.call hb
  clear hb
  refine ⟨_, rfl, ?_⟩; clear HF; intro a HF; replace HF := HF.sub [(0, .bool true), (1, .bool big), (3, .int .u32 (name : Nat)), (4, .int .u32 (offset : Nat)), (7, .pointer (some ⟨z1, 0, none⟩)), (10, .bool false), (11, .pointer (some ⟨z4, 0, none⟩)), (22, .agg #[.bool true, .bool big, .int .u8 0, .int .u8 0, .int .i64 0, .int .i64 0, .int .u64 0, .slice none 0 0, .slice none 0 0]), (31, .slice (some ⟨z5, 0, none⟩) 4 4), (32, .bool true)] (by kernel_rfl)
  replace HF := HF.sub [(0, .bool true), (1, .bool big), (3, .int .u32 (name : Nat)), (4, .int .u32 (offset : Nat)), (7, .pointer (some ⟨z1, 0, none⟩)), (10, .bool false), (11, .pointer (some ⟨z4, 0, none⟩)), (32, .bool true)] (by kernel_rfl)
  obtain ⟨z6, hz6⟩ : ∃ z, w2.heap.size = z := ⟨_, rfl⟩
  refine wp_sym HF HM hz6 6 [[0]] [(0, .bool true), (1, .bool big), (3, .int .u32 (name : Nat)), (4, .int .u32 (offset : Nat)), (7, .pointer (some ⟨z1, 0, none⟩)), (10, .bool false), (11, .pointer (some ⟨z4, 0, none⟩)), (34, .bool false), (38, .bool (decide ((65536 : Int) < (n : Int))))] [(z5, .cells #[.int .u64 (addr : Nat), .int .u64 (align : Nat), .int .u64 (ent : Nat), .int .u64 (size : Nat)] 30 (0, 0)), (z4, .cells #[.bool true, .bool big, .int .u8 0, .int .u8 0, .int .i64 0, .int .i64 0, .int .u64 0, .slice none 0 0, .slice none 0 0] 46 (0, 0)), (z1, .cells #[.string nm, .int .u32 (ty : Nat), .int .u32 (flags : Nat), .int .u64 (addr : Nat), .int .u32 (link : Nat), .int .u32 (info : Nat), .int .u64 (align : Nat), .int .u64 (ent : Nat), .int .u64 (size : Nat), .slice A n c] 62 (0, 0))] (by kernel_rfl) ?_
  simp only [List.drop_succ_cons, List.drop_zero]; clear HF HM hz6; intro a w HF HM
  rw [show decide ((65536 : Int) < (n : Int)) = false from dec_f (by omega)] at HF
  obtain ⟨z7, hz7⟩ : ∃ z, w.heap.size = z := ⟨_, rfl⟩
  refine wp_sym HF HM hz7 1 [] [(0, .bool true), (1, .bool big), (3, .int .u32 (name : Nat)), (4, .int .u32 (offset : Nat)), (7, .pointer (some ⟨z1, 0, none⟩)), (10, .bool false), (11, .pointer (some ⟨z4, 0, none⟩)), (39, .bool false)] [(z5, .cells #[.int .u64 (addr : Nat), .int .u64 (align : Nat), .int .u64 (ent : Nat), .int .u64 (size : Nat)] 30 (0, 0)), (z4, .cells #[.bool true, .bool big, .int .u8 0, .int .u8 0, .int .i64 0, .int .i64 0, .int .u64 0, .slice none 0 0, .slice none 0 0] 46 (0, 0)), (z1, .cells #[.string nm, .int .u32 (ty : Nat), .int .u32 (flags : Nat), .int .u64 (addr : Nat), .int .u32 (link : Nat), .int .u32 (info : Nat), .int .u64 (align : Nat), .int .u64 (ent : Nat), .int .u64 (size : Nat), .slice A n c] 62 (0, 0))] (by kernel_rfl) ?_
  simp only [List.drop_succ_cons, List.drop_zero]; clear HF HM hz7; intro a w HF HM
  refine nil_then ?_
  refine wp_condF HF rfl ?_
  refine wp_skip ?_
  repeat (first | refine then_norm ?_ | refine inb_norm ?_)
  replace HF := HF.sub [(0, .bool true), (1, .bool big), (3, .int .u32 (name : Nat)), (4, .int .u32 (offset : Nat)), (7, .pointer (some ⟨z1, 0, none⟩)), (10, .bool false), (11, .pointer (some ⟨z4, 0, none⟩))] (by kernel_rfl)
  refine wp_seq (wp_region_lit ?_)
  obtain ⟨z8, hz8⟩ : ∃ z, w.heap.size = z := ⟨_, rfl⟩
  refine wp_sym HF HM hz8 8 [[1], [0]] [(0, .bool true), (1, .bool big), (3, .int .u32 (name : Nat)), (4, .int .u32 (offset : Nat)), (7, .pointer (some ⟨z1, 0, none⟩)), (10, .bool false), (11, .pointer (some ⟨z4, 0, none⟩)), (41, .bool true), (42, .bool big), (43, .agg #[.bool true, .bool big, .int .u8 0, .int .u8 0, .int .i64 0, .int .i64 0, .int .u64 0, .slice none 0 0, .slice none 0 0]), (45, .int .i64 (IntKind.i64.wrap (name : Nat))), (46, .agg #[.string nm, .int .u32 (ty : Nat), .int .u32 (flags : Nat), .int .u64 (addr : Nat), .int .u32 (link : Nat), .int .u32 (info : Nat), .int .u64 (align : Nat), .int .u64 (ent : Nat), .int .u64 (size : Nat), .slice A n c]), (48, .int .i64 (IntKind.i64.wrap (offset : Nat)))] [(z5, .cells #[.int .u64 (addr : Nat), .int .u64 (align : Nat), .int .u64 (ent : Nat), .int .u64 (size : Nat)] 30 (0, 0)), (z4, .cells #[.bool true, .bool big, .int .u8 0, .int .u8 0, .int .i64 0, .int .i64 0, .int .u64 0, .slice none 0 0, .slice none 0 0] 46 (0, 0)), (z1, .cells #[.string nm, .int .u32 (ty : Nat), .int .u32 (flags : Nat), .int .u64 (addr : Nat), .int .u32 (link : Nat), .int .u32 (info : Nat), .int .u64 (align : Nat), .int .u64 (ent : Nat), .int .u64 (size : Nat), .slice A n c] 62 (0, 0))] (by kernel_rfl) ?_
  simp only [List.drop_succ_cons, List.drop_zero]; clear HF HM hz8; intro a w HF HM
  rw [show IntKind.i64.wrap ((name : Nat) : Int) = (name : Nat) from IntWalk.i64_in _ (by omega)] at HF
  rw [show IntKind.i64.wrap ((offset : Nat) : Int) = (offset : Nat) from IntWalk.i64_in _ (by omega)] at HF
  refine wp_call HF (by kernel_rfl) 35 #[.agg #[.bool true, .bool big, .int .u8 0, .int .u8 0, .int .i64 0, .int .i64 0, .int .u64 0, .slice none 0 0, .slice none 0 0], .int .i64 (name : Nat), .agg #[.string nm, .int .u32 (ty : Nat), .int .u32 (flags : Nat), .int .u64 (addr : Nat), .int .u32 (link : Nat), .int .u32 (info : Nat), .int .u64 (align : Nat), .int .u64 (ent : Nat), .int .u64 (size : Nat), .slice A n c], .int .i64 (offset : Nat)] (by kernel_rfl) (fun w => by kernel_rfl) (Calls.mono (sectionRow_any true big (.int .u8 0) (.int .u8 0) (.int .i64 0) (.int .i64 0) (.int .u64 0) (.slice none 0 0) (.slice none 0 0) name nm ty flags addr link info align ent size n c offset A (by omega) (by omega) (by omega) (by omega) (by omega) (by omega) (by omega) w) ?_)
  rintro _ w3 ⟨v2, rfl, hown, hb⟩
  obtain ⟨A2, c2, rfl, hnc2, hrow2, -⟩ := own_form hown
  replace HM := HM.call hb
  clear hb hown
  refine ⟨_, rfl, ?_⟩; clear HF; intro a HF; replace HF := HF.sub [(0, .bool true), (1, .bool big), (3, .int .u32 (name : Nat)), (4, .int .u32 (offset : Nat)), (7, .pointer (some ⟨z1, 0, none⟩)), (10, .bool false), (11, .pointer (some ⟨z4, 0, none⟩)), (41, .bool true), (42, .bool big), (43, .agg #[.bool true, .bool big, .int .u8 0, .int .u8 0, .int .i64 0, .int .i64 0, .int .u64 0, .slice none 0 0, .slice none 0 0]), (45, .int .i64 (name : Nat)), (46, .agg #[.string nm, .int .u32 (ty : Nat), .int .u32 (flags : Nat), .int .u64 (addr : Nat), .int .u32 (link : Nat), .int .u32 (info : Nat), .int .u64 (align : Nat), .int .u64 (ent : Nat), .int .u64 (size : Nat), .slice A n c]), (48, .int .i64 (offset : Nat)), (49, .slice A2 (secB true big name ty flags addr offset (sizeB ty size n) link info align ent).length c2)] (by kernel_rfl)
  replace HF := HF.sub [(0, .bool true), (1, .bool big), (3, .int .u32 (name : Nat)), (4, .int .u32 (offset : Nat)), (7, .pointer (some ⟨z1, 0, none⟩)), (10, .bool false), (11, .pointer (some ⟨z4, 0, none⟩)), (41, .bool true), (42, .bool big), (49, .slice A2 (secB true big name ty flags addr offset (sizeB ty size n) link info align ent).length c2)] (by kernel_rfl)
  have hsz : sizeB ty size n < 256 ^ aSz true := by unfold sizeB; split; exact fits_lt hfb (by simp) hsi; exact Nat.lt_of_le_of_lt hshort (by decide)
  have hsv := secV_sec true big name ty flags addr offset (sizeB ty size n) link info align ent hna hty hfl (fits_lt hfb (by simp) had) (Nat.lt_of_lt_of_le hof (by decide)) hsz hli hin (fits_lt hfb (by simp) hal) (fits_lt hfb (by simp) hen)
  refine wp_call HF (by kernel_rfl) 34 #[.bool true, .bool big, .slice A2 (secB true big name ty flags addr offset (sizeB ty size n) link info align ent).length c2] (by kernel_rfl) (fun w => by kernel_rfl) (Calls.mono (sectionRow2_wide big (secB true big name ty flags addr offset (sizeB ty size n) link info align ent) A2 (secB true big name ty flags addr offset (sizeB ty size n) link info align ent).length c2 (by rw [secB_length]; decide) rfl (by rw [secB_length]; decide) name ty flags addr offset link info align ent (sizeB ty size n) hsv.1 hsv.2 (by omega) (by omega) (by omega) (by omega) w3 hrow2) ?_)
  rintro _ w4 ⟨rfl, hb⟩
  replace HM := HM.call hb
  clear hb
  refine ⟨_, rfl, ?_⟩; clear HF; intro a HF; replace HF := HF.sub [(0, .bool true), (1, .bool big), (3, .int .u32 (name : Nat)), (4, .int .u32 (offset : Nat)), (7, .pointer (some ⟨z1, 0, none⟩)), (10, .bool false), (11, .pointer (some ⟨z4, 0, none⟩)), (41, .bool true), (42, .bool big), (49, .slice A2 (secB true big name ty flags addr offset (sizeB ty size n) link info align ent).length c2), (50, .tuple #[.int .u32 (name : Nat), .agg #[.string ⟨#[]⟩, .int .i64 (ty : Nat), .int .i64 (flags : Nat), .int .u64 (addr : Nat), .int .u64 (offset : Nat), .int .u64 0, .int .i64 (link : Nat), .int .i64 (info : Nat), .int .u64 (align : Nat), .int .u64 (ent : Nat), .int .u64 (sizeB ty size n : Nat)], .bool true])] (by kernel_rfl)
  obtain ⟨z9, hz9⟩ : ∃ z, w4.heap.size = z := ⟨_, rfl⟩
  refine wp_sym HF HM hz9 8 [[3]] [(0, .bool true), (1, .bool big), (3, .int .u32 (name : Nat)), (4, .int .u32 (offset : Nat)), (7, .pointer (some ⟨z1, 0, none⟩)), (10, .bool false), (11, .pointer (some ⟨z4, 0, none⟩)), (13, .pointer (some ⟨z9, 0, none⟩)), (12, .int .u32 (name : Nat)), (14, .bool true)] [(z9, .cells #[.string ⟨#[]⟩, .int .i64 (ty : Nat), .int .i64 (flags : Nat), .int .u64 (addr : Nat), .int .u64 (offset : Nat), .int .u64 0, .int .i64 (link : Nat), .int .i64 (info : Nat), .int .u64 (align : Nat), .int .u64 (ent : Nat), .int .u64 (sizeB ty size n : Nat)] 65 (0, 0)), (z5, .cells #[.int .u64 (addr : Nat), .int .u64 (align : Nat), .int .u64 (ent : Nat), .int .u64 (size : Nat)] 30 (0, 0)), (z4, .cells #[.bool true, .bool big, .int .u8 0, .int .u8 0, .int .i64 0, .int .i64 0, .int .u64 0, .slice none 0 0, .slice none 0 0] 46 (0, 0)), (z1, .cells #[.string nm, .int .u32 (ty : Nat), .int .u32 (flags : Nat), .int .u64 (addr : Nat), .int .u32 (link : Nat), .int .u32 (info : Nat), .int .u64 (align : Nat), .int .u64 (ent : Nat), .int .u64 (size : Nat), .slice A n c] 62 (0, 0))] (by kernel_rfl) ?_
  simp only [List.drop_succ_cons, List.drop_zero]; clear HF HM hz9; intro a w HF HM
  refine nil_then ?_
  refine wp_seq (wp_region_lit ?_)
  obtain ⟨z10, hz10⟩ : ∃ z, w.heap.size = z := ⟨_, rfl⟩
  refine wp_sym HF HM hz10 1 [[0]] [(0, .bool true), (1, .bool big), (3, .int .u32 (name : Nat)), (4, .int .u32 (offset : Nat)), (7, .pointer (some ⟨z1, 0, none⟩)), (10, .bool false), (11, .pointer (some ⟨z4, 0, none⟩)), (13, .pointer (some ⟨z9, 0, none⟩)), (12, .int .u32 (name : Nat)), (14, .bool true), (54, .agg #[.string nm, .int .u32 (ty : Nat), .int .u32 (flags : Nat), .int .u64 (addr : Nat), .int .u32 (link : Nat), .int .u32 (info : Nat), .int .u64 (align : Nat), .int .u64 (ent : Nat), .int .u64 (size : Nat), .slice A n c])] [(z9, .cells #[.string ⟨#[]⟩, .int .i64 (ty : Nat), .int .i64 (flags : Nat), .int .u64 (addr : Nat), .int .u64 (offset : Nat), .int .u64 0, .int .i64 (link : Nat), .int .i64 (info : Nat), .int .u64 (align : Nat), .int .u64 (ent : Nat), .int .u64 (sizeB ty size n : Nat)] 65 (0, 0)), (z5, .cells #[.int .u64 (addr : Nat), .int .u64 (align : Nat), .int .u64 (ent : Nat), .int .u64 (size : Nat)] 30 (0, 0)), (z4, .cells #[.bool true, .bool big, .int .u8 0, .int .u8 0, .int .i64 0, .int .i64 0, .int .u64 0, .slice none 0 0, .slice none 0 0] 46 (0, 0)), (z1, .cells #[.string nm, .int .u32 (ty : Nat), .int .u32 (flags : Nat), .int .u64 (addr : Nat), .int .u32 (link : Nat), .int .u32 (info : Nat), .int .u64 (align : Nat), .int .u64 (ent : Nat), .int .u64 (size : Nat), .slice A n c] 62 (0, 0))] (by kernel_rfl) ?_
  simp only [List.drop_succ_cons, List.drop_zero]; clear HF HM hz10; intro a w HF HM
  refine wp_call HF (by kernel_rfl) 36 #[.agg #[.string nm, .int .u32 (ty : Nat), .int .u32 (flags : Nat), .int .u64 (addr : Nat), .int .u32 (link : Nat), .int .u32 (info : Nat), .int .u64 (align : Nat), .int .u64 (ent : Nat), .int .u64 (size : Nat), .slice A n c]] (by kernel_rfl) (fun w => by kernel_rfl) (Calls.mono (size_any nm ty flags addr link info align ent size n c A (by omega) w) ?_)
  rintro _ w5 ⟨rfl, hb⟩
  replace HM := HM.call hb
  clear hb
  refine ⟨_, rfl, ?_⟩; clear HF; intro a HF; replace HF := HF.sub [(0, .bool true), (1, .bool big), (3, .int .u32 (name : Nat)), (4, .int .u32 (offset : Nat)), (7, .pointer (some ⟨z1, 0, none⟩)), (10, .bool false), (11, .pointer (some ⟨z4, 0, none⟩)), (13, .pointer (some ⟨z9, 0, none⟩)), (12, .int .u32 (name : Nat)), (14, .bool true), (54, .agg #[.string nm, .int .u32 (ty : Nat), .int .u32 (flags : Nat), .int .u64 (addr : Nat), .int .u32 (link : Nat), .int .u32 (info : Nat), .int .u64 (align : Nat), .int .u64 (ent : Nat), .int .u64 (size : Nat), .slice A n c]), (55, .int .u64 (sizeB ty size n : Nat))] (by kernel_rfl)
  obtain ⟨z11, hz11⟩ : ∃ z, w5.heap.size = z := ⟨_, rfl⟩
  refine wp_sym HF HM hz11 1 [] [(0, .bool true), (1, .bool big), (3, .int .u32 (name : Nat)), (4, .int .u32 (offset : Nat)), (7, .pointer (some ⟨z1, 0, none⟩)), (10, .bool false), (11, .pointer (some ⟨z4, 0, none⟩)), (13, .pointer (some ⟨z9, 0, none⟩)), (12, .int .u32 (name : Nat)), (14, .bool true), (15, .int .u64 (sizeB ty size n : Nat))] [(z9, .cells #[.string ⟨#[]⟩, .int .i64 (ty : Nat), .int .i64 (flags : Nat), .int .u64 (addr : Nat), .int .u64 (offset : Nat), .int .u64 0, .int .i64 (link : Nat), .int .i64 (info : Nat), .int .u64 (align : Nat), .int .u64 (ent : Nat), .int .u64 (sizeB ty size n : Nat)] 65 (0, 0)), (z5, .cells #[.int .u64 (addr : Nat), .int .u64 (align : Nat), .int .u64 (ent : Nat), .int .u64 (size : Nat)] 30 (0, 0)), (z4, .cells #[.bool true, .bool big, .int .u8 0, .int .u8 0, .int .i64 0, .int .i64 0, .int .u64 0, .slice none 0 0, .slice none 0 0] 46 (0, 0)), (z1, .cells #[.string nm, .int .u32 (ty : Nat), .int .u32 (flags : Nat), .int .u64 (addr : Nat), .int .u32 (link : Nat), .int .u32 (info : Nat), .int .u64 (align : Nat), .int .u64 (ent : Nat), .int .u64 (size : Nat), .slice A n c] 62 (0, 0))] (by kernel_rfl) ?_
  simp only [List.drop_succ_cons, List.drop_zero]; clear HF HM hz11; intro a w HF HM
  refine nil_then ?_
  obtain ⟨z12, hz12⟩ : ∃ z, w.heap.size = z := ⟨_, rfl⟩
  refine reg_sym HF HM hz12 [[3]] [(0, .bool true), (1, .bool big), (3, .int .u32 (name : Nat)), (4, .int .u32 (offset : Nat)), (7, .pointer (some ⟨z1, 0, none⟩)), (10, .bool false), (11, .pointer (some ⟨z4, 0, none⟩)), (13, .pointer (some ⟨z9, 0, none⟩)), (12, .int .u32 (name : Nat)), (14, .bool true), (15, .int .u64 (sizeB ty size n : Nat))] [(z9, .cells #[.string ⟨#[]⟩, .int .i64 (ty : Nat), .int .i64 (flags : Nat), .int .u64 (addr : Nat), .int .u64 (offset : Nat), .int .u64 (sizeB ty size n : Nat), .int .i64 (link : Nat), .int .i64 (info : Nat), .int .u64 (align : Nat), .int .u64 (ent : Nat), .int .u64 (sizeB ty size n : Nat)] 65 (0, 0)), (z5, .cells #[.int .u64 (addr : Nat), .int .u64 (align : Nat), .int .u64 (ent : Nat), .int .u64 (size : Nat)] 30 (0, 0)), (z4, .cells #[.bool true, .bool big, .int .u8 0, .int .u8 0, .int .i64 0, .int .i64 0, .int .u64 0, .slice none 0 0, .slice none 0 0] 46 (0, 0)), (z1, .cells #[.string nm, .int .u32 (ty : Nat), .int .u32 (flags : Nat), .int .u64 (addr : Nat), .int .u32 (link : Nat), .int .u32 (info : Nat), .int .u64 (align : Nat), .int .u64 (ent : Nat), .int .u64 (size : Nat), .slice A n c] 62 (0, 0))] (by kernel_rfl) ?_
  clear HF HM hz12; intro a w HF HM
  refine wp_seq (wp_region_lit ?_)
  obtain ⟨z13, hz13⟩ : ∃ z, w.heap.size = z := ⟨_, rfl⟩
  refine wp_sym HF HM hz13 5 [] [(0, .bool true), (1, .bool big), (3, .int .u32 (name : Nat)), (4, .int .u32 (offset : Nat)), (7, .pointer (some ⟨z1, 0, none⟩)), (10, .bool false), (11, .pointer (some ⟨z4, 0, none⟩)), (13, .pointer (some ⟨z9, 0, none⟩)), (12, .int .u32 (name : Nat)), (14, .bool true), (15, .int .u64 (sizeB ty size n : Nat)), (59, .bool true), (62, .bool ((((name : Nat) : Int)) == ((name : Nat) : Int)))] [(z9, .cells #[.string ⟨#[]⟩, .int .i64 (ty : Nat), .int .i64 (flags : Nat), .int .u64 (addr : Nat), .int .u64 (offset : Nat), .int .u64 (sizeB ty size n : Nat), .int .i64 (link : Nat), .int .i64 (info : Nat), .int .u64 (align : Nat), .int .u64 (ent : Nat), .int .u64 (sizeB ty size n : Nat)] 65 (0, 0)), (z5, .cells #[.int .u64 (addr : Nat), .int .u64 (align : Nat), .int .u64 (ent : Nat), .int .u64 (size : Nat)] 30 (0, 0)), (z4, .cells #[.bool true, .bool big, .int .u8 0, .int .u8 0, .int .i64 0, .int .i64 0, .int .u64 0, .slice none 0 0, .slice none 0 0] 46 (0, 0)), (z1, .cells #[.string nm, .int .u32 (ty : Nat), .int .u32 (flags : Nat), .int .u64 (addr : Nat), .int .u32 (link : Nat), .int .u32 (info : Nat), .int .u64 (align : Nat), .int .u64 (ent : Nat), .int .u64 (size : Nat), .slice A n c] 62 (0, 0))] (by kernel_rfl) ?_
  simp only [List.drop_succ_cons, List.drop_zero]; clear HF HM hz13; intro a w HF HM
  rw [show ((((name : Nat) : Int)) == ((name : Nat) : Int)) = true from beq_self_eq_true _] at HF
  obtain ⟨z14, hz14⟩ : ∃ z, w.heap.size = z := ⟨_, rfl⟩
  refine wp_sym HF HM hz14 26 [[3], [0], [0], [0], [0], [0], [0], [0], [0]] [(0, .bool true), (1, .bool big), (3, .int .u32 (name : Nat)), (4, .int .u32 (offset : Nat)), (7, .pointer (some ⟨z1, 0, none⟩)), (10, .bool false), (11, .pointer (some ⟨z4, 0, none⟩)), (13, .pointer (some ⟨z9, 0, none⟩)), (12, .int .u32 (name : Nat)), (14, .bool true), (15, .int .u64 (sizeB ty size n : Nat)), (64, .bool true), (65, .agg #[.string ⟨#[]⟩, .int .i64 (ty : Nat), .int .i64 (flags : Nat), .int .u64 (addr : Nat), .int .u64 (offset : Nat), .int .u64 (sizeB ty size n : Nat), .int .i64 (link : Nat), .int .i64 (info : Nat), .int .u64 (align : Nat), .int .u64 (ent : Nat), .int .u64 (sizeB ty size n : Nat)]), (88, .agg #[.string ⟨#[]⟩, .int .i64 (IntKind.i64.wrap (ty : Nat)), .int .i64 (IntKind.i64.wrap (flags : Nat)), .int .u64 (addr : Nat), .int .u64 (IntKind.u64.wrap (offset : Nat)), .int .u64 (sizeB ty size n : Nat), .int .i64 (IntKind.i64.wrap (link : Nat)), .int .i64 (IntKind.i64.wrap (info : Nat)), .int .u64 (align : Nat), .int .u64 (ent : Nat), .int .u64 (sizeB ty size n : Nat)])] [(z9, .cells #[.string ⟨#[]⟩, .int .i64 (ty : Nat), .int .i64 (flags : Nat), .int .u64 (addr : Nat), .int .u64 (offset : Nat), .int .u64 (sizeB ty size n : Nat), .int .i64 (link : Nat), .int .i64 (info : Nat), .int .u64 (align : Nat), .int .u64 (ent : Nat), .int .u64 (sizeB ty size n : Nat)] 65 (0, 0)), (z5, .cells #[.int .u64 (addr : Nat), .int .u64 (align : Nat), .int .u64 (ent : Nat), .int .u64 (size : Nat)] 30 (0, 0)), (z4, .cells #[.bool true, .bool big, .int .u8 0, .int .u8 0, .int .i64 0, .int .i64 0, .int .u64 0, .slice none 0 0, .slice none 0 0] 46 (0, 0)), (z1, .cells #[.string nm, .int .u32 (ty : Nat), .int .u32 (flags : Nat), .int .u64 (addr : Nat), .int .u32 (link : Nat), .int .u32 (info : Nat), .int .u64 (align : Nat), .int .u64 (ent : Nat), .int .u64 (size : Nat), .slice A n c] 62 (0, 0))] (by kernel_rfl) ?_
  simp only [List.drop_succ_cons, List.drop_zero]; clear HF HM hz14; intro a w HF HM
  rw [show IntKind.i64.wrap ((ty : Nat) : Int) = (ty : Nat) from IntWalk.i64_in _ (by omega)] at HF
  rw [show IntKind.i64.wrap ((flags : Nat) : Int) = (flags : Nat) from IntWalk.i64_in _ (by omega)] at HF
  rw [show IntKind.u64.wrap ((offset : Nat) : Int) = (offset : Nat) from IntWalk.u64_in _ (by omega)] at HF
  rw [show IntKind.i64.wrap ((link : Nat) : Int) = (link : Nat) from IntWalk.i64_in _ (by omega)] at HF
  rw [show IntKind.i64.wrap ((info : Nat) : Int) = (info : Nat) from IntWalk.i64_in _ (by omega)] at HF
  refine wp_run HF (by kernel_rfl) (.bool true) (by kernel_rfl) (run_binop_eql (by rfl) (by rfl) (by rfl) (eqGuard_sect _ _ _ _ _) (eql_sect (ty : Nat) (flags : Nat) (addr : Nat) (offset : Nat) (sizeB ty size n : Nat) (link : Nat) (info : Nat) (align : Nat) (ent : Nat) (sizeB ty size n : Nat) _)) ?_
  clear HF; intro a HF; replace HF := HF.sub [(0, .bool true), (1, .bool big), (3, .int .u32 (name : Nat)), (4, .int .u32 (offset : Nat)), (7, .pointer (some ⟨z1, 0, none⟩)), (10, .bool false), (11, .pointer (some ⟨z4, 0, none⟩)), (13, .pointer (some ⟨z9, 0, none⟩)), (12, .int .u32 (name : Nat)), (14, .bool true), (15, .int .u64 (sizeB ty size n : Nat)), (64, .bool true), (65, .agg #[.string ⟨#[]⟩, .int .i64 (ty : Nat), .int .i64 (flags : Nat), .int .u64 (addr : Nat), .int .u64 (offset : Nat), .int .u64 (sizeB ty size n : Nat), .int .i64 (link : Nat), .int .i64 (info : Nat), .int .u64 (align : Nat), .int .u64 (ent : Nat), .int .u64 (sizeB ty size n : Nat)]), (88, .agg #[.string ⟨#[]⟩, .int .i64 (ty : Nat), .int .i64 (flags : Nat), .int .u64 (addr : Nat), .int .u64 (offset : Nat), .int .u64 (sizeB ty size n : Nat), .int .i64 (link : Nat), .int .i64 (info : Nat), .int .u64 (align : Nat), .int .u64 (ent : Nat), .int .u64 (sizeB ty size n : Nat)]), (89, .bool true)] (by kernel_rfl)
  obtain ⟨z15, hz15⟩ : ∃ z, w.heap.size = z := ⟨_, rfl⟩
  refine wp_sym HF HM hz15 2 [] [(0, .bool true), (1, .bool big), (3, .int .u32 (name : Nat)), (4, .int .u32 (offset : Nat)), (7, .pointer (some ⟨z1, 0, none⟩)), (11, .pointer (some ⟨z4, 0, none⟩)), (13, .pointer (some ⟨z9, 0, none⟩)), (12, .int .u32 (name : Nat)), (14, .bool true), (15, .int .u64 (sizeB ty size n : Nat)), (10, .bool true)] [(z9, .cells #[.string ⟨#[]⟩, .int .i64 (ty : Nat), .int .i64 (flags : Nat), .int .u64 (addr : Nat), .int .u64 (offset : Nat), .int .u64 (sizeB ty size n : Nat), .int .i64 (link : Nat), .int .i64 (info : Nat), .int .u64 (align : Nat), .int .u64 (ent : Nat), .int .u64 (sizeB ty size n : Nat)] 65 (0, 0)), (z5, .cells #[.int .u64 (addr : Nat), .int .u64 (align : Nat), .int .u64 (ent : Nat), .int .u64 (size : Nat)] 30 (0, 0)), (z4, .cells #[.bool true, .bool big, .int .u8 0, .int .u8 0, .int .i64 0, .int .i64 0, .int .u64 0, .slice none 0 0, .slice none 0 0] 46 (0, 0)), (z1, .cells #[.string nm, .int .u32 (ty : Nat), .int .u32 (flags : Nat), .int .u64 (addr : Nat), .int .u32 (link : Nat), .int .u32 (info : Nat), .int .u64 (align : Nat), .int .u64 (ent : Nat), .int .u64 (size : Nat), .slice A n c] 62 (0, 0))] (by kernel_rfl) ?_
  simp only [List.drop_succ_cons, List.drop_zero]; clear HF HM hz15; intro a w HF HM
  refine nil_then ?_
  refine wp_ret ?_
  exact ret_one HF rfl rfl ⟨rfl, HM.below⟩

theorem walk_sec (wide big : Bool) (nm : ByteArray) (ty flags addr link info align ent size : Nat) (A : Option Addr) (n c : Nat) (name offset : Nat) (hty : ty < 4294967296) (hfl : flags < 4294967296) (had : addr < 18446744073709551616) (hli : link < 4294967296) (hin : info < 4294967296) (hal : align < 18446744073709551616) (hen : ent < 18446744073709551616) (hsi : size < 18446744073709551616) (hna : name < 4294967296) (hof : offset < 4294967296) (w0 : World) :
    Calls Try.prog 13 #[.bool wide, .bool big, .agg #[.string nm, .int .u32 (ty : Nat), .int .u32 (flags : Nat), .int .u64 (addr : Nat), .int .u32 (link : Nat), .int .u32 (info : Nat), .int .u64 (align : Nat), .int .u64 (ent : Nat), .int .u64 (size : Nat), .slice A n c], .int .u32 (name : Nat), .int .u32 (offset : Nat)] w0 fun e w' => e = .returned (.bool true) ∧ Below w0.heap.size w0 w' := by
  cases wide
  · by_cases h1 : nm.size ≤ 2147483647
    case neg => exact walkSec_false_name big nm ty flags addr link info align ent size A n c name offset hty hfl had hli hin hal hen hsi hna hof (by omega) w0
    by_cases h2 : n ≤ 2147483647
    case neg => exact walkSec_false_data big nm ty flags addr link info align ent size A n c name offset hty hfl had hli hin hal hen hsi hna hof h1 (by omega) w0
    cases hfb : fitsB false [addr, align, ent, size] with
    | false => exact walkSec_false_fits big nm ty flags addr link info align ent size A n c name offset hty hfl had hli hin hal hen hsi hna hof h1 h2 hfb w0
    | true =>
      by_cases hl : n ≤ 65536
      case neg => exact walkSec_false_long big nm ty flags addr link info align ent size A n c name offset hty hfl had hli hin hal hen hsi hna hof h1 h2 hfb (by omega) w0
      exact walkSec_false_ok big nm ty flags addr link info align ent size A n c name offset hty hfl had hli hin hal hen hsi hna hof h1 h2 hfb hl w0
  · by_cases h1 : nm.size ≤ 2147483647
    case neg => exact walkSec_true_name big nm ty flags addr link info align ent size A n c name offset hty hfl had hli hin hal hen hsi hna hof (by omega) w0
    by_cases h2 : n ≤ 2147483647
    case neg => exact walkSec_true_data big nm ty flags addr link info align ent size A n c name offset hty hfl had hli hin hal hen hsi hna hof h1 (by omega) w0
    have hfb : fitsB true [addr, align, ent, size] = true := rfl
    by_cases hl : n ≤ 65536
    case neg => exact walkSec_true_long big nm ty flags addr link info align ent size A n c name offset hty hfl had hli hin hal hen hsi hna hof h1 h2 hfb (by omega) w0
    exact walkSec_true_ok big nm ty flags addr link info align ent size A n c name offset hty hfl had hli hin hal hen hsi hna hof h1 h2 hfb hl w0

end Go.Proofs.Ytlgigipjgahecaa
