/- Proved: a file's header is read: class, order of bytes, version, system, type, machine and entry, at every argument. No condition. -/
import Derived.Test.YtdgehpocmfjbiaaDoorPh
import Derived.Test.YtdgehpocmfjbiaaDoorPg
import Derived.Test.YtdgehpocmfjbiaaDoorPf
import Derived.Test.YtdgehpocmfjbiaaDoorCards
import Derived.Test.YtdgehpocmfjbiaaDoorTie
import Derived.Test.YtdgehpocmfjbiaaDoorFnHeadJ
import Derived.Test.YtdgehpocmfjbiaaDoorFnHeadJA
import Derived.Test.YtdgehpocmfjbiaaDoorFnHeadJB
import Derived.Test.YtdgehpocmfjbiaaDoorFnHeadJC
import Derived.LaidMore
import Derived.LaidLaws
import Derived.Stop.Joined
import Derived.SevenTiedAt
import Derived.ProofKit
import Derived.OpenShut
import Derived.ShutString
import Derived.ChangeOld
import Derived.Below
set_option linter.unusedVariables false
set_option linter.unusedSimpArgs false
namespace Go.Proofs.YtdgehpocmfjbiaaDoor
open Go.RowKit

set_option maxRecDepth 100000 in
set_option maxHeartbeats 1000000 in
theorem law_head (x : ImgM) (w0 : World) (h : x.At w0) : Calls Tryd.prog 7 #[x.val] w0 fun e w' => e = .returned (.bool true) ∧ Below w0.heap.size w0 w' := by
  have habi := h.abi; have habiv := h.abiv
  obtain ⟨w, hw⟩ : ∃ w, w0 = w := ⟨_, rfl⟩
  have HM : Mm [] w0 w [] := hw ▸ Mm.start w0
  conv => arg 4; rw [hw]
  clear hw
  refine calls_start Tryd.func7 rfl Tryd.ntmps7 [(0, .agg #[.bool x.wide, .bool x.big, .int .u8 ((x.abi : Nat) : Int), .int .u8 ((x.abiv : Nat) : Int), .int .i64 x.ty, .int .i64 x.machine, .int .u64 ((x.entry : Nat) : Int), .slice x.A x.ss.length x.c, .slice x.B x.ps.length x.d])] (by kernel_rfl) (Nat.le_of_ble_eq_true rfl) ?_
  intro a HF
  refine wp_seq (wp_region_lit ?_)
  obtain ⟨z1, hz1⟩ : ∃ z, w.heap.size = z := ⟨_, rfl⟩
  refine wp_sym HF HM hz1 2 [] [(1, .pointer (some ⟨z1, 0, none⟩))] [(z1, .cells #[.bool x.wide, .bool x.big, .int .u8 ((x.abi : Nat) : Int), .int .u8 ((x.abiv : Nat) : Int), .int .i64 x.ty, .int .i64 x.machine, .int .u64 ((x.entry : Nat) : Int), .slice x.A x.ss.length x.c, .slice x.B x.ps.length x.d] 26 (0, 0))] (by kernel_rfl) ?_
  simp only [List.drop_succ_cons, List.drop_zero]; clear HF HM hz1; intro a w HF HM
  refine nil_then ?_
  refine wp_seq ?_
  refine wp_seq (wp_region_lit ?_)
  obtain ⟨z2, hz2⟩ : ∃ z, w.heap.size = z := ⟨_, rfl⟩
  refine wp_pure HF HM hz2 1 [[0]] [(1, .pointer (some ⟨z1, 0, none⟩)), (6, .agg #[.bool x.wide, .bool x.big, .int .u8 ((x.abi : Nat) : Int), .int .u8 ((x.abiv : Nat) : Int), .int .i64 x.ty, .int .i64 x.machine, .int .u64 ((x.entry : Nat) : Int), .slice x.A x.ss.length x.c, .slice x.B x.ps.length x.d])] (by kernel_rfl) ?_
  simp only [List.drop_succ_cons, List.drop_zero]; clear HF hz2; intro a HF
  refine wp_call HF (by kernel_rfl) 20 #[.agg #[.bool x.wide, .bool x.big, .int .u8 ((x.abi : Nat) : Int), .int .u8 ((x.abiv : Nat) : Int), .int .i64 x.ty, .int .i64 x.machine, .int .u64 ((x.entry : Nat) : Int), .slice x.A x.ss.length x.c, .slice x.B x.ps.length x.d]] (by kernel_rfl) (fun w => by kernel_rfl) (Calls.mono (zzFits1_any x w (h.below HM.below)) ?_)
  rintro _ w1 ⟨b1, rfl, hb⟩
  replace HM := HM.call hb
  clear hb
  refine ⟨_, rfl, ?_⟩; clear HF; intro a HF
  replace HF := HF.sub [(1, .pointer (some ⟨z1, 0, none⟩)), (7, .bool b1)] (by kernel_rfl)
  rcases bool_cases2 b1 with hc2 | hc2
  · replace HF := Fr.sub (Fr.tell HF 7 rfl (congrArg Value.bool hc2)) [(1, .pointer (some ⟨z1, 0, none⟩)), (7, .bool false)] (by kernel_rfl)
    obtain ⟨z3, hz3⟩ : ∃ z, w1.heap.size = z := ⟨_, rfl⟩
    refine wp_pure HF HM hz3 1 [] [(1, .pointer (some ⟨z1, 0, none⟩)), (8, .bool true)] (by kernel_rfl) ?_
    simp only [List.drop_succ_cons, List.drop_zero]; clear HF hz3; intro a HF
    refine nil_then ?_
    refine wp_condT HF rfl ?_
    refine wp_seq (wp_region_lit ?_)
    obtain ⟨z4, hz4⟩ : ∃ z, w1.heap.size = z := ⟨_, rfl⟩
    refine wp_pure HF HM hz4 1 [] [(2, .bool true)] (by kernel_rfl) ?_
    simp only [List.drop_succ_cons, List.drop_zero]; clear HF hz4; intro a HF
    refine nil_then ?_
    refine wp_ret ?_
    repeat (first | refine then_ret ?_ | refine inb_ret ?_)
    exact ret_one HF rfl rfl ⟨rfl, HM.below⟩
  replace HF := Fr.sub (Fr.tell HF 7 rfl (congrArg Value.bool hc2)) [(1, .pointer (some ⟨z1, 0, none⟩)), (7, .bool true)] (by kernel_rfl)
  obtain ⟨z5, hz5⟩ : ∃ z, w1.heap.size = z := ⟨_, rfl⟩
  refine wp_pure HF HM hz5 1 [] [(1, .pointer (some ⟨z1, 0, none⟩)), (8, .bool false)] (by kernel_rfl) ?_
  simp only [List.drop_succ_cons, List.drop_zero]; clear HF hz5; intro a HF
  refine nil_then ?_
  refine wp_condF HF rfl ?_
  refine wp_skip ?_
  repeat (first | refine then_norm ?_ | refine inb_norm ?_)
  refine wp_seq ?_
  refine wp_seq (wp_region_lit ?_)
  obtain ⟨z6, hz6⟩ : ∃ z, w1.heap.size = z := ⟨_, rfl⟩
  refine wp_pure HF HM hz6 1 [[0]] [(1, .pointer (some ⟨z1, 0, none⟩)), (9, .agg #[.bool x.wide, .bool x.big, .int .u8 ((x.abi : Nat) : Int), .int .u8 ((x.abiv : Nat) : Int), .int .i64 x.ty, .int .i64 x.machine, .int .u64 ((x.entry : Nat) : Int), .slice x.A x.ss.length x.c, .slice x.B x.ps.length x.d])] (by kernel_rfl) ?_
  simp only [List.drop_succ_cons, List.drop_zero]; clear HF hz6; intro a HF
  refine wp_call HF (by kernel_rfl) 22 #[.agg #[.bool x.wide, .bool x.big, .int .u8 ((x.abi : Nat) : Int), .int .u8 ((x.abiv : Nat) : Int), .int .i64 x.ty, .int .i64 x.machine, .int .u64 ((x.entry : Nat) : Int), .slice x.A x.ss.length x.c, .slice x.B x.ps.length x.d]] (by kernel_rfl) (fun w => by kernel_rfl) (Calls.mono (isImage_any x w1 (h.below HM.below)) ?_)
  rintro _ w2 ⟨b3, rfl, hb, hok4⟩
  replace HM := HM.call hb
  clear hb
  refine ⟨_, rfl, ?_⟩; clear HF; intro a HF
  replace HF := HF.sub [(1, .pointer (some ⟨z1, 0, none⟩)), (10, .bool b3)] (by kernel_rfl)
  rcases bool_cases2 b3 with hc5 | hc5
  · replace HF := Fr.sub (Fr.tell HF 10 rfl (congrArg Value.bool hc5)) [(1, .pointer (some ⟨z1, 0, none⟩)), (10, .bool false)] (by kernel_rfl)
    obtain ⟨z7, hz7⟩ : ∃ z, w2.heap.size = z := ⟨_, rfl⟩
    refine wp_pure HF HM hz7 1 [] [(1, .pointer (some ⟨z1, 0, none⟩)), (11, .bool true)] (by kernel_rfl) ?_
    simp only [List.drop_succ_cons, List.drop_zero]; clear HF hz7; intro a HF
    refine nil_then ?_
    refine wp_condT HF rfl ?_
    refine wp_seq (wp_region_lit ?_)
    obtain ⟨z8, hz8⟩ : ∃ z, w2.heap.size = z := ⟨_, rfl⟩
    refine wp_pure HF HM hz8 1 [] [(2, .bool true)] (by kernel_rfl) ?_
    simp only [List.drop_succ_cons, List.drop_zero]; clear HF hz8; intro a HF
    refine nil_then ?_
    refine wp_ret ?_
    repeat (first | refine then_ret ?_ | refine inb_ret ?_)
    exact ret_one HF rfl rfl ⟨rfl, HM.below⟩
  replace HF := Fr.sub (Fr.tell HF 10 rfl (congrArg Value.bool hc5)) [(1, .pointer (some ⟨z1, 0, none⟩)), (10, .bool true)] (by kernel_rfl)
  obtain ⟨z9, hz9⟩ : ∃ z, w2.heap.size = z := ⟨_, rfl⟩
  refine wp_pure HF HM hz9 1 [] [(1, .pointer (some ⟨z1, 0, none⟩)), (11, .bool false)] (by kernel_rfl) ?_
  simp only [List.drop_succ_cons, List.drop_zero]; clear HF hz9; intro a HF
  refine nil_then ?_
  refine wp_condF HF rfl ?_
  refine wp_skip ?_
  repeat (first | refine then_norm ?_ | refine inb_norm ?_)
  refine wp_seq (wp_region_lit ?_)
  obtain ⟨z10, hz10⟩ : ∃ z, w2.heap.size = z := ⟨_, rfl⟩
  refine wp_pure HF HM hz10 3 [[0]] [(1, .pointer (some ⟨z1, 0, none⟩)), (14, .int .i64 (IntKind.i64.wrap ((x.abi : Nat) : Int)))] (by kernel_rfl) ?_
  simp only [List.drop_succ_cons, List.drop_zero]; clear HF hz10; intro a HF
  rw [show IntKind.i64.wrap ((x.abi : Nat) : Int) = ((x.abi : Nat) : Int) from IntWalk.i64_in _ (by omega)] at HF
  obtain ⟨z11, hz11⟩ : ∃ z, w2.heap.size = z := ⟨_, rfl⟩
  refine wp_pure HF HM hz11 3 [[0]] [(1, .pointer (some ⟨z1, 0, none⟩)), (14, .int .i64 ((x.abi : Nat) : Int)), (17, .int .i64 (IntKind.i64.wrap ((x.abiv : Nat) : Int)))] (by kernel_rfl) ?_
  simp only [List.drop_succ_cons, List.drop_zero]; clear HF hz11; intro a HF
  rw [show IntKind.i64.wrap ((x.abiv : Nat) : Int) = ((x.abiv : Nat) : Int) from IntWalk.i64_in _ (by omega)] at HF
  obtain ⟨z12, hz12⟩ : ∃ z, w2.heap.size = z := ⟨_, rfl⟩
  refine wp_sym HF HM hz12 9 [[0], [0], [0], [1]] [(1, .pointer (some ⟨z1, 0, none⟩)), (3, .pointer (some ⟨z12, 0, none⟩))] [(z12, .cells #[.int .i64 1, .int .i64 1, .int .i64 1, .int .i64 ((x.abi : Nat) : Int), .int .i64 ((x.abiv : Nat) : Int), .int .i64 x.ty, .int .i64 x.machine, .int .u64 ((x.entry : Nat) : Int)] 48 (0, 0)), (z1, .cells #[.bool x.wide, .bool x.big, .int .u8 ((x.abi : Nat) : Int), .int .u8 ((x.abiv : Nat) : Int), .int .i64 x.ty, .int .i64 x.machine, .int .u64 ((x.entry : Nat) : Int), .slice x.A x.ss.length x.c, .slice x.B x.ps.length x.d] 26 (0, 0))] (by kernel_rfl) ?_
  simp only [List.drop_succ_cons, List.drop_zero]; clear HF HM hz12; intro a w HF HM
  refine nil_then ?_
  refine wp_seq ?_
  refine wp_seq (wp_region_lit ?_)
  obtain ⟨z13, hz13⟩ : ∃ z, w.heap.size = z := ⟨_, rfl⟩
  refine wp_pure HF HM hz13 2 [[0]] [(1, .pointer (some ⟨z1, 0, none⟩)), (3, .pointer (some ⟨z12, 0, none⟩)), (26, .bool x.wide)] (by kernel_rfl) ?_
  simp only [List.drop_succ_cons, List.drop_zero]; clear HF hz13; intro a HF
  refine nil_then ?_
  refine wp_merge (fun a w => (Mm [] w0 w [(z12, .cells #[.int .i64 (if x.wide then 2 else 1), .int .i64 1, .int .i64 1, .int .i64 ((x.abi : Nat) : Int), .int .i64 ((x.abiv : Nat) : Int), .int .i64 x.ty, .int .i64 x.machine, .int .u64 ((x.entry : Nat) : Int)] 48 (0, 0)), (z1, .cells #[.bool x.wide, .bool x.big, .int .u8 ((x.abi : Nat) : Int), .int .u8 ((x.abiv : Nat) : Int), .int .i64 x.ty, .int .i64 x.machine, .int .u64 ((x.entry : Nat) : Int), .slice x.A x.ss.length x.c, .slice x.B x.ps.length x.d] 26 (0, 0))] ∧ Fr 43 a [(1, .pointer (some ⟨z1, 0, none⟩)), (3, .pointer (some ⟨z12, 0, none⟩))])) ?_ ?_
  · rcases bool_cases2 x.wide with hc6 | hc6
    · replace HF := Fr.sub (Fr.tell HF 26 rfl (congrArg Value.bool hc6)) [(1, .pointer (some ⟨z1, 0, none⟩)), (3, .pointer (some ⟨z12, 0, none⟩)), (26, .bool false)] (by kernel_rfl)
      refine wp_condF HF rfl ?_
      refine wp_skip ?_
      repeat (first | refine then_norm ?_ | refine inb_norm ?_)
      exact ⟨(by first | (rw [show (if x.wide then 2 else 1 : Int) = 1 from by rw [hc6]; rfl]; exact HM) | exact HM), (by first | (rw [show (if x.wide then 2 else 1 : Int) = 1 from by rw [hc6]; rfl]; exact HF.sub [(1, .pointer (some ⟨z1, 0, none⟩)), (3, .pointer (some ⟨z12, 0, none⟩))] (by kernel_rfl)) | exact HF.sub [(1, .pointer (some ⟨z1, 0, none⟩)), (3, .pointer (some ⟨z12, 0, none⟩))] (by kernel_rfl))⟩
    replace HF := Fr.sub (Fr.tell HF 26 rfl (congrArg Value.bool hc6)) [(1, .pointer (some ⟨z1, 0, none⟩)), (3, .pointer (some ⟨z12, 0, none⟩)), (26, .bool true)] (by kernel_rfl)
    refine wp_condT HF rfl ?_
    refine wp_region_lit ?_
    obtain ⟨z14, hz14⟩ : ∃ z, w.heap.size = z := ⟨_, rfl⟩
    refine wp_sym HF HM hz14 2 [[1]] [(1, .pointer (some ⟨z1, 0, none⟩)), (3, .pointer (some ⟨z12, 0, none⟩))] [(z12, .cells #[.int .i64 2, .int .i64 1, .int .i64 1, .int .i64 ((x.abi : Nat) : Int), .int .i64 ((x.abiv : Nat) : Int), .int .i64 x.ty, .int .i64 x.machine, .int .u64 ((x.entry : Nat) : Int)] 48 (0, 0)), (z1, .cells #[.bool x.wide, .bool x.big, .int .u8 ((x.abi : Nat) : Int), .int .u8 ((x.abiv : Nat) : Int), .int .i64 x.ty, .int .i64 x.machine, .int .u64 ((x.entry : Nat) : Int), .slice x.A x.ss.length x.c, .slice x.B x.ps.length x.d] 26 (0, 0))] (by kernel_rfl) ?_
    simp only [List.drop_succ_cons, List.drop_zero]; clear HF HM hz14; intro a w HF HM
    refine wpList_nil ?_
    repeat (first | refine then_norm ?_ | refine inb_norm ?_)
    exact ⟨(by first | (rw [show (if x.wide then 2 else 1 : Int) = 2 from by rw [hc6]; rfl]; exact HM) | exact HM), (by first | (rw [show (if x.wide then 2 else 1 : Int) = 2 from by rw [hc6]; rfl]; exact HF.sub [(1, .pointer (some ⟨z1, 0, none⟩)), (3, .pointer (some ⟨z12, 0, none⟩))] (by kernel_rfl)) | exact HF.sub [(1, .pointer (some ⟨z1, 0, none⟩)), (3, .pointer (some ⟨z12, 0, none⟩))] (by kernel_rfl))⟩
  rintro a w ⟨HM, HF⟩
  repeat (first | refine then_norm ?_ | refine inb_norm ?_)
  refine wp_seq ?_
  refine wp_seq (wp_region_lit ?_)
  obtain ⟨z15, hz15⟩ : ∃ z, w.heap.size = z := ⟨_, rfl⟩
  refine wp_pure HF HM hz15 2 [[0]] [(1, .pointer (some ⟨z1, 0, none⟩)), (3, .pointer (some ⟨z12, 0, none⟩)), (29, .bool x.big)] (by kernel_rfl) ?_
  simp only [List.drop_succ_cons, List.drop_zero]; clear HF hz15; intro a HF
  refine nil_then ?_
  refine wp_merge (fun a w => (Mm [] w0 w [(z12, .cells #[.int .i64 (if x.wide then 2 else 1), .int .i64 (if x.big then 2 else 1), .int .i64 1, .int .i64 ((x.abi : Nat) : Int), .int .i64 ((x.abiv : Nat) : Int), .int .i64 x.ty, .int .i64 x.machine, .int .u64 ((x.entry : Nat) : Int)] 48 (0, 0)), (z1, .cells #[.bool x.wide, .bool x.big, .int .u8 ((x.abi : Nat) : Int), .int .u8 ((x.abiv : Nat) : Int), .int .i64 x.ty, .int .i64 x.machine, .int .u64 ((x.entry : Nat) : Int), .slice x.A x.ss.length x.c, .slice x.B x.ps.length x.d] 26 (0, 0))] ∧ Fr 43 a [(1, .pointer (some ⟨z1, 0, none⟩)), (3, .pointer (some ⟨z12, 0, none⟩))])) ?_ ?_
  · rcases bool_cases2 x.big with hc7 | hc7
    · replace HF := Fr.sub (Fr.tell HF 29 rfl (congrArg Value.bool hc7)) [(1, .pointer (some ⟨z1, 0, none⟩)), (3, .pointer (some ⟨z12, 0, none⟩)), (29, .bool false)] (by kernel_rfl)
      refine wp_condF HF rfl ?_
      refine wp_skip ?_
      repeat (first | refine then_norm ?_ | refine inb_norm ?_)
      exact ⟨(by first | (rw [show (if x.big then 2 else 1 : Int) = 1 from by rw [hc7]; rfl]; exact HM) | exact HM), (by first | (rw [show (if x.big then 2 else 1 : Int) = 1 from by rw [hc7]; rfl]; exact HF.sub [(1, .pointer (some ⟨z1, 0, none⟩)), (3, .pointer (some ⟨z12, 0, none⟩))] (by kernel_rfl)) | exact HF.sub [(1, .pointer (some ⟨z1, 0, none⟩)), (3, .pointer (some ⟨z12, 0, none⟩))] (by kernel_rfl))⟩
    replace HF := Fr.sub (Fr.tell HF 29 rfl (congrArg Value.bool hc7)) [(1, .pointer (some ⟨z1, 0, none⟩)), (3, .pointer (some ⟨z12, 0, none⟩)), (29, .bool true)] (by kernel_rfl)
    refine wp_condT HF rfl ?_
    refine wp_region_lit ?_
    obtain ⟨z16, hz16⟩ : ∃ z, w.heap.size = z := ⟨_, rfl⟩
    refine wp_sym HF HM hz16 2 [[1]] [(1, .pointer (some ⟨z1, 0, none⟩)), (3, .pointer (some ⟨z12, 0, none⟩))] [(z12, .cells #[.int .i64 (if x.wide then 2 else 1), .int .i64 2, .int .i64 1, .int .i64 ((x.abi : Nat) : Int), .int .i64 ((x.abiv : Nat) : Int), .int .i64 x.ty, .int .i64 x.machine, .int .u64 ((x.entry : Nat) : Int)] 48 (0, 0)), (z1, .cells #[.bool x.wide, .bool x.big, .int .u8 ((x.abi : Nat) : Int), .int .u8 ((x.abiv : Nat) : Int), .int .i64 x.ty, .int .i64 x.machine, .int .u64 ((x.entry : Nat) : Int), .slice x.A x.ss.length x.c, .slice x.B x.ps.length x.d] 26 (0, 0))] (by kernel_rfl) ?_
    simp only [List.drop_succ_cons, List.drop_zero]; clear HF HM hz16; intro a w HF HM
    refine wpList_nil ?_
    repeat (first | refine then_norm ?_ | refine inb_norm ?_)
    exact ⟨(by first | (rw [show (if x.big then 2 else 1 : Int) = 2 from by rw [hc7]; rfl]; exact HM) | exact HM), (by first | (rw [show (if x.big then 2 else 1 : Int) = 2 from by rw [hc7]; rfl]; exact HF.sub [(1, .pointer (some ⟨z1, 0, none⟩)), (3, .pointer (some ⟨z12, 0, none⟩))] (by kernel_rfl)) | exact HF.sub [(1, .pointer (some ⟨z1, 0, none⟩)), (3, .pointer (some ⟨z12, 0, none⟩))] (by kernel_rfl))⟩
  rintro a w ⟨HM, HF⟩
  repeat (first | refine then_norm ?_ | refine inb_norm ?_)
  refine wp_seq (wp_region_lit ?_)
  obtain ⟨z17, hz17⟩ : ∃ z, w.heap.size = z := ⟨_, rfl⟩
  refine wp_pure HF HM hz17 1 [[0]] [(3, .pointer (some ⟨z12, 0, none⟩)), (32, .agg #[.bool x.wide, .bool x.big, .int .u8 ((x.abi : Nat) : Int), .int .u8 ((x.abiv : Nat) : Int), .int .i64 x.ty, .int .i64 x.machine, .int .u64 ((x.entry : Nat) : Int), .slice x.A x.ss.length x.c, .slice x.B x.ps.length x.d])] (by kernel_rfl) ?_
  simp only [List.drop_succ_cons, List.drop_zero]; clear HF hz17; intro a HF
  refine wp_call HF (by kernel_rfl) 25 #[.agg #[.bool x.wide, .bool x.big, .int .u8 ((x.abi : Nat) : Int), .int .u8 ((x.abiv : Nat) : Int), .int .i64 x.ty, .int .i64 x.machine, .int .u64 ((x.entry : Nat) : Int), .slice x.A x.ss.length x.c, .slice x.B x.ps.length x.d]] (by kernel_rfl) (fun w => by kernel_rfl) (Calls.mono (fileOf_any x w (h.below HM.below) (hok4 hc5)) ?_)
  rintro _ w3 ⟨gf8, capf8, curf8, rfl, hb, hof8⟩
  replace HM : Mm [] w0 w3 [(gf8, .cells curf8 5 (0, 0)), (z12, .cells #[.int .i64 (if x.wide then 2 else 1), .int .i64 (if x.big then 2 else 1), .int .i64 1, .int .i64 ((x.abi : Nat) : Int), .int .i64 ((x.abiv : Nat) : Int), .int .i64 x.ty, .int .i64 x.machine, .int .u64 ((x.entry : Nat) : Int)] 48 (0, 0)), (z1, .cells #[.bool x.wide, .bool x.big, .int .u8 ((x.abi : Nat) : Int), .int .u8 ((x.abiv : Nat) : Int), .int .i64 x.ty, .int .i64 x.machine, .int .u64 ((x.entry : Nat) : Int), .slice x.A x.ss.length x.c, .slice x.B x.ps.length x.d] 26 (0, 0))] := HM.push hb hof8.new hof8.obj
  clear hb
  refine ⟨_, rfl, ?_⟩; clear HF; intro a HF
  replace HF := HF.sub [(3, .pointer (some ⟨z12, 0, none⟩)), (33, .slice (some ⟨gf8, 0, none⟩) x.img.file.length capf8)] (by kernel_rfl)
  have ok := (hok4 hc5)
  have iok := ImgM.ok ok h
  refine wp_call HF (by kernel_rfl) 31 #[.slice (some ⟨gf8, 0, none⟩) x.img.file.length capf8] (by kernel_rfl) (fun w => by kernel_rfl) (Calls.mono (head_any x.img.file _ _ _ rfl hof8.nc x.img.wide x.img.big x.img.abi x.img.abiv x.img.ty x.img.machine x.img.entry (hSize x.img.wide) x.img.segs.length x.img.shoff x.img.all.length (sgOf x.img) (scOf x.img) (nbOf x.img) (good_file iok) (by have hq := Img.Ok.length_le iok; omega) w3 (HM.rowOwn (i := 0) rfl hof8.tk)) ?_)
  rintro _ w4 ⟨rfl, hb⟩
  replace HM := HM.call hb
  clear hb
  refine ⟨_, rfl, ?_⟩; clear HF; intro a HF
  try simp only [i6_, u6_, iI_, iL_, u2_] at HF
  rw [show ((x.img.ty : Nat) : Int) = x.ty from Int.toNat_of_nonneg ok.ty0, show ((x.img.machine : Nat) : Int) = x.machine from Int.toNat_of_nonneg ok.mc0] at HF
  replace HF := HF.sub [(3, .pointer (some ⟨z12, 0, none⟩)), (34, .tuple #[.agg #[.int .i64 (if x.wide then 2 else 1), .int .i64 (if x.big then 2 else 1), .int .i64 1, .int .i64 ((x.abi : Nat) : Int), .int .i64 ((x.abiv : Nat) : Int), .int .i64 x.ty, .int .i64 x.machine, .int .u64 ((x.entry : Nat) : Int)], .bool true])] (by kernel_rfl)
  obtain ⟨z18, hz18⟩ : ∃ z, w4.heap.size = z := ⟨_, rfl⟩
  refine wp_sym HF HM hz18 6 [[3]] [(3, .pointer (some ⟨z12, 0, none⟩)), (4, .pointer (some ⟨z18, 0, none⟩)), (5, .bool true)] [(z18, .cells #[.int .i64 (if x.wide then 2 else 1), .int .i64 (if x.big then 2 else 1), .int .i64 1, .int .i64 ((x.abi : Nat) : Int), .int .i64 ((x.abiv : Nat) : Int), .int .i64 x.ty, .int .i64 x.machine, .int .u64 ((x.entry : Nat) : Int)] 48 (0, 0)), (gf8, .cells curf8 5 (0, 0)), (z12, .cells #[.int .i64 (if x.wide then 2 else 1), .int .i64 (if x.big then 2 else 1), .int .i64 1, .int .i64 ((x.abi : Nat) : Int), .int .i64 ((x.abiv : Nat) : Int), .int .i64 x.ty, .int .i64 x.machine, .int .u64 ((x.entry : Nat) : Int)] 48 (0, 0)), (z1, .cells #[.bool x.wide, .bool x.big, .int .u8 ((x.abi : Nat) : Int), .int .u8 ((x.abiv : Nat) : Int), .int .i64 x.ty, .int .i64 x.machine, .int .u64 ((x.entry : Nat) : Int), .slice x.A x.ss.length x.c, .slice x.B x.ps.length x.d] 26 (0, 0))] (by kernel_rfl) ?_
  simp only [List.drop_succ_cons, List.drop_zero]; clear HF HM hz18; intro a w HF HM
  refine nil_then ?_
  refine wp_seq (wp_region_lit ?_)
  obtain ⟨z19, hz19⟩ : ∃ z, w.heap.size = z := ⟨_, rfl⟩
  refine wp_pure HF HM hz19 4 [[3], [1]] [(38, .bool true), (39, .agg #[.int .i64 (if x.wide then 2 else 1), .int .i64 (if x.big then 2 else 1), .int .i64 1, .int .i64 ((x.abi : Nat) : Int), .int .i64 ((x.abiv : Nat) : Int), .int .i64 x.ty, .int .i64 x.machine, .int .u64 ((x.entry : Nat) : Int)]), (40, .agg #[.int .i64 (if x.wide then 2 else 1), .int .i64 (if x.big then 2 else 1), .int .i64 1, .int .i64 ((x.abi : Nat) : Int), .int .i64 ((x.abiv : Nat) : Int), .int .i64 x.ty, .int .i64 x.machine, .int .u64 ((x.entry : Nat) : Int)])] (by kernel_rfl) ?_
  simp only [List.drop_succ_cons, List.drop_zero]; clear HF hz19; intro a HF
  refine wp_run HF (by kernel_rfl) (.bool true) (by kernel_rfl) (run_binop_eql2 rfl rfl rfl (eqGuard2_head _ _ _ _ _) (eql2_head _ _ _ _ _ _ _ _ _)) ?_
  clear HF; intro a HF; replace HF := HF.sub [(38, .bool true), (41, .bool true)] (by kernel_rfl)
  obtain ⟨z20, hz20⟩ : ∃ z, w.heap.size = z := ⟨_, rfl⟩
  refine wp_pure HF HM hz20 2 [] [(2, .bool true)] (by kernel_rfl) ?_
  simp only [List.drop_succ_cons, List.drop_zero]; clear HF hz20; intro a HF
  refine nil_then ?_
  refine wp_ret ?_
  repeat (first | refine then_ret ?_ | refine inb_ret ?_)
  exact ret_one HF rfl rfl ⟨rfl, HM.below⟩

end Go.Proofs.YtdgehpocmfjbiaaDoor
namespace Go.Proofs.YtdgehpocmfjbiaaDoor.fnHead
open Go Go.ChangeShapes Go.WideShapes Go.ChangeAt Go.RowKit Go.Deep

theorem own : ownKnob Tryd.prog.godebug = none := by kernel_rfl
theorem laidOut : laidOutB Tryd.prog = true := by kernel_rfl
theorem door_met (os : Os) (args : Array Value) : laidMetH Tryd.prog Rows.fnHeadRow.laid ((World.doorLaid Tryd.prog 123 os).forCall (fun _ _ => 0) ⟨#[], args, []⟩).memory :=
  laidMetH_of_parts3 (fuel := 8) (laidMet_of_run' 8 (by kernel_rfl) (by kernel_rfl)) (by kernel_rfl) (by kernel_rfl)

set_option maxRecDepth 100000 in
theorem lifted (os : Os) (started : os.Started) (H : Type) (enc : TypeId × Value → H) :
    ReturnsInHanded {} Tryd.checked os 7 .any (fun w args => (Rows.fnHeadSpec.pre enc Tryd.prog Tryd.f7 [] false w args ∧ laidMetH Tryd.prog Rows.fnHeadRow.laid w) ∧ sizedMet enc Tryd.prog Tryd.f7 (OpenSpec.ofChange Rows.fnHeadSpec) false w args)
      (Rows.fnHeadSpec.post enc Tryd.prog Tryd.f7 false true false false) := by
  refine returnsInHanded_of_change_and (C := Tryd.checked) (X := fun w _ => laidMetH Tryd.prog Rows.fnHeadRow.laid w) (fun _ _ _ hh h => h.of_heap hh) own started (by kernel_rfl) Tryd.func7
    (ChangeSpec.witness_shaped (enc := enc) (C := Tryd.checked) (os := os) (X := fun w _ => laidMetH Tryd.prog Rows.fnHeadRow.laid w) false (World.doorLaid Tryd.prog 123 os) #[.agg #[.bool false, .bool false, .int .u8 0, .int .u8 0, .int .i64 0, .int .i64 0, .int .u64 0, .slice none 0 0, .slice none 0 0]] 8 rfl (World.shaped_of_RefB (by kernel_rfl) (by kernel_rfl)) (by kernel_rfl) (by kernel_rfl) (by kernel_rfl) (door_met os _)) ?_
  intro W base args ds gs before hval0 hW _ _ hL _
  have hval : ∀ (j : Nat) t v, Tryd.f7.params[j]? = some t → args[j]? = some v → Value.okWide Tryd.prog W .any base t v := hval0
  have hW' := hW
  obtain ⟨p, q, hA0, hV, rfl, hfz, hnd⟩ := hW
  have hA : DataW.TrodAll enc Tryd.prog W 0 (fun _ => true) true Tryd.f7.params.toList args.toList ds p := hA0
  rw [Tryd.params7] at hA hval
  obtain ⟨v0, vs0, d0, ds0, p0, q0, hargs, rfl, rfl, h0, r0⟩ := trodAll_cons hA
  obtain ⟨rfl, rfl, rfl⟩ := trodAll_nil r0
  obtain rfl : args = #[v0] := by cases args; simp_all
  obtain ⟨rfl, rfl⟩ := trodVars_none hV
  have k0 := h0
  have lt0 : ∀ x ∈ p0, x.block < W.heap.size := by obtain ⟨m, hm⟩ := k0; exact DataW.trod_lt m _ _ _ hm
  obtain ⟨x0, rfl, hx0⟩ := open_img (hval 0 26 v0 rfl rfl) h0
  clear hA0 hval0
  refine (law_head x0 W hx0).mono fun e W' ⟨he, bel⟩ => ?_
  subst he
  exact ⟨_, rfl, _, _, _, [], _, [], hW', trodAll_mk1 (shut_bool Tryd.underlying4 _), (trodAll_cons_mk (Below.trod laidOut (by kernel_rfl) (of_decide_eq_true (by kernel_rfl)) k0 bel lt0) trodAll_mk0), rfl, bel.frame _, fun h => by cases h⟩

set_option maxRecDepth 100000 in
theorem over_j : joinedFacts Tryd.pinned.checked.prog 7 Tryd.f7 Rows.fnHeadSpec Rows.fnHeadRow = true := (and_t (and_t (and_t (and_t (and_t (and_t (and_t (and_t (and_t (and_t (and_t (and_t (and_t (and_t (and_t (and_t (and_t (and_t (and_t (and_t (and_t (and_t (and_t (and_t (and_t (and_t (and_t (and_t (and_t (and_t (and_t l0 l1) l2) l3) l4) l5) l6) l7) l8) l9) l10) l11) l12) l13) l14) l15) l16) l17) l18) l19) l20) l21) l22) l23) l24) l25) l26) l27) l28) l29) l30) l31)

theorem over : Rows.FnHeadSaid :=
  OpenClaim.holds_of_wide 7 Tryd.f7 rfl rfl rfl rfl rfl rfl rfl ⟨rfl, rfl, rfl, rfl, rfl⟩ rfl rfl rfl rfl rfl c5 Tryd.func7 over_j
    (of_decide_eq_true (by kernel_rfl)) (by unfold Func.isWrapper; first | (rw [if_pos (by decide +kernel)]; kernel_rfl) | (rw [if_neg (by decide +kernel)]; exact ⟨rfl, rfl⟩))
    (fun os started H enc _ => lifted os started H enc)

theorem proved : Rows.FnHeadCardSaid :=
  Claim7.holds_tied_plain_at .later [] [.sentinel, .sentinel, .sentinel, .sentinel, .sentinel] true (true, "ed888367449acd6afd80057b2906ce1b79ec16b7beef13a0a9ac5f630eedede4") true
    over (fun _ h => by cases h) c1 (fun _ h => by cases h) fnHead_row_tie rfl ⟨rfl, rfl⟩ c4 rfl
    (fun f fn hf hfn => by
      obtain rfl : f = 7 := Option.some.inj (c5.symm.trans hf) |>.symm
      obtain rfl : fn = Tryd.f7 := (Option.some.inj (Tryd.func7.symm.trans hfn)).symm
      exact ⟨c2, fun j t ht => by
        rw [Tryd.params7] at ht
        have hm : t ∈ [26] := by simpa using Array.mem_of_getElem? ht
        have hall : ([26].all fun u => !Tryd.prog.wantsStandIn u) = true := by kernel_rfl
        exact (show Tryd.prog.wantsStandIn t = false by simpa using List.all_eq_true.1 hall t hm)⟩)
    c3
#print axioms proved
end Go.Proofs.YtdgehpocmfjbiaaDoor.fnHead
