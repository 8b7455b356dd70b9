/- The contracts of impl.class and elf.ZZProgHeader. -/
import Derived.Test.YtlgigipjgahecaaSymLaw
import Derived.Test.YtlgigipjgahecaaSym32
import Derived.Test.YtlgigipjgahecaaTail
import Derived.Test.YtlgigipjgahecaaTrk
import Derived.Test.YtlgigipjgahecaaFields
namespace Go.Proofs.Ytlgigipjgahecaa
open Go.RowKit
set_option linter.unusedVariables false

theorem sizeProgHeader : (Try.prog.info? 95).map (·.size) = some 8 := by kernel_rfl
theorem zeroProgHeader : (Try.prog.info? 95).bind (·.zero) = some (.agg #[.int .i64 0, .int .u32 0, .int .u64 0, .int .u64 0, .int .u64 0, .int .u64 0, .int .u64 0, .int .u64 0]) := by kernel_rfl
theorem zeroProg : (Try.prog.info? 113).bind (·.zero) = some (.agg #[.int .i64 0, .int .u32 0, .int .u64 0, .int .u64 0, .int .u64 0, .int .u64 0, .int .u64 0, .int .u64 0, .nilIface, .pointer none]) := by kernel_rfl
def clsV (wide : Bool) : Value := .int .u8 (if wide then 2 else 1)
theorem class_any (wide : Bool) (w : World) : Calls Try.prog 53 #[.bool wide] w fun e w' => e = .returned (clsV wide) ∧ w' = w := by
  cases wide
  all_goals
    go_enter Try.func53, Try.ntmps53
    go_wp2
    go_ret
    exact ⟨rfl, rfl⟩

def progV (wide big : Bool) (l : List UInt8) : Value :=
  if wide then .agg #[.int .i64 (numB big ((l.drop 0).take 4) : Nat), .int .u32 (numB big ((l.drop 4).take 4) : Nat), .int .u64 (numB big ((l.drop 8).take 8) : Nat), .int .u64 (numB big ((l.drop 16).take 8) : Nat), .int .u64 (numB big ((l.drop 24).take 8) : Nat), .int .u64 (numB big ((l.drop 32).take 8) : Nat), .int .u64 (numB big ((l.drop 40).take 8) : Nat), .int .u64 (numB big ((l.drop 48).take 8) : Nat)]
  else .agg #[.int .i64 (numB big ((l.drop 0).take 4) : Nat), .int .u32 (numB big ((l.drop 24).take 4) : Nat), .int .u64 (numB big ((l.drop 4).take 4) : Nat), .int .u64 (numB big ((l.drop 8).take 4) : Nat), .int .u64 (numB big ((l.drop 12).take 4) : Nat), .int .u64 (numB big ((l.drop 16).take 4) : Nat), .int .u64 (numB big ((l.drop 20).take 4) : Nat), .int .u64 (numB big ((l.drop 28).take 4) : Nat)]

/-- a number of four bytes, read at a place of a row, from a slice that is open at its end -/
theorem u32_open {w W : World} {b off : Nat} {l : List UInt8} (hr : Row w (some ⟨b, off, none⟩) (l.map Bv)) (hb : Below w.heap.size w W) (big : Bool) (k o n m c cc : Nat) (ho : o = off + k) (hm : m = n - k) (hcc : cc = c - k) (hl : n = l.length) (hk : k + 4 ≤ n) (hnc : n ≤ c) (hc : c ≤ maxLen) (a : Int) (ha : (numB big ((l.drop k).take 4) : Nat) = a) :
    ∀ j, Calls Try.prog 56 #[boV big, .slice (some ⟨b, o, none⟩) m cc] (W.drewN j) fun e w' => e = .returned (.int .u32 a) ∧ ∃ i, w' = (W.drewN j).drewN i := by
  intro j
  subst ho hm hcc ha
  have hr2 : Row (W.drewN j) (some ⟨b, off + k, none⟩) ((l.drop k).map Bv) := by rw [List.map_drop]; exact (hr.drop_at k).below (below_drewN hb j)
  exact uint32_any big (l.drop k) (some ⟨b, off + k, none⟩) (n - k) (c - k) (by omega) (by simp; omega) (by omega) (by omega) _ hr2
theorem u64_open {w W : World} {b off : Nat} {l : List UInt8} (hr : Row w (some ⟨b, off, none⟩) (l.map Bv)) (hb : Below w.heap.size w W) (big : Bool) (k o n m c cc : Nat) (ho : o = off + k) (hm : m = n - k) (hcc : cc = c - k) (hl : n = l.length) (hk : k + 8 ≤ n) (hnc : n ≤ c) (hc : c ≤ maxLen) (a : Int) (ha : (numB big ((l.drop k).take 8) : Nat) = a) :
    ∀ j, Calls Try.prog 59 #[boV big, .slice (some ⟨b, o, none⟩) m cc] (W.drewN j) fun e w' => e = .returned (.int .u64 a) ∧ ∃ i, w' = (W.drewN j).drewN i := by
  intro j
  subst ho hm hcc ha
  have hr2 : Row (W.drewN j) (some ⟨b, off + k, none⟩) ((l.drop k).map Bv) := by rw [List.map_drop]; exact (hr.drop_at k).below (below_drewN hb j)
  exact uint64_any big (l.drop k) (some ⟨b, off + k, none⟩) (n - k) (c - k) (by omega) (by simp; omega) (by omega) (by omega) _ hr2
theorem num_lt4 (big : Bool) (l : List UInt8) (k : Nat) (a : Int) (ha : (numB big ((l.drop k).take 4) : Nat) = a) : 0 ≤ a ∧ a < 4294967296 := by
  have h := numB_lt big ((l.drop k).take 4)
  have h2 : (256 : Nat) ^ ((l.drop k).take 4).length ≤ 256 ^ 4 := Nat.pow_le_pow_right (by omega) (by simp; omega)
  have h3 : (256 : Nat) ^ 4 = 4294967296 := by decide
  omega

set_option maxRecDepth 100000 in
set_option maxHeartbeats 1000000 in
theorem zzProg_thin (big : Bool) (l : List UInt8) (b off n c : Nat) (hn : 32 ≤ n) (hl : n = l.length) (hnc : n ≤ c) (hc : c ≤ maxLen) (w : World) (hr : Row w (some ⟨b, off, none⟩) (l.map Bv)) :
    Calls Try.prog 52 #[clsV false, boV big, .slice (some ⟨b, off, none⟩) n c] w fun e w' => e = .returned (progV false big l) ∧ Below w.heap.size w w' := by
  simp only [progV, clsV, if_true, Bool.false_eq_true, if_false]
  obtain ⟨a0, h0⟩ : ∃ a : Int, (numB big ((l.drop 0).take 4) : Nat) = a := ⟨_, rfl⟩
  obtain ⟨a1, h1⟩ : ∃ a : Int, (numB big ((l.drop 24).take 4) : Nat) = a := ⟨_, rfl⟩
  obtain ⟨a2, h2⟩ : ∃ a : Int, (numB big ((l.drop 4).take 4) : Nat) = a := ⟨_, rfl⟩
  obtain ⟨a3, h3⟩ : ∃ a : Int, (numB big ((l.drop 8).take 4) : Nat) = a := ⟨_, rfl⟩
  obtain ⟨a4, h4⟩ : ∃ a : Int, (numB big ((l.drop 12).take 4) : Nat) = a := ⟨_, rfl⟩
  obtain ⟨a5, h5⟩ : ∃ a : Int, (numB big ((l.drop 16).take 4) : Nat) = a := ⟨_, rfl⟩
  obtain ⟨a6, h6⟩ : ∃ a : Int, (numB big ((l.drop 20).take 4) : Nat) = a := ⟨_, rfl⟩
  obtain ⟨a7, h7⟩ : ∃ a : Int, (numB big ((l.drop 28).take 4) : Nat) = a := ⟨_, rfl⟩
  rw [h0, h1, h2, h3, h4, h5, h6, h7]
  have H0 := Lib.hid (fun (W : World) (hW : Below w.heap.size w W) => u32_open hr hW big 0 off n n c c (by omega) (by omega) (by omega) hl (by omega) hnc hc a0 h0)
  obtain ⟨l0, g0⟩ := num_lt4 big l 0 a0 h0
  have H1 := Lib.hid (fun (W : World) (hW : Below w.heap.size w W) => u32_open hr hW big 24 (off + 24) n (n - 24) c (c - 24) (by omega) (by omega) (by omega) hl (by omega) hnc hc a1 h1)
  obtain ⟨l1, g1⟩ := num_lt4 big l 24 a1 h1
  have H2 := Lib.hid (fun (W : World) (hW : Below w.heap.size w W) => u32_open hr hW big 4 (off + 4) n (n - 4) c (c - 4) (by omega) (by omega) (by omega) hl (by omega) hnc hc a2 h2)
  obtain ⟨l2, g2⟩ := num_lt4 big l 4 a2 h2
  have H3 := Lib.hid (fun (W : World) (hW : Below w.heap.size w W) => u32_open hr hW big 8 (off + 8) n (n - 8) c (c - 8) (by omega) (by omega) (by omega) hl (by omega) hnc hc a3 h3)
  obtain ⟨l3, g3⟩ := num_lt4 big l 8 a3 h3
  have H4 := Lib.hid (fun (W : World) (hW : Below w.heap.size w W) => u32_open hr hW big 12 (off + 12) n (n - 12) c (c - 12) (by omega) (by omega) (by omega) hl (by omega) hnc hc a4 h4)
  obtain ⟨l4, g4⟩ := num_lt4 big l 12 a4 h4
  have H5 := Lib.hid (fun (W : World) (hW : Below w.heap.size w W) => u32_open hr hW big 16 (off + 16) n (n - 16) c (c - 16) (by omega) (by omega) (by omega) hl (by omega) hnc hc a5 h5)
  obtain ⟨l5, g5⟩ := num_lt4 big l 16 a5 h5
  have H6 := Lib.hid (fun (W : World) (hW : Below w.heap.size w W) => u32_open hr hW big 20 (off + 20) n (n - 20) c (c - 20) (by omega) (by omega) (by omega) hl (by omega) hnc hc a6 h6)
  obtain ⟨l6, g6⟩ := num_lt4 big l 20 a6 h6
  have H7 := Lib.hid (fun (W : World) (hW : Below w.heap.size w W) => u32_open hr hW big 28 (off + 28) n (n - 28) c (c - 28) (by omega) (by omega) (by omega) hl (by omega) hnc hc a7 h7)
  obtain ⟨l7, g7⟩ := num_lt4 big l 28 a7 h7
  have hcm := hc
  unfold maxLen at hcm
  have HL := Lib.hid hl
  clear hl h0 h1 h2 h3 h4 h5 h6 h7 hr hc
  have HM := Mm.start w
  go_enter Try.func52, Try.ntmps52
  go_wp2_with (first | (refine wpM_alloc HM rfl 95 rfl _ zeroProgHeader ?_; clear HM; intro b1 w1 HM hb1; simp only [Value.cells] at HM) | (refine wpM_alloc HM rfl 113 rfl _ zeroProg ?_; clear HM; intro b2 W HM hb2; simp only [Value.cells] at HM))
  have HB := Lib.hid HM.below
  have J0 := Lib.hid (H0.out W HB.out)
  have J1 := Lib.hid (H1.out W HB.out)
  have J2 := Lib.hid (H2.out W HB.out)
  have J3 := Lib.hid (H3.out W HB.out)
  have J4 := Lib.hid (H4.out W HB.out)
  have J5 := Lib.hid (H5.out W HB.out)
  have J6 := Lib.hid (H6.out W HB.out)
  have J7 := Lib.hid (H7.out W HB.out)
  clear H0 H1 H2 H3 H4 H5 H6 H7
  have wr0 : IntKind.u64.wrap 0 = 0 := by decide
  have wn0 : (0 : Int) ≤ (n : Int) := by omega
  have wc0 : ¬ c = 0 := by omega
  have wr4 : IntKind.u64.wrap 4 = 4 := by decide
  have wn4 : (4 : Int) ≤ (n : Int) := by omega
  have wc4 : ¬ c = 4 := by omega
  have wr8 : IntKind.u64.wrap 8 = 8 := by decide
  have wn8 : (8 : Int) ≤ (n : Int) := by omega
  have wc8 : ¬ c = 8 := by omega
  have wr12 : IntKind.u64.wrap 12 = 12 := by decide
  have wn12 : (12 : Int) ≤ (n : Int) := by omega
  have wc12 : ¬ c = 12 := by omega
  have wr16 : IntKind.u64.wrap 16 = 16 := by decide
  have wn16 : (16 : Int) ≤ (n : Int) := by omega
  have wc16 : ¬ c = 16 := by omega
  have wr20 : IntKind.u64.wrap 20 = 20 := by decide
  have wn20 : (20 : Int) ≤ (n : Int) := by omega
  have wc20 : ¬ c = 20 := by omega
  have wr24 : IntKind.u64.wrap 24 = 24 := by decide
  have wn24 : (24 : Int) ≤ (n : Int) := by omega
  have wc24 : ¬ c = 24 := by omega
  have wr28 : IntKind.u64.wrap 28 = 28 := by decide
  have wn28 : (28 : Int) ≤ (n : Int) := by omega
  have wc28 : ¬ c = 28 := by omega
  have xw0 : IntKind.i64.wrap a0 = a0 := IntWalk.i64_in _ (by omega)
  have xw2 : IntKind.u64.wrap a2 = a2 := IntWalk.u64_in _ (by omega)
  have xw3 : IntKind.u64.wrap a3 = a3 := IntWalk.u64_in _ (by omega)
  have xw4 : IntKind.u64.wrap a4 = a4 := IntWalk.u64_in _ (by omega)
  have xw5 : IntKind.u64.wrap a5 = a5 := IntWalk.u64_in _ (by omega)
  have xw6 : IntKind.u64.wrap a6 = a6 := IntWalk.u64_in _ (by omega)
  have xw7 : IntKind.u64.wrap a7 = a7 := IntWalk.u64_in _ (by omega)
  refine region_quiet_tail 57 (by kernel_rfl) (by kernel_rfl) ?_
  simp only [List.take_succ_cons, List.take_zero, List.drop_succ_cons, List.drop_zero]
  repeat (quiet_step ((first | (with_reducible exact Calls.quiet_of (J0.out _)) | (with_reducible exact Calls.quiet_of (J1.out _)) | (with_reducible exact Calls.quiet_of (J2.out _)) | (with_reducible exact Calls.quiet_of (J3.out _)) | (with_reducible exact Calls.quiet_of (J4.out _)) | (with_reducible exact Calls.quiet_of (J5.out _)) | (with_reducible exact Calls.quiet_of (J6.out _)) | (with_reducible exact Calls.quiet_of (J7.out _)))))
  refine wpQuiet_nil ?_
  intro _ hw'
  obtain ⟨nq, rfl⟩ := hw'
  replace HM := HM.drewN nq
  clear HB J0 J1 J2 J3 J4 J5 J6 J7 wr0 wn0 wc0 wr4 wn4 wc4 wr8 wn8 wc8 wr12 wn12 wc12 wr16 wn16 wc16 wr20 wn20 wc20 wr24 wn24 wc24 wr28 wn28 wc28 xw0 xw2 xw3 xw4 xw5 xw6 xw7
  go_wp2_with (first
    | (refine wpM_loads HM rfl 95 _ rfl _ 0 rfl 0 _ _ _ rfl #[.int .i64 a0, .int .u32 a1, .int .u64 a2, .int .u64 a3, .int .u64 a4, .int .u64 a5, .int .u64 a6, .int .u64 a7] rfl _ Try.underlying95 rfl sizeProgHeader ?_)
    | (refine wpM_store HM rfl 95 _ _ rfl _ 0 rfl (.agg #[.int .i64 a0, .int .u32 a1, .int .u64 a2, .int .u64 a3, .int .u64 a4, .int .u64 a5, .int .u64 a6, .int .u64 a7]) rfl 0 _ _ rfl #[.int .i64 a0, .int .u32 a1, .int .u64 a2, .int .u64 a3, .int .u64 a4, .int .u64 a5, .int .u64 a6, .int .u64 a7, .nilIface, .pointer none] rfl sizeProgHeader rfl rfl ?_; clear HM; intro w3 HM; simp only [List.set_cons_zero, List.set_cons_succ, Value.cells] at HM)
    | (refine wpM_store HM rfl 95 _ _ rfl _ 0 rfl (.agg #[.int .i64 a0, .int .u32 a1, .int .u64 a2, .int .u64 a3, .int .u64 a4, .int .u64 a5, .int .u64 a6, .int .u64 a7]) rfl 1 _ _ rfl #[.int .i64 a0, .int .u32 a1, .int .u64 a2, .int .u64 a3, .int .u64 a4, .int .u64 a5, .int .u64 a6, .int .u64 a7] rfl sizeProgHeader rfl rfl ?_; clear HM; intro w4 HM; simp only [List.set_cons_zero, List.set_cons_succ, Value.cells] at HM))
  exact bodyPost_ret (v := .agg #[.int .i64 a0, .int .u32 a1, .int .u64 a2, .int .u64 a3, .int .u64 a4, .int .u64 a5, .int .u64 a6, .int .u64 a7]) (results_cell_row rfl _ _ b1 95 #[.int .i64 a0, .int .u32 a1, .int .u64 a2, .int .u64 a3, .int .u64 a4, .int .u64 a5, .int .u64 a6, .int .u64 a7] (0, 0) _ rfl (HM.get (i := 1) rfl) Try.underlying95 rfl sizeProgHeader) rfl ⟨rfl, HM.below⟩

set_option maxRecDepth 100000 in
set_option maxHeartbeats 1000000 in
theorem zzProg_wide (big : Bool) (l : List UInt8) (b off n c : Nat) (hn : 56 ≤ n) (hl : n = l.length) (hnc : n ≤ c) (hc : c ≤ maxLen) (w : World) (hr : Row w (some ⟨b, off, none⟩) (l.map Bv)) :
    Calls Try.prog 52 #[clsV true, boV big, .slice (some ⟨b, off, none⟩) n c] w fun e w' => e = .returned (progV true big l) ∧ Below w.heap.size w w' := by
  simp only [progV, clsV, if_true, Bool.false_eq_true, if_false]
  obtain ⟨a0, h0⟩ : ∃ a : Int, (numB big ((l.drop 0).take 4) : Nat) = a := ⟨_, rfl⟩
  obtain ⟨a1, h1⟩ : ∃ a : Int, (numB big ((l.drop 4).take 4) : Nat) = a := ⟨_, rfl⟩
  obtain ⟨a2, h2⟩ : ∃ a : Int, (numB big ((l.drop 8).take 8) : Nat) = a := ⟨_, rfl⟩
  obtain ⟨a3, h3⟩ : ∃ a : Int, (numB big ((l.drop 16).take 8) : Nat) = a := ⟨_, rfl⟩
  obtain ⟨a4, h4⟩ : ∃ a : Int, (numB big ((l.drop 24).take 8) : Nat) = a := ⟨_, rfl⟩
  obtain ⟨a5, h5⟩ : ∃ a : Int, (numB big ((l.drop 32).take 8) : Nat) = a := ⟨_, rfl⟩
  obtain ⟨a6, h6⟩ : ∃ a : Int, (numB big ((l.drop 40).take 8) : Nat) = a := ⟨_, rfl⟩
  obtain ⟨a7, h7⟩ : ∃ a : Int, (numB big ((l.drop 48).take 8) : Nat) = a := ⟨_, rfl⟩
  rw [h0, h1, h2, h3, h4, h5, h6, h7]
  have H0 := Lib.hid (fun (W : World) (hW : Below w.heap.size w W) => u32_open hr hW big 0 off n n c c (by omega) (by omega) (by omega) hl (by omega) hnc hc a0 h0)
  obtain ⟨l0, g0⟩ := num_lt4 big l 0 a0 h0
  have H1 := Lib.hid (fun (W : World) (hW : Below w.heap.size w W) => u32_open hr hW big 4 (off + 4) n (n - 4) c (c - 4) (by omega) (by omega) (by omega) hl (by omega) hnc hc a1 h1)
  obtain ⟨l1, g1⟩ := num_lt4 big l 4 a1 h1
  have H2 := Lib.hid (fun (W : World) (hW : Below w.heap.size w W) => u64_open hr hW big 8 (off + 8) n (n - 8) c (c - 8) (by omega) (by omega) (by omega) hl (by omega) hnc hc a2 h2)
  have H3 := Lib.hid (fun (W : World) (hW : Below w.heap.size w W) => u64_open hr hW big 16 (off + 16) n (n - 16) c (c - 16) (by omega) (by omega) (by omega) hl (by omega) hnc hc a3 h3)
  have H4 := Lib.hid (fun (W : World) (hW : Below w.heap.size w W) => u64_open hr hW big 24 (off + 24) n (n - 24) c (c - 24) (by omega) (by omega) (by omega) hl (by omega) hnc hc a4 h4)
  have H5 := Lib.hid (fun (W : World) (hW : Below w.heap.size w W) => u64_open hr hW big 32 (off + 32) n (n - 32) c (c - 32) (by omega) (by omega) (by omega) hl (by omega) hnc hc a5 h5)
  have H6 := Lib.hid (fun (W : World) (hW : Below w.heap.size w W) => u64_open hr hW big 40 (off + 40) n (n - 40) c (c - 40) (by omega) (by omega) (by omega) hl (by omega) hnc hc a6 h6)
  have H7 := Lib.hid (fun (W : World) (hW : Below w.heap.size w W) => u64_open hr hW big 48 (off + 48) n (n - 48) c (c - 48) (by omega) (by omega) (by omega) hl (by omega) hnc hc a7 h7)
  have hcm := hc
  unfold maxLen at hcm
  have HL := Lib.hid hl
  clear hl h0 h1 h2 h3 h4 h5 h6 h7 hr hc
  have HM := Mm.start w
  go_enter Try.func52, Try.ntmps52
  go_wp2_with (first | (refine wpM_alloc HM rfl 95 rfl _ zeroProgHeader ?_; clear HM; intro b1 w1 HM hb1; simp only [Value.cells] at HM) | (refine wpM_alloc HM rfl 113 rfl _ zeroProg ?_; clear HM; intro b2 W HM hb2; simp only [Value.cells] at HM))
  have HB := Lib.hid HM.below
  have J0 := Lib.hid (H0.out W HB.out)
  have J1 := Lib.hid (H1.out W HB.out)
  have J2 := Lib.hid (H2.out W HB.out)
  have J3 := Lib.hid (H3.out W HB.out)
  have J4 := Lib.hid (H4.out W HB.out)
  have J5 := Lib.hid (H5.out W HB.out)
  have J6 := Lib.hid (H6.out W HB.out)
  have J7 := Lib.hid (H7.out W HB.out)
  clear H0 H1 H2 H3 H4 H5 H6 H7
  have wr0 : IntKind.u64.wrap 0 = 0 := by decide
  have wn0 : (0 : Int) ≤ (n : Int) := by omega
  have wc0 : ¬ c = 0 := by omega
  have wr4 : IntKind.u64.wrap 4 = 4 := by decide
  have wn4 : (4 : Int) ≤ (n : Int) := by omega
  have wc4 : ¬ c = 4 := by omega
  have wr8 : IntKind.u64.wrap 8 = 8 := by decide
  have wn8 : (8 : Int) ≤ (n : Int) := by omega
  have wc8 : ¬ c = 8 := by omega
  have wr16 : IntKind.u64.wrap 16 = 16 := by decide
  have wn16 : (16 : Int) ≤ (n : Int) := by omega
  have wc16 : ¬ c = 16 := by omega
  have wr24 : IntKind.u64.wrap 24 = 24 := by decide
  have wn24 : (24 : Int) ≤ (n : Int) := by omega
  have wc24 : ¬ c = 24 := by omega
  have wr32 : IntKind.u64.wrap 32 = 32 := by decide
  have wn32 : (32 : Int) ≤ (n : Int) := by omega
  have wc32 : ¬ c = 32 := by omega
  have wr40 : IntKind.u64.wrap 40 = 40 := by decide
  have wn40 : (40 : Int) ≤ (n : Int) := by omega
  have wc40 : ¬ c = 40 := by omega
  have wr48 : IntKind.u64.wrap 48 = 48 := by decide
  have wn48 : (48 : Int) ≤ (n : Int) := by omega
  have wc48 : ¬ c = 48 := by omega
  have xw0 : IntKind.i64.wrap a0 = a0 := IntWalk.i64_in _ (by omega)
  refine region_quiet_tail 51 (by kernel_rfl) (by kernel_rfl) ?_
  simp only [List.take_succ_cons, List.take_zero, List.drop_succ_cons, List.drop_zero]
  repeat (quiet_step ((first | (with_reducible exact Calls.quiet_of (J0.out _)) | (with_reducible exact Calls.quiet_of (J1.out _)) | (with_reducible exact Calls.quiet_of (J2.out _)) | (with_reducible exact Calls.quiet_of (J3.out _)) | (with_reducible exact Calls.quiet_of (J4.out _)) | (with_reducible exact Calls.quiet_of (J5.out _)) | (with_reducible exact Calls.quiet_of (J6.out _)) | (with_reducible exact Calls.quiet_of (J7.out _)))))
  refine wpQuiet_nil ?_
  intro _ hw'
  obtain ⟨nq, rfl⟩ := hw'
  replace HM := HM.drewN nq
  clear HB J0 J1 J2 J3 J4 J5 J6 J7 wr0 wn0 wc0 wr4 wn4 wc4 wr8 wn8 wc8 wr16 wn16 wc16 wr24 wn24 wc24 wr32 wn32 wc32 wr40 wn40 wc40 wr48 wn48 wc48 xw0
  go_wp2_with (first
    | (refine wpM_loads HM rfl 95 _ rfl _ 0 rfl 0 _ _ _ rfl #[.int .i64 a0, .int .u32 a1, .int .u64 a2, .int .u64 a3, .int .u64 a4, .int .u64 a5, .int .u64 a6, .int .u64 a7] rfl _ Try.underlying95 rfl sizeProgHeader ?_)
    | (refine wpM_store HM rfl 95 _ _ rfl _ 0 rfl (.agg #[.int .i64 a0, .int .u32 a1, .int .u64 a2, .int .u64 a3, .int .u64 a4, .int .u64 a5, .int .u64 a6, .int .u64 a7]) rfl 0 _ _ rfl #[.int .i64 a0, .int .u32 a1, .int .u64 a2, .int .u64 a3, .int .u64 a4, .int .u64 a5, .int .u64 a6, .int .u64 a7, .nilIface, .pointer none] rfl sizeProgHeader rfl rfl ?_; clear HM; intro w3 HM; simp only [List.set_cons_zero, List.set_cons_succ, Value.cells] at HM)
    | (refine wpM_store HM rfl 95 _ _ rfl _ 0 rfl (.agg #[.int .i64 a0, .int .u32 a1, .int .u64 a2, .int .u64 a3, .int .u64 a4, .int .u64 a5, .int .u64 a6, .int .u64 a7]) rfl 1 _ _ rfl #[.int .i64 a0, .int .u32 a1, .int .u64 a2, .int .u64 a3, .int .u64 a4, .int .u64 a5, .int .u64 a6, .int .u64 a7] rfl sizeProgHeader rfl rfl ?_; clear HM; intro w4 HM; simp only [List.set_cons_zero, List.set_cons_succ, Value.cells] at HM))
  exact bodyPost_ret (v := .agg #[.int .i64 a0, .int .u32 a1, .int .u64 a2, .int .u64 a3, .int .u64 a4, .int .u64 a5, .int .u64 a6, .int .u64 a7]) (results_cell_row rfl _ _ b1 95 #[.int .i64 a0, .int .u32 a1, .int .u64 a2, .int .u64 a3, .int .u64 a4, .int .u64 a5, .int .u64 a6, .int .u64 a7] (0, 0) _ rfl (HM.get (i := 1) rfl) Try.underlying95 rfl sizeProgHeader) rfl ⟨rfl, HM.below⟩

/-- both classes -/
theorem zzProg_any (wide big : Bool) (l : List UInt8) (b off n c : Nat) (hn : pSize wide ≤ n) (hl : n = l.length) (hnc : n ≤ c) (hc : c ≤ maxLen) (w : World) (hr : Row w (some ⟨b, off, none⟩) (l.map Bv)) :
    Calls Try.prog 52 #[clsV wide, boV big, .slice (some ⟨b, off, none⟩) n c] w fun e w' => e = .returned (progV wide big l) ∧ Below w.heap.size w w' := by
  cases wide
  · exact zzProg_thin big l b off n c hn hl hnc hc w hr
  · exact zzProg_wide big l b off n c hn hl hnc hc w hr

end Go.Proofs.Ytlgigipjgahecaa
