/- The contracts of the entries of symbol tables and of the headers, as the package reads them: ZZSym32, ZZSym64. -/
import Derived.Test.YtlgigipjgahecaaNum
import Derived.Test.YtlgigipjgahecaaRowWords
namespace Go.Proofs.Ytlgigipjgahecaa
open Go.RowKit
set_option linter.unusedVariables false

theorem below_drewN {B : Nat} {a w : World} (h : Below B a w) (n : Nat) : Below B a (w.drewN n) := ⟨h.os, h.tape, h.output, h.size, h.block⟩

/-- the number of 4 bytes at place lo of a slice of bytes -/
theorem u32_at {w W : World} {b off : Nat} {l : List UInt8} (hr : Row w (some ⟨b, off, none⟩) (l.map Bv)) (hb : Below w.heap.size w W) (big : Bool) (lo o m cc : Nat) (ho : o = off + lo) (hm : 4 ≤ m) (hlm : lo + m ≤ l.length) (hmc : m ≤ cc) (hcc : cc ≤ maxLen) :
    Calls Try.prog 56 #[boV big, .slice (some ⟨b, o, none⟩) m cc] W fun e w' => e = .returned (.int .u32 (numB big ((l.drop lo).take 4) : Nat)) ∧ Below W.heap.size W w' := by
  subst ho
  have hr2 : Row w (some ⟨b, off + lo, none⟩) (((l.drop lo).take m).map Bv) := by rw [List.map_take, List.map_drop]; exact (hr.drop_at lo).take m
  have := uint32_any big ((l.drop lo).take m) (some ⟨b, off + lo, none⟩) m cc hm (by simp; omega) hmc hcc W (hr2.below hb)
  rw [List.take_take, Nat.min_eq_left hm] at this
  exact this.mono fun e w' ⟨he, k, hk⟩ => ⟨he, by rw [hk]; exact below_drewN (Below.refl _ _) k⟩
theorem u64_at {w W : World} {b off : Nat} {l : List UInt8} (hr : Row w (some ⟨b, off, none⟩) (l.map Bv)) (hb : Below w.heap.size w W) (big : Bool) (lo o m cc : Nat) (ho : o = off + lo) (hm : 8 ≤ m) (hlm : lo + m ≤ l.length) (hmc : m ≤ cc) (hcc : cc ≤ maxLen) :
    Calls Try.prog 59 #[boV big, .slice (some ⟨b, o, none⟩) m cc] W fun e w' => e = .returned (.int .u64 (numB big ((l.drop lo).take 8) : Nat)) ∧ Below W.heap.size W w' := by
  subst ho
  have hr2 : Row w (some ⟨b, off + lo, none⟩) (((l.drop lo).take m).map Bv) := by rw [List.map_take, List.map_drop]; exact (hr.drop_at lo).take m
  have := uint64_any big ((l.drop lo).take m) (some ⟨b, off + lo, none⟩) m cc hm (by simp; omega) hmc hcc W (hr2.below hb)
  rw [List.take_take, Nat.min_eq_left hm] at this
  exact this.mono fun e w' ⟨he, k, hk⟩ => ⟨he, by rw [hk]; exact below_drewN (Below.refl _ _) k⟩
theorem u16_at {w W : World} {b off : Nat} {l : List UInt8} (hr : Row w (some ⟨b, off, none⟩) (l.map Bv)) (hb : Below w.heap.size w W) (big : Bool) (lo o m cc : Nat) (ho : o = off + lo) (hm : 2 ≤ m) (hlm : lo + m ≤ l.length) :
    Calls Try.prog 57 #[boV big, .slice (some ⟨b, o, none⟩) m cc] W fun e w' => e = .returned (.int .u16 (numB big ((l.drop lo).take 2) : Nat)) ∧ Below W.heap.size W w' := by
  subst ho
  have hr2 : Row w (some ⟨b, off + lo, none⟩) (((l.drop lo).take m).map Bv) := by rw [List.map_take, List.map_drop]; exact (hr.drop_at lo).take m
  have := uint16_any big ((l.drop lo).take m) (some ⟨b, off + lo, none⟩) m cc hm (by simp; omega) W (hr2.below hb)
  rw [List.take_take, Nat.min_eq_left hm] at this
  exact this.mono fun e w' ⟨he, k, hk⟩ => ⟨he, by rw [hk]; exact below_drewN (Below.refl _ _) k⟩

theorem obj_step {w w' : World} {g : Nat} {o : Obj} (h : w.heap[g]? = some o) (hb : Below w.heap.size w w') : w'.heap[g]? = some o := obj_below h hb (obj_lt h)

def sym32V (big : Bool) (l : List UInt8) : Value :=
  .agg #[.int .u32 (numB big ((l.drop 0).take 4) : Nat), .int .u32 (numB big ((l.drop 4).take 4) : Nat), .int .u32 (numB big ((l.drop 8).take 4) : Nat), Bv (l.getD 12 0), Bv (l.getD 13 0), .int .u16 (numB big ((l.drop 14).take 2) : Nat)]

theorem sizezzSym32_any : (Try.prog.info? 81).map (·.size) = some 6 := by kernel_rfl
set_option maxRecDepth 100000 in
set_option maxHeartbeats 2000000 in
theorem zzSym32_any (big : Bool) (l : List UInt8) (b off n c : Nat) (hn : 16 ≤ n) (hl : n = l.length) (hnc : n ≤ c) (hc : c ≤ maxLen) (w : World) (hr : Row w (some ⟨b, off, none⟩) (l.map Bv)) :
    Calls Try.prog 48 #[boV big, .slice (some ⟨b, off, none⟩) n c] w fun e w' => e = .returned (sym32V big l) ∧ Below w.heap.size w w' := by
  have HL := Lib.hid hl
  clear hl
  have hcm := hc
  unfold maxLen at hcm
  have hm0 : (0 : Int) ≤ (n : Int) := Int.natCast_nonneg _
  unfold sym32V
  obtain ⟨a0, q0⟩ : ∃ a, numB big ((l.drop 0).take 4) = a := ⟨_, rfl⟩
  have hq0 : ∀ W, Below w.heap.size w W → Calls Try.prog 56 #[boV big, .slice (some ⟨b, off, none⟩) 4 (c)] W fun e w' => e = .returned (.int .u32 (a0 : Nat)) ∧ Below W.heap.size W w' := fun W hW => by
    rw [← q0]
    exact u32_at hr hW big 0 _ 4 _ rfl (by omega) (by have := HL.out; omega) (by omega) (by omega)
  rw [q0]
  have Q0 := Lib.hid hq0
  clear q0 hq0
  obtain ⟨a1, q1⟩ : ∃ a, numB big ((l.drop 4).take 4) = a := ⟨_, rfl⟩
  have hq1 : ∀ W, Below w.heap.size w W → Calls Try.prog 56 #[boV big, .slice (some ⟨b, off + 4, none⟩) 4 (c - 4)] W fun e w' => e = .returned (.int .u32 (a1 : Nat)) ∧ Below W.heap.size W w' := fun W hW => by
    rw [← q1]
    exact u32_at hr hW big 4 _ 4 _ rfl (by omega) (by have := HL.out; omega) (by omega) (by omega)
  rw [q1]
  have Q1 := Lib.hid hq1
  clear q1 hq1
  obtain ⟨a2, q2⟩ : ∃ a, numB big ((l.drop 8).take 4) = a := ⟨_, rfl⟩
  have hq2 : ∀ W, Below w.heap.size w W → Calls Try.prog 56 #[boV big, .slice (some ⟨b, off + 8, none⟩) 4 (c - 8)] W fun e w' => e = .returned (.int .u32 (a2 : Nat)) ∧ Below W.heap.size W w' := fun W hW => by
    rw [← q2]
    exact u32_at hr hW big 8 _ 4 _ rfl (by omega) (by have := HL.out; omega) (by omega) (by omega)
  rw [q2]
  have Q2 := Lib.hid hq2
  clear q2 hq2
  obtain ⟨a3, q3, hq3⟩ : ∃ (a : Int), Bv (l.getD 12 0) = .int .u8 a ∧ ∀ W, Below w.heap.size w W → W.cell? ⟨b, off + 12, none⟩ = some (.int .u8 a) := ⟨_, rfl, fun W hW => by
    obtain ⟨b', off', e1, hcell⟩ := (hr.below hW).at_ (i := 12) (by rw [List.length_map]; have := HL.out; omega)
    injection e1 with e1
    injection e1 with e1 e2
    subst e1 e2
    rw [hcell, List.getElem_map, List.getD_eq_getElem?_getD, List.getElem?_eq_getElem (by have := HL.out; omega)]
    rfl⟩
  rw [q3]
  have Q3 := Lib.hid hq3
  clear q3 hq3
  obtain ⟨a4, q4, hq4⟩ : ∃ (a : Int), Bv (l.getD 13 0) = .int .u8 a ∧ ∀ W, Below w.heap.size w W → W.cell? ⟨b, off + 13, none⟩ = some (.int .u8 a) := ⟨_, rfl, fun W hW => by
    obtain ⟨b', off', e1, hcell⟩ := (hr.below hW).at_ (i := 13) (by rw [List.length_map]; have := HL.out; omega)
    injection e1 with e1
    injection e1 with e1 e2
    subst e1 e2
    rw [hcell, List.getElem_map, List.getD_eq_getElem?_getD, List.getElem?_eq_getElem (by have := HL.out; omega)]
    rfl⟩
  rw [q4]
  have Q4 := Lib.hid hq4
  clear q4 hq4
  obtain ⟨a5, q5⟩ : ∃ a, numB big ((l.drop 14).take 2) = a := ⟨_, rfl⟩
  have hq5 : ∀ W, Below w.heap.size w W → Calls Try.prog 57 #[boV big, .slice (some ⟨b, off + 14, none⟩) 2 (c - 14)] W fun e w' => e = .returned (.int .u16 (a5 : Nat)) ∧ Below W.heap.size W w' := fun W hW => by
    rw [← q5]
    exact u16_at hr hW big 14 _ 2 _ rfl (by omega) (by have := HL.out; omega)
  rw [q5]
  have Q5 := Lib.hid hq5
  clear q5 hq5
  clear hr
  go_enter Try.func48, Try.ntmps48
  have HO0 : Hid ((w.alloc (.cells #[.int .u32 0, .int .u32 0, .int .u32 0, .int .u8 0, .int .u8 0, .int .u16 0] 81)).heap[w.heap.size]? = some (.cells #[.int .u32 0, .int .u32 0, .int .u32 0, .int .u8 0, .int .u8 0, .int .u16 0] 81 (0, 0))) := Lib.hid (heap_alloc_new w _)
  have HB0 : Hid (Below w.heap.size w (w.alloc (.cells #[.int .u32 0, .int .u32 0, .int .u32 0, .int .u8 0, .int .u8 0, .int .u16 0] 81))) := Lib.hid ((Below.refl _ _).alloc (Nat.le_refl _) _)
  go_wp2_with fail
  refine (Q0.out _ HB0.out).mono ?_
  rintro e w1 ⟨rfl, hb1⟩
  have HO1 : Hid (w1.heap[w.heap.size]? = some (.cells #[.int .u32 0, .int .u32 0, .int .u32 0, .int .u8 0, .int .u8 0, .int .u16 0] 81 (0, 0))) := Lib.hid (obj_step HO0.out hb1)
  have HB1 : Hid (Below w.heap.size w w1) := Lib.hid (HB0.out.trans (hb1.mono HB0.out.size))
  clear hb1
  have o1_0 : w1.cell? ⟨w.heap.size, 0, none⟩ = some (.int .u32 0) := obj_cell HO1.out 0
  have f1_0 : w1.frozen? ⟨w.heap.size, 0, none⟩ = false := obj_free HO1.out 0
  have o1_1 : w1.cell? ⟨w.heap.size, 1, none⟩ = some (.int .u32 0) := obj_cell HO1.out 1
  have f1_1 : w1.frozen? ⟨w.heap.size, 1, none⟩ = false := obj_free HO1.out 1
  have o1_2 : w1.cell? ⟨w.heap.size, 2, none⟩ = some (.int .u32 0) := obj_cell HO1.out 2
  have f1_2 : w1.frozen? ⟨w.heap.size, 2, none⟩ = false := obj_free HO1.out 2
  have o1_3 : w1.cell? ⟨w.heap.size, 3, none⟩ = some (.int .u8 0) := obj_cell HO1.out 3
  have f1_3 : w1.frozen? ⟨w.heap.size, 3, none⟩ = false := obj_free HO1.out 3
  have o1_4 : w1.cell? ⟨w.heap.size, 4, none⟩ = some (.int .u8 0) := obj_cell HO1.out 4
  have f1_4 : w1.frozen? ⟨w.heap.size, 4, none⟩ = false := obj_free HO1.out 4
  have o1_5 : w1.cell? ⟨w.heap.size, 5, none⟩ = some (.int .u16 0) := obj_cell HO1.out 5
  have f1_5 : w1.frozen? ⟨w.heap.size, 5, none⟩ = false := obj_free HO1.out 5
  go_wp2_with fail
  refine (Q1.out _ ((HB1.out).setCell (p := ⟨w.heap.size, 0, none⟩) (Nat.le_refl _) (.int .u32 (a0 : Nat)))).mono ?_
  rintro e w2 ⟨rfl, hb2⟩
  have HO2 : Hid (w2.heap[w.heap.size]? = some (.cells #[.int .u32 (a0 : Nat), .int .u32 0, .int .u32 0, .int .u8 0, .int .u8 0, .int .u16 0] 81 (0, 0))) := Lib.hid (obj_step (obj_set HO1.out 0 (.int .u32 (a0 : Nat))) hb2)
  have HB2 : Hid (Below w.heap.size w w2) := Lib.hid (((HB1.out).setCell (p := ⟨w.heap.size, 0, none⟩) (Nat.le_refl _) (.int .u32 (a0 : Nat))).trans (hb2.mono ((HB1.out).setCell (p := ⟨w.heap.size, 0, none⟩) (Nat.le_refl _) (.int .u32 (a0 : Nat))).size))
  clear hb2
  have o2_0 : w2.cell? ⟨w.heap.size, 0, none⟩ = some (.int .u32 (a0 : Nat)) := obj_cell HO2.out 0
  have f2_0 : w2.frozen? ⟨w.heap.size, 0, none⟩ = false := obj_free HO2.out 0
  have o2_1 : w2.cell? ⟨w.heap.size, 1, none⟩ = some (.int .u32 0) := obj_cell HO2.out 1
  have f2_1 : w2.frozen? ⟨w.heap.size, 1, none⟩ = false := obj_free HO2.out 1
  have o2_2 : w2.cell? ⟨w.heap.size, 2, none⟩ = some (.int .u32 0) := obj_cell HO2.out 2
  have f2_2 : w2.frozen? ⟨w.heap.size, 2, none⟩ = false := obj_free HO2.out 2
  have o2_3 : w2.cell? ⟨w.heap.size, 3, none⟩ = some (.int .u8 0) := obj_cell HO2.out 3
  have f2_3 : w2.frozen? ⟨w.heap.size, 3, none⟩ = false := obj_free HO2.out 3
  have o2_4 : w2.cell? ⟨w.heap.size, 4, none⟩ = some (.int .u8 0) := obj_cell HO2.out 4
  have f2_4 : w2.frozen? ⟨w.heap.size, 4, none⟩ = false := obj_free HO2.out 4
  have o2_5 : w2.cell? ⟨w.heap.size, 5, none⟩ = some (.int .u16 0) := obj_cell HO2.out 5
  have f2_5 : w2.frozen? ⟨w.heap.size, 5, none⟩ = false := obj_free HO2.out 5
  go_wp2_with fail
  refine (Q2.out _ ((HB2.out).setCell (p := ⟨w.heap.size, 1, none⟩) (Nat.le_refl _) (.int .u32 (a1 : Nat)))).mono ?_
  rintro e w3 ⟨rfl, hb3⟩
  have HO3 : Hid (w3.heap[w.heap.size]? = some (.cells #[.int .u32 (a0 : Nat), .int .u32 (a1 : Nat), .int .u32 0, .int .u8 0, .int .u8 0, .int .u16 0] 81 (0, 0))) := Lib.hid (obj_step (obj_set HO2.out 1 (.int .u32 (a1 : Nat))) hb3)
  have HB3 : Hid (Below w.heap.size w w3) := Lib.hid (((HB2.out).setCell (p := ⟨w.heap.size, 1, none⟩) (Nat.le_refl _) (.int .u32 (a1 : Nat))).trans (hb3.mono ((HB2.out).setCell (p := ⟨w.heap.size, 1, none⟩) (Nat.le_refl _) (.int .u32 (a1 : Nat))).size))
  clear hb3
  have o3_0 : w3.cell? ⟨w.heap.size, 0, none⟩ = some (.int .u32 (a0 : Nat)) := obj_cell HO3.out 0
  have f3_0 : w3.frozen? ⟨w.heap.size, 0, none⟩ = false := obj_free HO3.out 0
  have o3_1 : w3.cell? ⟨w.heap.size, 1, none⟩ = some (.int .u32 (a1 : Nat)) := obj_cell HO3.out 1
  have f3_1 : w3.frozen? ⟨w.heap.size, 1, none⟩ = false := obj_free HO3.out 1
  have o3_2 : w3.cell? ⟨w.heap.size, 2, none⟩ = some (.int .u32 0) := obj_cell HO3.out 2
  have f3_2 : w3.frozen? ⟨w.heap.size, 2, none⟩ = false := obj_free HO3.out 2
  have o3_3 : w3.cell? ⟨w.heap.size, 3, none⟩ = some (.int .u8 0) := obj_cell HO3.out 3
  have f3_3 : w3.frozen? ⟨w.heap.size, 3, none⟩ = false := obj_free HO3.out 3
  have o3_4 : w3.cell? ⟨w.heap.size, 4, none⟩ = some (.int .u8 0) := obj_cell HO3.out 4
  have f3_4 : w3.frozen? ⟨w.heap.size, 4, none⟩ = false := obj_free HO3.out 4
  have o3_5 : w3.cell? ⟨w.heap.size, 5, none⟩ = some (.int .u16 0) := obj_cell HO3.out 5
  have f3_5 : w3.frozen? ⟨w.heap.size, 5, none⟩ = false := obj_free HO3.out 5
  have d3_3 := Q3.out _ HB3.out
  have d3_4 := Q4.out _ HB3.out
  go_wp2_with fail
  refine (Q5.out _ ((((((HB3.out).setCell (p := ⟨w.heap.size, 2, none⟩) (Nat.le_refl _) (.int .u32 (a2 : Nat)))).setCell (p := ⟨w.heap.size, 3, none⟩) (Nat.le_refl _) (.int .u8 a3))).setCell (p := ⟨w.heap.size, 4, none⟩) (Nat.le_refl _) (.int .u8 a4))).mono ?_
  rintro e w4 ⟨rfl, hb4⟩
  have HO4 : Hid (w4.heap[w.heap.size]? = some (.cells #[.int .u32 (a0 : Nat), .int .u32 (a1 : Nat), .int .u32 (a2 : Nat), .int .u8 a3, .int .u8 a4, .int .u16 0] 81 (0, 0))) := Lib.hid (obj_step (obj_set (obj_set (obj_set HO3.out 2 (.int .u32 (a2 : Nat))) 3 (.int .u8 a3)) 4 (.int .u8 a4)) hb4)
  have HB4 : Hid (Below w.heap.size w w4) := Lib.hid (((((((HB3.out).setCell (p := ⟨w.heap.size, 2, none⟩) (Nat.le_refl _) (.int .u32 (a2 : Nat)))).setCell (p := ⟨w.heap.size, 3, none⟩) (Nat.le_refl _) (.int .u8 a3))).setCell (p := ⟨w.heap.size, 4, none⟩) (Nat.le_refl _) (.int .u8 a4)).trans (hb4.mono ((((((HB3.out).setCell (p := ⟨w.heap.size, 2, none⟩) (Nat.le_refl _) (.int .u32 (a2 : Nat)))).setCell (p := ⟨w.heap.size, 3, none⟩) (Nat.le_refl _) (.int .u8 a3))).setCell (p := ⟨w.heap.size, 4, none⟩) (Nat.le_refl _) (.int .u8 a4)).size))
  clear hb4
  have o4_0 : w4.cell? ⟨w.heap.size, 0, none⟩ = some (.int .u32 (a0 : Nat)) := obj_cell HO4.out 0
  have f4_0 : w4.frozen? ⟨w.heap.size, 0, none⟩ = false := obj_free HO4.out 0
  have o4_1 : w4.cell? ⟨w.heap.size, 1, none⟩ = some (.int .u32 (a1 : Nat)) := obj_cell HO4.out 1
  have f4_1 : w4.frozen? ⟨w.heap.size, 1, none⟩ = false := obj_free HO4.out 1
  have o4_2 : w4.cell? ⟨w.heap.size, 2, none⟩ = some (.int .u32 (a2 : Nat)) := obj_cell HO4.out 2
  have f4_2 : w4.frozen? ⟨w.heap.size, 2, none⟩ = false := obj_free HO4.out 2
  have o4_3 : w4.cell? ⟨w.heap.size, 3, none⟩ = some (.int .u8 a3) := obj_cell HO4.out 3
  have f4_3 : w4.frozen? ⟨w.heap.size, 3, none⟩ = false := obj_free HO4.out 3
  have o4_4 : w4.cell? ⟨w.heap.size, 4, none⟩ = some (.int .u8 a4) := obj_cell HO4.out 4
  have f4_4 : w4.frozen? ⟨w.heap.size, 4, none⟩ = false := obj_free HO4.out 4
  have o4_5 : w4.cell? ⟨w.heap.size, 5, none⟩ = some (.int .u16 0) := obj_cell HO4.out 5
  have f4_5 : w4.frozen? ⟨w.heap.size, 5, none⟩ = false := obj_free HO4.out 5
  have HOF : Hid ((((((((w4.setCell ⟨w.heap.size, 5, none⟩ (.int .u16 (a5 : Nat))).setCell ⟨w.heap.size, 0, none⟩ (.int .u32 (a0 : Nat))).setCell ⟨w.heap.size, 1, none⟩ (.int .u32 (a1 : Nat))).setCell ⟨w.heap.size, 2, none⟩ (.int .u32 (a2 : Nat))).setCell ⟨w.heap.size, 3, none⟩ (.int .u8 a3)).setCell ⟨w.heap.size, 4, none⟩ (.int .u8 a4)).setCell ⟨w.heap.size, 5, none⟩ (.int .u16 (a5 : Nat))).heap[w.heap.size]? = some (.cells #[.int .u32 (a0 : Nat), .int .u32 (a1 : Nat), .int .u32 (a2 : Nat), .int .u8 a3, .int .u8 a4, .int .u16 (a5 : Nat)] 81 (0, 0))) := Lib.hid (obj_set (obj_set (obj_set (obj_set (obj_set (obj_set (obj_set HO4.out 5 (.int .u16 (a5 : Nat))) 0 (.int .u32 (a0 : Nat))) 1 (.int .u32 (a1 : Nat))) 2 (.int .u32 (a2 : Nat))) 3 (.int .u8 a3)) 4 (.int .u8 a4)) 5 (.int .u16 (a5 : Nat)))
  have HBF : Hid (Below w.heap.size w (((((((w4.setCell ⟨w.heap.size, 5, none⟩ (.int .u16 (a5 : Nat))).setCell ⟨w.heap.size, 0, none⟩ (.int .u32 (a0 : Nat))).setCell ⟨w.heap.size, 1, none⟩ (.int .u32 (a1 : Nat))).setCell ⟨w.heap.size, 2, none⟩ (.int .u32 (a2 : Nat))).setCell ⟨w.heap.size, 3, none⟩ (.int .u8 a3)).setCell ⟨w.heap.size, 4, none⟩ (.int .u8 a4)).setCell ⟨w.heap.size, 5, none⟩ (.int .u16 (a5 : Nat)))) := Lib.hid ((((((((((((((HB4.out).setCell (p := ⟨w.heap.size, 5, none⟩) (Nat.le_refl _) (.int .u16 (a5 : Nat)))).setCell (p := ⟨w.heap.size, 0, none⟩) (Nat.le_refl _) (.int .u32 (a0 : Nat)))).setCell (p := ⟨w.heap.size, 1, none⟩) (Nat.le_refl _) (.int .u32 (a1 : Nat)))).setCell (p := ⟨w.heap.size, 2, none⟩) (Nat.le_refl _) (.int .u32 (a2 : Nat)))).setCell (p := ⟨w.heap.size, 3, none⟩) (Nat.le_refl _) (.int .u8 a3))).setCell (p := ⟨w.heap.size, 4, none⟩) (Nat.le_refl _) (.int .u8 a4))).setCell (p := ⟨w.heap.size, 5, none⟩) (Nat.le_refl _) (.int .u16 (a5 : Nat)))
  go_wp2
  exact bodyPost_ret (v := .agg #[.int .u32 (a0 : Nat), .int .u32 (a1 : Nat), .int .u32 (a2 : Nat), .int .u8 a3, .int .u8 a4, .int .u16 (a5 : Nat)]) (results_one_cell rfl rfl HOF.out Try.underlying81 sizezzSym32_any) rfl ⟨rfl, HBF.out⟩

def sym64V (big : Bool) (l : List UInt8) : Value :=
  .agg #[.int .u32 (numB big ((l.drop 0).take 4) : Nat), Bv (l.getD 4 0), Bv (l.getD 5 0), .int .u16 (numB big ((l.drop 6).take 2) : Nat), .int .u64 (numB big ((l.drop 8).take 8) : Nat), .int .u64 (numB big ((l.drop 16).take 8) : Nat)]

theorem sizezzSym64_any : (Try.prog.info? 90).map (·.size) = some 6 := by kernel_rfl
set_option maxRecDepth 100000 in
set_option maxHeartbeats 2000000 in
theorem zzSym64_any (big : Bool) (l : List UInt8) (b off n c : Nat) (hn : 24 ≤ n) (hl : n = l.length) (hnc : n ≤ c) (hc : c ≤ maxLen) (w : World) (hr : Row w (some ⟨b, off, none⟩) (l.map Bv)) :
    Calls Try.prog 51 #[boV big, .slice (some ⟨b, off, none⟩) n c] w fun e w' => e = .returned (sym64V big l) ∧ Below w.heap.size w w' := by
  have HL := Lib.hid hl
  clear hl
  have hcm := hc
  unfold maxLen at hcm
  have hm0 : (0 : Int) ≤ (n : Int) := Int.natCast_nonneg _
  unfold sym64V
  obtain ⟨a0, q0⟩ : ∃ a, numB big ((l.drop 0).take 4) = a := ⟨_, rfl⟩
  have hq0 : ∀ W, Below w.heap.size w W → Calls Try.prog 56 #[boV big, .slice (some ⟨b, off, none⟩) 4 (c)] W fun e w' => e = .returned (.int .u32 (a0 : Nat)) ∧ Below W.heap.size W w' := fun W hW => by
    rw [← q0]
    exact u32_at hr hW big 0 _ 4 _ rfl (by omega) (by have := HL.out; omega) (by omega) (by omega)
  rw [q0]
  have Q0 := Lib.hid hq0
  clear q0 hq0
  obtain ⟨a1, q1, hq1⟩ : ∃ (a : Int), Bv (l.getD 4 0) = .int .u8 a ∧ ∀ W, Below w.heap.size w W → W.cell? ⟨b, off + 4, none⟩ = some (.int .u8 a) := ⟨_, rfl, fun W hW => by
    obtain ⟨b', off', e1, hcell⟩ := (hr.below hW).at_ (i := 4) (by rw [List.length_map]; have := HL.out; omega)
    injection e1 with e1
    injection e1 with e1 e2
    subst e1 e2
    rw [hcell, List.getElem_map, List.getD_eq_getElem?_getD, List.getElem?_eq_getElem (by have := HL.out; omega)]
    rfl⟩
  rw [q1]
  have Q1 := Lib.hid hq1
  clear q1 hq1
  obtain ⟨a2, q2, hq2⟩ : ∃ (a : Int), Bv (l.getD 5 0) = .int .u8 a ∧ ∀ W, Below w.heap.size w W → W.cell? ⟨b, off + 5, none⟩ = some (.int .u8 a) := ⟨_, rfl, fun W hW => by
    obtain ⟨b', off', e1, hcell⟩ := (hr.below hW).at_ (i := 5) (by rw [List.length_map]; have := HL.out; omega)
    injection e1 with e1
    injection e1 with e1 e2
    subst e1 e2
    rw [hcell, List.getElem_map, List.getD_eq_getElem?_getD, List.getElem?_eq_getElem (by have := HL.out; omega)]
    rfl⟩
  rw [q2]
  have Q2 := Lib.hid hq2
  clear q2 hq2
  obtain ⟨a3, q3⟩ : ∃ a, numB big ((l.drop 6).take 2) = a := ⟨_, rfl⟩
  have hq3 : ∀ W, Below w.heap.size w W → Calls Try.prog 57 #[boV big, .slice (some ⟨b, off + 6, none⟩) 2 (c - 6)] W fun e w' => e = .returned (.int .u16 (a3 : Nat)) ∧ Below W.heap.size W w' := fun W hW => by
    rw [← q3]
    exact u16_at hr hW big 6 _ 2 _ rfl (by omega) (by have := HL.out; omega)
  rw [q3]
  have Q3 := Lib.hid hq3
  clear q3 hq3
  obtain ⟨a4, q4⟩ : ∃ a, numB big ((l.drop 8).take 8) = a := ⟨_, rfl⟩
  have hq4 : ∀ W, Below w.heap.size w W → Calls Try.prog 59 #[boV big, .slice (some ⟨b, off + 8, none⟩) 8 (c - 8)] W fun e w' => e = .returned (.int .u64 (a4 : Nat)) ∧ Below W.heap.size W w' := fun W hW => by
    rw [← q4]
    exact u64_at hr hW big 8 _ 8 _ rfl (by omega) (by have := HL.out; omega) (by omega) (by omega)
  rw [q4]
  have Q4 := Lib.hid hq4
  clear q4 hq4
  obtain ⟨a5, q5⟩ : ∃ a, numB big ((l.drop 16).take 8) = a := ⟨_, rfl⟩
  have hq5 : ∀ W, Below w.heap.size w W → Calls Try.prog 59 #[boV big, .slice (some ⟨b, off + 16, none⟩) 8 (c - 16)] W fun e w' => e = .returned (.int .u64 (a5 : Nat)) ∧ Below W.heap.size W w' := fun W hW => by
    rw [← q5]
    exact u64_at hr hW big 16 _ 8 _ rfl (by omega) (by have := HL.out; omega) (by omega) (by omega)
  rw [q5]
  have Q5 := Lib.hid hq5
  clear q5 hq5
  clear hr
  go_enter Try.func51, Try.ntmps51
  have HO0 : Hid ((w.alloc (.cells #[.int .u32 0, .int .u8 0, .int .u8 0, .int .u16 0, .int .u64 0, .int .u64 0] 90)).heap[w.heap.size]? = some (.cells #[.int .u32 0, .int .u8 0, .int .u8 0, .int .u16 0, .int .u64 0, .int .u64 0] 90 (0, 0))) := Lib.hid (heap_alloc_new w _)
  have HB0 : Hid (Below w.heap.size w (w.alloc (.cells #[.int .u32 0, .int .u8 0, .int .u8 0, .int .u16 0, .int .u64 0, .int .u64 0] 90))) := Lib.hid ((Below.refl _ _).alloc (Nat.le_refl _) _)
  go_wp2_with fail
  refine (Q0.out _ HB0.out).mono ?_
  rintro e w1 ⟨rfl, hb1⟩
  have HO1 : Hid (w1.heap[w.heap.size]? = some (.cells #[.int .u32 0, .int .u8 0, .int .u8 0, .int .u16 0, .int .u64 0, .int .u64 0] 90 (0, 0))) := Lib.hid (obj_step HO0.out hb1)
  have HB1 : Hid (Below w.heap.size w w1) := Lib.hid (HB0.out.trans (hb1.mono HB0.out.size))
  clear hb1
  have o1_0 : w1.cell? ⟨w.heap.size, 0, none⟩ = some (.int .u32 0) := obj_cell HO1.out 0
  have f1_0 : w1.frozen? ⟨w.heap.size, 0, none⟩ = false := obj_free HO1.out 0
  have o1_1 : w1.cell? ⟨w.heap.size, 1, none⟩ = some (.int .u8 0) := obj_cell HO1.out 1
  have f1_1 : w1.frozen? ⟨w.heap.size, 1, none⟩ = false := obj_free HO1.out 1
  have o1_2 : w1.cell? ⟨w.heap.size, 2, none⟩ = some (.int .u8 0) := obj_cell HO1.out 2
  have f1_2 : w1.frozen? ⟨w.heap.size, 2, none⟩ = false := obj_free HO1.out 2
  have o1_3 : w1.cell? ⟨w.heap.size, 3, none⟩ = some (.int .u16 0) := obj_cell HO1.out 3
  have f1_3 : w1.frozen? ⟨w.heap.size, 3, none⟩ = false := obj_free HO1.out 3
  have o1_4 : w1.cell? ⟨w.heap.size, 4, none⟩ = some (.int .u64 0) := obj_cell HO1.out 4
  have f1_4 : w1.frozen? ⟨w.heap.size, 4, none⟩ = false := obj_free HO1.out 4
  have o1_5 : w1.cell? ⟨w.heap.size, 5, none⟩ = some (.int .u64 0) := obj_cell HO1.out 5
  have f1_5 : w1.frozen? ⟨w.heap.size, 5, none⟩ = false := obj_free HO1.out 5
  have d1_1 := Q1.out _ HB1.out
  have d1_2 := Q2.out _ HB1.out
  go_wp2_with fail
  refine (Q3.out _ ((((((HB1.out).setCell (p := ⟨w.heap.size, 0, none⟩) (Nat.le_refl _) (.int .u32 (a0 : Nat)))).setCell (p := ⟨w.heap.size, 1, none⟩) (Nat.le_refl _) (.int .u8 a1))).setCell (p := ⟨w.heap.size, 2, none⟩) (Nat.le_refl _) (.int .u8 a2))).mono ?_
  rintro e w2 ⟨rfl, hb2⟩
  have HO2 : Hid (w2.heap[w.heap.size]? = some (.cells #[.int .u32 (a0 : Nat), .int .u8 a1, .int .u8 a2, .int .u16 0, .int .u64 0, .int .u64 0] 90 (0, 0))) := Lib.hid (obj_step (obj_set (obj_set (obj_set HO1.out 0 (.int .u32 (a0 : Nat))) 1 (.int .u8 a1)) 2 (.int .u8 a2)) hb2)
  have HB2 : Hid (Below w.heap.size w w2) := Lib.hid (((((((HB1.out).setCell (p := ⟨w.heap.size, 0, none⟩) (Nat.le_refl _) (.int .u32 (a0 : Nat)))).setCell (p := ⟨w.heap.size, 1, none⟩) (Nat.le_refl _) (.int .u8 a1))).setCell (p := ⟨w.heap.size, 2, none⟩) (Nat.le_refl _) (.int .u8 a2)).trans (hb2.mono ((((((HB1.out).setCell (p := ⟨w.heap.size, 0, none⟩) (Nat.le_refl _) (.int .u32 (a0 : Nat)))).setCell (p := ⟨w.heap.size, 1, none⟩) (Nat.le_refl _) (.int .u8 a1))).setCell (p := ⟨w.heap.size, 2, none⟩) (Nat.le_refl _) (.int .u8 a2)).size))
  clear hb2
  have o2_0 : w2.cell? ⟨w.heap.size, 0, none⟩ = some (.int .u32 (a0 : Nat)) := obj_cell HO2.out 0
  have f2_0 : w2.frozen? ⟨w.heap.size, 0, none⟩ = false := obj_free HO2.out 0
  have o2_1 : w2.cell? ⟨w.heap.size, 1, none⟩ = some (.int .u8 a1) := obj_cell HO2.out 1
  have f2_1 : w2.frozen? ⟨w.heap.size, 1, none⟩ = false := obj_free HO2.out 1
  have o2_2 : w2.cell? ⟨w.heap.size, 2, none⟩ = some (.int .u8 a2) := obj_cell HO2.out 2
  have f2_2 : w2.frozen? ⟨w.heap.size, 2, none⟩ = false := obj_free HO2.out 2
  have o2_3 : w2.cell? ⟨w.heap.size, 3, none⟩ = some (.int .u16 0) := obj_cell HO2.out 3
  have f2_3 : w2.frozen? ⟨w.heap.size, 3, none⟩ = false := obj_free HO2.out 3
  have o2_4 : w2.cell? ⟨w.heap.size, 4, none⟩ = some (.int .u64 0) := obj_cell HO2.out 4
  have f2_4 : w2.frozen? ⟨w.heap.size, 4, none⟩ = false := obj_free HO2.out 4
  have o2_5 : w2.cell? ⟨w.heap.size, 5, none⟩ = some (.int .u64 0) := obj_cell HO2.out 5
  have f2_5 : w2.frozen? ⟨w.heap.size, 5, none⟩ = false := obj_free HO2.out 5
  go_wp2_with fail
  refine (Q4.out _ ((HB2.out).setCell (p := ⟨w.heap.size, 3, none⟩) (Nat.le_refl _) (.int .u16 (a3 : Nat)))).mono ?_
  rintro e w3 ⟨rfl, hb3⟩
  have HO3 : Hid (w3.heap[w.heap.size]? = some (.cells #[.int .u32 (a0 : Nat), .int .u8 a1, .int .u8 a2, .int .u16 (a3 : Nat), .int .u64 0, .int .u64 0] 90 (0, 0))) := Lib.hid (obj_step (obj_set HO2.out 3 (.int .u16 (a3 : Nat))) hb3)
  have HB3 : Hid (Below w.heap.size w w3) := Lib.hid (((HB2.out).setCell (p := ⟨w.heap.size, 3, none⟩) (Nat.le_refl _) (.int .u16 (a3 : Nat))).trans (hb3.mono ((HB2.out).setCell (p := ⟨w.heap.size, 3, none⟩) (Nat.le_refl _) (.int .u16 (a3 : Nat))).size))
  clear hb3
  have o3_0 : w3.cell? ⟨w.heap.size, 0, none⟩ = some (.int .u32 (a0 : Nat)) := obj_cell HO3.out 0
  have f3_0 : w3.frozen? ⟨w.heap.size, 0, none⟩ = false := obj_free HO3.out 0
  have o3_1 : w3.cell? ⟨w.heap.size, 1, none⟩ = some (.int .u8 a1) := obj_cell HO3.out 1
  have f3_1 : w3.frozen? ⟨w.heap.size, 1, none⟩ = false := obj_free HO3.out 1
  have o3_2 : w3.cell? ⟨w.heap.size, 2, none⟩ = some (.int .u8 a2) := obj_cell HO3.out 2
  have f3_2 : w3.frozen? ⟨w.heap.size, 2, none⟩ = false := obj_free HO3.out 2
  have o3_3 : w3.cell? ⟨w.heap.size, 3, none⟩ = some (.int .u16 (a3 : Nat)) := obj_cell HO3.out 3
  have f3_3 : w3.frozen? ⟨w.heap.size, 3, none⟩ = false := obj_free HO3.out 3
  have o3_4 : w3.cell? ⟨w.heap.size, 4, none⟩ = some (.int .u64 0) := obj_cell HO3.out 4
  have f3_4 : w3.frozen? ⟨w.heap.size, 4, none⟩ = false := obj_free HO3.out 4
  have o3_5 : w3.cell? ⟨w.heap.size, 5, none⟩ = some (.int .u64 0) := obj_cell HO3.out 5
  have f3_5 : w3.frozen? ⟨w.heap.size, 5, none⟩ = false := obj_free HO3.out 5
  go_wp2_with fail
  refine (Q5.out _ ((HB3.out).setCell (p := ⟨w.heap.size, 4, none⟩) (Nat.le_refl _) (.int .u64 (a4 : Nat)))).mono ?_
  rintro e w4 ⟨rfl, hb4⟩
  have HO4 : Hid (w4.heap[w.heap.size]? = some (.cells #[.int .u32 (a0 : Nat), .int .u8 a1, .int .u8 a2, .int .u16 (a3 : Nat), .int .u64 (a4 : Nat), .int .u64 0] 90 (0, 0))) := Lib.hid (obj_step (obj_set HO3.out 4 (.int .u64 (a4 : Nat))) hb4)
  have HB4 : Hid (Below w.heap.size w w4) := Lib.hid (((HB3.out).setCell (p := ⟨w.heap.size, 4, none⟩) (Nat.le_refl _) (.int .u64 (a4 : Nat))).trans (hb4.mono ((HB3.out).setCell (p := ⟨w.heap.size, 4, none⟩) (Nat.le_refl _) (.int .u64 (a4 : Nat))).size))
  clear hb4
  have o4_0 : w4.cell? ⟨w.heap.size, 0, none⟩ = some (.int .u32 (a0 : Nat)) := obj_cell HO4.out 0
  have f4_0 : w4.frozen? ⟨w.heap.size, 0, none⟩ = false := obj_free HO4.out 0
  have o4_1 : w4.cell? ⟨w.heap.size, 1, none⟩ = some (.int .u8 a1) := obj_cell HO4.out 1
  have f4_1 : w4.frozen? ⟨w.heap.size, 1, none⟩ = false := obj_free HO4.out 1
  have o4_2 : w4.cell? ⟨w.heap.size, 2, none⟩ = some (.int .u8 a2) := obj_cell HO4.out 2
  have f4_2 : w4.frozen? ⟨w.heap.size, 2, none⟩ = false := obj_free HO4.out 2
  have o4_3 : w4.cell? ⟨w.heap.size, 3, none⟩ = some (.int .u16 (a3 : Nat)) := obj_cell HO4.out 3
  have f4_3 : w4.frozen? ⟨w.heap.size, 3, none⟩ = false := obj_free HO4.out 3
  have o4_4 : w4.cell? ⟨w.heap.size, 4, none⟩ = some (.int .u64 (a4 : Nat)) := obj_cell HO4.out 4
  have f4_4 : w4.frozen? ⟨w.heap.size, 4, none⟩ = false := obj_free HO4.out 4
  have o4_5 : w4.cell? ⟨w.heap.size, 5, none⟩ = some (.int .u64 0) := obj_cell HO4.out 5
  have f4_5 : w4.frozen? ⟨w.heap.size, 5, none⟩ = false := obj_free HO4.out 5
  have HOF : Hid ((((((((w4.setCell ⟨w.heap.size, 5, none⟩ (.int .u64 (a5 : Nat))).setCell ⟨w.heap.size, 0, none⟩ (.int .u32 (a0 : Nat))).setCell ⟨w.heap.size, 1, none⟩ (.int .u8 a1)).setCell ⟨w.heap.size, 2, none⟩ (.int .u8 a2)).setCell ⟨w.heap.size, 3, none⟩ (.int .u16 (a3 : Nat))).setCell ⟨w.heap.size, 4, none⟩ (.int .u64 (a4 : Nat))).setCell ⟨w.heap.size, 5, none⟩ (.int .u64 (a5 : Nat))).heap[w.heap.size]? = some (.cells #[.int .u32 (a0 : Nat), .int .u8 a1, .int .u8 a2, .int .u16 (a3 : Nat), .int .u64 (a4 : Nat), .int .u64 (a5 : Nat)] 90 (0, 0))) := Lib.hid (obj_set (obj_set (obj_set (obj_set (obj_set (obj_set (obj_set HO4.out 5 (.int .u64 (a5 : Nat))) 0 (.int .u32 (a0 : Nat))) 1 (.int .u8 a1)) 2 (.int .u8 a2)) 3 (.int .u16 (a3 : Nat))) 4 (.int .u64 (a4 : Nat))) 5 (.int .u64 (a5 : Nat)))
  have HBF : Hid (Below w.heap.size w (((((((w4.setCell ⟨w.heap.size, 5, none⟩ (.int .u64 (a5 : Nat))).setCell ⟨w.heap.size, 0, none⟩ (.int .u32 (a0 : Nat))).setCell ⟨w.heap.size, 1, none⟩ (.int .u8 a1)).setCell ⟨w.heap.size, 2, none⟩ (.int .u8 a2)).setCell ⟨w.heap.size, 3, none⟩ (.int .u16 (a3 : Nat))).setCell ⟨w.heap.size, 4, none⟩ (.int .u64 (a4 : Nat))).setCell ⟨w.heap.size, 5, none⟩ (.int .u64 (a5 : Nat)))) := Lib.hid ((((((((((((((HB4.out).setCell (p := ⟨w.heap.size, 5, none⟩) (Nat.le_refl _) (.int .u64 (a5 : Nat)))).setCell (p := ⟨w.heap.size, 0, none⟩) (Nat.le_refl _) (.int .u32 (a0 : Nat)))).setCell (p := ⟨w.heap.size, 1, none⟩) (Nat.le_refl _) (.int .u8 a1))).setCell (p := ⟨w.heap.size, 2, none⟩) (Nat.le_refl _) (.int .u8 a2))).setCell (p := ⟨w.heap.size, 3, none⟩) (Nat.le_refl _) (.int .u16 (a3 : Nat)))).setCell (p := ⟨w.heap.size, 4, none⟩) (Nat.le_refl _) (.int .u64 (a4 : Nat)))).setCell (p := ⟨w.heap.size, 5, none⟩) (Nat.le_refl _) (.int .u64 (a5 : Nat)))
  go_wp2
  exact bodyPost_ret (v := .agg #[.int .u32 (a0 : Nat), .int .u8 a1, .int .u8 a2, .int .u16 (a3 : Nat), .int .u64 (a4 : Nat), .int .u64 (a5 : Nat)]) (results_one_cell rfl rfl HOF.out Try.underlying90 sizezzSym64_any) rfl ⟨rfl, HBF.out⟩
end Go.Proofs.Ytlgigipjgahecaa
