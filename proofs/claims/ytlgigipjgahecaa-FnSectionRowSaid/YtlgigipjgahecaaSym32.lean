/- The contract of impl.SymbolRow32. -/
import Derived.Test.YtlgigipjgahecaaSymLaw
namespace Go.Proofs.Ytlgigipjgahecaa
open Go.RowKit
set_option linter.unusedVariables false
attribute [local go_sem ↓] Go.wp_at_zero Go.wp_at_succ

theorem drew_heap {w : World} {g : Nat} {o : Obj} (h : w.heap[g]? = some o) : w.drew.heap[g]? = some o := h
theorem results_tct {P : Program} {fn : Func} {p t u : Tmp} {ty T : TypeId} {g : Nat} {cs : Array Value} {fs : Array Field} {w : World} {tmps : Array Value} {vt vu : Value}
    (h : fn.results = #[.tmp t, .cell p ty, .tmp u]) (hp : tmps.getD p undef = .pointer (some ⟨g, 0, none⟩)) (ht : tmps.getD t undef = vt) (hv : tmps.getD u undef = vu)
    (ho : w.heap[g]? = some (.cells cs T (0, 0))) (hu : P.underlying ty = some (.struct fs)) (hi : (P.info? ty).map (·.size) = some cs.size) :
    (results fn tmps).run P w = .ok (.tuple #[vt, .agg cs, vu]) w := by
  rw [← ht, ← hv]
  exact results_tmp_cell_tmp h hp ho hu hi
theorem sizeSymbol : (Try.prog.info? 41).map (·.size) = some 6 := by kernel_rfl

set_option maxRecDepth 100000 in
set_option maxHeartbeats 600000 in
theorem symRow32_any (big : Bool) (l : List UInt8) (A : Option Addr) (n c : Nat) (hn : 16 ≤ n) (hl : n = l.length) (hbn : n ≤ 65536) (w : World) (hr : Row w A (l.map Bv)) :
    Calls Try.prog 27 #[.bool big, .slice A n c] w fun e w' => e = .returned (.tuple #[.int .u32 (numB big ((l.drop 0).take 4) : Nat),
      .agg #[.string ⟨#[]⟩, Bv (l.getD 12 0), Bv (l.getD 13 0), .int .i64 (numB big ((l.drop 14).take 2) : Nat), .int .u64 (numB big ((l.drop 4).take 4) : Nat), .int .u64 (numB big ((l.drop 8).take 4) : Nat)], .bool true]) ∧ Below w.heap.size w w' := by
  obtain ⟨i0, hi, hz0, hz1, hz2⟩ := info_parts info_u8
  have hz := fun b off c' (hc : n ≤ c') (hc2 : c' ≤ maxLen) W hr => zzSym32_any big l b off n c' hn hl hc hc2 W hr
  unfold sym32V Bv at hz
  unfold Bv
  have b1 := numB_lt big ((l.drop 4).take 4)
  have b2 := numB_lt big ((l.drop 8).take 4)
  have b5 := numB_lt big ((l.drop 14).take 2)
  have e1 : ((l.drop 4).take 4).length = 4 := by simp; omega
  have e2 : ((l.drop 8).take 4).length = 4 := by simp; omega
  have e5 : ((l.drop 14).take 2).length = 2 := by simp; omega
  rw [e1] at b1
  rw [e2] at b2
  rw [e5] at b5
  have p1 : (256 : Nat) ^ 4 = 4294967296 := by decide
  have p2 : (256 : Nat) ^ 2 = 65536 := by decide
  have k1 : (0 : Int) ≤ (numB big ((l.drop 4).take 4) : Int) ∧ (numB big ((l.drop 4).take 4) : Int) < 4294967296 := by omega
  have k2 : (0 : Int) ≤ (numB big ((l.drop 8).take 4) : Int) ∧ (numB big ((l.drop 8).take 4) : Int) < 4294967296 := by omega
  have k5 : (0 : Int) ≤ (numB big ((l.drop 14).take 2) : Int) ∧ (numB big ((l.drop 14).take 2) : Int) < 65536 := by omega
  clear e1 e2 e5 b1 b2 b5 p1 p2
  generalize ((numB big ((l.drop 0).take 4) : Nat) : Int) = a0 at *
  generalize ((numB big ((l.drop 4).take 4) : Nat) : Int) = a1 at *
  generalize ((numB big ((l.drop 8).take 4) : Nat) : Int) = a2 at *
  generalize ((l.getD 12 0).toNat : Int) = a3 at *
  generalize ((l.getD 13 0).toNat : Int) = a4 at *
  generalize ((numB big ((l.drop 14).take 2) : Nat) : Int) = a5 at *
  obtain ⟨k1a, k1b⟩ := k1
  obtain ⟨k2a, k2b⟩ := k2
  obtain ⟨k5a, k5b⟩ := k5
  have HZ := Lib.hid hz
  have HN := Lib.hid hl
  clear hz hl
  have HO0 : Hid ((w.alloc (.cells #[.string ⟨#[]⟩, .int .u8 0, .int .u8 0, .int .i64 0, .int .u64 0, .int .u64 0] 41)).heap[w.heap.size]? = some (.cells #[.string ⟨#[]⟩, .int .u8 0, .int .u8 0, .int .i64 0, .int .u64 0, .int .u64 0] 41 (0, 0))) := Lib.hid (heap_alloc_new w _)
  have HB0 : Hid (Below w.heap.size w (w.alloc (.cells #[.string ⟨#[]⟩, .int .u8 0, .int .u8 0, .int .i64 0, .int .u64 0, .int .u64 0] 41))) := Lib.hid ((Below.refl _ _).alloc (Nat.le_refl _) _)
  have HR := Lib.hid (hr.below HB0.out)
  clear hr
  go_enter Try.func27, Try.ntmps27
  go_wp2_with fail
  refine (order_any big _).mono ?_
  rintro e w1 ⟨rfl, rfl⟩
  go_wp2_with (at_builtin; refine wpList_append_row _ rfl _ _ 36 rfl (w.heap.size + 1) 5 i0 (.int .u8 0) 1 1 Try.underlying36 hi hz0 hz1 hz2 rfl (by omega) (.slice none 0 0) 0 [] rfl (World.ownsRow_nil _ _ _ _) A n c (l.map Bv) rfl ?c0 HR.out (Bv_one l) ?c1 ?c2 ?c3 ?_)
  case c0 => rw [HN.out]; simp
  case c1 => unfold maxLen; omega
  case c2 => omega
  case c3 => simp
  intro v' w1 hown hgrow hat
  obtain ⟨A', c', rfl, hnc, hrow, hbase⟩ := own_form hown
  have hcm : c' ≤ maxLen := by
    rcases hown.2 with ⟨e, _⟩ | ⟨g, cap, cur, e, _, _, _, hm, _⟩
    · injection e with _ _ e3; omega
    · injection e with _ _ e3; omega
  obtain ⟨b, off, rfl, _⟩ := hrow.at_ (i := 0) (by rw [List.length_map]; have := HN.out; omega)
  have HO1 := Lib.hid (obj_grown HO0.out hgrow (by simp [Value.ownBlock]))
  have HB1 : Hid (Below w.heap.size w w1) := Lib.hid (HB0.out.grown hgrow HB0.out.size (by simp [Value.ownBlock]))
  clear hown hgrow hat
  go_wp2_with fail
  refine (HZ.out b off c' hnc hcm _ hrow).mono ?_
  rintro e w2 ⟨rfl, hb2⟩
  have HO2 := Lib.hid (obj_step HO1.out hb2)
  have HB2 : Hid (Below w.heap.size w w2) := Lib.hid (HB1.out.trans (hb2.mono HB1.out.size))
  clear hb2 HO1 HB1 HO0 HB0 HR
  go_wp2_with fail
  have hlt := obj_lt HO2.out
  have hne : ¬ w.heap.size = w2.heap.size := by omega
  have hne2 : ¬ w2.heap.size = w.heap.size := by omega
  have HO3 : Hid ((w2.alloc (.cells #[.int .u32 a0, .int .u32 a1, .int .u32 a2, .int .u8 a3, .int .u8 a4, .int .u16 a5] 81)).heap[w.heap.size]? = some (.cells #[.string ⟨#[]⟩, .int .u8 0, .int .u8 0, .int .i64 0, .int .u64 0, .int .u64 0] 41 (0, 0))) := Lib.hid ((Below.heap_alloc _ _ _ hlt).trans HO2.out)
  have HO4 : Hid ((w2.alloc (.cells #[.int .u32 a0, .int .u32 a1, .int .u32 a2, .int .u8 a3, .int .u8 a4, .int .u16 a5] 81)).heap[w2.heap.size]? = some (.cells #[.int .u32 a0, .int .u32 a1, .int .u32 a2, .int .u8 a3, .int .u8 a4, .int .u16 a5] 81 (0, 0))) := Lib.hid (heap_alloc_new w2 _)
  have HB3 : Hid (Below w.heap.size w (w2.alloc (.cells #[.int .u32 a0, .int .u32 a1, .int .u32 a2, .int .u8 a3, .int .u8 a4, .int .u16 a5] 81))) := Lib.hid (HB2.out.alloc HB2.out.size _)
  obtain ⟨W, hW⟩ : ∃ W, (w2.alloc (.cells #[.int .u32 a0, .int .u32 a1, .int .u32 a2, .int .u8 a3, .int .u8 a4, .int .u16 a5] 81)) = W := ⟨_, rfl⟩
  rw [hW] at HO3 HO4 HB3 ⊢
  clear hW HB2 HO2 HZ hi hz0 hz1 hz2 hbase
  have o0 : W.cell? ⟨w.heap.size, 0, none⟩ = some (.string ⟨#[]⟩) := obj_cell HO3.out 0
  have f0 : W.frozen? ⟨w.heap.size, 0, none⟩ = false := obj_free HO3.out 0
  have o1 : W.cell? ⟨w.heap.size, 1, none⟩ = some (.int .u8 0) := obj_cell HO3.out 1
  have f1 : W.frozen? ⟨w.heap.size, 1, none⟩ = false := obj_free HO3.out 1
  have o2 : W.cell? ⟨w.heap.size, 2, none⟩ = some (.int .u8 0) := obj_cell HO3.out 2
  have f2 : W.frozen? ⟨w.heap.size, 2, none⟩ = false := obj_free HO3.out 2
  have o3 : W.cell? ⟨w.heap.size, 3, none⟩ = some (.int .i64 0) := obj_cell HO3.out 3
  have f3 : W.frozen? ⟨w.heap.size, 3, none⟩ = false := obj_free HO3.out 3
  have o4 : W.cell? ⟨w.heap.size, 4, none⟩ = some (.int .u64 0) := obj_cell HO3.out 4
  have f4 : W.frozen? ⟨w.heap.size, 4, none⟩ = false := obj_free HO3.out 4
  have o5 : W.cell? ⟨w.heap.size, 5, none⟩ = some (.int .u64 0) := obj_cell HO3.out 5
  have f5 : W.frozen? ⟨w.heap.size, 5, none⟩ = false := obj_free HO3.out 5
  have l0 : W.cell? ⟨w2.heap.size, 0, none⟩ = some (.int .u32 a0) := obj_cell HO4.out 0
  have l1 : W.cell? ⟨w2.heap.size, 1, none⟩ = some (.int .u32 a1) := obj_cell HO4.out 1
  have l2 : W.cell? ⟨w2.heap.size, 2, none⟩ = some (.int .u32 a2) := obj_cell HO4.out 2
  have l3 : W.cell? ⟨w2.heap.size, 3, none⟩ = some (.int .u8 a3) := obj_cell HO4.out 3
  have l4 : W.cell? ⟨w2.heap.size, 4, none⟩ = some (.int .u8 a4) := obj_cell HO4.out 4
  have l5 : W.cell? ⟨w2.heap.size, 5, none⟩ = some (.int .u16 a5) := obj_cell HO4.out 5
  have HOF : Hid (((((((W.setCell ⟨w.heap.size, 0, none⟩ (.string ⟨#[]⟩)).setCell ⟨w.heap.size, 1, none⟩ (.int .u8 a3)).setCell ⟨w.heap.size, 2, none⟩ (.int .u8 a4)).setCell ⟨w.heap.size, 3, none⟩ (.int .i64 a5)).setCell ⟨w.heap.size, 4, none⟩ (.int .u64 a1)).setCell ⟨w.heap.size, 5, none⟩ (.int .u64 a2)).drew.heap[w.heap.size]? = some (.cells #[.string ⟨#[]⟩, .int .u8 a3, .int .u8 a4, .int .i64 a5, .int .u64 a1, .int .u64 a2] 41 (0, 0))) := Lib.hid (drew_heap (obj_set (obj_set (obj_set (obj_set (obj_set (obj_set HO3.out 0 (.string ⟨#[]⟩)) 1 (.int .u8 a3)) 2 (.int .u8 a4)) 3 (.int .i64 a5)) 4 (.int .u64 a1)) 5 (.int .u64 a2)))
  have HBF : Hid (Below w.heap.size w ((((((W.setCell ⟨w.heap.size, 0, none⟩ (.string ⟨#[]⟩)).setCell ⟨w.heap.size, 1, none⟩ (.int .u8 a3)).setCell ⟨w.heap.size, 2, none⟩ (.int .u8 a4)).setCell ⟨w.heap.size, 3, none⟩ (.int .i64 a5)).setCell ⟨w.heap.size, 4, none⟩ (.int .u64 a1)).setCell ⟨w.heap.size, 5, none⟩ (.int .u64 a2)).drew) := Lib.hid ((((((((((((HB3.out).setCell (p := ⟨w.heap.size, 0, none⟩) (Nat.le_refl _) (.string ⟨#[]⟩))).setCell (p := ⟨w.heap.size, 1, none⟩) (Nat.le_refl _) (.int .u8 a3))).setCell (p := ⟨w.heap.size, 2, none⟩) (Nat.le_refl _) (.int .u8 a4))).setCell (p := ⟨w.heap.size, 3, none⟩) (Nat.le_refl _) (.int .i64 a5))).setCell (p := ⟨w.heap.size, 4, none⟩) (Nat.le_refl _) (.int .u64 a1))).setCell (p := ⟨w.heap.size, 5, none⟩) (Nat.le_refl _) (.int .u64 a2)).drew
  go_region
  all_goals go_wp2
  all_goals exact bodyPost_ret (v := .tuple #[.int .u32 a0, .agg #[.string ⟨#[]⟩, .int .u8 a3, .int .u8 a4, .int .i64 a5, .int .u64 a1, .int .u64 a2], .bool true]) (results_tct rfl rfl rfl rfl HOF.out Try.underlying41 sizeSymbol) rfl ⟨rfl, HBF.out⟩
end Go.Proofs.Ytlgigipjgahecaa
