/- impl.SectionBytes on a good file. -/
import Derived.Test.YtdgehpocmfjbiaaDoorPf
set_option linter.unusedVariables false
set_option linter.unusedSimpArgs false
namespace Go.Proofs.YtdgehpocmfjbiaaDoor
open Go.RowKit

abbrev secBytes_full_S0 := fun (A : Option Addr) (n : Nat) (c : Nat) (k : Nat) => ([(0, .slice A n c), (1, i6_ k), (4, nl_), (5, .bool false)] : Slots)
set_option maxRecDepth 100000 in
set_option maxHeartbeats 1000000 in
theorem secBytes_full (l : List UInt8) (A : Option Addr) (n c : Nat) (hl : n = l.length) (hnc : n ≤ c) (wide big : Bool) (abi abiv tyN machN entryN phoffN phnumN shoffN shnumN : Nat) (sg : Nat → SegV) (sc : Nat → SecV) (nb : Nat → List UInt8) (H : GoodFile l n wide big abi abiv tyN machN entryN phoffN phnumN shoffN shnumN sg sc nb) (h47 : n ≤ 140737488355328) (k : Nat) (hk : k < shnumN) (h8 : ((((sc k).ty : Nat) : Int) == 8) = false) (hnz : ((⟨(nb k).toArray⟩ : ByteArray).size < 7 ∨ (((⟨(nb k).toArray⟩ : ByteArray).extract 0 7).toList == (⟨#[46, 122, 100, 101, 98, 117, 103]⟩ : ByteArray).toList) = false)) (f1 : 0 < (sc k).fsz) (f2 : (sc k).fsz < 10485760) (f3 : (sc k).off + (sc k).fsz ≤ n) (w0 : World) (hr : Row w0 A (l.map Bv)) :
    Calls Tryd.prog 32 #[.slice A n c, i6_ k] w0 fun e w' => ∃ tb_, e = .returned (.tuple #[sl_ tb_ (sc k).fsz (sc k).fsz, .bool true]) ∧ Below w0.heap.size w0 w' ∧ w0.heap.size ≤ tb_ ∧ w'.heap[tb_]? = some (.cells (((l.drop (sc k).off).take (sc k).fsz).map Bv).toArray 5 (0, 0)) := by
  obtain ⟨i0, his, hss⟩ := size_ss
  obtain ⟨w, hw⟩ : ∃ w, w0 = w := ⟨_, rfl⟩
  have HM : Mm [] w0 w [] := hw ▸ Mm.start w0
  conv => arg 4; rw [hw]
  clear hw
  refine calls_start Tryd.func32 rfl Tryd.ntmps32 [(0, .slice A n c), (1, i6_ k)] (by kernel_rfl) (Nat.le_of_ble_eq_true rfl) ?_
  intro a HF
  refine reg_sym HF HM rfl [] (secBytes_full_S0 A n c k) [] (by kernel_rfl) ?_
  clear HF HM; intro a w HF HM
  refine wp_seq (wp_region_lit ?_)
  refine wp_sym HF HM rfl 1 [] ((secBytes_full_S0 A n c k) ++ [(11, .slice A n c)]) [] (by kernel_rfl) ?_
  clear HF HM; intro a w HF HM
  refine wp_call HF (by kernel_rfl) 55 #[.slice A n c] (by kernel_rfl) (fun w => by kernel_rfl) (Calls.mono (open_any l A n c hl hnc wide big abi abiv tyN machN entryN phoffN phnumN shoffN shnumN sg sc nb H h47 w (HM.row hr)) ?_)
  rintro _ w1 ⟨g, cap, z, fb, pg, sg_, cur, scur, rfl, hb, hnc2, hcap, hg0, hz0, hrow, hFile⟩
  replace HM : Mm [] w0 w1 [(fb, .cells #[iB_ (if wide then 2 else 1 : Int), iB_ (if big then 2 else 1 : Int), iB_ 1, u8_ abi, u8_ abiv, (boV big), u2_ tyN, u2_ machN, u6_ entryN, sl_ sg_ shnumN shnumN, sl_ pg phnumN phnumN, nl_, nl_, nl_] 131 (0, 0))] := HM.push hb (Nat.le_trans hz0 hFile.zf) hFile.file
  refine ⟨_, rfl, ?_⟩; clear HF; intro a HF; replace HF := HF.sub ((secBytes_full_S0 A n c k) ++ [(11, .slice A n c), (12, .tuple #[pt_ fb, .bool true])]) (by kernel_rfl)
  refine wp_pure HF HM rfl 5 [] ((secBytes_full_S0 A n c k) ++ [(6, pt_ fb), (7, .bool true)]) (by kernel_rfl) ?_
  clear HF; intro a HF
  refine nil_then ?_
  refine wp_seq ?_
  refine wp_seq (wp_region_lit ?_)
  refine wp_pure HF HM rfl 5 [] ((secBytes_full_S0 A n c k) ++ [(6, pt_ fb), (7, .bool true), (17, .bool false), (19, .bool (decide (((k : Nat) : Int) < 0))), (16, .bool false)]) (by kernel_rfl) ?_
  clear HF; intro a HF
  rw [show decide (((k : Nat) : Int) < 0) = false from dec_f (by omega)] at HF
  refine wp_pure HF HM rfl 9 [[0], []] ((secBytes_full_S0 A n c k) ++ [(6, pt_ fb), (7, .bool true), (20, .bool false), (21, .bool false), (28, .bool (decide (((shnumN : Nat) : Int) ≤ ((k : Nat) : Int))))]) (by kernel_rfl) ?_
  clear HF; intro a HF
  rw [show decide (((shnumN : Nat) : Int) ≤ ((k : Nat) : Int)) = false from dec_f (by omega)] at HF
  refine wp_pure HF HM rfl 1 [] ((secBytes_full_S0 A n c k) ++ [(6, pt_ fb), (7, .bool true), (29, .bool false)]) (by kernel_rfl) ?_
  clear HF; intro a HF
  refine nil_then ?_
  refine wp_condF HF rfl ?_
  refine wp_skip ?_
  repeat (first | refine then_norm ?_ | refine inb_norm ?_)
  replace HF := HF.sub ((secBytes_full_S0 A n c k) ++ [(6, pt_ fb)]) (by kernel_rfl)
  obtain ⟨pq, sq, q1, q2, q3, q4, q5⟩ := hFile.sec k hk
  refine wp_seq (wp_region_lit ?_)
  refine wp_pure HF HM rfl 5 [[0]] ((secBytes_full_S0 A n c k) ++ [(6, pt_ fb), (34, sl_ sg_ shnumN shnumN), (35, i6_ k)]) (by kernel_rfl) ?_
  clear HF; intro a HF
  refine wp_run HF (by kernel_rfl) (.pointer (some ⟨sg_, k, none⟩)) (by kernel_rfl) (run_index (t := 126) Tryd.underlying126 his hss rfl k rfl rfl hk) ?_
  clear HF; intro a HF; replace HF := HF.sub ((secBytes_full_S0 A n c k) ++ [(6, pt_ fb), (34, sl_ sg_ shnumN shnumN), (35, i6_ k), (36, .pointer (some ⟨sg_, k, none⟩))]) (by kernel_rfl)
  refine wp_run HF (by kernel_rfl) (pt_ pq) (by kernel_rfl) (run_load_one rfl rfl (by kernel_rfl) ((cell_of_row w1 sg_ k _ _ _ hFile.secs).trans q1)) ?_
  clear HF; intro a HF; replace HF := HF.sub ((secBytes_full_S0 A n c k) ++ [(6, pt_ fb), (34, sl_ sg_ shnumN shnumN), (35, i6_ k), (36, .pointer (some ⟨sg_, k, none⟩)), (37, pt_ pq)]) (by kernel_rfl)
  obtain ⟨_, _, eg, hgc⟩ := hrow.at_ (i := 0) (by rw [List.length_map]; omega)
  cases eg
  have hgl : g < w1.heap.size := cell_lt hgc
  have hgp : g ≠ pq := fun e => by subst e; have h1 := (cell_of_row w1 g 0 _ _ _ q4).symm.trans hgc; rw [List.getElem_map] at h1; simp [Bv] at h1
  have hgs : g ≠ sq := fun e => by subst e; have h1 := (cell_of_row w1 g 0 _ _ _ q5).symm.trans hgc; rw [List.getElem_map] at h1; simp [Bv] at h1
  have hs00 := HM.size
  refine wp_call HF (by kernel_rfl) 63 #[pt_ pq] (by kernel_rfl) (fun w => by kernel_rfl) (Calls.mono (secData_full ⟨(nb k).toArray⟩ (((sc k).ty : Nat) : Int) (((sc k).flags : Nat) : Int) (((sc k).addr : Nat) : Int) (((sc k).off : Nat) : Int) (((sc k).link : Nat) : Int) (((sc k).info : Nat) : Int) (((sc k).align : Nat) : Int) (((sc k).ent : Nat) : Int) (((sc k).fsz : Nat) : Int) (.iface 144 (pt_ sq)) (iI_ 0) (iI_ 0) pq sq h8 (H.bd k hk).v9 hnz l g 0 n cap hl hnc2 (sc k).fsz (sc k).off (((sc k).off : Nat) : Int) ((((sc k).fsz : Nat) : Int) + (((sc k).off : Nat) : Int)) (((sc k).fsz : Nat) : Int) (by omega) (by have := (H.bd k hk).v4; have := (H.bd k hk).v5; omega) (by omega) (by omega) (by omega) f1 f2 w1 q4 q5 hgl hgs hgp (other_block q4 q5 (by decide)) hrow) ?_)
  rintro _ w2 ⟨tb_, rfl, hb2, hge, hgn⟩
  replace HM := HM.call hb2
  refine ⟨_, rfl, ?_⟩; clear HF; intro a HF; replace HF := HF.sub ((secBytes_full_S0 A n c k) ++ [(6, pt_ fb), (34, sl_ sg_ shnumN shnumN), (35, i6_ k), (36, .pointer (some ⟨sg_, k, none⟩)), (37, pt_ pq), (38, .tuple #[sl_ tb_ (sc k).fsz (sc k).fsz, .nilIface])]) (by kernel_rfl)
  refine wp_pure HF HM rfl 5 [] ((secBytes_full_S0 A n c k) ++ [(6, pt_ fb), (8, sl_ tb_ (sc k).fsz (sc k).fsz), (9, .nilIface)]) (by kernel_rfl) ?_
  clear HF; intro a HF
  refine nil_then ?_
  refine reg_quietw (by kernel_rfl) (by kernel_rfl) ?_
  refine quiet_sym HF HM rfl 5 [] [(0, .slice A n c), (1, i6_ k), (6, pt_ fb), (4, sl_ tb_ (sc k).fsz (sc k).fsz), (5, .bool true)] (by kernel_rfl) ?_
  clear HF; intro a HF
  refine quiet_end ?_
  rintro _ ⟨nq, rfl⟩
  refine wp_ret ?_
  rw [Nat.add_zero] at hgn
  exact ret_two HF rfl rfl rfl ⟨tb_, rfl, (HM.drewN nq).below, Nat.le_trans hs00 hge, hgn⟩

abbrev secBytes_zero_S0 := fun (A : Option Addr) (n : Nat) (c : Nat) (k : Nat) => ([(0, .slice A n c), (1, i6_ k), (4, nl_), (5, .bool false)] : Slots)
set_option maxRecDepth 100000 in
set_option maxHeartbeats 1000000 in
theorem secBytes_zero (l : List UInt8) (A : Option Addr) (n c : Nat) (hl : n = l.length) (hnc : n ≤ c) (wide big : Bool) (abi abiv tyN machN entryN phoffN phnumN shoffN shnumN : Nat) (sg : Nat → SegV) (sc : Nat → SecV) (nb : Nat → List UInt8) (H : GoodFile l n wide big abi abiv tyN machN entryN phoffN phnumN shoffN shnumN sg sc nb) (h47 : n ≤ 140737488355328) (k : Nat) (hk : k < shnumN) (h8 : ((((sc k).ty : Nat) : Int) == 8) = false) (hnz : ((⟨(nb k).toArray⟩ : ByteArray).size < 7 ∨ (((⟨(nb k).toArray⟩ : ByteArray).extract 0 7).toList == (⟨#[46, 122, 100, 101, 98, 117, 103]⟩ : ByteArray).toList) = false)) (f1 : (sc k).fsz = 0) (w0 : World) (hr : Row w0 A (l.map Bv)) :
    Calls Tryd.prog 32 #[.slice A n c, i6_ k] w0 fun e w' => ∃ tb_, e = .returned (.tuple #[sl_ tb_ 0 0, .bool true]) ∧ Below w0.heap.size w0 w'  := by
  obtain ⟨i0, his, hss⟩ := size_ss
  obtain ⟨w, hw⟩ : ∃ w, w0 = w := ⟨_, rfl⟩
  have HM : Mm [] w0 w [] := hw ▸ Mm.start w0
  conv => arg 4; rw [hw]
  clear hw
  refine calls_start Tryd.func32 rfl Tryd.ntmps32 [(0, .slice A n c), (1, i6_ k)] (by kernel_rfl) (Nat.le_of_ble_eq_true rfl) ?_
  intro a HF
  refine reg_sym HF HM rfl [] (secBytes_zero_S0 A n c k) [] (by kernel_rfl) ?_
  clear HF HM; intro a w HF HM
  refine wp_seq (wp_region_lit ?_)
  refine wp_sym HF HM rfl 1 [] ((secBytes_zero_S0 A n c k) ++ [(11, .slice A n c)]) [] (by kernel_rfl) ?_
  clear HF HM; intro a w HF HM
  refine wp_call HF (by kernel_rfl) 55 #[.slice A n c] (by kernel_rfl) (fun w => by kernel_rfl) (Calls.mono (open_any l A n c hl hnc wide big abi abiv tyN machN entryN phoffN phnumN shoffN shnumN sg sc nb H h47 w (HM.row hr)) ?_)
  rintro _ w1 ⟨g, cap, z, fb, pg, sg_, cur, scur, rfl, hb, hnc2, hcap, hg0, hz0, hrow, hFile⟩
  replace HM : Mm [] w0 w1 [(fb, .cells #[iB_ (if wide then 2 else 1 : Int), iB_ (if big then 2 else 1 : Int), iB_ 1, u8_ abi, u8_ abiv, (boV big), u2_ tyN, u2_ machN, u6_ entryN, sl_ sg_ shnumN shnumN, sl_ pg phnumN phnumN, nl_, nl_, nl_] 131 (0, 0))] := HM.push hb (Nat.le_trans hz0 hFile.zf) hFile.file
  refine ⟨_, rfl, ?_⟩; clear HF; intro a HF; replace HF := HF.sub ((secBytes_zero_S0 A n c k) ++ [(11, .slice A n c), (12, .tuple #[pt_ fb, .bool true])]) (by kernel_rfl)
  refine wp_pure HF HM rfl 5 [] ((secBytes_zero_S0 A n c k) ++ [(6, pt_ fb), (7, .bool true)]) (by kernel_rfl) ?_
  clear HF; intro a HF
  refine nil_then ?_
  refine wp_seq ?_
  refine wp_seq (wp_region_lit ?_)
  refine wp_pure HF HM rfl 5 [] ((secBytes_zero_S0 A n c k) ++ [(6, pt_ fb), (7, .bool true), (17, .bool false), (19, .bool (decide (((k : Nat) : Int) < 0))), (16, .bool false)]) (by kernel_rfl) ?_
  clear HF; intro a HF
  rw [show decide (((k : Nat) : Int) < 0) = false from dec_f (by omega)] at HF
  refine wp_pure HF HM rfl 9 [[0], []] ((secBytes_zero_S0 A n c k) ++ [(6, pt_ fb), (7, .bool true), (20, .bool false), (21, .bool false), (28, .bool (decide (((shnumN : Nat) : Int) ≤ ((k : Nat) : Int))))]) (by kernel_rfl) ?_
  clear HF; intro a HF
  rw [show decide (((shnumN : Nat) : Int) ≤ ((k : Nat) : Int)) = false from dec_f (by omega)] at HF
  refine wp_pure HF HM rfl 1 [] ((secBytes_zero_S0 A n c k) ++ [(6, pt_ fb), (7, .bool true), (29, .bool false)]) (by kernel_rfl) ?_
  clear HF; intro a HF
  refine nil_then ?_
  refine wp_condF HF rfl ?_
  refine wp_skip ?_
  repeat (first | refine then_norm ?_ | refine inb_norm ?_)
  replace HF := HF.sub ((secBytes_zero_S0 A n c k) ++ [(6, pt_ fb)]) (by kernel_rfl)
  obtain ⟨pq, sq, q1, q2, q3, q4, q5⟩ := hFile.sec k hk
  refine wp_seq (wp_region_lit ?_)
  refine wp_pure HF HM rfl 5 [[0]] ((secBytes_zero_S0 A n c k) ++ [(6, pt_ fb), (34, sl_ sg_ shnumN shnumN), (35, i6_ k)]) (by kernel_rfl) ?_
  clear HF; intro a HF
  refine wp_run HF (by kernel_rfl) (.pointer (some ⟨sg_, k, none⟩)) (by kernel_rfl) (run_index (t := 126) Tryd.underlying126 his hss rfl k rfl rfl hk) ?_
  clear HF; intro a HF; replace HF := HF.sub ((secBytes_zero_S0 A n c k) ++ [(6, pt_ fb), (34, sl_ sg_ shnumN shnumN), (35, i6_ k), (36, .pointer (some ⟨sg_, k, none⟩))]) (by kernel_rfl)
  refine wp_run HF (by kernel_rfl) (pt_ pq) (by kernel_rfl) (run_load_one rfl rfl (by kernel_rfl) ((cell_of_row w1 sg_ k _ _ _ hFile.secs).trans q1)) ?_
  clear HF; intro a HF; replace HF := HF.sub ((secBytes_zero_S0 A n c k) ++ [(6, pt_ fb), (34, sl_ sg_ shnumN shnumN), (35, i6_ k), (36, .pointer (some ⟨sg_, k, none⟩)), (37, pt_ pq)]) (by kernel_rfl)
  refine wp_call HF (by kernel_rfl) 63 #[pt_ pq] (by kernel_rfl) (fun w => by kernel_rfl) (Calls.mono (secData_zero ⟨(nb k).toArray⟩ (((sc k).ty : Nat) : Int) (((sc k).flags : Nat) : Int) (((sc k).addr : Nat) : Int) (((sc k).off : Nat) : Int) (((sc k).link : Nat) : Int) (((sc k).info : Nat) : Int) (((sc k).align : Nat) : Int) (((sc k).ent : Nat) : Int) (((sc k).fsz : Nat) : Int) (.iface 144 (pt_ sq)) (iI_ 0) (iI_ 0) pq sq h8 (H.bd k hk).v9 hnz w1 (by rw [q4, f1]; rfl)) ?_)
  rintro _ w2 ⟨tb_, rfl, hb2⟩
  replace HM := HM.call hb2
  refine ⟨_, rfl, ?_⟩; clear HF; intro a HF; replace HF := HF.sub ((secBytes_zero_S0 A n c k) ++ [(6, pt_ fb), (34, sl_ sg_ shnumN shnumN), (35, i6_ k), (36, .pointer (some ⟨sg_, k, none⟩)), (37, pt_ pq), (38, .tuple #[sl_ tb_ 0 0, .nilIface])]) (by kernel_rfl)
  refine wp_pure HF HM rfl 5 [] ((secBytes_zero_S0 A n c k) ++ [(6, pt_ fb), (8, sl_ tb_ 0 0), (9, .nilIface)]) (by kernel_rfl) ?_
  clear HF; intro a HF
  refine nil_then ?_
  refine reg_quietw (by kernel_rfl) (by kernel_rfl) ?_
  refine quiet_sym HF HM rfl 5 [] [(0, .slice A n c), (1, i6_ k), (6, pt_ fb), (4, sl_ tb_ 0 0), (5, .bool true)] (by kernel_rfl) ?_
  clear HF; intro a HF
  refine quiet_end ?_
  rintro _ ⟨nq, rfl⟩
  refine wp_ret ?_
  exact ret_two HF rfl rfl rfl ⟨tb_, rfl, (HM.drewN nq).below⟩

end Go.Proofs.YtdgehpocmfjbiaaDoor
