/- Symbols, DynamicSymbols of a file; impl.symbolsOf, Symbols, DynamicSymbols. -/
import Derived.Test.YtdgehpocmfjbiaaDoorRp
set_option linter.unusedVariables false
set_option linter.unusedSimpArgs false
set_option maxRecDepth 100000
set_option maxHeartbeats 2000000
namespace Go.Proofs.YtdgehpocmfjbiaaDoor
open Go.RowKit

theorem RD {x : bZ} {b c z fb pg aV : Nat} {cur dU : Array Value} {w0 : World} (hF : kR x b c z fb pg aV cur dU w0) (l : List SymM) (hs : qI x 2 l) : Calls Tryd.prog 62 #[aA fb] w0 fun e w' => ∃ gs cap gk, e = .returned (.tuple #[aC gs l.length cap, .nilIface]) ∧ Below w0.heap.size w0 w' ∧ Own w0.heap.size w' 188 10 gs l.length cap gk (l.flatMap t_) := by
 obtain ⟨w, hw⟩ : ∃ w, w0 = w := ⟨_, rfl⟩
 have HM : Mm [] w0 w [] := hw ▸ Mm.start w0
 conv => arg 4; rw [hw]
 clear hw
 refine bI Tryd.func62 rfl Tryd.ntmps62 [(0, aA fb)] (by kernel_rfl) (Nat.le_of_ble_eq_true rfl) ?_
 intro a HF
 refine aN ?_
 refine wp_pure HF HM rfl 2 [] [(0, aA fb)] (by kernel_rfl) fun a HF => ?_
 refine bT ?_
 refine wp_pure HF HM rfl 1 [] [(8, aA fb)] (by kernel_rfl) fun a HF => ?_
 have hz0 := HM.size
 refine bf HF (by kernel_rfl) 79 #[aA fb, .int .u32 2] (by kernel_rfl) (fun w => by kernel_rfl) (Calls.mono (Jr (hF.below HM.below) 2 l hs) ?_)
 rintro _ w1 ⟨gs, cap, gk, tx, nt, rfl, hb, hos⟩
 replace HM := HM.call hb
 clear hb
 replace hos := hos.lo hz0
 clear hz0
 refine ⟨_, rfl, ?_⟩; clear HF; intro a HF
 refine wp_pure HF HM rfl 7 [] [(4, aC gs l.length cap), (6, .nilIface)] (by kernel_rfl) fun a HF => ?_
 refine bT ?_
 refine wp_pure HF HM rfl 4 [] [(2, aC gs l.length cap), (3, .nilIface)] (by kernel_rfl) fun a HF => ?_
 refine aB ?_
 refine wp_ret ?_
 repeat first | refine bH ?_ | refine bM ?_
 exact jK HF rfl rfl rfl ⟨gs, cap, gk, rfl, HM.below, hos⟩

theorem Um {x : bZ} {b c z fb pg aV : Nat} {cur dU : Array Value} {w0 : World} (hF : kR x b c z fb pg aV cur dU w0) (l : List SymM) (hs : qI x 11 l) : Calls Tryd.prog 56 #[aA fb] w0 fun e w' => ∃ gs cap gk, e = .returned (.tuple #[aC gs l.length cap, .nilIface]) ∧ Below w0.heap.size w0 w' ∧ Own w0.heap.size w' 188 10 gs l.length cap gk (l.flatMap t_) := by
 obtain ⟨w, hw⟩ : ∃ w, w0 = w := ⟨_, rfl⟩
 have HM : Mm [] w0 w [] := hw ▸ Mm.start w0
 conv => arg 4; rw [hw]
 clear hw
 refine bI Tryd.func56 rfl Tryd.ntmps56 [(0, aA fb)] (by kernel_rfl) (Nat.le_of_ble_eq_true rfl) ?_
 intro a HF
 refine aN ?_
 refine wp_pure HF HM rfl 2 [] [(0, aA fb)] (by kernel_rfl) fun a HF => ?_
 refine bT ?_
 refine wp_pure HF HM rfl 1 [] [(0, aA fb), (10, aA fb)] (by kernel_rfl) fun a HF => ?_
 have hz0 := HM.size
 refine bf HF (by kernel_rfl) 79 #[aA fb, gV 11] (by kernel_rfl) (fun w => by kernel_rfl) (Calls.mono (Jr (hF.below HM.below) 11 l hs) ?_)
 rintro _ w1 ⟨gs, cap, gk, tx, nt, rfl, hb, hos⟩
 replace HM := HM.call hb
 clear hb
 replace hos := hos.lo hz0
 clear hz0
 refine ⟨_, rfl, ?_⟩; clear HF; intro a HF
 refine wp_pure HF HM rfl 7 [] [(0, aA fb), (4, aC gs l.length cap), (5, aC tx nt nt), (6, .nilIface)] (by kernel_rfl) fun a HF => ?_
 refine aB ?_
 refine wp_seq ?_
 refine aN ?_
 refine wp_pure HF HM rfl 2 [] [(0, aA fb), (4, aC gs l.length cap), (5, aC tx nt nt), (6, .nilIface), (16, .bool false)] (by kernel_rfl) fun a HF => ?_
 refine aB ?_
 refine aZ HF rfl ?_
 refine wp_skip ?_
 repeat first | refine aK ?_ | refine aS ?_
 refine aN ?_
 refine wp_pure HF HM rfl 2 [] [(0, aA fb), (4, aC gs l.length cap), (19, aA fb), (20, aC tx nt nt)] (by kernel_rfl) fun a HF => ?_
 refine bf HF (by kernel_rfl) 80 #[aA fb, aC tx nt nt] (by kernel_rfl) (fun w => by kernel_rfl) (Calls.mono (MS (hF.below HM.below) hs.tys _) ?_)
 rintro _ w2 ⟨rfl, hb⟩
 replace hos := Own.below hos hb
 replace HM := HM.call hb
 clear hb
 refine ⟨_, rfl, ?_⟩; clear HF; intro a HF
 refine wp_pure HF HM rfl 5 [] [(0, aA fb), (4, aC gs l.length cap), (6, .nilIface), (7, .bool false)] (by kernel_rfl) fun a HF => ?_
 refine aB ?_
 refine wp_seq ?_
 refine aN ?_
 refine wp_pure HF HM rfl 2 [] [(0, aA fb), (4, aC gs l.length cap), (6, .nilIface), (7, .bool false), (25, .bool false)] (by kernel_rfl) fun a HF => ?_
 refine aB ?_
 refine aZ HF rfl ?_
 refine wp_skip ?_
 repeat first | refine aK ?_ | refine aS ?_
 refine wp_seq ?_
 refine aN ?_
 refine wp_pure HF HM rfl 1 [] [(0, aA fb), (4, aC gs l.length cap), (27, .bool false)] (by kernel_rfl) fun a HF => ?_
 refine aB ?_
 refine aZ HF rfl ?_
 refine wp_skip ?_
 repeat first | refine aK ?_ | refine aS ?_
 refine aN ?_
 refine wp_pure HF HM rfl 3 [] [(2, aC gs l.length cap), (3, .nilIface)] (by kernel_rfl) fun a HF => ?_
 refine aB ?_
 refine wp_ret ?_
 repeat first | refine bH ?_ | refine bM ?_
 exact jK HF rfl rfl rfl ⟨gs, cap, gk, rfl, HM.below, hos⟩

theorem vW (l : List SymM) (A : Option Addr) (c : Nat) (hn : l.length ≤ 1024) (w0 : World) (hr : Row w0 A (l.flatMap t_)) : Calls Tryd.prog 57 #[.slice A l.length c] w0 fun e w' => ∃ A' c', e = .returned (.slice A' l.length c') ∧ Below w0.heap.size w0 w' ∧ Row w' A' (l.flatMap SymM.cells) := by
 obtain ⟨w, hw⟩ : ∃ w, w0 = w := ⟨_, rfl⟩
 have HM : Mm [] w0 w [] := hw ▸ Mm.start w0
 conv => arg 4; rw [hw]
 clear hw
 refine bI Tryd.func57 rfl Tryd.ntmps57 [(0, .slice A l.length c)] (by kernel_rfl) (Nat.le_of_ble_eq_true rfl) ?_
 intro a HF
 refine aN ?_
 refine wp_pure HF HM rfl 1 [] [(0, .slice A l.length c)] (by kernel_rfl) fun a HF => ?_
 refine bT ?_
 refine wp_pure HF HM rfl 1 [] [(0, .slice A l.length c), (3, aQ)] (by kernel_rfl) fun a HF => ?_
 refine aB ?_
 refine wp_seq ?_
 refine aN ?_
 refine wp_pure HF HM rfl 3 [] [(3, aQ), (6, .slice A l.length c), (7, ay l.length), (8, aF 0)] (by kernel_rfl) fun a HF => ?_
 refine aB ?_
 refine wp_block ?_
 refine jX (l.length) (fun i a w => ((i = 0) ∧ Mm [] w0 w [] ∧ Fr 30 a [(3, aQ), (6, .slice A l.length c), (7, ay l.length), (8, ay i)]) ∨ (∃ og : Nat, ∃ oc : Nat, ∃ ok : Array Value, (ok.toList.take (i * 6) = (l.take i).flatMap SymM.cells) ∧ (ok.size = oc * 6) ∧ (i ≤ oc) ∧ (oc ≤ maxLen) ∧ Mm [] w0 w [(og, .cells ok 40 (0, 0))] ∧ Fr 30 a [(3, aC og i oc), (6, .slice A l.length c), (7, ay l.length), (8, ay i)])) ?_ ?_ ?_
 ·exact Or.inl <| ⟨rfl, HM, HF.sub [(3, aQ), (6, .slice A l.length c), (7, ay l.length), (8, aF 0)] (by kernel_rfl)⟩
 ·intro i a w KX hi hI KR
  rcases hI with hI | hI
  ·obtain ⟨h0, HM, HF⟩ := hI
   subst h0
   refine aN ?_
   refine wp_pure HF HM rfl 1 [] [(3, aQ), (6, .slice A l.length c), (7, ay l.length), (8, aF 0), (9, .bool (decide (0 < ((l.length : Nat) : Int))))] (by kernel_rfl) fun a HF => ?_
   refine aB ?_
   refine wp_seq ?_
   rw [show decide (0 < ((l.length : Nat) : Int)) = true from dV (by omega)] at HF
   refine bC HF rfl ?_
   refine wp_skip ?_
   repeat first | refine aK ?_ | refine aS ?_
   refine wp_seq ?_
   refine wp_block ?_
   refine aN ?_
   obtain ⟨m1, hm1⟩ : ∃ m, l[0]? = some m := ⟨_, List.getElem?_eq_getElem (by omega)⟩
   refine bU HF (by kernel_rfl) (.pointer (Option.map (fun q : Addr => q.add (0 * 10)) A)) (by kernel_rfl) (dS Tryd.underlying101 (by kernel_rfl) rfl 0 rfl rfl (by omega) (gQ (fH (f := t_) (k := 10) (fun _ => rfl) (HM.row hr) 0 hm1) (Nat.zero_lt_succ _))) fun a HF => ?_
   refine bU HF (by kernel_rfl) (.agg #[.string (⟨m1.name.toArray⟩), aT m1.info, aT m1.other, .bool false, .int .u16 0, .int .i64 m1.dH, aI m1.value, aI m1.size, .string (⟨#[]⟩ : ByteArray), .string (⟨#[]⟩ : ByteArray)]) (by kernel_rfl) (iC rfl rfl (fH (f := t_) (k := 10) (fun _ => rfl) (HM.row hr) 0 hm1) (Nat.zero_lt_succ _) Tryd.underlying188 rfl (by kernel_rfl)) fun a HF => ?_
   obtain ⟨z5, uj⟩ : ∃ z, w.heap.size = z := ⟨_, rfl⟩
   refine aP HF HM uj 2 [[0]] [(3, aQ), (5, aA z5), (6, .slice A l.length c), (7, ay l.length), (8, aF 0)] [(z5, .cells #[.string (⟨m1.name.toArray⟩), aT m1.info, aT m1.other, .bool false, .int .u16 0, .int .i64 m1.dH, aI m1.value, aI m1.size, .string (⟨#[]⟩ : ByteArray), .string (⟨#[]⟩ : ByteArray)] 188 (0, 0))] (by kernel_rfl) fun a w HF HM => ?_
   clear uj
   refine aB ?_
   refine wp_region_lit ?_
   obtain ⟨z6, wO⟩ : ∃ z, w.heap.size = z := ⟨_, rfl⟩
   refine aP HF HM wO 15 [[0], [0], [0], [0], [0], [0]] [(6, .slice A l.length c), (7, ay l.length), (8, aF 0), (12, aQ), (26, aC z6 1 1)] [(z6, .cells #[.string (⟨m1.name.toArray⟩), aT m1.info, aT m1.other, .int .i64 m1.dH, aI m1.value, aI m1.size] 40 (0, 0)), (z5, .cells #[.string (⟨m1.name.toArray⟩), aT m1.info, aT m1.other, .bool false, .int .u16 0, .int .i64 m1.dH, aI m1.value, aI m1.size, .string (⟨#[]⟩ : ByteArray), .string (⟨#[]⟩ : ByteArray)] 188 (0, 0))] (by kernel_rfl) fun a w HF HM => ?_
   clear wO
   refine vV HF HM rfl _ _ 27 rfl rfl 40 (z := .agg #[.string (⟨#[]⟩ : ByteArray), aO 0, aO 0, aF 0, bF 0, bF 0]) (size := 6) (bytes := 48) Tryd.underlying27 (by kernel_rfl) rfl (by decide) rfl (some ⟨z6, 0, none⟩) 1 1 ([.string (⟨m1.name.toArray⟩), aT m1.info, aT m1.other, .int .i64 m1.dH, aI m1.value, aI m1.size]) rfl rfl (by omega) (HM.rowAt (i := 0) rfl) (lM rfl) (by unfold maxLen; omega) (by omega) ?_
   intro a w1 g2 cap2 jY bJ tY hsz2 uU hcm2 hbel HF2; clear HF HM hbel
   have HM : Mm [] w0 w1 [(g2, .cells jY 40 (0, 0)), (z6, .cells #[.string (⟨m1.name.toArray⟩), aT m1.info, aT m1.other, .int .i64 m1.dH, aI m1.value, aI m1.size] 40 (0, 0)), (z5, .cells #[.string (⟨m1.name.toArray⟩), aT m1.info, aT m1.other, .bool false, .int .u16 0, .int .i64 m1.dH, aI m1.value, aI m1.size, .string (⟨#[]⟩ : ByteArray), .string (⟨#[]⟩ : ByteArray)] 188 (0, 0))] := bJ
   have HF := HF2.sub [(6, .slice A l.length c), (7, ay l.length), (8, aF 0), (27, aC g2 1 cap2)] (by kernel_rfl); clear bJ HF2
   replace tY : jY.toList.take (1 * 6) = (l.take 1).flatMap SymM.cells := tY.trans (by have ht : l.take 1 = [m1] := oW hm1; rw [ht]; rfl)
   refine wp_pure HF HM rfl 1 [] [(3, aC g2 1 cap2), (6, .slice A l.length c), (7, ay l.length), (8, aF 0)] (by kernel_rfl) fun a HF => ?_
   refine wpList_nil ?_
   repeat first | refine aK ?_ | refine aS ?_
   refine wp_region_lit ?_
   refine wp_pure HF HM rfl 2 [] [(3, aC g2 1 cap2), (6, .slice A l.length c), (7, ay l.length), (8, aF 1)] (by kernel_rfl) fun a HF => ?_
   refine wpList_nil ?_
   repeat first | refine aK ?_ | refine aS ?_
   exact KR _ _ (Or.inr <| ⟨g2, cap2, jY, tY, hsz2, uU, hcm2, (HM.pick [0] [(g2, .cells jY 40 (0, 0))] rfl (by decide)), HF.sub [(3, aC g2 1 cap2), (6, .slice A l.length c), (7, ay l.length), (8, aF 1)] (by kernel_rfl)⟩)
  ·obtain ⟨og, oc, ok, jV, oQ, lu, pV, HM, HF⟩ := hI
   refine aN ?_
   refine wp_pure HF HM rfl 1 [] [(3, aC og i oc), (6, .slice A l.length c), (7, ay l.length), (8, ay i), (9, .bool (decide (((i : Nat) : Int) < ((l.length : Nat) : Int))))] (by kernel_rfl) fun a HF => ?_
   refine aB ?_
   refine wp_seq ?_
   rw [show decide (((i : Nat) : Int) < ((l.length : Nat) : Int)) = true from dV (by omega)] at HF
   refine bC HF rfl ?_
   refine wp_skip ?_
   repeat first | refine aK ?_ | refine aS ?_
   refine wp_seq ?_
   refine wp_block ?_
   refine aN ?_
   obtain ⟨m3, zk⟩ : ∃ m, l[i]? = some m := ⟨_, List.getElem?_eq_getElem (by omega)⟩
   refine bU HF (by kernel_rfl) (.pointer (Option.map (fun q : Addr => q.add (i * 10)) A)) (by kernel_rfl) (dS Tryd.underlying101 (by kernel_rfl) rfl i rfl rfl (by omega) (gQ (fH (f := t_) (k := 10) (fun _ => rfl) (HM.row hr) i zk) (Nat.zero_lt_succ _))) fun a HF => ?_
   refine bU HF (by kernel_rfl) (.agg #[.string (⟨m3.name.toArray⟩), aT m3.info, aT m3.other, .bool false, .int .u16 0, .int .i64 m3.dH, aI m3.value, aI m3.size, .string (⟨#[]⟩ : ByteArray), .string (⟨#[]⟩ : ByteArray)]) (by kernel_rfl) (iC rfl rfl (fH (f := t_) (k := 10) (fun _ => rfl) (HM.row hr) i zk) (Nat.zero_lt_succ _) Tryd.underlying188 rfl (by kernel_rfl)) fun a HF => ?_
   obtain ⟨z10, xO⟩ : ∃ z, w.heap.size = z := ⟨_, rfl⟩
   refine aP HF HM xO 2 [[1]] [(3, aC og i oc), (5, aA z10), (6, .slice A l.length c), (7, ay l.length), (8, ay i)] [(z10, .cells #[.string (⟨m3.name.toArray⟩), aT m3.info, aT m3.other, .bool false, .int .u16 0, .int .i64 m3.dH, aI m3.value, aI m3.size, .string (⟨#[]⟩ : ByteArray), .string (⟨#[]⟩ : ByteArray)] 188 (0, 0)), (og, .cells ok 40 (0, 0))] (by kernel_rfl) fun a w HF HM => ?_
   clear xO
   refine aB ?_
   refine wp_region_lit ?_
   obtain ⟨z11, FH⟩ : ∃ z, w.heap.size = z := ⟨_, rfl⟩
   refine aP HF HM FH 15 [[1], [1], [1], [1], [1], [1]] [(6, .slice A l.length c), (7, ay l.length), (8, ay i), (12, aC og i oc), (26, aC z11 1 1)] [(z11, .cells #[.string (⟨m3.name.toArray⟩), aT m3.info, aT m3.other, .int .i64 m3.dH, aI m3.value, aI m3.size] 40 (0, 0)), (z10, .cells #[.string (⟨m3.name.toArray⟩), aT m3.info, aT m3.other, .bool false, .int .u16 0, .int .i64 m3.dH, aI m3.value, aI m3.size, .string (⟨#[]⟩ : ByteArray), .string (⟨#[]⟩ : ByteArray)] 188 (0, 0)), (og, .cells ok 40 (0, 0))] (by kernel_rfl) fun a w HF HM => ?_
   clear FH
   refine fU HF HM rfl _ _ 27 27 rfl rfl 40 (z := .agg #[.string (⟨#[]⟩ : ByteArray), aO 0, aO 0, aF 0, bF 0, bF 0]) (size := 6) (bytes := 48) Tryd.underlying27 (by kernel_rfl) rfl (by decide) 2 og i oc ok rfl rfl lu pV oQ ((l.take i).flatMap SymM.cells) jV (aC z11 1 1) 1 [.string (⟨m3.name.toArray⟩), aT m3.info, aT m3.other, .int .i64 m3.dH, aI m3.value, aI m3.size] rfl (lF Tryd.underlying27 rfl (by decide) (HM.rowAt (i := 0) rfl) (lM rfl)) (by unfold maxLen; omega) (by omega) ?_
   intro a w2 g4 cap4 lg bJ pX Bf uD CQ HF2; clear HF HM
   replace pX : lg.toList.take ((i + 1) * 6) = (l.take (i + 1)).flatMap SymM.cells := pX.trans (by rw [oW zk, List.flatMap_append, List.flatMap_singleton]; rfl)
   have HM : Mm [] w0 w2 [(z11, .cells #[.string (⟨m3.name.toArray⟩), aT m3.info, aT m3.other, .int .i64 m3.dH, aI m3.value, aI m3.size] 40 (0, 0)), (z10, .cells #[.string (⟨m3.name.toArray⟩), aT m3.info, aT m3.other, .bool false, .int .u16 0, .int .i64 m3.dH, aI m3.value, aI m3.size, .string (⟨#[]⟩ : ByteArray), .string (⟨#[]⟩ : ByteArray)] 188 (0, 0)), (g4, .cells lg 40 (0, 0))] := bJ
   have HF := HF2.sub [(6, .slice A l.length c), (7, ay l.length), (8, ay i), (27, aC g4 (i + 1) cap4)] (by kernel_rfl); clear bJ HF2
   refine wp_pure HF HM rfl 1 [] [(3, aC g4 (i + 1) cap4), (6, .slice A l.length c), (7, ay l.length), (8, ay i)] (by kernel_rfl) fun a HF => ?_
   refine wpList_nil ?_
   repeat first | refine aK ?_ | refine aS ?_
   refine wp_region_lit ?_
   refine wp_pure HF HM rfl 1 [] [(3, aC g4 (i + 1) cap4), (6, .slice A l.length c), (7, ay l.length), (28, aF (IntKind.i64.wrap (((i : Nat) : Int) + 1)))] (by kernel_rfl) fun a HF => ?_
   rw [show IntKind.i64.wrap (((i : Nat) : Int) + 1) = (((i + 1) : Nat) : Int) from (IntWalk.i64_in _ (by omega)).trans (by omega)] at HF
   refine wp_pure HF HM rfl 1 [] [(3, aC g4 (i + 1) cap4), (6, .slice A l.length c), (7, ay l.length), (8, ay (i + 1))] (by kernel_rfl) fun a HF => ?_
   refine wpList_nil ?_
   repeat first | refine aK ?_ | refine aS ?_
   exact KR _ _ (Or.inr <| ⟨g4, cap4, lg, pX, Bf, uD, CQ, (HM.pick [2] [(g4, .cells lg 40 (0, 0))] rfl (by decide)), HF.sub [(3, aC g4 (i + 1) cap4), (6, .slice A l.length c), (7, ay l.length), (8, ay (i + 1))] (by kernel_rfl)⟩)
 ·intro a w KX hI
  rcases hI with hI | hI
  ·obtain ⟨h0, HM, HF⟩ := hI
   refine aN ?_
   refine wp_pure HF HM rfl 1 [] [(3, aQ), (6, .slice A l.length c), (7, ay l.length), (8, ay l.length), (9, .bool (decide (((l.length : Nat) : Int) < ((l.length : Nat) : Int))))] (by kernel_rfl) fun a HF => ?_
   refine aB ?_
   refine wp_seq ?_
   rw [show decide (((l.length : Nat) : Int) < ((l.length : Nat) : Int)) = false from dI (by omega)] at HF
   refine aZ HF rfl ?_
   refine wp_exit ?_
   repeat (first | refine fG ?_ | refine fA rfl ?_)
   refine iD ?_
   repeat first | refine aK ?_ | refine aS ?_
   refine aN ?_
   refine wp_pure HF HM rfl 2 [] [(2, aQ)] (by kernel_rfl) fun a HF => ?_
   refine aB ?_
   refine wp_ret ?_
   repeat first | refine bH ?_ | refine bM ?_
   exact dn HF rfl rfl ⟨none, 0, by rw [h0], HM.below, by rw [List.eq_nil_of_length_eq_zero h0]; exact Row.nil _ _⟩
  ·obtain ⟨og, oc, ok, jV, oQ, lu, pV, HM, HF⟩ := hI
   refine aN ?_
   refine wp_pure HF HM rfl 1 [] [(3, aC og l.length oc), (6, .slice A l.length c), (7, ay l.length), (8, ay l.length), (9, .bool (decide (((l.length : Nat) : Int) < ((l.length : Nat) : Int))))] (by kernel_rfl) fun a HF => ?_
   refine aB ?_
   refine wp_seq ?_
   rw [show decide (((l.length : Nat) : Int) < ((l.length : Nat) : Int)) = false from dI (by omega)] at HF
   refine aZ HF rfl ?_
   refine wp_exit ?_
   repeat (first | refine fG ?_ | refine fA rfl ?_)
   refine iD ?_
   repeat first | refine aK ?_ | refine aS ?_
   refine aN ?_
   refine wp_pure HF HM rfl 2 [] [(2, aC og l.length oc)] (by kernel_rfl) fun a HF => ?_
   refine aB ?_
   refine wp_ret ?_
   repeat first | refine bH ?_ | refine bM ?_
   rw [List.take_length] at jV
   exact dn HF rfl rfl ⟨some ⟨og, 0, none⟩, oc, rfl, HM.below, HM.nH (i := 0) rfl jV⟩

theorem II (x : bZ) (A : Option Addr) (c : Nat) (hnc : x.img.file.length ≤ c) (ok : x.img.Ok) (l : List SymM) (hs : qI x 2 l) (w0 : World) (hr : Row w0 A (x.img.file.map Bv)) : Calls Tryd.prog 30 #[.slice A x.img.file.length c] w0 fun e w' => ∃ A' c', e = .returned (.tuple #[.slice A' l.length c', aF 0]) ∧ Below w0.heap.size w0 w' ∧ Row w' A' (l.flatMap SymM.cells) := by
 obtain ⟨w, hw⟩ : ∃ w, w0 = w := ⟨_, rfl⟩
 have HM : Mm [] w0 w [] := hw ▸ Mm.start w0
 conv => arg 4; rw [hw]
 clear hw
 refine bI Tryd.func30 rfl Tryd.ntmps30 [(0, .slice A x.img.file.length c)] (by kernel_rfl) (Nat.le_of_ble_eq_true rfl) ?_
 intro a HF
 refine aN ?_
 refine wp_pure HF HM rfl 2 [] [(0, .slice A x.img.file.length c)] (by kernel_rfl) fun a HF => ?_
 refine bT ?_
 refine wp_pure HF HM rfl 1 [] [(9, .slice A x.img.file.length c)] (by kernel_rfl) fun a HF => ?_
 refine bf HF (by kernel_rfl) 55 #[.slice A x.img.file.length c] (by kernel_rfl) (fun w => by kernel_rfl) (Calls.mono (Io x A _ c rfl hnc ok w (HM.row hr)) ?_)
 rintro _ w1 ⟨bg, Qk, z, fb, pg, aV, cur, dU, rfl, hb, hge, hF⟩
 replace HM := HM.call hb
 clear hb
 refine ⟨_, rfl, ?_⟩; clear HF; intro a HF
 refine wp_pure HF HM rfl 5 [] [(4, aA fb), (5, .bool true)] (by kernel_rfl) fun a HF => ?_
 refine aB ?_
 refine wp_seq ?_
 refine aN ?_
 refine wp_pure HF HM rfl 2 [] [(4, aA fb), (14, .bool false)] (by kernel_rfl) fun a HF => ?_
 refine aB ?_
 refine aZ HF rfl ?_
 refine wp_skip ?_
 repeat first | refine aK ?_ | refine aS ?_
 refine aN ?_
 refine wp_pure HF HM rfl 1 [] [(16, aA fb)] (by kernel_rfl) fun a HF => ?_
 refine bf HF (by kernel_rfl) 62 #[aA fb] (by kernel_rfl) (fun w => by kernel_rfl) (Calls.mono (RD hF l hs) ?_)
 rintro _ w2 ⟨gs, cap, gk, rfl, hb, hos⟩
 replace HM := HM.call hb
 clear hb
 refine ⟨_, rfl, ?_⟩; clear HF; intro a HF
 refine wp_pure HF HM rfl 5 [] [(6, aC gs l.length cap), (7, .nilIface)] (by kernel_rfl) fun a HF => ?_
 refine bT ?_
 refine wp_pure HF HM rfl 1 [] [(7, .nilIface), (20, aC gs l.length cap)] (by kernel_rfl) fun a HF => ?_
 refine bf HF (by kernel_rfl) 57 #[aC gs l.length cap] (by kernel_rfl) (fun w => by kernel_rfl) (Calls.mono (vW l (some ⟨gs, 0, none⟩) cap hs.n w2 hos.row) ?_)
 rintro _ w3 ⟨A', c', rfl, hb, hrow⟩
 replace HM := HM.call hb
 clear hb
 refine ⟨_, rfl, ?_⟩; clear HF; intro a HF
 refine wp_pure HF HM rfl 1 [] [(21, .slice A' l.length c'), (22, .nilIface)] (by kernel_rfl) fun a HF => ?_
 refine bf HF (by kernel_rfl) 58 #[.nilIface] (by kernel_rfl) (fun w => by kernel_rfl) (Calls.mono (Ap w3) ?_)
 rintro _ w4 ⟨rfl, hb⟩
 replace hrow := hrow.below hb
 replace HM := HM.call hb
 clear hb
 refine ⟨_, rfl, ?_⟩; clear HF; intro a HF
 refine wp_pure HF HM rfl 2 [] [(2, .slice A' l.length c'), (3, aF 0)] (by kernel_rfl) fun a HF => ?_
 refine aB ?_
 refine wp_ret ?_
 repeat first | refine bH ?_ | refine bM ?_
 exact jK HF rfl rfl rfl ⟨A', c', rfl, HM.below, hrow⟩

theorem FB (x : bZ) (A : Option Addr) (c : Nat) (hnc : x.img.file.length ≤ c) (ok : x.img.Ok) (l : List SymM) (hs : qI x 11 l) (w0 : World) (hr : Row w0 A (x.img.file.map Bv)) : Calls Tryd.prog 24 #[.slice A x.img.file.length c] w0 fun e w' => ∃ A' c', e = .returned (.tuple #[.slice A' l.length c', aF 0]) ∧ Below w0.heap.size w0 w' ∧ Row w' A' (l.flatMap SymM.cells) := by
 obtain ⟨w, hw⟩ : ∃ w, w0 = w := ⟨_, rfl⟩
 have HM : Mm [] w0 w [] := hw ▸ Mm.start w0
 conv => arg 4; rw [hw]
 clear hw
 refine bI Tryd.func24 rfl Tryd.ntmps24 [(0, .slice A x.img.file.length c)] (by kernel_rfl) (Nat.le_of_ble_eq_true rfl) ?_
 intro a HF
 refine aN ?_
 refine wp_pure HF HM rfl 2 [] [(0, .slice A x.img.file.length c)] (by kernel_rfl) fun a HF => ?_
 refine bT ?_
 refine wp_pure HF HM rfl 1 [] [(9, .slice A x.img.file.length c)] (by kernel_rfl) fun a HF => ?_
 refine bf HF (by kernel_rfl) 55 #[.slice A x.img.file.length c] (by kernel_rfl) (fun w => by kernel_rfl) (Calls.mono (Io x A _ c rfl hnc ok w (HM.row hr)) ?_)
 rintro _ w1 ⟨bg, Qk, z, fb, pg, aV, cur, dU, rfl, hb, hge, hF⟩
 replace HM := HM.call hb
 clear hb
 refine ⟨_, rfl, ?_⟩; clear HF; intro a HF
 refine wp_pure HF HM rfl 5 [] [(4, aA fb), (5, .bool true)] (by kernel_rfl) fun a HF => ?_
 refine aB ?_
 refine wp_seq ?_
 refine aN ?_
 refine wp_pure HF HM rfl 2 [] [(4, aA fb), (14, .bool false)] (by kernel_rfl) fun a HF => ?_
 refine aB ?_
 refine aZ HF rfl ?_
 refine wp_skip ?_
 repeat first | refine aK ?_ | refine aS ?_
 refine aN ?_
 refine wp_pure HF HM rfl 1 [] [(16, aA fb)] (by kernel_rfl) fun a HF => ?_
 refine bf HF (by kernel_rfl) 56 #[aA fb] (by kernel_rfl) (fun w => by kernel_rfl) (Calls.mono (Um hF l hs) ?_)
 rintro _ w2 ⟨gs, cap, gk, rfl, hb, hos⟩
 replace HM := HM.call hb
 clear hb
 refine ⟨_, rfl, ?_⟩; clear HF; intro a HF
 refine wp_pure HF HM rfl 5 [] [(6, aC gs l.length cap), (7, .nilIface)] (by kernel_rfl) fun a HF => ?_
 refine bT ?_
 refine wp_pure HF HM rfl 1 [] [(7, .nilIface), (20, aC gs l.length cap)] (by kernel_rfl) fun a HF => ?_
 refine bf HF (by kernel_rfl) 57 #[aC gs l.length cap] (by kernel_rfl) (fun w => by kernel_rfl) (Calls.mono (vW l (some ⟨gs, 0, none⟩) cap hs.n w2 hos.row) ?_)
 rintro _ w3 ⟨A', c', rfl, hb, hrow⟩
 replace HM := HM.call hb
 clear hb
 refine ⟨_, rfl, ?_⟩; clear HF; intro a HF
 refine wp_pure HF HM rfl 1 [] [(21, .slice A' l.length c'), (22, .nilIface)] (by kernel_rfl) fun a HF => ?_
 refine bf HF (by kernel_rfl) 58 #[.nilIface] (by kernel_rfl) (fun w => by kernel_rfl) (Calls.mono (Ap w3) ?_)
 rintro _ w4 ⟨rfl, hb⟩
 replace hrow := hrow.below hb
 replace HM := HM.call hb
 clear hb
 refine ⟨_, rfl, ?_⟩; clear HF; intro a HF
 refine wp_pure HF HM rfl 2 [] [(2, .slice A' l.length c'), (3, aF 0)] (by kernel_rfl) fun a HF => ?_
 refine aB ?_
 refine wp_ret ?_
 repeat first | refine bH ?_ | refine bM ?_
 exact jK HF rfl rfl rfl ⟨A', c', rfl, HM.below, hrow⟩

end Go.Proofs.YtdgehpocmfjbiaaDoor
