/- spec.WithDynamic. · What spec.WithDynamic lays out, read again. -/
import Derived.Test.YtdgehpocmfjbiaaDoorSm
import Derived.Test.YtdgehpocmfjbiaaDoorSn
set_option linter.unusedVariables false
set_option linter.unusedSimpArgs false
set_option maxRecDepth 100000
set_option maxHeartbeats 2000000
namespace Go.Proofs.YtdgehpocmfjbiaaDoor
open Go.RowKit

theorem je.lt {w : World} {g : Nat} {wide big : Bool} {l : List UInt8} (h : je w g wide big l) : g < w.heap.size := by
 obtain ⟨v, hv, -⟩ := h
 exact qL hv
theorem je.keep {w w' : World} {g : Nat} {wide big : Bool} {l : List UInt8} (h : je w g wide big l) (hb : Below w.heap.size w w') : je w' g wide big l := by
 obtain ⟨v, hv, ho⟩ := h
 exact ⟨v, dw hv hb (qL hv), uQ ho hb (Nat.le_refl _)⟩
theorem NV {w : World} {g : Nat} {wide big : Bool} (h : w.heap[g]? = some (.cells #[.bool wide, .bool big, .slice none 0 0] 169 (0, 0))) : je w g wide big (lM wide big (ql 0 [] 0)) := ⟨_, h, rfl, .inl ⟨rfl, rfl⟩⟩
theorem I7 (wide big : Bool) (D : List (Nat × Nat)) (a b : Nat) : lM wide big (D ++ [(a, b)]) = lM wide big D ++ dR a (jw wide 0) big ++ dR b (jw wide 0) big := by
 rw [MV, QL, List.append_assoc]; rfl
theorem P6 (l : List fK) : u_ l 0 = [] := rfl
theorem IB (wide big : Bool) (D : List (Nat × Nat)) (a : Nat) (h : (lM wide big D).length ≤ 50000) : (lM wide big D ++ dR a (jw wide 0) big).length ≤ 4294967296 := by
 rw [List.length_append, bK]
 rcases GR wide with h | h <;> omega
def qG (x : b_) (tg : Nat) (ts : List (List UInt8)) (l : List fK) (g cap : Nat) : dP := ⟨[100, 121, 110, 97, 109, 105, 99], 6, 0, 0, 2, 0, 0, 0, 0, lM x.wide x.big (kQ tg ts l), some ⟨g, 0, none⟩, cap⟩
def qE (ts : List (List UInt8)) (g cap : Nat) : dP := ⟨[116, 101, 120, 116, 115], 3, 0, 0, 0, 0, 0, 0, 0, aZ ts, some ⟨g, 0, none⟩, cap⟩
theorem Jm {wide : Bool} : lY wide [0, 0, 0, 0] = true := by cases wide <;> rfl
theorem yR (tg : Nat) (ts : List (List UInt8)) (l : List fK) : (kQ tg ts l).length = ts.length + l.length + 1 := by
 unfold kQ; rw [List.length_append, List.length_append, yQ, CB _ _ (Nat.le_refl _)]; rfl
theorem RZ (wide big : Bool) (tg : Nat) (ts : List (List UInt8)) (l : List fK) (h1 : ts.length ≤ 1024) (h2 : l.length ≤ 1024) : (lM wide big (kQ tg ts l)).length ≤ 50000 := by
 have := Gh wide big (kQ tg ts l) 2049 (by rw [yR]; omega)
 omega
theorem uj (x : b_) (tg : Nat) (ts : List (List UInt8)) (l : List fK) (g cap : Nat) (h1 : ts.length ≤ 1024) (h2 : l.length ≤ 1024) : dP.Ok x.wide (qG x tg ts l g cap) where
 fit := Jm
 name := by show 7 ≤ 1024; omega
 EM := by show (0 : UInt8) ∉ [100, 121, 110, 97, 109, 105, 99]; decide
 data := by have := RZ x.wide x.big tg ts l h1 h2; show (lM x.wide x.big (kQ tg ts l)).length ≤ 1100000; omega
 J7 := by show 6 ≠ 0; omega
 J6 := by show 6 < 1610612736; omega
 zip := by show wC ⟨[100, 121, 110, 97, 109, 105, 99].toArray⟩ = false; decide +kernel
 flags := Ac
 bss := fun h => by have : 6 = 8 := h; omega
 size := by show 0 < 4611686018427387904; omega
theorem tu (wide : Bool) (ts : List (List UInt8)) (g cap : Nat) (hb : (aZ ts).length ≤ 1049601) : dP.Ok wide (qE ts g cap) where
 fit := Jm
 name := by show 5 ≤ 1024; omega
 EM := by show (0 : UInt8) ∉ [116, 101, 120, 116, 115]; decide
 data := by show (aZ ts).length ≤ 1100000; omega
 J7 := by show 3 ≠ 0; omega
 J6 := by show 3 < 1610612736; omega
 zip := by show wC ⟨[116, 101, 120, 116, 115].toArray⟩ = false; decide +kernel
 flags := Ac
 bss := fun h => by have : 3 = 8 := h; omega
 size := by show 0 < 4611686018427387904; omega
theorem OE {x : b_} {tg : Nat} {ts : List (List UInt8)} {l : List fK} {g cap B : Nat} {cur : Array Value} {w : World} (h : Own B w 5 1 g (lM x.wide x.big (kQ tg ts l)).length cap cur ((lM x.wide x.big (kQ tg ts l)).map Bv)) : (qG x tg ts l g cap).At w where
 row := h.row
 c1 := h.nc
 c2 := h.cm
 nm := by show 7 ≤ maxLen; unfold maxLen; omega
 ty := by show 6 < 4294967296; omega
 flags := by show 0 < 4294967296; omega
 addr := by show 0 < 18446744073709551616; omega
 link := by show 2 < 4294967296; omega
 info := by show 0 < 4294967296; omega
 align := by show 0 < 18446744073709551616; omega
 ent := by show 0 < 18446744073709551616; omega
 size := by show 0 < 18446744073709551616; omega
theorem NK {ts : List (List UInt8)} {g cap B : Nat} {cur : Array Value} {w : World} (h : Own B w 5 1 g (aZ ts).length cap cur ((aZ ts).map Bv)) : (qE ts g cap).At w where
 row := h.row
 c1 := h.nc
 c2 := h.cm
 nm := by show 5 ≤ maxLen; unfold maxLen; omega
 ty := by show 3 < 4294967296; omega
 flags := by show 0 < 4294967296; omega
 addr := by show 0 < 18446744073709551616; omega
 link := by show 0 < 4294967296; omega
 info := by show 0 < 4294967296; omega
 align := by show 0 < 18446744073709551616; omega
 ent := by show 0 < 18446744073709551616; omega
 size := by show 0 < 18446744073709551616; omega

abbrev jv := fun z1 (x : b_) => ((z1, .cells #[.bool x.wide, .bool x.big, aX x.abi, aX x.aH, .int .i64 x.ty, .int .i64 x.machine, aI x.entry, .slice x.A x.ss.length x.c, .slice x.B x.ps.length x.d] 26 (0, 0)) : Nat × Obj)
abbrev iW := fun z1 => (((z1 + 1), .cells #[.bool false, .bool false, aQ 0, aQ 0, aF 0, aF 0, bH 0, aN, aN] 26 (0, 0)) : Nat × Obj)
abbrev nP := fun (tg : Nat) (A : Option Addr) (l : List fK) (c : Nat) z1 => ([(1, ay tg), (3, .slice A l.length c), (4, aB z1), (8, aB (z1 + 1))] : Slots)
abbrev jP := fun (tg : Nat) (A : Option Addr) (l : List fK) (c : Nat) z1 gu (ts : List (List UInt8)) jL z5 gp gJ => ((nP tg A l c z1) ++ [(9, aC gu ((aZ ts).length) jL), (11, aB z5), (28, aC gp ts.length gJ), (29, ay ts.length)] : Slots)
abbrev uH := fun (tg : Nat) (A : Option Addr) (l : List fK) (c : Nat) z1 gu (ts : List (List UInt8)) jL z5 => ((nP tg A l c z1) ++ [(9, aC gu ((aZ ts).length) jL), (11, aB z5)] : Slots)
abbrev jr := fun z1 gu (ts : List (List UInt8)) jL z5 (A : Option Addr) (l : List fK) (c : Nat) => ([(4, aB z1), (8, aB (z1 + 1)), (9, aC gu ((aZ ts).length) jL), (11, aB z5), (43, .slice A l.length c), (44, ay l.length)] : Slots)
abbrev nO := fun z1 gu (ts : List (List UInt8)) jL z5 => ([(4, aB z1), (8, aB (z1 + 1)), (9, aC gu ((aZ ts).length) jL), (11, aB z5)] : Slots)
abbrev yT := fun z1 (x : b_) g2 cap2 => ((z1, .cells #[.bool x.wide, .bool x.big, aX x.abi, aX x.aH, .int .i64 x.ty, .int .i64 x.machine, aI x.entry, .slice x.A x.ss.length x.c, aC g2 (x.ps.length + 2) cap2] 26 (0, 0)) : Nat × Obj)
theorem o9 (x : b_) (tg : Nat) (yC : tg ≤ 1000) (ts : List (List UInt8)) (T : Option Addr) (cT : Nat) (l : List fK) (tq : Int) (A : Option Addr) (c : Nat) (w0 : World) (h : x.At w0) (hp : x.ps.length ≤ 100) (hrt : Row w0 T (ts.map lq)) (htl : ts.length ≤ 1024) (hto : ∀ s ∈ ts, yZ s) (hr : Row w0 A (l.flatMap fK.cells)) (hat : ∀ m ∈ l, fK.At m) (hn : l.length ≤ 1024) (hok : ∀ m ∈ l, fK.Ok x.wide tq m) :
  Calls Tryd.prog 44 #[x.val, ay tg, .slice T ts.length cT, .slice A l.length c] w0 fun e w' => ∃ gd nM gn qm g cap, e = .returned (x.more (qG x tg ts l gd nM) (qE ts gn qm) g cap).val ∧ Below w0.heap.size w0 w' ∧ (x.more (qG x tg ts l gd nM) (qE ts gn qm) g cap).At w' := by
 have hnb := rM ts htl hto
 obtain ⟨w, hw⟩ : ∃ w, w0 = w := ⟨_, rfl⟩
 have HM : Mm [] w0 w [] := hw ▸ Mm.start w0
 conv => arg 4; rw [hw]
 clear hw
 refine cu Tryd.func44 rfl Tryd.ntmps44 [(0, .agg #[.bool x.wide, .bool x.big, aX x.abi, aX x.aH, .int .i64 x.ty, .int .i64 x.machine, aI x.entry, .slice x.A x.ss.length x.c, .slice x.B x.ps.length x.d]), (1, ay tg), (2, .slice T ts.length cT), (3, .slice A l.length c)] (by kernel_rfl) (Nat.le_of_ble_eq_true rfl) ?_
 intro a HF
 refine aO ?_
 obtain ⟨z1, hz1⟩ : ∃ z, w.heap.size = z := ⟨_, rfl⟩
 refine aT HF HM hz1 2 [] [(1, ay tg), (2, .slice T ts.length cT), (3, .slice A l.length c), (4, aB z1), (8, aB (z1 + 1))] [iW z1, jv z1 x] (by kernel_rfl) fun a w HF HM => ?_
 clear hz1
 refine dF ?_
 refine wp_pure HF HM rfl 1 [] ((nP tg A l c z1) ++ [(18, .slice T ts.length cT)]) (by kernel_rfl) fun a HF => ?_
 refine bf HF (by kernel_rfl) 65 #[.slice T ts.length cT] (by kernel_rfl) (fun w => by kernel_rfl) (Calls.mono (EW ts _ _ _ rfl w (HM.row hrt) (by omega) (by omega)) ?_)
 rintro _ w1 ⟨gu, jL, yt, gp, gJ, Hq, rfl, hb, hou, hop, hnu⟩
 replace HM : Mm [] w0 w1 [(gp, .cells Hq 3 (0, 0)), (gu, .cells yt 5 (0, 0)), iW z1, jv z1 x] := HM.QV hb hou.new hou.obj hop.new hop.obj (dD hop.obj hou.obj (by decide))
 clear hb
 refine ⟨_, rfl, ?_⟩; clear HF; intro a HF
 refine wp_pure HF HM rfl 5 [] ((nP tg A l c z1) ++ [(9, aC gu ((aZ ts).length) jL), (10, aC gp ts.length gJ)]) (by kernel_rfl) fun a HF => ?_
 refine dF ?_
 refine wp_pure HF HM rfl 5 [[0], [0]] ((nP tg A l c z1) ++ [(9, aC gu ((aZ ts).length) jL), (10, aC gp ts.length gJ), (26, .agg #[.bool x.wide, .bool x.big, aN])]) (by kernel_rfl) fun a HF => ?_
 obtain ⟨z5, uG⟩ : ∃ z, w1.heap.size = z := ⟨_, rfl⟩
 have AQ : z1 < z5 := uG ▸ HM.lt (i := 3) rfl
 have yK : (z1 + 1) < z5 := uG ▸ HM.lt (i := 2) rfl
 have AU : gu < z5 := uG ▸ HM.lt (i := 1) rfl
 have PV : gp < z5 := uG ▸ HM.lt (i := 0) rfl
 have hge : w0.heap.size ≤ z5 := uG ▸ HM.size
 refine aT HF HM uG 2 [] ((nP tg A l c z1) ++ [(9, aC gu ((aZ ts).length) jL), (10, aC gp ts.length gJ), (11, aB z5)]) [(z5, .cells #[.bool x.wide, .bool x.big, aN] 169 (0, 0)), (gp, .cells Hq 3 (0, 0)), (gu, .cells yt 5 (0, 0)), iW z1, jv z1 x] (by kernel_rfl) fun a w HF HM => ?_
 clear uG
 have HR : je w z5 x.wide x.big (lM x.wide x.big (ql tg ts 0)) := NV (HM.get (i := 0) rfl)
 replace HM := HM.pick [1, 2, 3, 4] [(gp, .cells Hq 3 (0, 0)), (gu, .cells yt 5 (0, 0)), iW z1, jv z1 x] rfl (by decide)
 refine aA ?_
 refine wp_seq ?_
 refine aO ?_
 refine wp_pure HF HM rfl 3 [] ((jP tg A l c z1 gu ts jL z5 gp gJ) ++ [(30, aF 0)]) (by kernel_rfl) fun a HF => ?_
 refine aA ?_
 refine wp_block ?_
 refine kC (ts.length) (fun i a w => ((je w z5 x.wide x.big (lM x.wide x.big (ql tg ts i))) ∧ Mm [] w0 w [(gp, .cells Hq 3 (0, 0)), (gu, .cells yt 5 (0, 0)), iW z1, jv z1 x] ∧ Fr 77 a ((jP tg A l c z1 gu ts jL z5 gp gJ) ++ [(30, ay i)]))) ?_ ?_ ?_
 ·exact ⟨HR, HM, HF.sub ((jP tg A l c z1 gu ts jL z5 gp gJ) ++ [(30, aF 0)]) (by kernel_rfl)⟩
 ·intro i a w KX hi hI KR
  obtain ⟨HR, HM, HF⟩ := hI
  have hdl : (lM x.wide x.big (ql tg ts i)).length ≤ 50000 := Nat.le_trans (Gh x.wide x.big _ 1024 (by rw [yQ]; omega)) (by omega)
  have hnai := BR ts i hi
  refine aO ?_
  refine wp_pure HF HM rfl 1 [] ((jP tg A l c z1 gu ts jL z5 gp gJ) ++ [(30, ay i), (31, .bool (decide (((i : Nat) : Int) < ((ts.length : Nat) : Int))))]) (by kernel_rfl) fun a HF => ?_
  refine aA ?_
  refine wp_seq ?_
  rw [show decide (((i : Nat) : Int) < ((ts.length : Nat) : Int)) = true from dK (by omega)] at HF
  refine bD HF rfl ?_
  refine wp_skip ?_
  repeat first | refine aK ?_ | refine aP ?_
  refine wp_seq ?_
  refine wp_block ?_
  refine aO ?_
  refine dG HF (by kernel_rfl) (.pointer (Option.map (fun q : Addr => q.add (i * 1)) (some ⟨gp, 0, none⟩))) (by kernel_rfl) (fD Tryd.underlying66 (by kernel_rfl) rfl i rfl rfl (by omega) (Option.some_ne_none _)) fun a HF => ?_
  refine dG HF (by kernel_rfl) (ay (nameAt ts i)) (by kernel_rfl) (lI rfl rfl (kU (HM.lZ (i := 0) rfl hop.tk) i (List.getElem?_range (by omega))) (by kernel_rfl)) fun a HF => ?_
  refine wp_pure HF HM rfl 1 [] ((uH tg A l c z1 gu ts jL z5) ++ [(13, ay (nameAt ts i)), (28, aC gp ts.length gJ), (29, ay ts.length), (30, ay i)]) (by kernel_rfl) fun a HF => ?_
  refine dF ?_
  refine wp_pure HF HM rfl 3 [] ((uH tg A l c z1 gu ts jL z5) ++ [(13, ay (nameAt ts i)), (28, aC gp ts.length gJ), (29, ay ts.length), (30, ay i), (34, aB z5), (36, bH (IntKind.u64.wrap ((tg : Nat) : Int)))]) (by kernel_rfl) fun a HF => ?_
  rw [show IntKind.u64.wrap ((tg : Nat) : Int) = ((tg : Nat) : Int) from IntWalk.u64_in _ (by omega)] at HF
  refine bf HF (by kernel_rfl) 73 #[aB z5, aI tg, aF 0] (by kernel_rfl) (fun w => by kernel_rfl) (Calls.mono (yI z5 tg 0 x.big x.wide _ (by omega) (by omega) w HR) ?_)
  rintro _ w2 ⟨rfl, HR2, hb, hot⟩
  replace HM := HM.putRow hb hot hge (by intro p hp; simp only [List.mem_cons, List.not_mem_nil, or_false] at hp; rcases hp with rfl | rfl | rfl | rfl; all_goals first | exact .inl PV | exact .inl AU | exact .inl yK | exact .inl AQ)
  clear HR; have HR := HR2
  clear HR2 hb hot
  refine ⟨_, rfl, ?_⟩; clear HF; intro a HF
  replace HF := HF.sub ((uH tg A l c z1 gu ts jL z5) ++ [(13, ay (nameAt ts i)), (28, aC gp ts.length gJ), (29, ay ts.length), (30, ay i)]) (by kernel_rfl)
  refine aA ?_
  refine wp_region_lit ?_
  refine wp_pure HF HM rfl 3 [] ((jP tg A l c z1 gu ts jL z5 gp gJ) ++ [(30, ay i), (38, aB z5), (40, bH (IntKind.u64.wrap (((nameAt ts i) : Nat) : Int)))]) (by kernel_rfl) fun a HF => ?_
  rw [show IntKind.u64.wrap (((nameAt ts i) : Nat) : Int) = (((nameAt ts i) : Nat) : Int) from IntWalk.u64_in _ (by omega)] at HF
  refine bf HF (by kernel_rfl) 73 #[aB z5, aI (nameAt ts i), aF 0] (by kernel_rfl) (fun w => by kernel_rfl) (Calls.mono (yI z5 (nameAt ts i) 0 x.big x.wide _ (by omega) (IB _ _ _ _ hdl) w2 HR) ?_)
  rintro _ w3 ⟨rfl, HR2, hb, hot⟩
  replace HM := HM.putRow hb hot hge (by intro p hp; simp only [List.mem_cons, List.not_mem_nil, or_false] at hp; rcases hp with rfl | rfl | rfl | rfl; all_goals first | exact .inl PV | exact .inl AU | exact .inl yK | exact .inl AQ)
  clear HR; have HR : je w3 z5 x.wide x.big (lM x.wide x.big (ql tg ts i ++ [(tg, (nameAt ts i))])) := by rw [I7]; exact HR2
  clear HR2 hb hot
  refine ⟨_, rfl, ?_⟩; clear HF; intro a HF
  replace HF := HF.sub ((jP tg A l c z1 gu ts jL z5 gp gJ) ++ [(30, ay i)]) (by kernel_rfl)
  refine wpList_nil ?_
  repeat first | refine aK ?_ | refine aP ?_
  refine wp_region_lit ?_
  refine wp_pure HF HM rfl 1 [] ((jP tg A l c z1 gu ts jL z5 gp gJ) ++ [(42, aF (IntKind.i64.wrap (((i : Nat) : Int) + 1)))]) (by kernel_rfl) fun a HF => ?_
  rw [show IntKind.i64.wrap (((i : Nat) : Int) + 1) = (((i + 1) : Nat) : Int) from (IntWalk.i64_in _ (by omega)).trans (by omega)] at HF
  refine wp_pure HF HM rfl 1 [] ((jP tg A l c z1 gu ts jL z5 gp gJ) ++ [(30, ay (i + 1))]) (by kernel_rfl) fun a HF => ?_
  refine wpList_nil ?_
  repeat first | refine aK ?_ | refine aP ?_
  exact KR _ _ (⟨by rw [P5]; exact HR, HM, HF.sub ((jP tg A l c z1 gu ts jL z5 gp gJ) ++ [(30, ay (i + 1))]) (by kernel_rfl)⟩)
 ·intro a w KX hI
  obtain ⟨HR, HM, HF⟩ := hI
  refine aO ?_
  refine wp_pure HF HM rfl 1 [] ((jP tg A l c z1 gu ts jL z5 gp gJ) ++ [(30, ay ts.length), (31, .bool (decide (((ts.length : Nat) : Int) < ((ts.length : Nat) : Int))))]) (by kernel_rfl) fun a HF => ?_
  refine aA ?_
  refine wp_seq ?_
  rw [show decide (((ts.length : Nat) : Int) < ((ts.length : Nat) : Int)) = false from cZ (by omega)] at HF
  refine aY HF rfl ?_
  refine wp_exit ?_
  repeat (first | refine eH ?_ | refine dY rfl ?_)
  refine gZ ?_
  repeat first | refine aK ?_ | refine aP ?_
  refine wp_seq ?_
  refine aO ?_
  refine wp_pure HF HM rfl 3 [] ((jr z1 gu ts jL z5 A l c) ++ [(45, aF 0)]) (by kernel_rfl) fun a HF => ?_
  refine aA ?_
  refine wp_block ?_
  replace HM := HM.pick [1, 2, 3] [(gu, .cells yt 5 (0, 0)), iW z1, jv z1 x] rfl (by decide)
  refine kC (l.length) (fun i a w => ((je w z5 x.wide x.big (lM x.wide x.big (ql tg ts ts.length ++ u_ l i))) ∧ Mm [] w0 w [(gu, .cells yt 5 (0, 0)), iW z1, jv z1 x] ∧ Fr 77 a ((jr z1 gu ts jL z5 A l c) ++ [(45, ay i)]))) ?_ ?_ ?_
  ·exact ⟨by rw [P6, List.append_nil]; exact HR, HM, HF.sub ((jr z1 gu ts jL z5 A l c) ++ [(45, aF 0)]) (by kernel_rfl)⟩
  ·intro i a w KX hi hI KR
   obtain ⟨HR, HM, HF⟩ := hI
   have hdl : (lM x.wide x.big (ql tg ts ts.length ++ u_ l i)).length ≤ 50000 := Nat.le_trans (Gh x.wide x.big _ 2048 (by rw [List.length_append, yQ, CB _ _ (by omega)]; omega)) (by omega)
   refine aO ?_
   refine wp_pure HF HM rfl 1 [] ((jr z1 gu ts jL z5 A l c) ++ [(45, ay i), (46, .bool (decide (((i : Nat) : Int) < ((l.length : Nat) : Int))))]) (by kernel_rfl) fun a HF => ?_
   refine aA ?_
   refine wp_seq ?_
   rw [show decide (((i : Nat) : Int) < ((l.length : Nat) : Int)) = true from dK (by omega)] at HF
   refine bD HF rfl ?_
   refine wp_skip ?_
   repeat first | refine aK ?_ | refine aP ?_
   refine wp_seq ?_
   refine wp_block ?_
   refine aO ?_
   obtain ⟨vY, La⟩ : ∃ m, l[i]? = some m := ⟨_, List.getElem?_eq_getElem (by omega)⟩
   have IV := hok vY (List.mem_of_getElem? La); have hma_en1 := (hat vY (List.mem_of_getElem? La)).val
   have RU : ((vY.tag.toNat : Nat) : Int) = vY.tag := Int.toNat_of_nonneg (by have := IV.t1; omega)
   have h1_en1 := IV.t1; have h2_en1 := IV.t2
   refine dG HF (by kernel_rfl) (.pointer (Option.map (fun q : Addr => q.add (i * 2)) A)) (by kernel_rfl) (fD Tryd.underlying81 (by kernel_rfl) rfl i rfl rfl (by omega) (ji (ku (f := fK.cells) (k := 2) (fun _ => rfl) (HM.row hr) i La) (Nat.zero_lt_succ _))) fun a HF => ?_
   refine dG HF (by kernel_rfl) (.agg #[.int .i64 vY.tag, aI vY.val]) (by kernel_rfl) (lJ rfl rfl (ku (f := fK.cells) (k := 2) (fun _ => rfl) (HM.row hr) i La) (Nat.zero_lt_succ _) Tryd.underlying85 rfl (by kernel_rfl)) ?_
   clear HF; intro a HF; replace HF := HF.sub ((jr z1 gu ts jL z5 A l c) ++ [(45, ay i), (48, .agg #[.int .i64 vY.tag, aI vY.val])]) (by kernel_rfl)
   obtain ⟨w4, hwo⟩ : ∃ q, q = w := ⟨_, rfl⟩; subst hwo
   have HMo := HM; have hgl := je.lt HR
   clear HM; have HM : Mm [] w4 w4 [] := Mm.start _
   obtain ⟨zk, EY⟩ : ∃ z, w4.heap.size = z := ⟨_, rfl⟩
   refine aT HF HM EY 2 [[0]] ((nO z1 gu ts jL z5) ++ [(15, aB zk), (43, .slice A l.length c), (44, ay l.length), (45, ay i)]) [(zk, .cells #[.int .i64 vY.tag, aI vY.val] 85 (0, 0))] (by kernel_rfl) fun a w HF HM => ?_
   clear EY
   have hgz := Nat.lt_of_lt_of_le hgl (HM.ge (i := 0) rfl)
   replace HR := je.keep HR HM.below
   replace HM : Mm [] w0 w [(zk, .cells #[.int .i64 vY.tag, aI vY.val] 85 (0, 0)), (gu, .cells yt 5 (0, 0)), iW z1, jv z1 x] := HMo.push HM.below (HM.ge (i := 0) rfl) (HM.get (i := 0) rfl)
   clear HMo hgl
   refine dF ?_
   refine wp_pure HF HM rfl 4 [[3]] [(4, aB z1), (8, aB (z1 + 1)), (9, aC gu ((aZ ts).length) jL), (11, aB z5), (15, aB zk), (43, .slice A l.length c), (44, ay l.length), (45, ay i), (49, aB z5), (52, bH (IntKind.u64.wrap vY.tag))] (by kernel_rfl) fun a HF => ?_
   rw [show IntKind.u64.wrap vY.tag = vY.tag from IntWalk.u64_in _ (by omega)] at HF
   try simp only [ay, aI] at HF
   rw [← RU] at HF
   refine bf HF (by kernel_rfl) 73 #[aB z5, aI vY.tag.toNat, aF 0] (by kernel_rfl) (fun w => by kernel_rfl) (Calls.mono (yI z5 vY.tag.toNat 0 x.big x.wide _ (by omega) (by omega) w HR) ?_)
   rintro _ w5 ⟨rfl, HR2, hb, hot⟩
   replace HM := HM.putRow hb hot hge (by intro p hp; simp only [List.mem_cons, List.not_mem_nil, or_false] at hp; rcases hp with rfl | rfl | rfl | rfl; all_goals first | exact .inr ⟨Nat.ne_of_gt hgz, _, _, _, rfl, by decide⟩ | exact .inl AU | exact .inl yK | exact .inl AQ)
   clear HR; have HR := HR2
   clear HR2 hb hot
   refine ⟨_, rfl, ?_⟩; clear HF; intro a HF
   replace HF := HF.sub ((nO z1 gu ts jL z5) ++ [(15, aB zk), (43, .slice A l.length c), (44, ay l.length), (45, ay i)]) (by kernel_rfl)
   refine aA ?_
   refine wp_region_lit ?_
   refine wp_pure HF HM rfl 3 [[3]] ((jr z1 gu ts jL z5 A l c) ++ [(45, ay i), (54, aB z5), (56, aI vY.val)]) (by kernel_rfl) fun a HF => ?_
   refine bf HF (by kernel_rfl) 73 #[aB z5, aI vY.val, aF 0] (by kernel_rfl) (fun w => by kernel_rfl) (Calls.mono (yI z5 vY.val 0 x.big x.wide _ (by omega) (IB _ _ _ _ hdl) w5 HR) ?_)
   rintro _ w6 ⟨rfl, HR2, hb, hot⟩
   replace HM := HM.putRow hb hot hge (by intro p hp; simp only [List.mem_cons, List.not_mem_nil, or_false] at hp; rcases hp with rfl | rfl | rfl | rfl; all_goals first | exact .inr ⟨Nat.ne_of_gt hgz, _, _, _, rfl, by decide⟩ | exact .inl AU | exact .inl yK | exact .inl AQ)
   clear HR; have HR : je w6 z5 x.wide x.big (lM x.wide x.big (ql tg ts ts.length ++ u_ l i ++ [(vY.tag.toNat, vY.val)])) := by rw [I7]; exact HR2
   clear HR2 hb hot
   refine ⟨_, rfl, ?_⟩; clear HF; intro a HF
   replace HF := HF.sub ((jr z1 gu ts jL z5 A l c) ++ [(45, ay i)]) (by kernel_rfl)
   refine wpList_nil ?_
   repeat first | refine aK ?_ | refine aP ?_
   refine wp_region_lit ?_
   refine wp_pure HF HM rfl 1 [] ((jr z1 gu ts jL z5 A l c) ++ [(58, aF (IntKind.i64.wrap (((i : Nat) : Int) + 1)))]) (by kernel_rfl) fun a HF => ?_
   rw [show IntKind.i64.wrap (((i : Nat) : Int) + 1) = (((i + 1) : Nat) : Int) from (IntWalk.i64_in _ (by omega)).trans (by omega)] at HF
   refine wp_pure HF HM rfl 1 [] ((jr z1 gu ts jL z5 A l c) ++ [(45, ay (i + 1))]) (by kernel_rfl) fun a HF => ?_
   refine wpList_nil ?_
   repeat first | refine aK ?_ | refine aP ?_
   exact KR _ _ (⟨by rw [P7 La, ← List.append_assoc]; exact HR, (HM.pick [1, 2, 3] [(gu, .cells yt 5 (0, 0)), iW z1, jv z1 x] rfl (by decide)), HF.sub ((jr z1 gu ts jL z5 A l c) ++ [(45, ay (i + 1))]) (by kernel_rfl)⟩)
  ·intro a w KX hI
   obtain ⟨HR, HM, HF⟩ := hI
   refine aO ?_
   refine wp_pure HF HM rfl 1 [] ((jr z1 gu ts jL z5 A l c) ++ [(45, ay l.length), (46, .bool (decide (((l.length : Nat) : Int) < ((l.length : Nat) : Int))))]) (by kernel_rfl) fun a HF => ?_
   refine aA ?_
   refine wp_seq ?_
   rw [show decide (((l.length : Nat) : Int) < ((l.length : Nat) : Int)) = false from cZ (by omega)] at HF
   refine aY HF rfl ?_
   refine wp_exit ?_
   repeat (first | refine eH ?_ | refine dY rfl ?_)
   refine gZ ?_
   repeat first | refine aK ?_ | refine aP ?_
   refine aO ?_
   have hdl : (lM x.wide x.big (ql tg ts ts.length ++ u_ l l.length)).length ≤ 50000 := Nat.le_trans (Gh x.wide x.big _ 2048 (by rw [List.length_append, yQ, CB _ _ (Nat.le_refl _)]; omega)) (by omega)
   refine wp_pure HF HM rfl 1 [] ((nO z1 gu ts jL z5) ++ [(59, aB z5)]) (by kernel_rfl) fun a HF => ?_
   refine bf HF (by kernel_rfl) 73 #[aB z5, bH 0, aF 0] (by kernel_rfl) (fun w => by kernel_rfl) (Calls.mono (yI z5 0 0 x.big x.wide _ (by omega) (by omega) w HR) ?_)
   rintro _ w7 ⟨rfl, HR2, hb, hot⟩
   replace HM := HM.putRow hb hot hge (by intro p hp; simp only [List.mem_cons, List.not_mem_nil, or_false] at hp; rcases hp with rfl | rfl | rfl; all_goals first | exact .inl AU | exact .inl yK | exact .inl AQ)
   clear HR; have HR := HR2
   clear HR2 hb hot
   refine ⟨_, rfl, ?_⟩; clear HF; intro a HF
   replace HF := HF.sub (nO z1 gu ts jL z5) (by kernel_rfl)
   refine dF ?_
   refine wp_pure HF HM rfl 1 [] ((nO z1 gu ts jL z5) ++ [(61, aB z5)]) (by kernel_rfl) fun a HF => ?_
   refine bf HF (by kernel_rfl) 73 #[aB z5, bH 0, aF 0] (by kernel_rfl) (fun w => by kernel_rfl) (Calls.mono (yI z5 0 0 x.big x.wide _ (by omega) (IB _ _ _ _ hdl) w7 HR) ?_)
   rintro _ w8 ⟨rfl, HR2, hb, hot⟩
   replace HM := HM.putRow hb hot hge (by intro p hp; simp only [List.mem_cons, List.not_mem_nil, or_false] at hp; rcases hp with rfl | rfl | rfl; all_goals first | exact .inl AU | exact .inl yK | exact .inl AQ)
   clear HR; have HR : je w8 z5 x.wide x.big (lM x.wide x.big (ql tg ts ts.length ++ u_ l l.length ++ [(0, 0)])) := by rw [I7]; exact HR2
   clear HR2 hb hot
   refine ⟨_, rfl, ?_⟩; clear HF; intro a HF
   replace HF := HF.sub (nO z1 gu ts jL z5) (by kernel_rfl)
   refine dF ?_
   refine wp_pure HF HM rfl 3 [] [(4, aB z1), (8, aB (z1 + 1)), (9, aC gu ((aZ ts).length) jL), (65, .pointer (some ⟨z5, 2, none⟩))] (by kernel_rfl) fun a HF => ?_
   obtain ⟨v, hv, hown⟩ := HR
   replace hown : w8.ownsRow (z5 + 1) 5 1 v (lM x.wide x.big (kQ tg ts l)).length ((lM x.wide x.big (kQ tg ts l)).map Bv) := hown
   rcases hown.2 with ⟨_, h0⟩ | ⟨gd, nM, LK, rfl, hgd, hhd, hncd, hcmd, hcsd, htkd⟩
   ·rw [rV, yR] at h0; exfalso; rcases GR x.wide with hq | hq <;> rw [hq] at h0 <;> omega
   refine dG HF (by kernel_rfl) (aC gd ((lM x.wide x.big (kQ tg ts l)).length) nM) (by kernel_rfl) (dV rfl rfl (by kernel_rfl) (fO hv 2)) ?_
   clear HF; intro a HF; replace HF := HF.sub [(4, aB z1), (8, aB (z1 + 1)), (9, aC gu ((aZ ts).length) jL), (66, aC gd ((lM x.wide x.big (kQ tg ts l)).length) nM)] (by kernel_rfl)
   replace HM := HM.SX hhd (by omega) (by intro p hp; simp only [List.mem_cons, List.not_mem_nil, or_false] at hp; rcases hp with rfl | rfl | rfl <;> (refine Nat.ne_of_gt ?_; first | exact Nat.lt_trans AQ (by omega) | exact Nat.lt_trans yK (by omega) | exact Nat.lt_trans AU (by omega)))
   obtain ⟨z25, AV⟩ : ∃ z, w8.heap.size = z := ⟨_, rfl⟩
   refine aT HF HM AV 5 [] [(4, aB z1), (8, aB (z1 + 1)), (16, aC z25 2 2)] [(z25, .cells #[.string (⟨#[100, 121, 110, 97, 109, 105, 99]⟩ : ByteArray), iR 6, iR 0, bH 0, iR 2, iR 0, bH 0, bH 0, bH 0, aC gd ((lM x.wide x.big (kQ tg ts l)).length) nM, .string (⟨#[116, 101, 120, 116, 115]⟩ : ByteArray), iR 3, iR 0, bH 0, iR 0, iR 0, bH 0, bH 0, bH 0, aC gu ((aZ ts).length) jL] 46 (0, 0)), (gd, .cells LK 5 (0, 0)), (gu, .cells yt 5 (0, 0)), iW z1, jv z1 x] (by kernel_rfl) fun a w HF HM => ?_
   clear AV
   refine dF ?_
   refine wp_pure HF HM rfl 3 [[0]] [(4, aB z1), (8, aB (z1 + 1)), (71, aC z25 2 2), (73, .slice x.B x.ps.length x.d)] (by kernel_rfl) fun a HF => ?_
   refine fZ HF HM rfl _ _ 24 24 rfl rfl 46 (z := .agg #[.string (⟨#[]⟩ : ByteArray), iR 0, iR 0, bH 0, iR 0, iR 0, bH 0, bH 0, bH 0, aN]) (size := 10) (bytes := 88) Tryd.underlying24 (by kernel_rfl) rfl (by decide) 0 z25 2 2 #[.string (⟨#[100, 121, 110, 97, 109, 105, 99]⟩ : ByteArray), iR 6, iR 0, bH 0, iR 2, iR 0, bH 0, bH 0, bH 0, aC gd ((lM x.wide x.big (kQ tg ts l)).length) nM, .string (⟨#[116, 101, 120, 116, 115]⟩ : ByteArray), iR 3, iR 0, bH 0, iR 0, iR 0, bH 0, bH 0, bH 0, aC gu ((aZ ts).length) jL] rfl rfl (Nat.le_refl _) (by unfold maxLen; omega) rfl ([.string (⟨#[100, 121, 110, 97, 109, 105, 99]⟩ : ByteArray), iR 6, iR 0, bH 0, iR 2, iR 0, bH 0, bH 0, bH 0, aC gd ((lM x.wide x.big (kQ tg ts l)).length) nM, .string (⟨#[116, 101, 120, 116, 115]⟩ : ByteArray), iR 3, iR 0, bH 0, iR 0, iR 0, bH 0, bH 0, bH 0, aC gu ((aZ ts).length) jL]) rfl (.slice x.B x.ps.length x.d) x.ps.length (x.ps.flatMap dP.cells) rfl (lW Tryd.underlying24 (Hf (f := dP.cells) (k := 10) (fun _ => rfl) _) (by decide) (HM.row h.parts) (Lm (fun _ => rfl) _)) (by unfold maxLen; omega) (by omega) ?_
   intro a w9 g2 cap2 mX bT qj hsz2 qQ hcm2 HF2; clear HF HM
   rw [show 2 + x.ps.length = (x.ps.length + 2) from by omega] at HF2 qj qQ
   replace qj : mX.toList.take ((x.ps.length + 2) * 10) = ((qG x tg ts l gd nM) :: (qE ts gu jL) :: x.ps).flatMap dP.cells := qj.trans (by rw [List.flatMap_cons, List.flatMap_cons, ← List.append_assoc]; rfl)
   have HM : Mm [] w0 w9 [(g2, .cells mX 46 (0, 0)), (gd, .cells LK 5 (0, 0)), (gu, .cells yt 5 (0, 0)), iW z1, jv z1 x] := bT
   have HF := HF2.sub [(4, aB z1), (8, aB (z1 + 1)), (74, aC g2 (x.ps.length + 2) cap2)] (by kernel_rfl); clear bT HF2
   refine aT HF HM rfl 2 [[0]] [(4, aB z1), (8, aB (z1 + 1))] [(g2, .cells mX 46 (0, 0)), (gd, .cells LK 5 (0, 0)), (gu, .cells yt 5 (0, 0)), iW z1, yT z1 x g2 cap2] (by kernel_rfl) fun a w HF HM => ?_
   refine dF ?_
   refine aT HF HM rfl 2 [[0], [1]] [(8, aB (z1 + 1))] [(g2, .cells mX 46 (0, 0)), (gd, .cells LK 5 (0, 0)), (gu, .cells yt 5 (0, 0)), ((z1 + 1), .cells #[.bool x.wide, .bool x.big, aX x.abi, aX x.aH, .int .i64 x.ty, .int .i64 x.machine, aI x.entry, .slice x.A x.ss.length x.c, aC g2 (x.ps.length + 2) cap2] 26 (0, 0)), yT z1 x g2 cap2] (by kernel_rfl) fun a w HF HM => ?_
   refine aA ?_
   refine wp_ret ?_
   repeat first | refine bJ ?_ | refine bM ?_
   exact bodyPost_ret (Jy rfl (HF.getD rfl) (HM.get (i := 3) rfl) Tryd.underlying26 (by kernel_rfl)) HF.1 ⟨gd, nM, gu, jL, g2, cap2, rfl, HM.below, b_.RS (h.below HM.below) (OE (w := w) (cur := LK) (B := 0) ⟨Nat.zero_le _, HM.get (i := 1) rfl, htkd, hcsd, hncd, hcmd⟩) (NK (w := w) (cur := yt) (B := 0) ⟨Nat.zero_le _, HM.get (i := 2) rfl, hou.tk, hou.sz, hou.nc, hou.cm⟩) (HM.lZ (i := 0) rfl qj) (by omega) hcm2⟩

end Go.Proofs.YtdgehpocmfjbiaaDoor
namespace Go.Proofs.YtdgehpocmfjbiaaDoor
open Go.RowKit

theorem QK (tg : Nat) (ts : List (List UInt8)) (l : List fK) (wide : Bool) (tq : Int) (yC : tg ≤ 1000) (hok : ∀ m ∈ l, fK.Ok wide tq m) : ∀ p ∈ kQ tg ts l, p.1 < 2147483648 := by
 intro p hp
 simp only [kQ, ql, u_, List.mem_append, List.mem_map, List.mem_singleton] at hp
 rcases hp with (⟨j, -, rfl⟩ | ⟨e, he, rfl⟩) | rfl
 ·show tg < _; omega
 ·have o := hok e (List.mem_of_mem_take he)
  have := o.t1; have := o.t2
  show e.tag.toNat < _; omega
 ·show 0 < _; omega
theorem QJ (tg : Nat) (ts : List (List UInt8)) (l : List fK) (wide : Bool) (tq : Int) (hb : (aZ ts).length ≤ 1049601) (hok : ∀ m ∈ l, fK.Ok wide tq m) (hat : ∀ m ∈ l, fK.At m) : ∀ p ∈ kQ tg ts l, p.2 < 256 ^ iT wide := by
 have hbig := I8 wide
 intro p hp
 simp only [kQ, ql, u_, List.mem_append, List.mem_map, List.mem_singleton] at hp
 rcases hp with (⟨j, hj, rfl⟩ | ⟨e, he, rfl⟩) | rfl
 ·have := BR ts j (List.mem_range.1 hj)
  show nameAt ts j < _; omega
 ·exact rU (hok e (List.mem_of_mem_take he)).fit (n := e.val) (by simp) (hat e (List.mem_of_mem_take he)).val
 ·show 0 < _; omega
theorem uw {x : b_} {tg : Nat} {ts : List (List UInt8)} {l : List fK} {tq : Int} {gd nM gn qm g cap : Nat} (yC : tg ≤ 1000) (h1 : ts.length ≤ 1024) (hto : ∀ s ∈ ts, yZ s) (h2 : l.length ≤ 1024) (hok : ∀ m ∈ l, fK.Ok x.wide tq m) (hat : ∀ m ∈ l, fK.At m) : o8 (x.more (qG x tg ts l gd nM) (qE ts gn qm) g cap) (kQ tg ts l) ts where
 ex := ⟨qG x tg ts l gd nM, qE ts gn qm, rfl, rfl, uj x tg ts l gd nM h1 h2, tu x.wide ts gn qm (rM ts h1 hto), rfl, rfl, (by decide : (3 : Nat) ≠ 8), rfl, rfl⟩
 n0 := by rw [yR]; omega
 n1 := by rw [yR]; omega
 tag := QK tg ts l x.wide tq yC hok
 val := QJ tg ts l x.wide tq (rM ts h1 hto) hok hat
 tl := rM ts h1 hto
/-- the texts are found at their places -/
theorem Bd {tg : Nat} {ts : List (List UInt8)} {l : List fK} {wide : Bool} (h0 : 0 < tg) (hto : ∀ s ∈ ts, yZ s) (hok : ∀ m ∈ l, fK.Ok wide ((tg : Nat) : Int) m) : ∀ p ∈ kQ tg ts l, p.1 = tg → p.2 < (aZ ts).length ∧ ∃ s, kR (aZ ts) p.2 = some s := by
 intro p hp e
 simp only [kQ, ql, u_, List.mem_append, List.mem_map, List.mem_singleton] at hp
 rcases hp with (⟨j, hj, rfl⟩ | ⟨m, hm, rfl⟩) | rfl
 ·have hj' := List.mem_range.1 hj
  exact ⟨BR ts j hj', _, D8 ts j hj' (hto _ (List.getElem_mem hj')).EM⟩
 ·have o := hok m (List.mem_of_mem_take hm)
  have := o.t1
  exact absurd e (fun e => o.ne (by have e' : m.tag.toNat = tg := e; omega))
 ·exact absurd e (by show ¬ 0 = tg; omega)
theorem filter_none {α : Type} {p : α → Bool} : ∀ {l : List α}, (∀ a ∈ l, p a = false) → l.filter p = []
 | [], _ => rfl
 | a :: l, h => by rw [List.filter_cons_of_neg (by rw [h a (by simp)]; exact Bool.false_ne_true)]; exact filter_none fun b hb => h b (by simp [hb])
theorem filter_all {α : Type} {p : α → Bool} : ∀ {l : List α}, (∀ a ∈ l, p a = true) → l.filter p = l
 | [], _ => rfl
 | a :: l, h => by rw [List.filter_cons_of_pos (h a (by simp)), filter_all fun b hb => h b (by simp [hb])]
/-- .. and are all that is found -/
theorem Aj {tg : Nat} {ts : List (List UInt8)} {l : List fK} {wide : Bool} (h0 : 0 < tg) (hto : ∀ s ∈ ts, yZ s) (hok : ∀ m ∈ l, fK.Ok wide ((tg : Nat) : Int) m) : dh (aZ ts) (kQ tg ts l) tg (kQ tg ts l).length = ts := by
 unfold dh dW
 rw [List.take_length]
 have e1 : (kQ tg ts l).filter (fun p => decide (p.1 = tg)) = ql tg ts ts.length := by
  have ea : (ql tg ts ts.length).filter (fun p => decide (p.1 = tg)) = ql tg ts ts.length := filter_all fun p hp => by
   obtain ⟨j, -, rfl⟩ := List.mem_map.1 hp
   exact decide_eq_true rfl
  have eb : (u_ l l.length).filter (fun p => decide (p.1 = tg)) = [] := filter_none fun p hp => by
   obtain ⟨m, hm, rfl⟩ := List.mem_map.1 hp
   have o := hok m (List.mem_of_mem_take hm)
   have := o.t1
   exact decide_eq_false (fun e => o.ne (by have e' : m.tag.toNat = tg := e; omega))
  have ec : ([(0, 0)] : List (Nat × Nat)).filter (fun p => decide (p.1 = tg)) = [] := filter_none fun p hp => by
   rw [List.mem_singleton] at hp; subst hp
   exact decide_eq_false (by show ¬ 0 = tg; omega)
  unfold kQ
  rw [List.filter_append, List.filter_append, ea, eb, ec, List.append_nil, List.append_nil]
 rw [e1]
 unfold ql
 rw [List.map_map, List.map_map]
 apply List.ext_getElem
 ·simp
 ·intro j h1 h2
  simp only [List.getElem_map, List.getElem_range, Function.comp_apply]
  unfold kW
  rw [D8 ts j h2 (hto _ (List.getElem_mem h2)).EM]
  rfl
/-- the values of a tag, out of the entries -/
def fU (l : List fK) (tg : Int) (i : Nat) : List Nat := ((l.take i).filter (fun e => decide (e.tag = tg))).map (·.val)
theorem I_ {l : List fK} {tg : Int} {i : Nat} {m : fK} (hm : l[i]? = some m) (h : m.tag = tg) : fU l tg (i + 1) = fU l tg i ++ [m.val] := by
 unfold fU
 rw [qW hm, List.filter_append, List.filter_cons_of_pos (by simpa using h), List.map_append]; rfl
theorem J3 {l : List fK} {tg : Int} {i : Nat} {m : fK} (hm : l[i]? = some m) (h : ¬ m.tag = tg) : fU l tg (i + 1) = fU l tg i := by
 unfold fU
 rw [qW hm, List.filter_append, List.filter_cons_of_neg (p := fun (e : fK) => decide (e.tag = tg)) (by simpa using h)]; simp
theorem Ja (l : List fK) (tg : Int) (i : Nat) : (fU l tg i).length ≤ l.length := by
 unfold fU
 rw [List.length_map]
 exact Nat.le_trans (List.length_filter_le _ _) (by rw [List.length_take]; omega)
theorem Qe {t tg : Nat} {l : List fK} {wide : Bool} {tq : Int} (h0 : 0 < tg) (hok : ∀ m ∈ l, fK.Ok wide tq m) : dW (kQ t [] l) tg (kQ t [] l).length = fU l ((tg : Nat) : Int) l.length := by
 unfold dW fU
 rw [List.take_length, List.take_length]
 unfold kQ
 rw [List.filter_append, List.filter_append, filter_none (l := [(0, 0)]) (fun p hp => by rw [List.mem_singleton] at hp; subst hp; exact decide_eq_false (by show ¬ 0 = tg; omega))]
 have e0 : (ql t [] ([] : List (List UInt8)).length) = [] := rfl
 rw [e0, List.filter_nil, List.nil_append, List.append_nil]
 unfold u_
 rw [List.take_length, List.filter_map, List.map_map]
 have e1 : l.filter ((fun p : Nat × Nat => decide (p.1 = tg)) ∘ fun e : fK => (e.tag.toNat, e.val)) = l.filter (fun e => decide (e.tag = ((tg : Nat) : Int))) := by
  refine List.filter_congr fun m hm => ?_
  have := (hok m hm).t1
  simp only [Function.comp_apply]
  rw [Bool.eq_iff_iff, decide_eq_true_eq, decide_eq_true_eq]
  omega
 rw [e1]; rfl

end Go.Proofs.YtdgehpocmfjbiaaDoor
