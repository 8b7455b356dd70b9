/- Proved: the imported libraries are those whose names the dynamic section has as needed, at every argument. No condition. -/
import Derived.Test.YtdgehpocmfjbiaaDoorSh
import Derived.Test.YtdgehpocmfjbiaaDoorSg
import Derived.Test.YtdgehpocmfjbiaaDoorSm
import Derived.Test.YtdgehpocmfjbiaaDoorSo
import Derived.Test.YtdgehpocmfjbiaaDoorSq
import Derived.Test.YtdgehpocmfjbiaaDoorCards
import Derived.Test.YtdgehpocmfjbiaaDoorTie
import Derived.Test.YtdgehpocmfjbiaaDoorSp
import Derived.Test.YtdgehpocmfjbiaaDoorFnLibrariesJ
import Derived.Test.YtdgehpocmfjbiaaDoorFnLibrariesJC
import Derived.LaidMore
import Derived.LaidLaws
import Derived.Stop.Joined
import Derived.SevenTiedAt
import Derived.ProofKit
import Derived.OpenShut
import Derived.ShutString
import Derived.ChangeOld
import Derived.Below
set_option linter.unusedVariables false
set_option linter.unusedSimpArgs false
set_option maxRecDepth 100000
set_option maxHeartbeats 2000000
namespace Go.Proofs.YtdgehpocmfjbiaaDoor
open Go.RowKit

abbrev dM := fun (T : Option Addr) (ts : List (List UInt8)) (cT : Nat) (A : Option Addr) (l : List fK) (c : Nat) z1 => ([(1, .slice T ts.length cT), (2, .slice A l.length c), (3, aB z1)] : Slots)
theorem JB (x : b_) (ts : List (List UInt8)) (T : Option Addr) (cT : Nat) (l : List fK) (A : Option Addr) (c : Nat) (w0 : World) (h : x.At w0) (hrt : Row w0 T (ts.map lq)) (hts : ∀ s ∈ ts, s.length ≤ maxLen) (ht1 : ts.length ≤ cT) (ht2 : cT ≤ maxLen) (hr : Row w0 A (l.flatMap fK.cells)) (hat : ∀ m ∈ l, fK.At m) (hl1 : l.length ≤ c) (hl2 : c ≤ maxLen) : Calls Tryd.prog 18 #[x.val, .slice T ts.length cT, .slice A l.length c] w0 fun e w' => e = .returned (.bool true) ∧ Below w0.heap.size w0 w' := by
 obtain ⟨w, hw⟩ : ∃ w, w0 = w := ⟨_, rfl⟩
 have HM : Mm [] w0 w [] := hw ▸ Mm.start w0
 conv => arg 4; rw [hw]
 clear hw
 refine cu Tryd.func18 rfl Tryd.ntmps18 [(0, .agg #[.bool x.wide, .bool x.big, aX x.abi, aX x.aH, .int .i64 x.ty, .int .i64 x.machine, aI x.entry, .slice x.A x.ss.length x.c, .slice x.B x.ps.length x.d]), (1, .slice T ts.length cT), (2, .slice A l.length c)] (by kernel_rfl) (Nat.le_of_ble_eq_true rfl) ?_
 intro a HF
 refine aO ?_
 obtain ⟨z1, hz1⟩ : ∃ z, w.heap.size = z := ⟨_, rfl⟩
 refine aT HF HM hz1 2 [] (dM T ts cT A l c z1) [(z1, .cells #[.bool x.wide, .bool x.big, aX x.abi, aX x.aH, .int .i64 x.ty, .int .i64 x.machine, aI x.entry, .slice x.A x.ss.length x.c, .slice x.B x.ps.length x.d] 26 (0, 0))] (by kernel_rfl) fun a w HF HM => ?_
 clear hz1
 refine aA ?_
 refine wp_seq ?_
 refine aO ?_
 refine wp_pure HF HM rfl 1 [[0]] ((dM T ts cT A l c z1) ++ [(9, .agg #[.bool x.wide, .bool x.big, aX x.abi, aX x.aH, .int .i64 x.ty, .int .i64 x.machine, aI x.entry, .slice x.A x.ss.length x.c, .slice x.B x.ps.length x.d])]) (by kernel_rfl) fun a HF => ?_
 refine bf HF (by kernel_rfl) 20 #[.agg #[.bool x.wide, .bool x.big, aX x.abi, aX x.aH, .int .i64 x.ty, .int .i64 x.machine, aI x.entry, .slice x.A x.ss.length x.c, .slice x.B x.ps.length x.d]] (by kernel_rfl) (fun w => by kernel_rfl) (Calls.mono (BZ x w (h.below HM.below)) ?_)
 rintro _ w1 ⟨b1, rfl, hb⟩
 replace HM := HM.call hb
 clear hb
 refine ⟨_, rfl, ?_⟩; clear HF; intro a HF
 replace HF := HF.sub ((dM T ts cT A l c z1) ++ [(10, .bool b1)]) (by kernel_rfl)
 rcases dZ b1 with hc2 | hc2
 ·replace HF := Fr.sub (Fr.tell HF 10 rfl (congrArg Value.bool hc2)) ((dM T ts cT A l c z1) ++ [(10, .bool false)]) (by kernel_rfl)
  refine wp_pure HF HM rfl 11 [] ((dM T ts cT A l c z1) ++ [(21, .bool true)]) (by kernel_rfl) fun a HF => ?_
  refine aA ?_
  refine bD HF rfl ?_
  refine aO ?_
  refine wp_pure HF HM rfl 1 [] [(6, .bool true)] (by kernel_rfl) fun a HF => ?_
  refine aA ?_
  refine wp_ret ?_
  repeat first | refine bJ ?_ | refine bM ?_
  exact bQ HF rfl rfl ⟨rfl, HM.below⟩
 replace HF := Fr.sub (Fr.tell HF 10 rfl (congrArg Value.bool hc2)) ((dM T ts cT A l c z1) ++ [(10, .bool true)]) (by kernel_rfl)
 refine wp_pure HF HM rfl 3 [] ((dM T ts cT A l c z1) ++ [(12, .bool false), (13, .slice T ts.length cT)]) (by kernel_rfl) fun a HF => ?_
 refine bf HF (by kernel_rfl) 45 #[.slice T ts.length cT] (by kernel_rfl) (fun w => by kernel_rfl) (Calls.mono (Gu ts T cT w1 (HM.row hrt)) ?_)
 rintro _ w2 ⟨b3, rfl, hb⟩
 replace HM := HM.call hb
 clear hb
 refine ⟨_, rfl, ?_⟩; clear HF; intro a HF
 replace HF := HF.sub ((dM T ts cT A l c z1) ++ [(12, .bool false), (14, .bool b3)]) (by kernel_rfl)
 rcases dZ b3 with hc4 | hc4
 ·replace HF := Fr.sub (Fr.tell HF 14 rfl (congrArg Value.bool hc4)) ((dM T ts cT A l c z1) ++ [(12, .bool false), (14, .bool false)]) (by kernel_rfl)
  refine wp_pure HF HM rfl 7 [] ((dM T ts cT A l c z1) ++ [(21, .bool true)]) (by kernel_rfl) fun a HF => ?_
  refine aA ?_
  refine bD HF rfl ?_
  refine aO ?_
  refine wp_pure HF HM rfl 1 [] [(6, .bool true)] (by kernel_rfl) fun a HF => ?_
  refine aA ?_
  refine wp_ret ?_
  repeat first | refine bJ ?_ | refine bM ?_
  exact bQ HF rfl rfl ⟨rfl, HM.below⟩
 replace HF := Fr.sub (Fr.tell HF 14 rfl (congrArg Value.bool hc4)) ((dM T ts cT A l c z1) ++ [(12, .bool false), (14, .bool true)]) (by kernel_rfl)
 refine wp_pure HF HM rfl 7 [] ((dM T ts cT A l c z1) ++ [(21, .bool (decide (2147483647 < ((l.length : Nat) : Int))))]) (by kernel_rfl) fun a HF => ?_
 refine aA ?_
 by_cases hc5 : 2147483647 < ((l.length : Nat) : Int)
 ·rw [show decide (2147483647 < ((l.length : Nat) : Int)) = true from dK (hc5)] at HF
  refine bD HF rfl ?_
  refine aO ?_
  refine wp_pure HF HM rfl 1 [] [(6, .bool true)] (by kernel_rfl) fun a HF => ?_
  refine aA ?_
  refine wp_ret ?_
  repeat first | refine bJ ?_ | refine bM ?_
  exact bQ HF rfl rfl ⟨rfl, HM.below⟩
 rw [show decide (2147483647 < ((l.length : Nat) : Int)) = false from cZ (hc5)] at HF
 refine aY HF rfl ?_
 refine wp_skip ?_
 repeat first | refine aK ?_ | refine aP ?_
 refine wp_seq ?_
 refine aO ?_
 refine wp_pure HF HM rfl 1 [[0]] ((dM T ts cT A l c z1) ++ [(22, .agg #[.bool x.wide, .bool x.big, aX x.abi, aX x.aH, .int .i64 x.ty, .int .i64 x.machine, aI x.entry, .slice x.A x.ss.length x.c, .slice x.B x.ps.length x.d])]) (by kernel_rfl) fun a HF => ?_
 refine bf HF (by kernel_rfl) 22 #[.agg #[.bool x.wide, .bool x.big, aX x.abi, aX x.aH, .int .i64 x.ty, .int .i64 x.machine, aI x.entry, .slice x.A x.ss.length x.c, .slice x.B x.ps.length x.d]] (by kernel_rfl) (fun w => by kernel_rfl) (Calls.mono (uy x w2 (h.below HM.below)) ?_)
 rintro _ w3 ⟨b6, rfl, hb, Qz⟩
 replace HM := HM.call hb
 clear hb
 refine ⟨_, rfl, ?_⟩; clear HF; intro a HF
 replace HF := HF.sub ((dM T ts cT A l c z1) ++ [(23, .bool b6)]) (by kernel_rfl)
 rcases dZ b6 with hc8 | hc8
 ·replace HF := Fr.sub (Fr.tell HF 23 rfl (congrArg Value.bool hc8)) ((dM T ts cT A l c z1) ++ [(23, .bool false)]) (by kernel_rfl)
  refine wp_pure HF HM rfl 12 [] ((dM T ts cT A l c z1) ++ [(35, .bool true)]) (by kernel_rfl) fun a HF => ?_
  refine aA ?_
  refine bD HF rfl ?_
  refine aO ?_
  refine wp_pure HF HM rfl 1 [] [(6, .bool true)] (by kernel_rfl) fun a HF => ?_
  refine aA ?_
  refine wp_ret ?_
  repeat first | refine bJ ?_ | refine bM ?_
  exact bQ HF rfl rfl ⟨rfl, HM.below⟩
 replace HF := Fr.sub (Fr.tell HF 23 rfl (congrArg Value.bool hc8)) ((dM T ts cT A l c z1) ++ [(23, .bool true)]) (by kernel_rfl)
 refine wp_pure HF HM rfl 3 [] ((dM T ts cT A l c z1) ++ [(25, .bool false), (26, .slice T ts.length cT)]) (by kernel_rfl) fun a HF => ?_
 refine bf HF (by kernel_rfl) 46 #[.slice T ts.length cT] (by kernel_rfl) (fun w => by kernel_rfl) (Calls.mono (vw ts T cT w3 (HM.row hrt)) ?_)
 rintro _ w4 ⟨b9, rfl, hb, Ed⟩
 replace HM := HM.call hb
 clear hb
 refine ⟨_, rfl, ?_⟩; clear HF; intro a HF
 replace HF := HF.sub ((dM T ts cT A l c z1) ++ [(25, .bool false), (27, .bool b9)]) (by kernel_rfl)
 rcases dZ b9 with yL | yL
 ·replace HF := Fr.sub (Fr.tell HF 27 rfl (congrArg Value.bool yL)) ((dM T ts cT A l c z1) ++ [(25, .bool false), (27, .bool false)]) (by kernel_rfl)
  refine wp_pure HF HM rfl 8 [] ((dM T ts cT A l c z1) ++ [(35, .bool true)]) (by kernel_rfl) fun a HF => ?_
  refine aA ?_
  refine bD HF rfl ?_
  refine aO ?_
  refine wp_pure HF HM rfl 1 [] [(6, .bool true)] (by kernel_rfl) fun a HF => ?_
  refine aA ?_
  refine wp_ret ?_
  repeat first | refine bJ ?_ | refine bM ?_
  exact bQ HF rfl rfl ⟨rfl, HM.below⟩
 replace HF := Fr.sub (Fr.tell HF 27 rfl (congrArg Value.bool yL)) ((dM T ts cT A l c z1) ++ [(25, .bool false), (27, .bool true)]) (by kernel_rfl)
 refine wp_pure HF HM rfl 5 [[0]] ((dM T ts cT A l c z1) ++ [(30, .bool false), (31, .agg #[.bool x.wide, .bool x.big, aX x.abi, aX x.aH, .int .i64 x.ty, .int .i64 x.machine, aI x.entry, .slice x.A x.ss.length x.c, .slice x.B x.ps.length x.d]), (32, .slice A l.length c)]) (by kernel_rfl) fun a HF => ?_
 refine bf HF (by kernel_rfl) 42 #[.agg #[.bool x.wide, .bool x.big, aX x.abi, aX x.aH, .int .i64 x.ty, .int .i64 x.machine, aI x.entry, .slice x.A x.ss.length x.c, .slice x.B x.ps.length x.d], aF 1, .slice A l.length c] (by kernel_rfl) (fun w => by kernel_rfl) (Calls.mono (qH x 1 l A c w4 (HM.row hr)) ?_)
 rintro _ w5 ⟨b11, rfl, hb, zh⟩
 replace HM := HM.call hb
 clear hb
 refine ⟨_, rfl, ?_⟩; clear HF; intro a HF
 replace HF := HF.sub ((dM T ts cT A l c z1) ++ [(30, .bool false), (33, .bool b11)]) (by kernel_rfl)
 rcases dZ b11 with hc12 | hc12
 ·replace HF := Fr.sub (Fr.tell HF 33 rfl (congrArg Value.bool hc12)) ((dM T ts cT A l c z1) ++ [(30, .bool false), (33, .bool false)]) (by kernel_rfl)
  refine wp_pure HF HM rfl 2 [] ((dM T ts cT A l c z1) ++ [(35, .bool true)]) (by kernel_rfl) fun a HF => ?_
  refine aA ?_
  refine bD HF rfl ?_
  refine aO ?_
  refine wp_pure HF HM rfl 1 [] [(6, .bool true)] (by kernel_rfl) fun a HF => ?_
  refine aA ?_
  refine wp_ret ?_
  repeat first | refine bJ ?_ | refine bM ?_
  exact bQ HF rfl rfl ⟨rfl, HM.below⟩
 replace HF := Fr.sub (Fr.tell HF 33 rfl (congrArg Value.bool hc12)) ((dM T ts cT A l c z1) ++ [(30, .bool false), (33, .bool true)]) (by kernel_rfl)
 refine wp_pure HF HM rfl 2 [] ((dM T ts cT A l c z1) ++ [(35, .bool false)]) (by kernel_rfl) fun a HF => ?_
 refine aA ?_
 refine aY HF rfl ?_
 refine wp_skip ?_
 repeat first | refine aK ?_ | refine aP ?_
 refine aO ?_
 refine wp_pure HF HM rfl 3 [[0]] [(1, .slice T ts.length cT), (37, .agg #[.bool x.wide, .bool x.big, aX x.abi, aX x.aH, .int .i64 x.ty, .int .i64 x.machine, aI x.entry, .slice x.A x.ss.length x.c, .slice x.B x.ps.length x.d]), (38, .slice T ts.length cT), (39, .slice A l.length c)] (by kernel_rfl) fun a HF => ?_
 have uS := Qz hc8
 have lH := zh hc12
 have ok := uS.1; have hln := lH.1
 have kS := Ed yL
 refine bf HF (by kernel_rfl) 44 #[.agg #[.bool x.wide, .bool x.big, aX x.abi, aX x.aH, .int .i64 x.ty, .int .i64 x.machine, aI x.entry, .slice x.A x.ss.length x.c, .slice x.B x.ps.length x.d], aF 1, .slice T ts.length cT, .slice A l.length c] (by kernel_rfl) (fun w => by kernel_rfl) (Calls.mono (o9 x 1 (by omega) ts T cT l (1) A c w5 (h.below HM.below) uS.2 (HM.row hrt) kS.1 kS.2 (HM.row hr) hat lH.1 lH.2) ?_)
 rintro _ w6 ⟨gd, nM, gn, qm, g, cap, rfl, hb, hy⟩
 replace HM := HM.call hb
 clear hb
 obtain ⟨y, hye⟩ : ∃ y, x.more (qG x 1 ts l gd nM) (qE ts gn qm) g cap = y := ⟨_, rfl⟩
 rw [hye] at hy
 have hd : o8 y (kQ 1 ts l) ts := hye ▸ uw (by omega) kS.1 kS.2 lH.1 lH.2 hat
 have yU : y.Ok := hye ▸ b_.Ag ok uS.2 (uj x 1 ts l gd nM kS.1 lH.1) (tu x.wide ts gn qm (rM ts kS.1 kS.2))
 have AL := b_.ok yU hy
 refine ⟨_, rfl, ?_⟩; clear HF; intro a HF
 rw [hye] at HF
 refine bf HF (by kernel_rfl) 25 #[.agg #[.bool y.wide, .bool y.big, aX y.abi, aX y.aH, .int .i64 y.ty, .int .i64 y.machine, aI y.entry, .slice y.A y.ss.length y.c, .slice y.B y.ps.length y.d]] (by kernel_rfl) (fun w => by kernel_rfl) (Calls.mono (vU y w6 hy yU) ?_)
 rintro _ w7 ⟨gf, qN, LJ, rfl, hb, hof⟩
 replace HM := HM.call hb
 clear hb
 refine ⟨_, rfl, ?_⟩; clear HF; intro a HF
 replace HF := HF.sub [(1, .slice T ts.length cT), (41, aC gf y.img.file.length qN)] (by kernel_rfl)
 have hstr := Bd (l := l) Nat.one_pos kS.2 lH.2
 have hsel := Aj (l := l) Nat.one_pos kS.2 lH.2
 refine bf HF (by kernel_rfl) 48 #[aC gf y.img.file.length qN] (by kernel_rfl) (fun w => by kernel_rfl) (Calls.mono (Gs y (some ⟨gf, 0, none⟩) qN hof.nc AL (kQ 1 ts l) ts hd hstr w7 hof.row) ?_)
 rintro _ w8 ⟨A2, c2, rfl, hb, hrow⟩
 replace HM := HM.call hb
 clear hb
 rw [hsel] at hrow
 refine ⟨_, rfl, ?_⟩; clear HF; intro a HF
 rw [hsel] at HF
 refine wp_pure HF HM rfl 5 [] [(1, .slice T ts.length cT), (7, .slice A2 ts.length c2), (8, aF 0)] (by kernel_rfl) fun a HF => ?_
 refine dF ?_
 refine wp_pure HF HM rfl 5 [] [(47, .bool true), (48, .slice A2 ts.length c2), (49, .slice T ts.length cT)] (by kernel_rfl) fun a HF => ?_
 refine bf HF (by kernel_rfl) 29 #[.slice A2 ts.length c2, .slice T ts.length cT] (by kernel_rfl) (fun w => by kernel_rfl) (Calls.mono (uN ts A2 T c2 cT (by omega) w8 hrow (HM.row hrt)) ?_)
 rintro _ w9 ⟨rfl, hb⟩
 replace HM := HM.call hb
 clear hb
 refine ⟨_, rfl, ?_⟩; clear HF; intro a HF
 refine wp_pure HF HM rfl 2 [] [(6, .bool true)] (by kernel_rfl) fun a HF => ?_
 refine aA ?_
 refine wp_ret ?_
 repeat first | refine bJ ?_ | refine bM ?_
 exact bQ HF rfl rfl ⟨rfl, HM.below⟩

end Go.Proofs.YtdgehpocmfjbiaaDoor
namespace Go.Proofs.YtdgehpocmfjbiaaDoor.fnLibraries
open Go Go.ChangeShapes Go.WideShapes Go.ChangeAt Go.RowKit Go.Deep

theorem own : ownKnob Tryd.prog.godebug = none := by kernel_rfl
theorem laidOut : laidOutB Tryd.prog = true := by kernel_rfl
theorem door_met (os : Os) (args : Array Value) : laidMetH Tryd.prog Rows.fnLibrariesRow.laid ((World.doorLaid Tryd.prog 123 os).forCall (fun _ _ => 0) ⟨#[], args, []⟩).memory :=
  laidMetH_of_parts3 (fuel := 8) (laidMet_of_run' 8 (by kernel_rfl) (by kernel_rfl)) (by kernel_rfl) (by kernel_rfl)

set_option maxRecDepth 100000 in
theorem lifted (os : Os) (started : os.Started) (H : Type) (enc : TypeId × Value → H) :
    ReturnsInHanded {} Tryd.checked os 18 .any (fun w args => (Rows.fnLibrariesSpec.pre enc Tryd.prog Tryd.f18 [] false w args ∧ laidMetH Tryd.prog Rows.fnLibrariesRow.laid w) ∧ sizedMet enc Tryd.prog Tryd.f18 (OpenSpec.ofChange Rows.fnLibrariesSpec) false w args)
      (Rows.fnLibrariesSpec.post enc Tryd.prog Tryd.f18 false true false false) := by
  refine returnsInHanded_of_change_and (C := Tryd.checked) (X := fun w _ => laidMetH Tryd.prog Rows.fnLibrariesRow.laid w) (fun _ _ _ hh h => h.of_heap hh) own started (by kernel_rfl) Tryd.func18
    (ChangeSpec.witness_shaped (enc := enc) (C := Tryd.checked) (os := os) (X := fun w _ => laidMetH Tryd.prog Rows.fnLibrariesRow.laid w) false (World.doorLaid Tryd.prog 123 os) #[.agg #[.bool false, .bool false, .int .u8 0, .int .u8 0, .int .i64 0, .int .i64 0, .int .u64 0, .slice none 0 0, .slice none 0 0], .slice none 0 0, .slice none 0 0] 8 rfl (World.shaped_of_RefB (by kernel_rfl) (by kernel_rfl)) (by kernel_rfl) (by kernel_rfl) (by kernel_rfl) (door_met os _)) ?_
  intro W base args ds gs before hval0 hW _ _ hL _
  have hval : ∀ (j : Nat) t v, Tryd.f18.params[j]? = some t → args[j]? = some v → Value.okWide Tryd.prog W .any base t v := hval0
  have hW' := hW
  obtain ⟨p, q, hA0, hV, rfl, hfz, hnd⟩ := hW
  have hA : DataW.TrodAll enc Tryd.prog W 0 (fun _ => true) true Tryd.f18.params.toList args.toList ds p := hA0
  rw [Tryd.params18] at hA hval
  obtain ⟨v0, vs0, d0, ds0, p0, q0, hargs, rfl, rfl, h0, r0⟩ := trodAll_cons hA
  obtain ⟨v1, vs1, d1, ds1, p1, q1, rfl, rfl, rfl, h1, r1⟩ := trodAll_cons r0
  obtain ⟨v2, vs2, d2, ds2, p2, q2, rfl, rfl, rfl, h2, r2⟩ := trodAll_cons r1
  obtain ⟨rfl, rfl, rfl⟩ := trodAll_nil r2
  obtain rfl : args = #[v0, v1, v2] := by cases args; simp_all
  obtain ⟨ea, hv0, hE⟩ := Hl (by kernel_rfl) hL
  have hV1 : DataW.TrodVars enc Tryd.prog W (fun _ => true) ["loop.example/pub-g03028/pub/elf.ErrNoSymbols"] gs q := hV
  obtain ⟨rfl, rfl⟩ := hV1.unique (vars_read1 enc qC uh Tryd.underlying103 hv0 trivial _)
  have k0 := h0
  have lt0 : ∀ x ∈ p0, x.block < W.heap.size := by obtain ⟨m, hm⟩ := k0; exact DataW.trod_lt m _ _ _ hm
  have k1 := h1
  have lt1 : ∀ x ∈ p1, x.block < W.heap.size := by obtain ⟨m, hm⟩ := k1; exact DataW.trod_lt m _ _ _ hm
  have k2 := h2
  have lt2 : ∀ x ∈ p2, x.block < W.heap.size := by obtain ⟨m, hm⟩ := k2; exact DataW.trod_lt m _ _ _ hm
  obtain ⟨x0, rfl, hx0⟩ := G6 (hval 0 26 v0 rfl rfl) h0
  obtain ⟨l1, A1, c1, rfl, hr1, hl1, hn1, hk1⟩ := En (hval 1 38 v1 rfl rfl) h1
  obtain ⟨l2, A2, c2, rfl, hr2, hl2, hn2, hk2⟩ := wH (hval 2 81 v2 rfl rfl) h2
  clear hA0 hval0
  refine (JB x0 l1 A1 c1 l2 A2 c2 W hx0 hr1 hl1 hn1 hk1 hr2 hl2 hn2 hk2).mono fun e W' ⟨he, bel⟩ => ?_
  subst he
  exact ⟨_, rfl, _, _, _, [], _, [.cell 0 0], hW', trodAll_mk1 (shut_bool Tryd.underlying4 _), (trodAll_cons_mk (Below.trod laidOut (by kernel_rfl) (of_decide_eq_true (by kernel_rfl)) k0 bel lt0) (trodAll_cons_mk (Below.trod laidOut (by kernel_rfl) (of_decide_eq_true (by kernel_rfl)) k1 bel lt1) (trodAll_cons_mk (Below.trod laidOut (by kernel_rfl) (of_decide_eq_true (by kernel_rfl)) k2 bel lt2) trodAll_mk0))), vars_read1 enc qC uh Tryd.underlying103 (var_below bel hv0) trivial _, bel.frame _, fun h => by cases h⟩

set_option maxRecDepth 100000 in
theorem EL : joinedFacts Tryd.pinned.checked.prog 18 Tryd.f18 Rows.fnLibrariesSpec Rows.fnLibrariesRow = true := (and_t (and_t (and_t (and_t (and_t (and_t (and_t (and_t (and_t (and_t (and_t (and_t (and_t (and_t (and_t (and_t (and_t (and_t (and_t (and_t (and_t (and_t (and_t (and_t (and_t (and_t (and_t (and_t (and_t (and_t (and_t l0 l1) l2) l3) l4) l5) l6) l7) l8) l9) l10) l11) l12) l13) l14) l15) l16) l17) l18) l19) l20) l21) l22) l23) l24) l25) l26) l27) l28) l29) l30) l31)

theorem over : Rows.FnLibrariesSaid :=
  OpenClaim.holds_of_wide 18 Tryd.f18 rfl rfl rfl rfl rfl rfl rfl ⟨rfl, rfl, rfl, rfl, rfl⟩ rfl rfl rfl rfl rfl c5 Tryd.func18 EL
    (of_decide_eq_true (by kernel_rfl)) (by unfold Func.isWrapper; first | (rw [if_pos (by decide +kernel)]; kernel_rfl) | (rw [if_neg (by decide +kernel)]; exact ⟨rfl, rfl⟩))
    (fun os started H enc _ => lifted os started H enc)

theorem proved : Rows.FnLibrariesCardSaid :=
  Claim7.holds_tied_plain_at .later [] [.sentinel, .sentinel, .sentinel, .sentinel, .sentinel, .sentinel] true (true, "ed888367449acd6afd80057b2906ce1b79ec16b7beef13a0a9ac5f630eedede4") true
    over (fun _ h => by cases h) c1 (fun _ h => by cases h) fnLibraries_row_tie rfl ⟨rfl, rfl⟩ qc4 rfl
    (fun f fn hf hfn => by
      obtain rfl : f = 18 := Option.some.inj (c5.symm.trans hf) |>.symm
      obtain rfl : fn = Tryd.f18 := (Option.some.inj (Tryd.func18.symm.trans hfn)).symm
      exact ⟨qc2, fun j t ht => by
        rw [Tryd.params18] at ht
        have hm : t ∈ [26, 38, 81] := by simpa using Array.mem_of_getElem? ht
        have hall : ([26, 38, 81].all fun u => !Tryd.prog.wantsStandIn u) = true := by kernel_rfl
        exact (show Tryd.prog.wantsStandIn t = false by simpa using List.all_eq_true.1 hall t hm)⟩)
    c3
#print axioms proved
end Go.Proofs.YtdgehpocmfjbiaaDoor.fnLibraries
