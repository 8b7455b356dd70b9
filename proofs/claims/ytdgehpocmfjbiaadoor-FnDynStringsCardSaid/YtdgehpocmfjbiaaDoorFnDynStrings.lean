/- Proved: the texts of a tag of the dynamic section are read, at every argument. No condition. -/
import Derived.Test.YtdgehpocmfjbiaaDoorSh
import Derived.Test.YtdgehpocmfjbiaaDoorSg
import Derived.Test.YtdgehpocmfjbiaaDoorSm
import Derived.Test.YtdgehpocmfjbiaaDoorSo
import Derived.Test.YtdgehpocmfjbiaaDoorSq
import Derived.Test.YtdgehpocmfjbiaaDoorCards
import Derived.Test.YtdgehpocmfjbiaaDoorTie
import Derived.Test.YtdgehpocmfjbiaaDoorSp
import Derived.Test.YtdgehpocmfjbiaaDoorFnDynStringsJ
import Derived.Test.YtdgehpocmfjbiaaDoorFnDynStringsJC
import Derived.LaidMore
import Derived.LaidLaws
import Derived.Stop.Joined
import Derived.SevenTiedAt
import Derived.ProofKit
import Derived.OpenShut
import Derived.ShutString
import Derived.ChangeOld
import Derived.Below
set_option linter.unusedVariables false
set_option linter.unusedSimpArgs false
set_option maxRecDepth 100000
set_option maxHeartbeats 2000000
namespace Go.Proofs.YtdgehpocmfjbiaaDoor
open Go.RowKit

abbrev bC := fun (tz : Int) (T : Option Addr) (ts : List (List UInt8)) (cT : Nat) (A : Option Addr) (l : List fK) (c : Nat) z1 => ([(1, .int .i64 tz), (2, .slice T ts.length cT), (3, .slice A l.length c), (4, aB z1)] : Slots)
abbrev rZ := fun (x : b_) => ((39, .agg #[.bool x.wide, .bool x.big, aX x.abi, aX x.aH, .int .i64 x.ty, .int .i64 x.machine, aI x.entry, .slice x.A x.ss.length x.c, .slice x.B x.ps.length x.d]) : Nat × Value)
abbrev rY := fun (x : b_) => ((49, .agg #[.bool x.wide, .bool x.big, aX x.abi, aX x.aH, .int .i64 x.ty, .int .i64 x.machine, aI x.entry, .slice x.A x.ss.length x.c, .slice x.B x.ps.length x.d]) : Nat × Value)
theorem IK (x : b_) (tz : Int) (ts : List (List UInt8)) (T : Option Addr) (cT : Nat) (l : List fK) (A : Option Addr) (c : Nat) (w0 : World) (h : x.At w0) (htz : -9223372036854775808 ≤ tz ∧ tz ≤ 9223372036854775807) (hrt : Row w0 T (ts.map lq)) (hts : ∀ s ∈ ts, s.length ≤ maxLen) (ht1 : ts.length ≤ cT) (ht2 : cT ≤ maxLen) (hr : Row w0 A (l.flatMap fK.cells)) (hat : ∀ m ∈ l, fK.At m) (hl1 : l.length ≤ c) (hl2 : c ≤ maxLen) : Calls Tryd.prog 17 #[x.val, .int .i64 tz, .slice T ts.length cT, .slice A l.length c] w0 fun e w' => e = .returned (.bool true) ∧ Below w0.heap.size w0 w' := by
 obtain ⟨w, hw⟩ : ∃ w, w0 = w := ⟨_, rfl⟩
 have HM : Mm [] w0 w [] := hw ▸ Mm.start w0
 conv => arg 4; rw [hw]
 clear hw
 refine cu Tryd.func17 rfl Tryd.ntmps17 [(0, .agg #[.bool x.wide, .bool x.big, aX x.abi, aX x.aH, .int .i64 x.ty, .int .i64 x.machine, aI x.entry, .slice x.A x.ss.length x.c, .slice x.B x.ps.length x.d]), (1, .int .i64 tz), (2, .slice T ts.length cT), (3, .slice A l.length c)] (by kernel_rfl) (Nat.le_of_ble_eq_true rfl) ?_
 intro a HF
 refine aO ?_
 obtain ⟨z1, hz1⟩ : ∃ z, w.heap.size = z := ⟨_, rfl⟩
 refine aT HF HM hz1 2 [] (bC tz T ts cT A l c z1) [(z1, .cells #[.bool x.wide, .bool x.big, aX x.abi, aX x.aH, .int .i64 x.ty, .int .i64 x.machine, aI x.entry, .slice x.A x.ss.length x.c, .slice x.B x.ps.length x.d] 26 (0, 0))] (by kernel_rfl) fun a w HF HM => ?_
 clear hz1
 refine aA ?_
 refine wp_seq ?_
 refine aO ?_
 refine wp_pure HF HM rfl 1 [[0]] ((bC tz T ts cT A l c z1) ++ [(11, .agg #[.bool x.wide, .bool x.big, aX x.abi, aX x.aH, .int .i64 x.ty, .int .i64 x.machine, aI x.entry, .slice x.A x.ss.length x.c, .slice x.B x.ps.length x.d])]) (by kernel_rfl) fun a HF => ?_
 refine bf HF (by kernel_rfl) 20 #[.agg #[.bool x.wide, .bool x.big, aX x.abi, aX x.aH, .int .i64 x.ty, .int .i64 x.machine, aI x.entry, .slice x.A x.ss.length x.c, .slice x.B x.ps.length x.d]] (by kernel_rfl) (fun w => by kernel_rfl) (Calls.mono (BZ x w (h.below HM.below)) ?_)
 rintro _ w1 ⟨b1, rfl, hb⟩
 replace HM := HM.call hb
 clear hb
 refine ⟨_, rfl, ?_⟩; clear HF; intro a HF
 replace HF := HF.sub ((bC tz T ts cT A l c z1) ++ [(12, .bool b1)]) (by kernel_rfl)
 rcases dZ b1 with hc2 | hc2
 ·replace HF := Fr.sub (Fr.tell HF 12 rfl (congrArg Value.bool hc2)) ((bC tz T ts cT A l c z1) ++ [(12, .bool false)]) (by kernel_rfl)
  refine wp_pure HF HM rfl 11 [] ((bC tz T ts cT A l c z1) ++ [(23, .bool true)]) (by kernel_rfl) fun a HF => ?_
  refine aA ?_
  refine bD HF rfl ?_
  refine aO ?_
  refine wp_pure HF HM rfl 1 [] [(8, .bool true)] (by kernel_rfl) fun a HF => ?_
  refine aA ?_
  refine wp_ret ?_
  repeat first | refine bJ ?_ | refine bM ?_
  exact bQ HF rfl rfl ⟨rfl, HM.below⟩
 replace HF := Fr.sub (Fr.tell HF 12 rfl (congrArg Value.bool hc2)) ((bC tz T ts cT A l c z1) ++ [(12, .bool true)]) (by kernel_rfl)
 refine wp_pure HF HM rfl 3 [] ((bC tz T ts cT A l c z1) ++ [(14, .bool false), (15, .slice T ts.length cT)]) (by kernel_rfl) fun a HF => ?_
 refine bf HF (by kernel_rfl) 45 #[.slice T ts.length cT] (by kernel_rfl) (fun w => by kernel_rfl) (Calls.mono (Gu ts T cT w1 (HM.row hrt)) ?_)
 rintro _ w2 ⟨b3, rfl, hb⟩
 replace HM := HM.call hb
 clear hb
 refine ⟨_, rfl, ?_⟩; clear HF; intro a HF
 replace HF := HF.sub ((bC tz T ts cT A l c z1) ++ [(14, .bool false), (16, .bool b3)]) (by kernel_rfl)
 rcases dZ b3 with hc4 | hc4
 ·replace HF := Fr.sub (Fr.tell HF 16 rfl (congrArg Value.bool hc4)) ((bC tz T ts cT A l c z1) ++ [(14, .bool false), (16, .bool false)]) (by kernel_rfl)
  refine wp_pure HF HM rfl 7 [] ((bC tz T ts cT A l c z1) ++ [(23, .bool true)]) (by kernel_rfl) fun a HF => ?_
  refine aA ?_
  refine bD HF rfl ?_
  refine aO ?_
  refine wp_pure HF HM rfl 1 [] [(8, .bool true)] (by kernel_rfl) fun a HF => ?_
  refine aA ?_
  refine wp_ret ?_
  repeat first | refine bJ ?_ | refine bM ?_
  exact bQ HF rfl rfl ⟨rfl, HM.below⟩
 replace HF := Fr.sub (Fr.tell HF 16 rfl (congrArg Value.bool hc4)) ((bC tz T ts cT A l c z1) ++ [(14, .bool false), (16, .bool true)]) (by kernel_rfl)
 refine wp_pure HF HM rfl 7 [] ((bC tz T ts cT A l c z1) ++ [(23, .bool (decide (2147483647 < ((l.length : Nat) : Int))))]) (by kernel_rfl) fun a HF => ?_
 refine aA ?_
 by_cases hc5 : 2147483647 < ((l.length : Nat) : Int)
 ·rw [show decide (2147483647 < ((l.length : Nat) : Int)) = true from dK (hc5)] at HF
  refine bD HF rfl ?_
  refine aO ?_
  refine wp_pure HF HM rfl 1 [] [(8, .bool true)] (by kernel_rfl) fun a HF => ?_
  refine aA ?_
  refine wp_ret ?_
  repeat first | refine bJ ?_ | refine bM ?_
  exact bQ HF rfl rfl ⟨rfl, HM.below⟩
 rw [show decide (2147483647 < ((l.length : Nat) : Int)) = false from cZ (hc5)] at HF
 refine aY HF rfl ?_
 refine wp_skip ?_
 repeat first | refine aK ?_ | refine aP ?_
 refine wp_seq ?_
 refine aO ?_
 refine wp_pure HF HM rfl 3 [] ((bC tz T ts cT A l c z1) ++ [(26, .bool (tz != 1))]) (by kernel_rfl) fun a HF => ?_
 by_cases hc6 : tz ≠ 1
 ·rw [show (tz != 1) = true from Gm (hc6)] at HF
  refine wp_pure HF HM rfl 4 [] ((bC tz T ts cT A l c z1) ++ [(30, .bool (tz != 14))]) (by kernel_rfl) fun a HF => ?_
  by_cases hc7 : tz ≠ 14
  ·rw [show (tz != 14) = true from Gm (hc7)] at HF
   refine wp_pure HF HM rfl 4 [] ((bC tz T ts cT A l c z1) ++ [(34, .bool (tz != 15))]) (by kernel_rfl) fun a HF => ?_
   by_cases hc8 : tz ≠ 15
   ·rw [show (tz != 15) = true from Gm (hc8)] at HF
    refine wp_pure HF HM rfl 4 [] ((bC tz T ts cT A l c z1) ++ [(38, .bool (tz != 29))]) (by kernel_rfl) fun a HF => ?_
    by_cases Ny : tz ≠ 29
    ·rw [show (tz != 29) = true from Gm (Ny)] at HF
     refine wp_pure HF HM rfl 16 [] ((bC tz T ts cT A l c z1) ++ [(54, .bool true)]) (by kernel_rfl) fun a HF => ?_
     refine aA ?_
     refine bD HF rfl ?_
     refine aO ?_
     refine wp_pure HF HM rfl 1 [] [(8, .bool true)] (by kernel_rfl) fun a HF => ?_
     refine aA ?_
     refine wp_ret ?_
     repeat first | refine bJ ?_ | refine bM ?_
     exact bQ HF rfl rfl ⟨rfl, HM.below⟩
    rw [show (tz != 29) = false from yS (Ny)] at HF
    refine wp_pure HF HM rfl 1 [[0]] ((bC tz T ts cT A l c z1) ++ [(38, .bool false), rZ x]) (by kernel_rfl) fun a HF => ?_
    refine bf HF (by kernel_rfl) 22 #[.agg #[.bool x.wide, .bool x.big, aX x.abi, aX x.aH, .int .i64 x.ty, .int .i64 x.machine, aI x.entry, .slice x.A x.ss.length x.c, .slice x.B x.ps.length x.d]] (by kernel_rfl) (fun w => by kernel_rfl) (Calls.mono (uy x w2 (h.below HM.below)) ?_)
    rintro _ w3 ⟨b10, rfl, hb, hok11⟩
    replace HM := HM.call hb
    clear hb
    refine ⟨_, rfl, ?_⟩; clear HF; intro a HF
    replace HF := HF.sub ((bC tz T ts cT A l c z1) ++ [(38, .bool false), (40, .bool b10)]) (by kernel_rfl)
    rcases dZ b10 with hc12 | hc12
    ·replace HF := Fr.sub (Fr.tell HF 40 rfl (congrArg Value.bool hc12)) ((bC tz T ts cT A l c z1) ++ [(38, .bool false), (40, .bool false)]) (by kernel_rfl)
     refine wp_pure HF HM rfl 14 [] ((bC tz T ts cT A l c z1) ++ [(54, .bool true)]) (by kernel_rfl) fun a HF => ?_
     refine aA ?_
     refine bD HF rfl ?_
     refine aO ?_
     refine wp_pure HF HM rfl 1 [] [(8, .bool true)] (by kernel_rfl) fun a HF => ?_
     refine aA ?_
     refine wp_ret ?_
     repeat first | refine bJ ?_ | refine bM ?_
     exact bQ HF rfl rfl ⟨rfl, HM.below⟩
    replace HF := Fr.sub (Fr.tell HF 40 rfl (congrArg Value.bool hc12)) ((bC tz T ts cT A l c z1) ++ [(38, .bool false), (40, .bool true)]) (by kernel_rfl)
    refine wp_pure HF HM rfl 4 [] ((bC tz T ts cT A l c z1) ++ [(43, .bool false), (44, .slice T ts.length cT)]) (by kernel_rfl) fun a HF => ?_
    refine bf HF (by kernel_rfl) 46 #[.slice T ts.length cT] (by kernel_rfl) (fun w => by kernel_rfl) (Calls.mono (vw ts T cT w3 (HM.row hrt)) ?_)
    rintro _ w4 ⟨b13, rfl, hb, Ed⟩
    replace HM := HM.call hb
    clear hb
    refine ⟨_, rfl, ?_⟩; clear HF; intro a HF
    replace HF := HF.sub ((bC tz T ts cT A l c z1) ++ [(43, .bool false), (45, .bool b13)]) (by kernel_rfl)
    rcases dZ b13 with G_ | G_
    ·replace HF := Fr.sub (Fr.tell HF 45 rfl (congrArg Value.bool G_)) ((bC tz T ts cT A l c z1) ++ [(43, .bool false), (45, .bool false)]) (by kernel_rfl)
     refine wp_pure HF HM rfl 9 [] ((bC tz T ts cT A l c z1) ++ [(54, .bool true)]) (by kernel_rfl) fun a HF => ?_
     refine aA ?_
     refine bD HF rfl ?_
     refine aO ?_
     refine wp_pure HF HM rfl 1 [] [(8, .bool true)] (by kernel_rfl) fun a HF => ?_
     refine aA ?_
     refine wp_ret ?_
     repeat first | refine bJ ?_ | refine bM ?_
     exact bQ HF rfl rfl ⟨rfl, HM.below⟩
    replace HF := Fr.sub (Fr.tell HF 45 rfl (congrArg Value.bool G_)) ((bC tz T ts cT A l c z1) ++ [(43, .bool false), (45, .bool true)]) (by kernel_rfl)
    refine wp_pure HF HM rfl 6 [[0]] ((bC tz T ts cT A l c z1) ++ [(48, .bool false), rY x, (50, .int .i64 tz), (51, .slice A l.length c)]) (by kernel_rfl) fun a HF => ?_
    refine bf HF (by kernel_rfl) 42 #[.agg #[.bool x.wide, .bool x.big, aX x.abi, aX x.aH, .int .i64 x.ty, .int .i64 x.machine, aI x.entry, .slice x.A x.ss.length x.c, .slice x.B x.ps.length x.d], .int .i64 tz, .slice A l.length c] (by kernel_rfl) (fun w => by kernel_rfl) (Calls.mono (qH x tz l A c w4 (HM.row hr)) ?_)
    rintro _ w5 ⟨b15, rfl, hb, zh⟩
    replace HM := HM.call hb
    clear hb
    refine ⟨_, rfl, ?_⟩; clear HF; intro a HF
    replace HF := HF.sub ((bC tz T ts cT A l c z1) ++ [(48, .bool false), (52, .bool b15)]) (by kernel_rfl)
    rcases dZ b15 with hc16 | hc16
    ·replace HF := Fr.sub (Fr.tell HF 52 rfl (congrArg Value.bool hc16)) ((bC tz T ts cT A l c z1) ++ [(48, .bool false), (52, .bool false)]) (by kernel_rfl)
     refine wp_pure HF HM rfl 2 [] ((bC tz T ts cT A l c z1) ++ [(54, .bool true)]) (by kernel_rfl) fun a HF => ?_
     refine aA ?_
     refine bD HF rfl ?_
     refine aO ?_
     refine wp_pure HF HM rfl 1 [] [(8, .bool true)] (by kernel_rfl) fun a HF => ?_
     refine aA ?_
     refine wp_ret ?_
     repeat first | refine bJ ?_ | refine bM ?_
     exact bQ HF rfl rfl ⟨rfl, HM.below⟩
    replace HF := Fr.sub (Fr.tell HF 52 rfl (congrArg Value.bool hc16)) ((bC tz T ts cT A l c z1) ++ [(48, .bool false), (52, .bool true)]) (by kernel_rfl)
    refine wp_pure HF HM rfl 2 [] ((bC tz T ts cT A l c z1) ++ [(54, .bool false)]) (by kernel_rfl) fun a HF => ?_
    refine aA ?_
    refine aY HF rfl ?_
    refine wp_skip ?_
    repeat first | refine aK ?_ | refine aP ?_
    refine aO ?_
    obtain ⟨tg, rfl⟩ := Int.eq_ofNat_of_zero_le (show 0 ≤ tz by omega)
    have yC : tg = 1 ∨ tg = 14 ∨ tg = 15 ∨ tg = 29 := by omega
    refine wp_pure HF HM rfl 4 [[0]] [(1, ay tg), (2, .slice T ts.length cT), (56, .agg #[.bool x.wide, .bool x.big, aX x.abi, aX x.aH, .int .i64 x.ty, .int .i64 x.machine, aI x.entry, .slice x.A x.ss.length x.c, .slice x.B x.ps.length x.d]), (57, ay tg), (58, .slice T ts.length cT), (59, .slice A l.length c)] (by kernel_rfl) fun a HF => ?_
    have uS := hok11 hc12
    have lH := zh hc16
    have ok := uS.1; have hln := lH.1
    have kS := Ed G_
    refine bf HF (by kernel_rfl) 44 #[.agg #[.bool x.wide, .bool x.big, aX x.abi, aX x.aH, .int .i64 x.ty, .int .i64 x.machine, aI x.entry, .slice x.A x.ss.length x.c, .slice x.B x.ps.length x.d], ay tg, .slice T ts.length cT, .slice A l.length c] (by kernel_rfl) (fun w => by kernel_rfl) (Calls.mono (o9 x tg (by omega) ts T cT l (((tg : Nat) : Int)) A c w5 (h.below HM.below) uS.2 (HM.row hrt) kS.1 kS.2 (HM.row hr) hat lH.1 lH.2) ?_)
    rintro _ w6 ⟨gd, nM, gn, qm, g, cap, rfl, hb, hy⟩
    replace HM := HM.call hb
    clear hb
    obtain ⟨y, hye⟩ : ∃ y, x.more (qG x tg ts l gd nM) (qE ts gn qm) g cap = y := ⟨_, rfl⟩
    rw [hye] at hy
    have hd : o8 y (kQ tg ts l) ts := hye ▸ uw (by omega) kS.1 kS.2 lH.1 lH.2 hat
    have yU : y.Ok := hye ▸ b_.Ag ok uS.2 (uj x tg ts l gd nM kS.1 lH.1) (tu x.wide ts gn qm (rM ts kS.1 kS.2))
    have AL := b_.ok yU hy
    refine ⟨_, rfl, ?_⟩; clear HF; intro a HF
    rw [hye] at HF
    refine bf HF (by kernel_rfl) 25 #[.agg #[.bool y.wide, .bool y.big, aX y.abi, aX y.aH, .int .i64 y.ty, .int .i64 y.machine, aI y.entry, .slice y.A y.ss.length y.c, .slice y.B y.ps.length y.d]] (by kernel_rfl) (fun w => by kernel_rfl) (Calls.mono (vU y w6 hy yU) ?_)
    rintro _ w7 ⟨gf, qN, LJ, rfl, hb, hof⟩
    replace HM := HM.call hb
    clear hb
    refine ⟨_, rfl, ?_⟩; clear HF; intro a HF
    refine wp_pure HF HM rfl 1 [] [(2, .slice T ts.length cT), (61, aC gf y.img.file.length qN), (62, ay tg)] (by kernel_rfl) fun a HF => ?_
    have hstr := Bd (l := l) (by omega) kS.2 lH.2
    have hsel := Aj (l := l) (by omega) kS.2 lH.2
    refine bf HF (by kernel_rfl) 47 #[aC gf y.img.file.length qN, ay tg] (by kernel_rfl) (fun w => by kernel_rfl) (Calls.mono (rG y (some ⟨gf, 0, none⟩) qN hof.nc AL (kQ tg ts l) ts hd tg yC hstr w7 hof.row) ?_)
    rintro _ w8 ⟨A2, c2, rfl, hb, hrow⟩
    replace HM := HM.call hb
    clear hb
    rw [hsel] at hrow
    refine ⟨_, rfl, ?_⟩; clear HF; intro a HF
    rw [hsel] at HF
    refine wp_pure HF HM rfl 5 [] [(2, .slice T ts.length cT), (9, .slice A2 ts.length c2), (10, aF 0)] (by kernel_rfl) fun a HF => ?_
    refine dF ?_
    refine wp_pure HF HM rfl 5 [] [(68, .bool true), (69, .slice A2 ts.length c2), (70, .slice T ts.length cT)] (by kernel_rfl) fun a HF => ?_
    refine bf HF (by kernel_rfl) 29 #[.slice A2 ts.length c2, .slice T ts.length cT] (by kernel_rfl) (fun w => by kernel_rfl) (Calls.mono (uN ts A2 T c2 cT (by omega) w8 hrow (HM.row hrt)) ?_)
    rintro _ w9 ⟨rfl, hb⟩
    replace HM := HM.call hb
    clear hb
    refine ⟨_, rfl, ?_⟩; clear HF; intro a HF
    refine wp_pure HF HM rfl 2 [] [(8, .bool true)] (by kernel_rfl) fun a HF => ?_
    refine aA ?_
    refine wp_ret ?_
    repeat first | refine bJ ?_ | refine bM ?_
    exact bQ HF rfl rfl ⟨rfl, HM.below⟩
   rw [show (tz != 15) = false from yS (hc8)] at HF
   refine wp_pure HF HM rfl 5 [[0]] ((bC tz T ts cT A l c z1) ++ [(38, .bool false), rZ x]) (by kernel_rfl) fun a HF => ?_
   refine bf HF (by kernel_rfl) 22 #[.agg #[.bool x.wide, .bool x.big, aX x.abi, aX x.aH, .int .i64 x.ty, .int .i64 x.machine, aI x.entry, .slice x.A x.ss.length x.c, .slice x.B x.ps.length x.d]] (by kernel_rfl) (fun w => by kernel_rfl) (Calls.mono (uy x w2 (h.below HM.below)) ?_)
   rintro _ w10 ⟨b17, rfl, hb, hok18⟩
   replace HM := HM.call hb
   clear hb
   refine ⟨_, rfl, ?_⟩; clear HF; intro a HF
   replace HF := HF.sub ((bC tz T ts cT A l c z1) ++ [(38, .bool false), (40, .bool b17)]) (by kernel_rfl)
   rcases dZ b17 with hc19 | hc19
   ·replace HF := Fr.sub (Fr.tell HF 40 rfl (congrArg Value.bool hc19)) ((bC tz T ts cT A l c z1) ++ [(38, .bool false), (40, .bool false)]) (by kernel_rfl)
    refine wp_pure HF HM rfl 14 [] ((bC tz T ts cT A l c z1) ++ [(54, .bool true)]) (by kernel_rfl) fun a HF => ?_
    refine aA ?_
    refine bD HF rfl ?_
    refine aO ?_
    refine wp_pure HF HM rfl 1 [] [(8, .bool true)] (by kernel_rfl) fun a HF => ?_
    refine aA ?_
    refine wp_ret ?_
    repeat first | refine bJ ?_ | refine bM ?_
    exact bQ HF rfl rfl ⟨rfl, HM.below⟩
   replace HF := Fr.sub (Fr.tell HF 40 rfl (congrArg Value.bool hc19)) ((bC tz T ts cT A l c z1) ++ [(38, .bool false), (40, .bool true)]) (by kernel_rfl)
   refine wp_pure HF HM rfl 4 [] ((bC tz T ts cT A l c z1) ++ [(43, .bool false), (44, .slice T ts.length cT)]) (by kernel_rfl) fun a HF => ?_
   refine bf HF (by kernel_rfl) 46 #[.slice T ts.length cT] (by kernel_rfl) (fun w => by kernel_rfl) (Calls.mono (vw ts T cT w10 (HM.row hrt)) ?_)
   rintro _ qU ⟨b20, rfl, hb, Ed⟩
   replace HM := HM.call hb
   clear hb
   refine ⟨_, rfl, ?_⟩; clear HF; intro a HF
   replace HF := HF.sub ((bC tz T ts cT A l c z1) ++ [(43, .bool false), (45, .bool b20)]) (by kernel_rfl)
   rcases dZ b20 with hc21 | hc21
   ·replace HF := Fr.sub (Fr.tell HF 45 rfl (congrArg Value.bool hc21)) ((bC tz T ts cT A l c z1) ++ [(43, .bool false), (45, .bool false)]) (by kernel_rfl)
    refine wp_pure HF HM rfl 9 [] ((bC tz T ts cT A l c z1) ++ [(54, .bool true)]) (by kernel_rfl) fun a HF => ?_
    refine aA ?_
    refine bD HF rfl ?_
    refine aO ?_
    refine wp_pure HF HM rfl 1 [] [(8, .bool true)] (by kernel_rfl) fun a HF => ?_
    refine aA ?_
    refine wp_ret ?_
    repeat first | refine bJ ?_ | refine bM ?_
    exact bQ HF rfl rfl ⟨rfl, HM.below⟩
   replace HF := Fr.sub (Fr.tell HF 45 rfl (congrArg Value.bool hc21)) ((bC tz T ts cT A l c z1) ++ [(43, .bool false), (45, .bool true)]) (by kernel_rfl)
   refine wp_pure HF HM rfl 6 [[0]] ((bC tz T ts cT A l c z1) ++ [(48, .bool false), rY x, (50, .int .i64 tz), (51, .slice A l.length c)]) (by kernel_rfl) fun a HF => ?_
   refine bf HF (by kernel_rfl) 42 #[.agg #[.bool x.wide, .bool x.big, aX x.abi, aX x.aH, .int .i64 x.ty, .int .i64 x.machine, aI x.entry, .slice x.A x.ss.length x.c, .slice x.B x.ps.length x.d], .int .i64 tz, .slice A l.length c] (by kernel_rfl) (fun w => by kernel_rfl) (Calls.mono (qH x tz l A c qU (HM.row hr)) ?_)
   rintro _ w12 ⟨b22, rfl, hb, zh⟩
   replace HM := HM.call hb
   clear hb
   refine ⟨_, rfl, ?_⟩; clear HF; intro a HF
   replace HF := HF.sub ((bC tz T ts cT A l c z1) ++ [(48, .bool false), (52, .bool b22)]) (by kernel_rfl)
   rcases dZ b22 with G9 | G9
   ·replace HF := Fr.sub (Fr.tell HF 52 rfl (congrArg Value.bool G9)) ((bC tz T ts cT A l c z1) ++ [(48, .bool false), (52, .bool false)]) (by kernel_rfl)
    refine wp_pure HF HM rfl 2 [] ((bC tz T ts cT A l c z1) ++ [(54, .bool true)]) (by kernel_rfl) fun a HF => ?_
    refine aA ?_
    refine bD HF rfl ?_
    refine aO ?_
    refine wp_pure HF HM rfl 1 [] [(8, .bool true)] (by kernel_rfl) fun a HF => ?_
    refine aA ?_
    refine wp_ret ?_
    repeat first | refine bJ ?_ | refine bM ?_
    exact bQ HF rfl rfl ⟨rfl, HM.below⟩
   replace HF := Fr.sub (Fr.tell HF 52 rfl (congrArg Value.bool G9)) ((bC tz T ts cT A l c z1) ++ [(48, .bool false), (52, .bool true)]) (by kernel_rfl)
   refine wp_pure HF HM rfl 2 [] ((bC tz T ts cT A l c z1) ++ [(54, .bool false)]) (by kernel_rfl) fun a HF => ?_
   refine aA ?_
   refine aY HF rfl ?_
   refine wp_skip ?_
   repeat first | refine aK ?_ | refine aP ?_
   refine aO ?_
   obtain ⟨tg, rfl⟩ := Int.eq_ofNat_of_zero_le (show 0 ≤ tz by omega)
   have yC : tg = 1 ∨ tg = 14 ∨ tg = 15 ∨ tg = 29 := by omega
   refine wp_pure HF HM rfl 4 [[0]] [(1, ay tg), (2, .slice T ts.length cT), (56, .agg #[.bool x.wide, .bool x.big, aX x.abi, aX x.aH, .int .i64 x.ty, .int .i64 x.machine, aI x.entry, .slice x.A x.ss.length x.c, .slice x.B x.ps.length x.d]), (57, ay tg), (58, .slice T ts.length cT), (59, .slice A l.length c)] (by kernel_rfl) fun a HF => ?_
   have uS := hok18 hc19
   have lH := zh G9
   have ok := uS.1; have hln := lH.1
   have kS := Ed hc21
   refine bf HF (by kernel_rfl) 44 #[.agg #[.bool x.wide, .bool x.big, aX x.abi, aX x.aH, .int .i64 x.ty, .int .i64 x.machine, aI x.entry, .slice x.A x.ss.length x.c, .slice x.B x.ps.length x.d], ay tg, .slice T ts.length cT, .slice A l.length c] (by kernel_rfl) (fun w => by kernel_rfl) (Calls.mono (o9 x tg (by omega) ts T cT l (((tg : Nat) : Int)) A c w12 (h.below HM.below) uS.2 (HM.row hrt) kS.1 kS.2 (HM.row hr) hat lH.1 lH.2) ?_)
   rintro _ uI ⟨gd, nM, gn, qm, g, cap, rfl, hb, hy⟩
   replace HM := HM.call hb
   clear hb
   obtain ⟨y, hye⟩ : ∃ y, x.more (qG x tg ts l gd nM) (qE ts gn qm) g cap = y := ⟨_, rfl⟩
   rw [hye] at hy
   have hd : o8 y (kQ tg ts l) ts := hye ▸ uw (by omega) kS.1 kS.2 lH.1 lH.2 hat
   have yU : y.Ok := hye ▸ b_.Ag ok uS.2 (uj x tg ts l gd nM kS.1 lH.1) (tu x.wide ts gn qm (rM ts kS.1 kS.2))
   have AL := b_.ok yU hy
   refine ⟨_, rfl, ?_⟩; clear HF; intro a HF
   rw [hye] at HF
   refine bf HF (by kernel_rfl) 25 #[.agg #[.bool y.wide, .bool y.big, aX y.abi, aX y.aH, .int .i64 y.ty, .int .i64 y.machine, aI y.entry, .slice y.A y.ss.length y.c, .slice y.B y.ps.length y.d]] (by kernel_rfl) (fun w => by kernel_rfl) (Calls.mono (vU y uI hy yU) ?_)
   rintro _ Ey ⟨gf, qN, LJ, rfl, hb, hof⟩
   replace HM := HM.call hb
   clear hb
   refine ⟨_, rfl, ?_⟩; clear HF; intro a HF
   refine wp_pure HF HM rfl 1 [] [(2, .slice T ts.length cT), (61, aC gf y.img.file.length qN), (62, ay tg)] (by kernel_rfl) fun a HF => ?_
   have hstr := Bd (l := l) (by omega) kS.2 lH.2
   have hsel := Aj (l := l) (by omega) kS.2 lH.2
   refine bf HF (by kernel_rfl) 47 #[aC gf y.img.file.length qN, ay tg] (by kernel_rfl) (fun w => by kernel_rfl) (Calls.mono (rG y (some ⟨gf, 0, none⟩) qN hof.nc AL (kQ tg ts l) ts hd tg yC hstr Ey hof.row) ?_)
   rintro _ Bg ⟨A2, c2, rfl, hb, hrow⟩
   replace HM := HM.call hb
   clear hb
   rw [hsel] at hrow
   refine ⟨_, rfl, ?_⟩; clear HF; intro a HF
   rw [hsel] at HF
   refine wp_pure HF HM rfl 5 [] [(2, .slice T ts.length cT), (9, .slice A2 ts.length c2), (10, aF 0)] (by kernel_rfl) fun a HF => ?_
   refine dF ?_
   refine wp_pure HF HM rfl 5 [] [(68, .bool true), (69, .slice A2 ts.length c2), (70, .slice T ts.length cT)] (by kernel_rfl) fun a HF => ?_
   refine bf HF (by kernel_rfl) 29 #[.slice A2 ts.length c2, .slice T ts.length cT] (by kernel_rfl) (fun w => by kernel_rfl) (Calls.mono (uN ts A2 T c2 cT (by omega) Bg hrow (HM.row hrt)) ?_)
   rintro _ w16 ⟨rfl, hb⟩
   replace HM := HM.call hb
   clear hb
   refine ⟨_, rfl, ?_⟩; clear HF; intro a HF
   refine wp_pure HF HM rfl 2 [] [(8, .bool true)] (by kernel_rfl) fun a HF => ?_
   refine aA ?_
   refine wp_ret ?_
   repeat first | refine bJ ?_ | refine bM ?_
   exact bQ HF rfl rfl ⟨rfl, HM.below⟩
  rw [show (tz != 14) = false from yS (hc7)] at HF
  refine wp_pure HF HM rfl 9 [[0]] ((bC tz T ts cT A l c z1) ++ [(38, .bool false), rZ x]) (by kernel_rfl) fun a HF => ?_
  refine bf HF (by kernel_rfl) 22 #[.agg #[.bool x.wide, .bool x.big, aX x.abi, aX x.aH, .int .i64 x.ty, .int .i64 x.machine, aI x.entry, .slice x.A x.ss.length x.c, .slice x.B x.ps.length x.d]] (by kernel_rfl) (fun w => by kernel_rfl) (Calls.mono (uy x w2 (h.below HM.below)) ?_)
  rintro _ w17 ⟨b24, rfl, hb, hok25⟩
  replace HM := HM.call hb
  clear hb
  refine ⟨_, rfl, ?_⟩; clear HF; intro a HF
  replace HF := HF.sub ((bC tz T ts cT A l c z1) ++ [(38, .bool false), (40, .bool b24)]) (by kernel_rfl)
  rcases dZ b24 with Ov | Ov
  ·replace HF := Fr.sub (Fr.tell HF 40 rfl (congrArg Value.bool Ov)) ((bC tz T ts cT A l c z1) ++ [(38, .bool false), (40, .bool false)]) (by kernel_rfl)
   refine wp_pure HF HM rfl 14 [] ((bC tz T ts cT A l c z1) ++ [(54, .bool true)]) (by kernel_rfl) fun a HF => ?_
   refine aA ?_
   refine bD HF rfl ?_
   refine aO ?_
   refine wp_pure HF HM rfl 1 [] [(8, .bool true)] (by kernel_rfl) fun a HF => ?_
   refine aA ?_
   refine wp_ret ?_
   repeat first | refine bJ ?_ | refine bM ?_
   exact bQ HF rfl rfl ⟨rfl, HM.below⟩
  replace HF := Fr.sub (Fr.tell HF 40 rfl (congrArg Value.bool Ov)) ((bC tz T ts cT A l c z1) ++ [(38, .bool false), (40, .bool true)]) (by kernel_rfl)
  refine wp_pure HF HM rfl 4 [] ((bC tz T ts cT A l c z1) ++ [(43, .bool false), (44, .slice T ts.length cT)]) (by kernel_rfl) fun a HF => ?_
  refine bf HF (by kernel_rfl) 46 #[.slice T ts.length cT] (by kernel_rfl) (fun w => by kernel_rfl) (Calls.mono (vw ts T cT w17 (HM.row hrt)) ?_)
  rintro _ w18 ⟨b27, rfl, hb, Ed⟩
  replace HM := HM.call hb
  clear hb
  refine ⟨_, rfl, ?_⟩; clear HF; intro a HF
  replace HF := HF.sub ((bC tz T ts cT A l c z1) ++ [(43, .bool false), (45, .bool b27)]) (by kernel_rfl)
  rcases dZ b27 with hc28 | hc28
  ·replace HF := Fr.sub (Fr.tell HF 45 rfl (congrArg Value.bool hc28)) ((bC tz T ts cT A l c z1) ++ [(43, .bool false), (45, .bool false)]) (by kernel_rfl)
   refine wp_pure HF HM rfl 9 [] ((bC tz T ts cT A l c z1) ++ [(54, .bool true)]) (by kernel_rfl) fun a HF => ?_
   refine aA ?_
   refine bD HF rfl ?_
   refine aO ?_
   refine wp_pure HF HM rfl 1 [] [(8, .bool true)] (by kernel_rfl) fun a HF => ?_
   refine aA ?_
   refine wp_ret ?_
   repeat first | refine bJ ?_ | refine bM ?_
   exact bQ HF rfl rfl ⟨rfl, HM.below⟩
  replace HF := Fr.sub (Fr.tell HF 45 rfl (congrArg Value.bool hc28)) ((bC tz T ts cT A l c z1) ++ [(43, .bool false), (45, .bool true)]) (by kernel_rfl)
  refine wp_pure HF HM rfl 6 [[0]] ((bC tz T ts cT A l c z1) ++ [(48, .bool false), rY x, (50, .int .i64 tz), (51, .slice A l.length c)]) (by kernel_rfl) fun a HF => ?_
  refine bf HF (by kernel_rfl) 42 #[.agg #[.bool x.wide, .bool x.big, aX x.abi, aX x.aH, .int .i64 x.ty, .int .i64 x.machine, aI x.entry, .slice x.A x.ss.length x.c, .slice x.B x.ps.length x.d], .int .i64 tz, .slice A l.length c] (by kernel_rfl) (fun w => by kernel_rfl) (Calls.mono (qH x tz l A c w18 (HM.row hr)) ?_)
  rintro _ w19 ⟨b29, rfl, hb, zh⟩
  replace HM := HM.call hb
  clear hb
  refine ⟨_, rfl, ?_⟩; clear HF; intro a HF
  replace HF := HF.sub ((bC tz T ts cT A l c z1) ++ [(48, .bool false), (52, .bool b29)]) (by kernel_rfl)
  rcases dZ b29 with Ou | Ou
  ·replace HF := Fr.sub (Fr.tell HF 52 rfl (congrArg Value.bool Ou)) ((bC tz T ts cT A l c z1) ++ [(48, .bool false), (52, .bool false)]) (by kernel_rfl)
   refine wp_pure HF HM rfl 2 [] ((bC tz T ts cT A l c z1) ++ [(54, .bool true)]) (by kernel_rfl) fun a HF => ?_
   refine aA ?_
   refine bD HF rfl ?_
   refine aO ?_
   refine wp_pure HF HM rfl 1 [] [(8, .bool true)] (by kernel_rfl) fun a HF => ?_
   refine aA ?_
   refine wp_ret ?_
   repeat first | refine bJ ?_ | refine bM ?_
   exact bQ HF rfl rfl ⟨rfl, HM.below⟩
  replace HF := Fr.sub (Fr.tell HF 52 rfl (congrArg Value.bool Ou)) ((bC tz T ts cT A l c z1) ++ [(48, .bool false), (52, .bool true)]) (by kernel_rfl)
  refine wp_pure HF HM rfl 2 [] ((bC tz T ts cT A l c z1) ++ [(54, .bool false)]) (by kernel_rfl) fun a HF => ?_
  refine aA ?_
  refine aY HF rfl ?_
  refine wp_skip ?_
  repeat first | refine aK ?_ | refine aP ?_
  refine aO ?_
  obtain ⟨tg, rfl⟩ := Int.eq_ofNat_of_zero_le (show 0 ≤ tz by omega)
  have yC : tg = 1 ∨ tg = 14 ∨ tg = 15 ∨ tg = 29 := by omega
  refine wp_pure HF HM rfl 4 [[0]] [(1, ay tg), (2, .slice T ts.length cT), (56, .agg #[.bool x.wide, .bool x.big, aX x.abi, aX x.aH, .int .i64 x.ty, .int .i64 x.machine, aI x.entry, .slice x.A x.ss.length x.c, .slice x.B x.ps.length x.d]), (57, ay tg), (58, .slice T ts.length cT), (59, .slice A l.length c)] (by kernel_rfl) fun a HF => ?_
  have uS := hok25 Ov
  have lH := zh Ou
  have ok := uS.1; have hln := lH.1
  have kS := Ed hc28
  refine bf HF (by kernel_rfl) 44 #[.agg #[.bool x.wide, .bool x.big, aX x.abi, aX x.aH, .int .i64 x.ty, .int .i64 x.machine, aI x.entry, .slice x.A x.ss.length x.c, .slice x.B x.ps.length x.d], ay tg, .slice T ts.length cT, .slice A l.length c] (by kernel_rfl) (fun w => by kernel_rfl) (Calls.mono (o9 x tg (by omega) ts T cT l (((tg : Nat) : Int)) A c w19 (h.below HM.below) uS.2 (HM.row hrt) kS.1 kS.2 (HM.row hr) hat lH.1 lH.2) ?_)
  rintro _ w20 ⟨gd, nM, gn, qm, g, cap, rfl, hb, hy⟩
  replace HM := HM.call hb
  clear hb
  obtain ⟨y, hye⟩ : ∃ y, x.more (qG x tg ts l gd nM) (qE ts gn qm) g cap = y := ⟨_, rfl⟩
  rw [hye] at hy
  have hd : o8 y (kQ tg ts l) ts := hye ▸ uw (by omega) kS.1 kS.2 lH.1 lH.2 hat
  have yU : y.Ok := hye ▸ b_.Ag ok uS.2 (uj x tg ts l gd nM kS.1 lH.1) (tu x.wide ts gn qm (rM ts kS.1 kS.2))
  have AL := b_.ok yU hy
  refine ⟨_, rfl, ?_⟩; clear HF; intro a HF
  rw [hye] at HF
  refine bf HF (by kernel_rfl) 25 #[.agg #[.bool y.wide, .bool y.big, aX y.abi, aX y.aH, .int .i64 y.ty, .int .i64 y.machine, aI y.entry, .slice y.A y.ss.length y.c, .slice y.B y.ps.length y.d]] (by kernel_rfl) (fun w => by kernel_rfl) (Calls.mono (vU y w20 hy yU) ?_)
  rintro _ w21 ⟨gf, qN, LJ, rfl, hb, hof⟩
  replace HM := HM.call hb
  clear hb
  refine ⟨_, rfl, ?_⟩; clear HF; intro a HF
  refine wp_pure HF HM rfl 1 [] [(2, .slice T ts.length cT), (61, aC gf y.img.file.length qN), (62, ay tg)] (by kernel_rfl) fun a HF => ?_
  have hstr := Bd (l := l) (by omega) kS.2 lH.2
  have hsel := Aj (l := l) (by omega) kS.2 lH.2
  refine bf HF (by kernel_rfl) 47 #[aC gf y.img.file.length qN, ay tg] (by kernel_rfl) (fun w => by kernel_rfl) (Calls.mono (rG y (some ⟨gf, 0, none⟩) qN hof.nc AL (kQ tg ts l) ts hd tg yC hstr w21 hof.row) ?_)
  rintro _ w22 ⟨A2, c2, rfl, hb, hrow⟩
  replace HM := HM.call hb
  clear hb
  rw [hsel] at hrow
  refine ⟨_, rfl, ?_⟩; clear HF; intro a HF
  rw [hsel] at HF
  refine wp_pure HF HM rfl 5 [] [(2, .slice T ts.length cT), (9, .slice A2 ts.length c2), (10, aF 0)] (by kernel_rfl) fun a HF => ?_
  refine dF ?_
  refine wp_pure HF HM rfl 5 [] [(68, .bool true), (69, .slice A2 ts.length c2), (70, .slice T ts.length cT)] (by kernel_rfl) fun a HF => ?_
  refine bf HF (by kernel_rfl) 29 #[.slice A2 ts.length c2, .slice T ts.length cT] (by kernel_rfl) (fun w => by kernel_rfl) (Calls.mono (uN ts A2 T c2 cT (by omega) w22 hrow (HM.row hrt)) ?_)
  rintro _ w23 ⟨rfl, hb⟩
  replace HM := HM.call hb
  clear hb
  refine ⟨_, rfl, ?_⟩; clear HF; intro a HF
  refine wp_pure HF HM rfl 2 [] [(8, .bool true)] (by kernel_rfl) fun a HF => ?_
  refine aA ?_
  refine wp_ret ?_
  repeat first | refine bJ ?_ | refine bM ?_
  exact bQ HF rfl rfl ⟨rfl, HM.below⟩
 rw [show (tz != 1) = false from yS (hc6)] at HF
 refine wp_pure HF HM rfl 13 [[0]] ((bC tz T ts cT A l c z1) ++ [(38, .bool false), rZ x]) (by kernel_rfl) fun a HF => ?_
 refine bf HF (by kernel_rfl) 22 #[.agg #[.bool x.wide, .bool x.big, aX x.abi, aX x.aH, .int .i64 x.ty, .int .i64 x.machine, aI x.entry, .slice x.A x.ss.length x.c, .slice x.B x.ps.length x.d]] (by kernel_rfl) (fun w => by kernel_rfl) (Calls.mono (uy x w2 (h.below HM.below)) ?_)
 rintro _ w24 ⟨b31, rfl, hb, hok32⟩
 replace HM := HM.call hb
 clear hb
 refine ⟨_, rfl, ?_⟩; clear HF; intro a HF
 replace HF := HF.sub ((bC tz T ts cT A l c z1) ++ [(38, .bool false), (40, .bool b31)]) (by kernel_rfl)
 rcases dZ b31 with Ot | Ot
 ·replace HF := Fr.sub (Fr.tell HF 40 rfl (congrArg Value.bool Ot)) ((bC tz T ts cT A l c z1) ++ [(38, .bool false), (40, .bool false)]) (by kernel_rfl)
  refine wp_pure HF HM rfl 14 [] ((bC tz T ts cT A l c z1) ++ [(54, .bool true)]) (by kernel_rfl) fun a HF => ?_
  refine aA ?_
  refine bD HF rfl ?_
  refine aO ?_
  refine wp_pure HF HM rfl 1 [] [(8, .bool true)] (by kernel_rfl) fun a HF => ?_
  refine aA ?_
  refine wp_ret ?_
  repeat first | refine bJ ?_ | refine bM ?_
  exact bQ HF rfl rfl ⟨rfl, HM.below⟩
 replace HF := Fr.sub (Fr.tell HF 40 rfl (congrArg Value.bool Ot)) ((bC tz T ts cT A l c z1) ++ [(38, .bool false), (40, .bool true)]) (by kernel_rfl)
 refine wp_pure HF HM rfl 4 [] ((bC tz T ts cT A l c z1) ++ [(43, .bool false), (44, .slice T ts.length cT)]) (by kernel_rfl) fun a HF => ?_
 refine bf HF (by kernel_rfl) 46 #[.slice T ts.length cT] (by kernel_rfl) (fun w => by kernel_rfl) (Calls.mono (vw ts T cT w24 (HM.row hrt)) ?_)
 rintro _ w25 ⟨b34, rfl, hb, Ed⟩
 replace HM := HM.call hb
 clear hb
 refine ⟨_, rfl, ?_⟩; clear HF; intro a HF
 replace HF := HF.sub ((bC tz T ts cT A l c z1) ++ [(43, .bool false), (45, .bool b34)]) (by kernel_rfl)
 rcases dZ b34 with Oq | Oq
 ·replace HF := Fr.sub (Fr.tell HF 45 rfl (congrArg Value.bool Oq)) ((bC tz T ts cT A l c z1) ++ [(43, .bool false), (45, .bool false)]) (by kernel_rfl)
  refine wp_pure HF HM rfl 9 [] ((bC tz T ts cT A l c z1) ++ [(54, .bool true)]) (by kernel_rfl) fun a HF => ?_
  refine aA ?_
  refine bD HF rfl ?_
  refine aO ?_
  refine wp_pure HF HM rfl 1 [] [(8, .bool true)] (by kernel_rfl) fun a HF => ?_
  refine aA ?_
  refine wp_ret ?_
  repeat first | refine bJ ?_ | refine bM ?_
  exact bQ HF rfl rfl ⟨rfl, HM.below⟩
 replace HF := Fr.sub (Fr.tell HF 45 rfl (congrArg Value.bool Oq)) ((bC tz T ts cT A l c z1) ++ [(43, .bool false), (45, .bool true)]) (by kernel_rfl)
 refine wp_pure HF HM rfl 6 [[0]] ((bC tz T ts cT A l c z1) ++ [(48, .bool false), rY x, (50, .int .i64 tz), (51, .slice A l.length c)]) (by kernel_rfl) fun a HF => ?_
 refine bf HF (by kernel_rfl) 42 #[.agg #[.bool x.wide, .bool x.big, aX x.abi, aX x.aH, .int .i64 x.ty, .int .i64 x.machine, aI x.entry, .slice x.A x.ss.length x.c, .slice x.B x.ps.length x.d], .int .i64 tz, .slice A l.length c] (by kernel_rfl) (fun w => by kernel_rfl) (Calls.mono (qH x tz l A c w25 (HM.row hr)) ?_)
 rintro _ w26 ⟨b36, rfl, hb, zh⟩
 replace HM := HM.call hb
 clear hb
 refine ⟨_, rfl, ?_⟩; clear HF; intro a HF
 replace HF := HF.sub ((bC tz T ts cT A l c z1) ++ [(48, .bool false), (52, .bool b36)]) (by kernel_rfl)
 rcases dZ b36 with Oo | Oo
 ·replace HF := Fr.sub (Fr.tell HF 52 rfl (congrArg Value.bool Oo)) ((bC tz T ts cT A l c z1) ++ [(48, .bool false), (52, .bool false)]) (by kernel_rfl)
  refine wp_pure HF HM rfl 2 [] ((bC tz T ts cT A l c z1) ++ [(54, .bool true)]) (by kernel_rfl) fun a HF => ?_
  refine aA ?_
  refine bD HF rfl ?_
  refine aO ?_
  refine wp_pure HF HM rfl 1 [] [(8, .bool true)] (by kernel_rfl) fun a HF => ?_
  refine aA ?_
  refine wp_ret ?_
  repeat first | refine bJ ?_ | refine bM ?_
  exact bQ HF rfl rfl ⟨rfl, HM.below⟩
 replace HF := Fr.sub (Fr.tell HF 52 rfl (congrArg Value.bool Oo)) ((bC tz T ts cT A l c z1) ++ [(48, .bool false), (52, .bool true)]) (by kernel_rfl)
 refine wp_pure HF HM rfl 2 [] ((bC tz T ts cT A l c z1) ++ [(54, .bool false)]) (by kernel_rfl) fun a HF => ?_
 refine aA ?_
 refine aY HF rfl ?_
 refine wp_skip ?_
 repeat first | refine aK ?_ | refine aP ?_
 refine aO ?_
 obtain ⟨tg, rfl⟩ := Int.eq_ofNat_of_zero_le (show 0 ≤ tz by omega)
 have yC : tg = 1 ∨ tg = 14 ∨ tg = 15 ∨ tg = 29 := by omega
 refine wp_pure HF HM rfl 4 [[0]] [(1, ay tg), (2, .slice T ts.length cT), (56, .agg #[.bool x.wide, .bool x.big, aX x.abi, aX x.aH, .int .i64 x.ty, .int .i64 x.machine, aI x.entry, .slice x.A x.ss.length x.c, .slice x.B x.ps.length x.d]), (57, ay tg), (58, .slice T ts.length cT), (59, .slice A l.length c)] (by kernel_rfl) fun a HF => ?_
 have uS := hok32 Ot
 have lH := zh Oo
 have ok := uS.1; have hln := lH.1
 have kS := Ed Oq
 refine bf HF (by kernel_rfl) 44 #[.agg #[.bool x.wide, .bool x.big, aX x.abi, aX x.aH, .int .i64 x.ty, .int .i64 x.machine, aI x.entry, .slice x.A x.ss.length x.c, .slice x.B x.ps.length x.d], ay tg, .slice T ts.length cT, .slice A l.length c] (by kernel_rfl) (fun w => by kernel_rfl) (Calls.mono (o9 x tg (by omega) ts T cT l (((tg : Nat) : Int)) A c w26 (h.below HM.below) uS.2 (HM.row hrt) kS.1 kS.2 (HM.row hr) hat lH.1 lH.2) ?_)
 rintro _ w27 ⟨gd, nM, gn, qm, g, cap, rfl, hb, hy⟩
 replace HM := HM.call hb
 clear hb
 obtain ⟨y, hye⟩ : ∃ y, x.more (qG x tg ts l gd nM) (qE ts gn qm) g cap = y := ⟨_, rfl⟩
 rw [hye] at hy
 have hd : o8 y (kQ tg ts l) ts := hye ▸ uw (by omega) kS.1 kS.2 lH.1 lH.2 hat
 have yU : y.Ok := hye ▸ b_.Ag ok uS.2 (uj x tg ts l gd nM kS.1 lH.1) (tu x.wide ts gn qm (rM ts kS.1 kS.2))
 have AL := b_.ok yU hy
 refine ⟨_, rfl, ?_⟩; clear HF; intro a HF
 rw [hye] at HF
 refine bf HF (by kernel_rfl) 25 #[.agg #[.bool y.wide, .bool y.big, aX y.abi, aX y.aH, .int .i64 y.ty, .int .i64 y.machine, aI y.entry, .slice y.A y.ss.length y.c, .slice y.B y.ps.length y.d]] (by kernel_rfl) (fun w => by kernel_rfl) (Calls.mono (vU y w27 hy yU) ?_)
 rintro _ w28 ⟨gf, qN, LJ, rfl, hb, hof⟩
 replace HM := HM.call hb
 clear hb
 refine ⟨_, rfl, ?_⟩; clear HF; intro a HF
 refine wp_pure HF HM rfl 1 [] [(2, .slice T ts.length cT), (61, aC gf y.img.file.length qN), (62, ay tg)] (by kernel_rfl) fun a HF => ?_
 have hstr := Bd (l := l) (by omega) kS.2 lH.2
 have hsel := Aj (l := l) (by omega) kS.2 lH.2
 refine bf HF (by kernel_rfl) 47 #[aC gf y.img.file.length qN, ay tg] (by kernel_rfl) (fun w => by kernel_rfl) (Calls.mono (rG y (some ⟨gf, 0, none⟩) qN hof.nc AL (kQ tg ts l) ts hd tg yC hstr w28 hof.row) ?_)
 rintro _ w29 ⟨A2, c2, rfl, hb, hrow⟩
 replace HM := HM.call hb
 clear hb
 rw [hsel] at hrow
 refine ⟨_, rfl, ?_⟩; clear HF; intro a HF
 rw [hsel] at HF
 refine wp_pure HF HM rfl 5 [] [(2, .slice T ts.length cT), (9, .slice A2 ts.length c2), (10, aF 0)] (by kernel_rfl) fun a HF => ?_
 refine dF ?_
 refine wp_pure HF HM rfl 5 [] [(68, .bool true), (69, .slice A2 ts.length c2), (70, .slice T ts.length cT)] (by kernel_rfl) fun a HF => ?_
 refine bf HF (by kernel_rfl) 29 #[.slice A2 ts.length c2, .slice T ts.length cT] (by kernel_rfl) (fun w => by kernel_rfl) (Calls.mono (uN ts A2 T c2 cT (by omega) w29 hrow (HM.row hrt)) ?_)
 rintro _ w30 ⟨rfl, hb⟩
 replace HM := HM.call hb
 clear hb
 refine ⟨_, rfl, ?_⟩; clear HF; intro a HF
 refine wp_pure HF HM rfl 2 [] [(8, .bool true)] (by kernel_rfl) fun a HF => ?_
 refine aA ?_
 refine wp_ret ?_
 repeat first | refine bJ ?_ | refine bM ?_
 exact bQ HF rfl rfl ⟨rfl, HM.below⟩

end Go.Proofs.YtdgehpocmfjbiaaDoor
namespace Go.Proofs.YtdgehpocmfjbiaaDoor.fnDynStrings
open Go Go.ChangeShapes Go.WideShapes Go.ChangeAt Go.RowKit Go.Deep

theorem own : ownKnob Tryd.prog.godebug = none := by kernel_rfl
theorem laidOut : laidOutB Tryd.prog = true := by kernel_rfl
theorem door_met (os : Os) (args : Array Value) : laidMetH Tryd.prog Rows.fnDynStringsRow.laid ((World.doorLaid Tryd.prog 123 os).forCall (fun _ _ => 0) ⟨#[], args, []⟩).memory :=
  laidMetH_of_parts3 (fuel := 8) (laidMet_of_run' 8 (by kernel_rfl) (by kernel_rfl)) (by kernel_rfl) (by kernel_rfl)

set_option maxRecDepth 100000 in
theorem lifted (os : Os) (started : os.Started) (H : Type) (enc : TypeId × Value → H) :
    ReturnsInHanded {} Tryd.checked os 17 .any (fun w args => (Rows.fnDynStringsSpec.pre enc Tryd.prog Tryd.f17 [] false w args ∧ laidMetH Tryd.prog Rows.fnDynStringsRow.laid w) ∧ sizedMet enc Tryd.prog Tryd.f17 (OpenSpec.ofChange Rows.fnDynStringsSpec) false w args)
      (Rows.fnDynStringsSpec.post enc Tryd.prog Tryd.f17 false true false false) := by
  refine returnsInHanded_of_change_and (C := Tryd.checked) (X := fun w _ => laidMetH Tryd.prog Rows.fnDynStringsRow.laid w) (fun _ _ _ hh h => h.of_heap hh) own started (by kernel_rfl) Tryd.func17
    (ChangeSpec.witness_shaped (enc := enc) (C := Tryd.checked) (os := os) (X := fun w _ => laidMetH Tryd.prog Rows.fnDynStringsRow.laid w) false (World.doorLaid Tryd.prog 123 os) #[.agg #[.bool false, .bool false, .int .u8 0, .int .u8 0, .int .i64 0, .int .i64 0, .int .u64 0, .slice none 0 0, .slice none 0 0], .int .i64 0, .slice none 0 0, .slice none 0 0] 8 rfl (World.shaped_of_RefB (by kernel_rfl) (by kernel_rfl)) (by kernel_rfl) (by kernel_rfl) (by kernel_rfl) (door_met os _)) ?_
  intro W base args ds gs before hval0 hW _ _ hL _
  have hval : ∀ (j : Nat) t v, Tryd.f17.params[j]? = some t → args[j]? = some v → Value.okWide Tryd.prog W .any base t v := hval0
  have hW' := hW
  obtain ⟨p, q, hA0, hV, rfl, hfz, hnd⟩ := hW
  have hA : DataW.TrodAll enc Tryd.prog W 0 (fun _ => true) true Tryd.f17.params.toList args.toList ds p := hA0
  rw [Tryd.params17] at hA hval
  obtain ⟨v0, vs0, d0, ds0, p0, q0, hargs, rfl, rfl, h0, r0⟩ := trodAll_cons hA
  obtain ⟨v1, vs1, d1, ds1, p1, q1, rfl, rfl, rfl, h1, r1⟩ := trodAll_cons r0
  obtain ⟨v2, vs2, d2, ds2, p2, q2, rfl, rfl, rfl, h2, r2⟩ := trodAll_cons r1
  obtain ⟨v3, vs3, d3, ds3, p3, q3, rfl, rfl, rfl, h3, r3⟩ := trodAll_cons r2
  obtain ⟨rfl, rfl, rfl⟩ := trodAll_nil r3
  obtain rfl : args = #[v0, v1, v2, v3] := by cases args; simp_all
  obtain ⟨ea, hv0, hE⟩ := Hl (by kernel_rfl) hL
  have hV1 : DataW.TrodVars enc Tryd.prog W (fun _ => true) ["loop.example/pub-g03028/pub/elf.ErrNoSymbols"] gs q := hV
  obtain ⟨rfl, rfl⟩ := hV1.unique (vars_read1 enc qC uh Tryd.underlying103 hv0 trivial _)
  have k0 := h0
  have lt0 : ∀ x ∈ p0, x.block < W.heap.size := by obtain ⟨m, hm⟩ := k0; exact DataW.trod_lt m _ _ _ hm
  have k1 := h1
  have lt1 : ∀ x ∈ p1, x.block < W.heap.size := by obtain ⟨m, hm⟩ := k1; exact DataW.trod_lt m _ _ _ hm
  have k2 := h2
  have lt2 : ∀ x ∈ p2, x.block < W.heap.size := by obtain ⟨m, hm⟩ := k2; exact DataW.trod_lt m _ _ _ hm
  have k3 := h3
  have lt3 : ∀ x ∈ p3, x.block < W.heap.size := by obtain ⟨m, hm⟩ := k3; exact DataW.trod_lt m _ _ _ hm
  obtain ⟨x0, rfl, hx0⟩ := G6 (hval 0 26 v0 rfl rfl) h0
  obtain ⟨a1, rfl, -, -, z1⟩ := open_int Tryd.underlying3 (hval 1 3 v1 rfl rfl) h1
  have q1 := bounds_i64 z1
  obtain ⟨l2, A2, c2, rfl, hr2, hl2, hn2, hk2⟩ := En (hval 2 38 v2 rfl rfl) h2
  obtain ⟨l3, A3, c3, rfl, hr3, hl3, hn3, hk3⟩ := wH (hval 3 81 v3 rfl rfl) h3
  clear hA0 hval0
  refine (IK x0 a1 l2 A2 c2 l3 A3 c3 W hx0 q1 hr2 hl2 hn2 hk2 hr3 hl3 hn3 hk3).mono fun e W' ⟨he, bel⟩ => ?_
  subst he
  exact ⟨_, rfl, _, _, _, [], _, [.cell 0 0], hW', trodAll_mk1 (shut_bool Tryd.underlying4 _), (trodAll_cons_mk (Below.trod laidOut (by kernel_rfl) (of_decide_eq_true (by kernel_rfl)) k0 bel lt0) (trodAll_cons_mk (Below.trod laidOut (by kernel_rfl) (of_decide_eq_true (by kernel_rfl)) k1 bel lt1) (trodAll_cons_mk (Below.trod laidOut (by kernel_rfl) (of_decide_eq_true (by kernel_rfl)) k2 bel lt2) (trodAll_cons_mk (Below.trod laidOut (by kernel_rfl) (of_decide_eq_true (by kernel_rfl)) k3 bel lt3) trodAll_mk0)))), vars_read1 enc qC uh Tryd.underlying103 (var_below bel hv0) trivial _, bel.frame _, fun h => by cases h⟩

set_option maxRecDepth 100000 in
theorem EL : joinedFacts Tryd.pinned.checked.prog 17 Tryd.f17 Rows.fnDynStringsSpec Rows.fnDynStringsRow = true := (and_t (and_t (and_t (and_t (and_t (and_t (and_t (and_t (and_t (and_t (and_t (and_t (and_t (and_t (and_t (and_t (and_t (and_t (and_t (and_t (and_t (and_t (and_t (and_t (and_t (and_t (and_t (and_t (and_t (and_t (and_t l0 l1) l2) l3) l4) l5) l6) l7) l8) l9) l10) l11) l12) l13) l14) l15) l16) l17) l18) l19) l20) l21) l22) l23) l24) l25) l26) l27) l28) l29) l30) l31)

theorem over : Rows.FnDynStringsSaid :=
  OpenClaim.holds_of_wide 17 Tryd.f17 rfl rfl rfl rfl rfl rfl rfl ⟨rfl, rfl, rfl, rfl, rfl⟩ rfl rfl rfl rfl rfl c5 Tryd.func17 EL
    (of_decide_eq_true (by kernel_rfl)) (by unfold Func.isWrapper; first | (rw [if_pos (by decide +kernel)]; kernel_rfl) | (rw [if_neg (by decide +kernel)]; exact ⟨rfl, rfl⟩))
    (fun os started H enc _ => lifted os started H enc)

theorem proved : Rows.FnDynStringsCardSaid :=
  Claim7.holds_tied_plain_at .later [] [.sentinel, .sentinel, .sentinel, .sentinel, .sentinel, .sentinel] true (true, "ed888367449acd6afd80057b2906ce1b79ec16b7beef13a0a9ac5f630eedede4") true
    over (fun _ h => by cases h) c1 (fun _ h => by cases h) fnDynStrings_row_tie rfl ⟨rfl, rfl⟩ qc4 rfl
    (fun f fn hf hfn => by
      obtain rfl : f = 17 := Option.some.inj (c5.symm.trans hf) |>.symm
      obtain rfl : fn = Tryd.f17 := (Option.some.inj (Tryd.func17.symm.trans hfn)).symm
      exact ⟨qc2, fun j t ht => by
        rw [Tryd.params17] at ht
        have hm : t ∈ [26, 3, 38, 81] := by simpa using Array.mem_of_getElem? ht
        have hall : ([26, 3, 38, 81].all fun u => !Tryd.prog.wantsStandIn u) = true := by kernel_rfl
        exact (show Tryd.prog.wantsStandIn t = false by simpa using List.all_eq_true.1 hall t hm)⟩)
    c3
#print axioms proved
end Go.Proofs.YtdgehpocmfjbiaaDoor.fnDynStrings
