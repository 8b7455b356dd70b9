/- Proved: the dynamic symbols of a file are read, in order, at every argument. No condition. -/
import Derived.Test.YtdgehpocmfjbiaaDoorRh
import Derived.Test.YtdgehpocmfjbiaaDoorRg
import Derived.Test.YtdgehpocmfjbiaaDoorRm
import Derived.Test.YtdgehpocmfjbiaaDoorRq
import Derived.Test.YtdgehpocmfjbiaaDoorCards
import Derived.Test.YtdgehpocmfjbiaaDoorTie
import Derived.Test.YtdgehpocmfjbiaaDoorRp
import Derived.Test.YtdgehpocmfjbiaaDoorFnDynamicSymbolsJ
import Derived.Test.YtdgehpocmfjbiaaDoorFnDynamicSymbolsJC
import Derived.LaidMore
import Derived.LaidLaws
import Derived.Stop.Joined
import Derived.SevenTiedAt
import Derived.ProofKit
import Derived.OpenShut
import Derived.ShutString
import Derived.ChangeOld
import Derived.Below
set_option linter.unusedVariables false
set_option linter.unusedSimpArgs false
set_option maxRecDepth 100000
set_option maxHeartbeats 2000000
namespace Go.Proofs.YtdgehpocmfjbiaaDoor
open Go.RowKit

theorem Jm (x : bZ) (l : List SymM) (A : Option Addr) (c : Nat) (w0 : World) (h : x.At w0) (hr : Row w0 A (l.flatMap SymM.cells)) (hat : ∀ m ∈ l, SymM.At m) (hl1 : l.length ≤ c) (hl2 : c ≤ maxLen) : Calls Tryd.prog 3 #[x.val, .slice A l.length c] w0 fun e w' => e = .returned (.bool true) ∧ Below w0.heap.size w0 w' := by
 obtain ⟨w, hw⟩ : ∃ w, w0 = w := ⟨_, rfl⟩
 have HM : Mm [] w0 w [] := hw ▸ Mm.start w0
 conv => arg 4; rw [hw]
 clear hw
 refine bI Tryd.func3 rfl Tryd.ntmps3 [(0, .agg #[.bool x.wide, .bool x.big, aT x.abi, aT x.aH, .int .i64 x.ty, .int .i64 x.machine, aI x.entry, .slice x.A x.ss.length x.c, .slice x.B x.ps.length x.d]), (1, .slice A l.length c)] (by kernel_rfl) (Nat.le_of_ble_eq_true rfl) ?_
 intro a HF
 refine aN ?_
 obtain ⟨z1, hz1⟩ : ∃ z, w.heap.size = z := ⟨_, rfl⟩
 refine aP HF HM hz1 2 [] [(1, .slice A l.length c), (2, aA z1)] [(z1, .cells #[.bool x.wide, .bool x.big, aT x.abi, aT x.aH, .int .i64 x.ty, .int .i64 x.machine, aI x.entry, .slice x.A x.ss.length x.c, .slice x.B x.ps.length x.d] 26 (0, 0))] (by kernel_rfl) fun a w HF HM => ?_
 clear hz1
 refine aB ?_
 refine wp_seq ?_
 refine aN ?_
 refine wp_pure HF HM rfl 1 [[0]] [(1, .slice A l.length c), (2, aA z1), (7, .agg #[.bool x.wide, .bool x.big, aT x.abi, aT x.aH, .int .i64 x.ty, .int .i64 x.machine, aI x.entry, .slice x.A x.ss.length x.c, .slice x.B x.ps.length x.d])] (by kernel_rfl) fun a HF => ?_
 refine bf HF (by kernel_rfl) 20 #[.agg #[.bool x.wide, .bool x.big, aT x.abi, aT x.aH, .int .i64 x.ty, .int .i64 x.machine, aI x.entry, .slice x.A x.ss.length x.c, .slice x.B x.ps.length x.d]] (by kernel_rfl) (fun w => by kernel_rfl) (Calls.mono (yM x w (h.below HM.below)) ?_)
 rintro _ w1 ⟨b1, rfl, hb⟩
 replace HM := HM.call hb
 clear hb
 refine ⟨_, rfl, ?_⟩; clear HF; intro a HF
 replace HF := HF.sub [(1, .slice A l.length c), (2, aA z1), (8, .bool b1)] (by kernel_rfl)
 rcases gZ b1 with hc2 | hc2
 ·replace HF := Fr.sub (Fr.tell HF 8 rfl (congrArg Value.bool hc2)) [(1, .slice A l.length c), (2, aA z1), (8, .bool false)] (by kernel_rfl)
  refine wp_pure HF HM rfl 6 [] [(1, .slice A l.length c), (2, aA z1), (14, .bool true)] (by kernel_rfl) fun a HF => ?_
  refine aB ?_
  refine bC HF rfl ?_
  refine aN ?_
  refine wp_pure HF HM rfl 1 [] [(4, .bool true)] (by kernel_rfl) fun a HF => ?_
  refine aB ?_
  refine wp_ret ?_
  repeat first | refine bH ?_ | refine bM ?_
  exact dn HF rfl rfl ⟨rfl, HM.below⟩
 replace HF := Fr.sub (Fr.tell HF 8 rfl (congrArg Value.bool hc2)) [(1, .slice A l.length c), (2, aA z1), (8, .bool true)] (by kernel_rfl)
 refine wp_pure HF HM rfl 3 [] [(1, .slice A l.length c), (2, aA z1), (10, .bool false), (11, .slice A l.length c)] (by kernel_rfl) fun a HF => ?_
 refine bf HF (by kernel_rfl) 21 #[.slice A l.length c] (by kernel_rfl) (fun w => by kernel_rfl) (Calls.mono (Ci l A c w1 (HM.row hr)) ?_)
 rintro _ w2 ⟨b3, rfl, hb⟩
 replace HM := HM.call hb
 clear hb
 refine ⟨_, rfl, ?_⟩; clear HF; intro a HF
 replace HF := HF.sub [(1, .slice A l.length c), (2, aA z1), (10, .bool false), (12, .bool b3)] (by kernel_rfl)
 rcases gZ b3 with hc4 | hc4
 ·replace HF := Fr.sub (Fr.tell HF 12 rfl (congrArg Value.bool hc4)) [(1, .slice A l.length c), (2, aA z1), (10, .bool false), (12, .bool false)] (by kernel_rfl)
  refine wp_pure HF HM rfl 2 [] [(1, .slice A l.length c), (2, aA z1), (14, .bool true)] (by kernel_rfl) fun a HF => ?_
  refine aB ?_
  refine bC HF rfl ?_
  refine aN ?_
  refine wp_pure HF HM rfl 1 [] [(4, .bool true)] (by kernel_rfl) fun a HF => ?_
  refine aB ?_
  refine wp_ret ?_
  repeat first | refine bH ?_ | refine bM ?_
  exact dn HF rfl rfl ⟨rfl, HM.below⟩
 replace HF := Fr.sub (Fr.tell HF 12 rfl (congrArg Value.bool hc4)) [(1, .slice A l.length c), (2, aA z1), (10, .bool false), (12, .bool true)] (by kernel_rfl)
 refine wp_pure HF HM rfl 2 [] [(1, .slice A l.length c), (2, aA z1), (14, .bool false)] (by kernel_rfl) fun a HF => ?_
 refine aB ?_
 refine aZ HF rfl ?_
 refine wp_skip ?_
 repeat first | refine aK ?_ | refine aS ?_
 refine wp_seq ?_
 refine aN ?_
 refine wp_pure HF HM rfl 1 [[0]] [(1, .slice A l.length c), (2, aA z1), (15, .agg #[.bool x.wide, .bool x.big, aT x.abi, aT x.aH, .int .i64 x.ty, .int .i64 x.machine, aI x.entry, .slice x.A x.ss.length x.c, .slice x.B x.ps.length x.d])] (by kernel_rfl) fun a HF => ?_
 refine bf HF (by kernel_rfl) 22 #[.agg #[.bool x.wide, .bool x.big, aT x.abi, aT x.aH, .int .i64 x.ty, .int .i64 x.machine, aI x.entry, .slice x.A x.ss.length x.c, .slice x.B x.ps.length x.d]] (by kernel_rfl) (fun w => by kernel_rfl) (Calls.mono (yP x w2 (h.below HM.below)) ?_)
 rintro _ w3 ⟨b5, rfl, hb, MJ⟩
 replace HM := HM.call hb
 clear hb
 refine ⟨_, rfl, ?_⟩; clear HF; intro a HF
 replace HF := HF.sub [(1, .slice A l.length c), (2, aA z1), (16, .bool b5)] (by kernel_rfl)
 rcases gZ b5 with uX | uX
 ·replace HF := Fr.sub (Fr.tell HF 16 rfl (congrArg Value.bool uX)) [(1, .slice A l.length c), (2, aA z1), (16, .bool false)] (by kernel_rfl)
  refine wp_pure HF HM rfl 7 [] [(1, .slice A l.length c), (2, aA z1), (23, .bool true)] (by kernel_rfl) fun a HF => ?_
  refine aB ?_
  refine bC HF rfl ?_
  refine aN ?_
  refine wp_pure HF HM rfl 1 [] [(4, .bool true)] (by kernel_rfl) fun a HF => ?_
  refine aB ?_
  refine wp_ret ?_
  repeat first | refine bH ?_ | refine bM ?_
  exact dn HF rfl rfl ⟨rfl, HM.below⟩
 replace HF := Fr.sub (Fr.tell HF 16 rfl (congrArg Value.bool uX)) [(1, .slice A l.length c), (2, aA z1), (16, .bool true)] (by kernel_rfl)
 refine wp_pure HF HM rfl 4 [[0]] [(1, .slice A l.length c), (2, aA z1), (18, .bool false), (19, .agg #[.bool x.wide, .bool x.big, aT x.abi, aT x.aH, .int .i64 x.ty, .int .i64 x.machine, aI x.entry, .slice x.A x.ss.length x.c, .slice x.B x.ps.length x.d]), (20, .slice A l.length c)] (by kernel_rfl) fun a HF => ?_
 refine bf HF (by kernel_rfl) 23 #[.agg #[.bool x.wide, .bool x.big, aT x.abi, aT x.aH, .int .i64 x.ty, .int .i64 x.machine, aI x.entry, .slice x.A x.ss.length x.c, .slice x.B x.ps.length x.d], .slice A l.length c] (by kernel_rfl) (fun w => by kernel_rfl) (Calls.mono (yK x l A c w3 (HM.row hr) hat) ?_)
 rintro _ w4 ⟨b8, rfl, hb, hokS⟩
 replace HM := HM.call hb
 clear hb
 refine ⟨_, rfl, ?_⟩; clear HF; intro a HF
 replace HF := HF.sub [(1, .slice A l.length c), (2, aA z1), (18, .bool false), (21, .bool b8)] (by kernel_rfl)
 rcases gZ b8 with sQ | sQ
 ·replace HF := Fr.sub (Fr.tell HF 21 rfl (congrArg Value.bool sQ)) [(1, .slice A l.length c), (2, aA z1), (18, .bool false), (21, .bool false)] (by kernel_rfl)
  refine wp_pure HF HM rfl 2 [] [(1, .slice A l.length c), (2, aA z1), (23, .bool true)] (by kernel_rfl) fun a HF => ?_
  refine aB ?_
  refine bC HF rfl ?_
  refine aN ?_
  refine wp_pure HF HM rfl 1 [] [(4, .bool true)] (by kernel_rfl) fun a HF => ?_
  refine aB ?_
  refine wp_ret ?_
  repeat first | refine bH ?_ | refine bM ?_
  exact dn HF rfl rfl ⟨rfl, HM.below⟩
 replace HF := Fr.sub (Fr.tell HF 21 rfl (congrArg Value.bool sQ)) [(1, .slice A l.length c), (2, aA z1), (18, .bool false), (21, .bool true)] (by kernel_rfl)
 refine wp_pure HF HM rfl 2 [] [(1, .slice A l.length c), (2, aA z1), (23, .bool false)] (by kernel_rfl) fun a HF => ?_
 refine aB ?_
 refine aZ HF rfl ?_
 refine wp_skip ?_
 repeat first | refine aK ?_ | refine aS ?_
 refine aN ?_
 refine wp_pure HF HM rfl 2 [[0]] [(1, .slice A l.length c), (25, .agg #[.bool x.wide, .bool x.big, aT x.abi, aT x.aH, .int .i64 x.ty, .int .i64 x.machine, aI x.entry, .slice x.A x.ss.length x.c, .slice x.B x.ps.length x.d]), (26, .slice A l.length c)] (by kernel_rfl) fun a HF => ?_
 have Fb := MJ uX
 have sN := hokS sQ
 have ok := Fb.1; have hln := sN.1
 refine bf HF (by kernel_rfl) 26 #[.agg #[.bool x.wide, .bool x.big, aT x.abi, aT x.aH, .int .i64 x.ty, .int .i64 x.machine, aI x.entry, .slice x.A x.ss.length x.c, .slice x.B x.ps.length x.d], gV 11, .slice A l.length c] (by kernel_rfl) (fun w => by kernel_rfl) (Calls.mono (wP x 11 (by omega) l A c w4 (h.below HM.below) Fb.2 (HM.row hr) hat sN.1 sN.2) ?_)
 rintro _ w5 ⟨gt, cu, gn, lW, g, cap, rfl, hb, hy⟩
 replace HM := HM.call hb
 clear hb
 obtain ⟨y, hye⟩ : ∃ y, x.more (rY x 11 l gt cu) (su l gn lW) g cap = y := ⟨_, rfl⟩
 rw [hye] at hy
 have hs : qI y 11 l := hye ▸ AY ok sN.1 sN.2 hat (by decide)
 have JK : y.Ok := hye ▸ bZ.Jl ok Fb.2 (wS x 11 l gt cu sN.1 (by decide)) (Am x.wide l gn lW (rP l x.wide sN.1 sN.2))
 have MC := bZ.ok JK hy
 refine ⟨_, rfl, ?_⟩; clear HF; intro a HF
 rw [hye] at HF
 refine bf HF (by kernel_rfl) 25 #[.agg #[.bool y.wide, .bool y.big, aT y.abi, aT y.aH, .int .i64 y.ty, .int .i64 y.machine, aI y.entry, .slice y.A y.ss.length y.c, .slice y.B y.ps.length y.d]] (by kernel_rfl) (fun w => by kernel_rfl) (Calls.mono (x9 y w5 hy JK) ?_)
 rintro _ w6 ⟨gf, FT, curf, rfl, hb, hof⟩
 replace HM := HM.call hb
 clear hb
 refine ⟨_, rfl, ?_⟩; clear HF; intro a HF
 refine bf HF (by kernel_rfl) 24 #[aC gf y.img.file.length FT] (by kernel_rfl) (fun w => by kernel_rfl) (Calls.mono (FB y (some ⟨gf, 0, none⟩) FT hof.nc MC l hs w6 hof.row) ?_)
 rintro _ w7 ⟨A2, c2, rfl, hb, hrow⟩
 replace HM := HM.call hb
 clear hb
 refine ⟨_, rfl, ?_⟩; clear HF; intro a HF
 refine wp_pure HF HM rfl 5 [] [(1, .slice A l.length c), (5, .slice A2 l.length c2), (6, aF 0)] (by kernel_rfl) fun a HF => ?_
 refine bT ?_
 refine wp_pure HF HM rfl 5 [] [(34, .bool true), (35, .slice A2 l.length c2), (36, .slice A l.length c)] (by kernel_rfl) fun a HF => ?_
 refine bf HF (by kernel_rfl) 27 #[.slice A2 l.length c2, .slice A l.length c] (by kernel_rfl) (fun w => by kernel_rfl) (Calls.mono (C_ l A2 A c2 c (by omega) w7 hrow (HM.row hr)) ?_)
 rintro _ w8 ⟨rfl, hb⟩
 replace HM := HM.call hb
 clear hb
 refine ⟨_, rfl, ?_⟩; clear HF; intro a HF
 refine wp_pure HF HM rfl 2 [] [(4, .bool true)] (by kernel_rfl) fun a HF => ?_
 refine aB ?_
 refine wp_ret ?_
 repeat first | refine bH ?_ | refine bM ?_
 exact dn HF rfl rfl ⟨rfl, HM.below⟩

end Go.Proofs.YtdgehpocmfjbiaaDoor
namespace Go.Proofs.YtdgehpocmfjbiaaDoor.fnDynamicSymbols
open Go Go.ChangeShapes Go.WideShapes Go.ChangeAt Go.RowKit Go.Deep

theorem own : ownKnob Tryd.prog.godebug = none := by kernel_rfl
theorem laidOut : laidOutB Tryd.prog = true := by kernel_rfl
theorem door_met (os : Os) (args : Array Value) : laidMetH Tryd.prog Rows.fnDynamicSymbolsRow.laid ((World.doorLaid Tryd.prog 123 os).forCall (fun _ _ => 0) ⟨#[], args, []⟩).memory :=
  laidMetH_of_parts3 (fuel := 8) (laidMet_of_run' 8 (by kernel_rfl) (by kernel_rfl)) (by kernel_rfl) (by kernel_rfl)

set_option maxRecDepth 100000 in
theorem lifted (os : Os) (started : os.Started) (H : Type) (enc : TypeId × Value → H) :
    ReturnsInHanded {} Tryd.checked os 3 .any (fun w args => (Rows.fnDynamicSymbolsSpec.pre enc Tryd.prog Tryd.f3 [] false w args ∧ laidMetH Tryd.prog Rows.fnDynamicSymbolsRow.laid w) ∧ sizedMet enc Tryd.prog Tryd.f3 (OpenSpec.ofChange Rows.fnDynamicSymbolsSpec) false w args)
      (Rows.fnDynamicSymbolsSpec.post enc Tryd.prog Tryd.f3 false true false false) := by
  refine returnsInHanded_of_change_and (C := Tryd.checked) (X := fun w _ => laidMetH Tryd.prog Rows.fnDynamicSymbolsRow.laid w) (fun _ _ _ hh h => h.of_heap hh) own started (by kernel_rfl) Tryd.func3
    (ChangeSpec.witness_shaped (enc := enc) (C := Tryd.checked) (os := os) (X := fun w _ => laidMetH Tryd.prog Rows.fnDynamicSymbolsRow.laid w) false (World.doorLaid Tryd.prog 123 os) #[.agg #[.bool false, .bool false, .int .u8 0, .int .u8 0, .int .i64 0, .int .i64 0, .int .u64 0, .slice none 0 0, .slice none 0 0], .slice none 0 0] 8 rfl (World.shaped_of_RefB (by kernel_rfl) (by kernel_rfl)) (by kernel_rfl) (by kernel_rfl) (by kernel_rfl) (door_met os _)) ?_
  intro W base args ds gs before hval0 hW _ _ hL _
  have hval : ∀ (j : Nat) t v, Tryd.f3.params[j]? = some t → args[j]? = some v → Value.okWide Tryd.prog W .any base t v := hval0
  have hW' := hW
  obtain ⟨p, q, hA0, hV, rfl, hfz, hnd⟩ := hW
  have hA : DataW.TrodAll enc Tryd.prog W 0 (fun _ => true) true Tryd.f3.params.toList args.toList ds p := hA0
  rw [Tryd.params3] at hA hval
  obtain ⟨v0, vs0, d0, ds0, p0, q0, hargs, rfl, rfl, h0, r0⟩ := trodAll_cons hA
  obtain ⟨v1, vs1, d1, ds1, p1, q1, rfl, rfl, rfl, h1, r1⟩ := trodAll_cons r0
  obtain ⟨rfl, rfl, rfl⟩ := trodAll_nil r1
  obtain rfl : args = #[v0, v1] := by cases args; simp_all
  obtain ⟨ea, hv0, hE⟩ := EC (by kernel_rfl) hL
  have hV1 : DataW.TrodVars enc Tryd.prog W (fun _ => true) ["loop.example/pub-g03028/pub/elf.ErrNoSymbols"] gs q := hV
  obtain ⟨rfl, rfl⟩ := hV1.unique (vars_read1 enc oh qw Tryd.underlying103 hv0 trivial _)
  have k0 := h0
  have Md : ∀ x ∈ p0, x.block < W.heap.size := by obtain ⟨m, hm⟩ := k0; exact DataW.trod_lt m _ _ _ hm
  have k1 := h1
  have lt1 : ∀ x ∈ p1, x.block < W.heap.size := by obtain ⟨m, hm⟩ := k1; exact DataW.trod_lt m _ _ _ hm
  obtain ⟨x0, rfl, hx0⟩ := DV (hval 0 26 v0 rfl rfl) h0
  obtain ⟨l1, A1, c1, rfl, hr1, hl1, hn1, hk1⟩ := zu (hval 1 27 v1 rfl rfl) h1
  clear hA0 hval0
  refine (Jm x0 l1 A1 c1 W hx0 hr1 hl1 hn1 hk1).mono fun e W' ⟨he, bel⟩ => ?_
  subst he
  exact ⟨_, rfl, _, _, _, [], _, [.cell 0 0], hW', trodAll_mk1 (shut_bool Tryd.underlying4 _), (trodAll_cons_mk (Below.trod laidOut (by kernel_rfl) (of_decide_eq_true (by kernel_rfl)) k0 bel Md) (trodAll_cons_mk (Below.trod laidOut (by kernel_rfl) (of_decide_eq_true (by kernel_rfl)) k1 bel lt1) trodAll_mk0)), vars_read1 enc oh qw Tryd.underlying103 (var_below bel hv0) trivial _, bel.frame _, fun h => by cases h⟩

set_option maxRecDepth 100000 in
theorem AP : joinedFacts Tryd.pinned.checked.prog 3 Tryd.f3 Rows.fnDynamicSymbolsSpec Rows.fnDynamicSymbolsRow = true := (and_t (and_t (and_t (and_t (and_t (and_t (and_t (and_t (and_t (and_t (and_t (and_t (and_t (and_t (and_t (and_t (and_t (and_t (and_t (and_t (and_t (and_t (and_t (and_t (and_t (and_t (and_t (and_t (and_t (and_t (and_t l0 l1) l2) l3) l4) l5) l6) l7) l8) l9) l10) l11) l12) l13) l14) l15) l16) l17) l18) l19) l20) l21) l22) l23) l24) l25) l26) l27) l28) l29) l30) l31)

theorem over : Rows.FnDynamicSymbolsSaid :=
  OpenClaim.holds_of_wide 3 Tryd.f3 rfl rfl rfl rfl rfl rfl rfl ⟨rfl, rfl, rfl, rfl, rfl⟩ rfl rfl rfl rfl rfl c5 Tryd.func3 AP
    (of_decide_eq_true (by kernel_rfl)) (by unfold Func.isWrapper; first | (rw [if_pos (by decide +kernel)]; kernel_rfl) | (rw [if_neg (by decide +kernel)]; exact ⟨rfl, rfl⟩))
    (fun os started H enc _ => lifted os started H enc)

theorem proved : Rows.FnDynamicSymbolsCardSaid :=
  Claim7.holds_tied_plain_at .later [] [.sentinel, .sentinel, .sentinel, .sentinel, .sentinel, .sentinel] true (true, "ed888367449acd6afd80057b2906ce1b79ec16b7beef13a0a9ac5f630eedede4") true
    over (fun _ h => by cases h) c1 (fun _ h => by cases h) fnDynamicSymbols_row_tie rfl ⟨rfl, rfl⟩ qc4 rfl
    (fun f fn hf hfn => by
      obtain rfl : f = 3 := Option.some.inj (c5.symm.trans hf) |>.symm
      obtain rfl : fn = Tryd.f3 := (Option.some.inj (Tryd.func3.symm.trans hfn)).symm
      exact ⟨qc2, fun j t ht => by
        rw [Tryd.params3] at ht
        have hm : t ∈ [26, 27] := by simpa using Array.mem_of_getElem? ht
        have hall : ([26, 27].all fun u => !Tryd.prog.wantsStandIn u) = true := by kernel_rfl
        exact (show Tryd.prog.wantsStandIn t = false by simpa using List.all_eq_true.1 hall t hm)⟩)
    c3
#print axioms proved
end Go.Proofs.YtdgehpocmfjbiaaDoor.fnDynamicSymbols
