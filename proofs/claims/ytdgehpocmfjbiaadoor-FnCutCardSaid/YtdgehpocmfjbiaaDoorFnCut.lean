/- Proved: there is an error if bytes are missing at a file's end, at every argument. No condition. -/
import Derived.Test.YtdgehpocmfjbiaaDoorUh
import Derived.Test.YtdgehpocmfjbiaaDoorUg
import Derived.Test.YtdgehpocmfjbiaaDoorUf
import Derived.Test.YtdgehpocmfjbiaaDoorUn
import Derived.Test.YtdgehpocmfjbiaaDoorCards
import Derived.Test.YtdgehpocmfjbiaaDoorTie
import Derived.Test.YtdgehpocmfjbiaaDoorFnCutJ
import Derived.Test.YtdgehpocmfjbiaaDoorFnCutJC
import Derived.LaidMore
import Derived.LaidLaws
import Derived.Stop.Joined
import Derived.SevenTiedAt
import Derived.ProofKit
import Derived.OpenShut
import Derived.ShutString
import Derived.ChangeOld
import Derived.Below
set_option linter.unusedVariables false
set_option linter.unusedSimpArgs false
set_option maxRecDepth 100000
set_option maxHeartbeats 2000000
namespace Go.Proofs.YtdgehpocmfjbiaaDoor
open Go.RowKit

abbrev wM := fun z1 (x : dJ) => ((z1, .cells #[.bool x.wide, .bool x.big, aV x.abi, aV x.aC, .int .i64 x.ty, .int .i64 x.machine, aJ x.entry, .slice x.A x.ss.length x.c, .slice x.B x.ps.length x.d] 26 (0, 0)) : Nat × Obj)
theorem Oa (x : dJ) (kz : Int) (w0 : World) (h : x.At w0) (hkz : -9223372036854775808 ≤ kz ∧ kz ≤ 9223372036854775807) (ea : Addr) (hE : Row w0 (some ⟨2, 0, none⟩) [.iface 242 (.pointer (some ea))]) : Calls Tryd.prog 6 #[x.val, .int .i64 kz] w0 fun e w' => e = .returned (.bool true) ∧ Below w0.heap.size w0 w' := by
 have habi := h.abi; have habiv := h.aC
 obtain ⟨w, hw⟩ : ∃ w, w0 = w := ⟨_, rfl⟩
 have HM : Mm [] w0 w [] := hw ▸ Mm.start w0
 conv => arg 4; rw [hw]
 clear hw
 refine bV Tryd.func6 rfl Tryd.ntmps6 [(0, .agg #[.bool x.wide, .bool x.big, aV x.abi, aV x.aC, .int .i64 x.ty, .int .i64 x.machine, aJ x.entry, .slice x.A x.ss.length x.c, .slice x.B x.ps.length x.d]), (1, .int .i64 kz)] (by kernel_rfl) (Nat.le_of_ble_eq_true rfl) ?_
 intro a HF
 refine aW ?_
 obtain ⟨z1, hz1⟩ : ∃ z, w.heap.size = z := ⟨_, rfl⟩
 refine aO HF HM hz1 2 [] [(1, .int .i64 kz), (2, aG z1)] [wM z1 x] (by kernel_rfl) fun a w HF HM => ?_
 clear hz1
 refine aI ?_
 refine wp_seq ?_
 refine aW ?_
 refine wp_pure HF HM rfl 1 [[0]] [(1, .int .i64 kz), (2, aG z1), (10, .agg #[.bool x.wide, .bool x.big, aV x.abi, aV x.aC, .int .i64 x.ty, .int .i64 x.machine, aJ x.entry, .slice x.A x.ss.length x.c, .slice x.B x.ps.length x.d])] (by kernel_rfl) fun a HF => ?_
 refine bn HF (by kernel_rfl) 20 #[.agg #[.bool x.wide, .bool x.big, aV x.abi, aV x.aC, .int .i64 x.ty, .int .i64 x.machine, aJ x.entry, .slice x.A x.ss.length x.c, .slice x.B x.ps.length x.d]] (by kernel_rfl) (fun w => by kernel_rfl) (Calls.mono (IJ x w (h.below HM.below)) ?_)
 rintro _ w1 ⟨b1, rfl, hb⟩
 replace HM := HM.call hb
 clear hb
 refine ⟨_, rfl, ?_⟩; clear HF; intro a HF
 replace HF := HF.sub [(1, .int .i64 kz), (2, aG z1), (11, .bool b1)] (by kernel_rfl)
 rcases kX b1 with hc2 | hc2
 ·replace HF := Fr.sub (Fr.tell HF 11 rfl (congrArg Value.bool hc2)) [(1, .int .i64 kz), (2, aG z1), (11, .bool false)] (by kernel_rfl)
  refine wp_pure HF HM rfl 1 [] [(1, .int .i64 kz), (2, aG z1), (12, .bool true)] (by kernel_rfl) fun a HF => ?_
  refine aI ?_
  refine bF HF rfl ?_
  refine aW ?_
  refine wp_pure HF HM rfl 1 [] [(4, .bool true)] (by kernel_rfl) fun a HF => ?_
  refine aI ?_
  refine wp_ret ?_
  repeat first | refine cu ?_ | refine dw ?_
  exact dI HF rfl rfl ⟨rfl, HM.below⟩
 replace HF := Fr.sub (Fr.tell HF 11 rfl (congrArg Value.bool hc2)) [(1, .int .i64 kz), (2, aG z1), (11, .bool true)] (by kernel_rfl)
 refine wp_pure HF HM rfl 1 [] [(1, .int .i64 kz), (2, aG z1), (12, .bool false)] (by kernel_rfl) fun a HF => ?_
 refine aI ?_
 refine bf HF rfl ?_
 refine wp_skip ?_
 repeat first | refine aS ?_ | refine aU ?_
 refine wp_seq ?_
 refine aW ?_
 refine wp_pure HF HM rfl 1 [[0]] [(1, .int .i64 kz), (2, aG z1), (13, .agg #[.bool x.wide, .bool x.big, aV x.abi, aV x.aC, .int .i64 x.ty, .int .i64 x.machine, aJ x.entry, .slice x.A x.ss.length x.c, .slice x.B x.ps.length x.d])] (by kernel_rfl) fun a HF => ?_
 refine bn HF (by kernel_rfl) 22 #[.agg #[.bool x.wide, .bool x.big, aV x.abi, aV x.aC, .int .i64 x.ty, .int .i64 x.machine, aJ x.entry, .slice x.A x.ss.length x.c, .slice x.B x.ps.length x.d]] (by kernel_rfl) (fun w => by kernel_rfl) (Calls.mono (Jd x w1 (h.below HM.below)) ?_)
 rintro _ w2 ⟨b3, rfl, hb, hok4⟩
 replace HM := HM.call hb
 clear hb
 refine ⟨_, rfl, ?_⟩; clear HF; intro a HF
 replace HF := HF.sub [(1, .int .i64 kz), (2, aG z1), (14, .bool b3)] (by kernel_rfl)
 rcases kX b3 with hc5 | hc5
 ·replace HF := Fr.sub (Fr.tell HF 14 rfl (congrArg Value.bool hc5)) [(1, .int .i64 kz), (2, aG z1), (14, .bool false)] (by kernel_rfl)
  refine wp_pure HF HM rfl 5 [] [(1, .int .i64 kz), (2, aG z1), (19, .bool true)] (by kernel_rfl) fun a HF => ?_
  refine aI ?_
  refine bF HF rfl ?_
  refine aW ?_
  refine wp_pure HF HM rfl 1 [] [(4, .bool true)] (by kernel_rfl) fun a HF => ?_
  refine aI ?_
  refine wp_ret ?_
  repeat first | refine cu ?_ | refine dw ?_
  exact dI HF rfl rfl ⟨rfl, HM.below⟩
 replace HF := Fr.sub (Fr.tell HF 14 rfl (congrArg Value.bool hc5)) [(1, .int .i64 kz), (2, aG z1), (14, .bool true)] (by kernel_rfl)
 refine wp_pure HF HM rfl 5 [] [(1, .int .i64 kz), (2, aG z1), (19, .bool (decide (kz < 0)))] (by kernel_rfl) fun a HF => ?_
 refine aI ?_
 by_cases hc6 : kz < 0
 ·rw [show decide (kz < 0) = true from dM (hc6)] at HF
  refine bF HF rfl ?_
  refine aW ?_
  refine wp_pure HF HM rfl 1 [] [(4, .bool true)] (by kernel_rfl) fun a HF => ?_
  refine aI ?_
  refine wp_ret ?_
  repeat first | refine cu ?_ | refine dw ?_
  exact dI HF rfl rfl ⟨rfl, HM.below⟩
 rw [show decide (kz < 0) = false from bZ (hc6)] at HF
 refine bf HF rfl ?_
 refine wp_skip ?_
 repeat first | refine aS ?_ | refine aU ?_
 refine aW ?_
 refine wp_pure HF HM rfl 1 [[0]] [(1, .int .i64 kz), (20, .agg #[.bool x.wide, .bool x.big, aV x.abi, aV x.aC, .int .i64 x.ty, .int .i64 x.machine, aJ x.entry, .slice x.A x.ss.length x.c, .slice x.B x.ps.length x.d])] (by kernel_rfl) fun a HF => ?_
 have ok := (hok4 hc5).1
 have rP := dJ.ok ok h
 have hn16 : 16 ≤ x.img.file.length := by
  have hq := (BJ rP).head.len
  unfold fB at hq
  split at hq <;> omega
 refine bn HF (by kernel_rfl) 25 #[.agg #[.bool x.wide, .bool x.big, aV x.abi, aV x.aC, .int .i64 x.ty, .int .i64 x.machine, aJ x.entry, .slice x.A x.ss.length x.c, .slice x.B x.ps.length x.d]] (by kernel_rfl) (fun w => by kernel_rfl) (Calls.mono (KG x w2 (h.below HM.below) (hok4 hc5).1) ?_)
 rintro _ w3 ⟨yh, rM, KN, rfl, hb, DF⟩
 replace HM : Mm [] w0 w3 [(yh, .cells KN 5 (0, 0)), wM z1 x] := HM.push hb DF.new DF.obj
 clear hb
 refine ⟨_, rfl, ?_⟩; clear HF; intro a HF
 refine wp_pure HF HM rfl 1 [] [(1, .int .i64 kz), (5, aH yh x.img.file.length rM)] (by kernel_rfl) fun a HF => ?_
 refine aI ?_
 refine wp_seq ?_
 refine aW ?_
 refine wp_pure HF HM rfl 4 [] [(1, .int .i64 kz), (5, aH yh x.img.file.length rM), (25, .bool (decide (((x.img.file.length : Nat) : Int) ≤ kz)))] (by kernel_rfl) fun a HF => ?_
 refine aI ?_
 by_cases hc8 : ((x.img.file.length : Nat) : Int) ≤ kz
 ·rw [show decide (((x.img.file.length : Nat) : Int) ≤ kz) = true from dM (hc8)] at HF
  refine bF HF rfl ?_
  refine aW ?_
  refine wp_pure HF HM rfl 1 [] [(4, .bool true)] (by kernel_rfl) fun a HF => ?_
  refine aI ?_
  refine wp_ret ?_
  repeat first | refine cu ?_ | refine dw ?_
  exact dI HF rfl rfl ⟨rfl, HM.below⟩
 rw [show decide (((x.img.file.length : Nat) : Int) ≤ kz) = false from bZ (hc8)] at HF
 refine bf HF rfl ?_
 refine wp_skip ?_
 repeat first | refine aS ?_ | refine aU ?_
 refine aW ?_
 refine wp_pure HF HM rfl 2 [] [(5, aH yh x.img.file.length rM), (27, aH yh x.img.file.length rM), (28, .int .i64 kz)] (by kernel_rfl) fun a HF => ?_
 obtain ⟨k, rfl⟩ := Int.eq_ofNat_of_zero_le (show 0 ≤ kz by omega)
 obtain ⟨iu8, hu8, hs8⟩ := qV
 have hkc : k ≤ rM := by have hq := DF.nc; omega
 have hc0 : 0 < rM := by have hq := DF.nc; omega
 refine dP HF (by kernel_rfl) (aH yh k rM) (by kernel_rfl) (MN Tryd.underlying33 hu8 hs8 rfl k rfl rfl hkc hc0 _) ?_
 clear HF; intro a HF; replace HF := HF.sub [(5, aH yh x.img.file.length rM), (29, aH yh k rM)] (by kernel_rfl)
 have hrk := xE (HM.nG (i := 0) rfl DF.tk) k
 rw [← List.map_take] at hrk
 refine bn HF (by kernel_rfl) 31 #[aH yh k rM] (by kernel_rfl) (fun w => by kernel_rfl) (Calls.mono (Nj x.img.file x.img.file.length rfl x.img.wide x.img.big x.img.abi x.img.aC x.img.ty x.img.machine x.img.entry (fB x.img.wide) x.img.cZ.length x.img.kJ x.img.all.length (GZ x.img) (Du x.img) (Hl x.img) (BJ rP) (by rw [dG.yF, Nat.mul_comm]; exact Nat.le_refl _) k (by omega) _ _ hkc (by have hq := dG.Ok.length_le rP; omega) w3 hrk ea (HM.row hE)) ?_)
 rintro _ w4 ⟨rfl, hb⟩
 replace HM := HM.call hb
 clear hb
 refine ⟨_, rfl, ?_⟩; clear HF; intro a HF
 obtain ⟨DN, Hr⟩ : ∃ z, w4.heap.size = z := ⟨_, rfl⟩
 refine aO HF HM Hr 6 [[2]] [(5, aH yh x.img.file.length rM), (7, .bool false)] [(DN, .cells #[aA 0, aA 0, aA 0, aA 0, aA 0, aA 0, aA 0, bD 0] 48 (0, 0)), (yh, .cells KN 5 (0, 0)), wM z1 x] (by kernel_rfl) fun a w HF HM => ?_
 clear Hr
 refine dK ?_
 refine wp_pure HF HM rfl 1 [] [(7, .bool false), (34, aH yh x.img.file.length rM)] (by kernel_rfl) fun a HF => ?_
 refine bn HF (by kernel_rfl) 31 #[aH yh x.img.file.length rM] (by kernel_rfl) (fun w => by kernel_rfl) (Calls.mono (Nk x.img.file _ _ _ rfl DF.nc x.img.wide x.img.big x.img.abi x.img.aC x.img.ty x.img.machine x.img.entry (fB x.img.wide) x.img.cZ.length x.img.kJ x.img.all.length (GZ x.img) (Du x.img) (Hl x.img) (BJ rP) (by have hq := dG.Ok.length_le rP; omega) w (HM.nG (i := 1) rfl DF.tk)) ?_)
 rintro _ w5 ⟨rfl, hb⟩
 replace HM := HM.call hb
 clear hb
 refine ⟨_, rfl, ?_⟩; clear HF; intro a HF
 try simp only [aB, aJ, aA, bD, aZ] at HF
 rw [show ((x.img.ty : Nat) : Int) = x.ty from Int.toNat_of_nonneg ok.ty0, show ((x.img.machine : Nat) : Int) = x.machine from Int.toNat_of_nonneg ok.mc0] at HF
 obtain ⟨z18, hz18⟩ : ∃ z, w5.heap.size = z := ⟨_, rfl⟩
 refine aO HF HM hz18 6 [[3]] [(7, .bool false), (9, .bool true)] [(z18, .cells #[aA (if x.wide then 2 else 1), aA (if x.big then 2 else 1), aA 1, aB x.abi, aB x.aC, .int .i64 x.ty, .int .i64 x.machine, aJ x.entry] 48 (0, 0)), (DN, .cells #[aA 0, aA 0, aA 0, aA 0, aA 0, aA 0, aA 0, bD 0] 48 (0, 0)), (yh, .cells KN 5 (0, 0)), wM z1 x] (by kernel_rfl) fun a w HF HM => ?_
 clear hz18
 refine dK ?_
 refine wp_pure HF HM rfl 6 [] [(4, .bool true)] (by kernel_rfl) fun a HF => ?_
 refine aI ?_
 refine wp_ret ?_
 repeat first | refine cu ?_ | refine dw ?_
 exact dI HF rfl rfl ⟨rfl, HM.below⟩

end Go.Proofs.YtdgehpocmfjbiaaDoor
namespace Go.Proofs.YtdgehpocmfjbiaaDoor.fnCut
open Go Go.ChangeShapes Go.WideShapes Go.ChangeAt Go.RowKit Go.Deep

theorem own : ownKnob Tryd.prog.godebug = none := by kernel_rfl
theorem laidOut : laidOutB Tryd.prog = true := by kernel_rfl
theorem door_met (os : Os) (args : Array Value) : laidMetH Tryd.prog Rows.fnCutRow.laid ((World.doorLaid Tryd.prog 123 os).forCall (fun _ _ => 0) ⟨#[], args, []⟩).memory :=
  laidMetH_of_parts3 (fuel := 8) (laidMet_of_run' 8 (by kernel_rfl) (by kernel_rfl)) (by kernel_rfl) (by kernel_rfl)

set_option maxRecDepth 100000 in
theorem lifted (os : Os) (started : os.Started) (H : Type) (enc : TypeId × Value → H) :
    ReturnsInHanded {} Tryd.checked os 6 .any (fun w args => (Rows.fnCutSpec.pre enc Tryd.prog Tryd.f6 [] false w args ∧ laidMetH Tryd.prog Rows.fnCutRow.laid w) ∧ sizedMet enc Tryd.prog Tryd.f6 (OpenSpec.ofChange Rows.fnCutSpec) false w args)
      (Rows.fnCutSpec.post enc Tryd.prog Tryd.f6 false true false false) := by
  refine returnsInHanded_of_change_and (C := Tryd.checked) (X := fun w _ => laidMetH Tryd.prog Rows.fnCutRow.laid w) (fun _ _ _ hh h => h.of_heap hh) own started (by kernel_rfl) Tryd.func6
    (ChangeSpec.witness_shaped (enc := enc) (C := Tryd.checked) (os := os) (X := fun w _ => laidMetH Tryd.prog Rows.fnCutRow.laid w) false (World.doorLaid Tryd.prog 123 os) #[.agg #[.bool false, .bool false, .int .u8 0, .int .u8 0, .int .i64 0, .int .i64 0, .int .u64 0, .slice none 0 0, .slice none 0 0], .int .i64 0] 8 rfl (World.shaped_of_RefB (by kernel_rfl) (by kernel_rfl)) (by kernel_rfl) (by kernel_rfl) (by kernel_rfl) (door_met os _)) ?_
  intro W base args ds gs before hval0 hW _ _ hL _
  have hval : ∀ (j : Nat) t v, Tryd.f6.params[j]? = some t → args[j]? = some v → Value.okWide Tryd.prog W .any base t v := hval0
  have hW' := hW
  obtain ⟨p, q, hA0, hV, rfl, hfz, hnd⟩ := hW
  have hA : DataW.TrodAll enc Tryd.prog W 0 (fun _ => true) true Tryd.f6.params.toList args.toList ds p := hA0
  rw [Tryd.params6] at hA hval
  obtain ⟨v0, vs0, d0, ds0, p0, q0, hargs, rfl, rfl, h0, r0⟩ := trodAll_cons hA
  obtain ⟨v1, vs1, d1, ds1, p1, q1, rfl, rfl, rfl, h1, r1⟩ := trodAll_cons r0
  obtain ⟨rfl, rfl, rfl⟩ := trodAll_nil r1
  obtain rfl : args = #[v0, v1] := by cases args; simp_all
  obtain ⟨rfl, rfl⟩ := trodVars_none hV
  have k0 := h0
  have lt0 : ∀ x ∈ p0, x.block < W.heap.size := by obtain ⟨m, hm⟩ := k0; exact DataW.trod_lt m _ _ _ hm
  have k1 := h1
  have lt1 : ∀ x ∈ p1, x.block < W.heap.size := by obtain ⟨m, hm⟩ := k1; exact DataW.trod_lt m _ _ _ hm
  obtain ⟨x0, rfl, hx0⟩ := MV (hval 0 26 v0 rfl rfl) h0
  obtain ⟨a1, rfl, -, -, z1⟩ := open_int Tryd.underlying3 (hval 1 3 v1 rfl rfl) h1
  have q1 := bounds_i64 z1
  clear hA0 hval0
  obtain ⟨ea, hE⟩ := Nr (by kernel_rfl) hL
  refine (Oa x0 a1 W hx0 q1 ea hE).mono fun e W' ⟨he, bel⟩ => ?_
  subst he
  exact ⟨_, rfl, _, _, _, [], _, [], hW', trodAll_mk1 (shut_bool Tryd.underlying4 _), (trodAll_cons_mk (Below.trod laidOut (by kernel_rfl) (of_decide_eq_true (by kernel_rfl)) k0 bel lt0) (trodAll_cons_mk (Below.trod laidOut (by kernel_rfl) (of_decide_eq_true (by kernel_rfl)) k1 bel lt1) trodAll_mk0)), rfl, bel.frame _, fun h => by cases h⟩

set_option maxRecDepth 100000 in
theorem Ou : joinedFacts Tryd.pinned.checked.prog 6 Tryd.f6 Rows.fnCutSpec Rows.fnCutRow = true := (and_t (and_t (and_t (and_t (and_t (and_t (and_t (and_t (and_t (and_t (and_t (and_t (and_t (and_t (and_t (and_t (and_t (and_t (and_t (and_t (and_t (and_t (and_t (and_t (and_t (and_t (and_t (and_t (and_t (and_t (and_t l0 l1) l2) l3) l4) l5) l6) l7) l8) l9) l10) l11) l12) l13) l14) l15) l16) l17) l18) l19) l20) l21) l22) l23) l24) l25) l26) l27) l28) l29) l30) l31)

theorem over : Rows.FnCutSaid :=
  OpenClaim.holds_of_wide 6 Tryd.f6 rfl rfl rfl rfl rfl rfl rfl ⟨rfl, rfl, rfl, rfl, rfl⟩ rfl rfl rfl rfl rfl c5 Tryd.func6 Ou
    (of_decide_eq_true (by kernel_rfl)) (by unfold Func.isWrapper; first | (rw [if_pos (by decide +kernel)]; kernel_rfl) | (rw [if_neg (by decide +kernel)]; exact ⟨rfl, rfl⟩))
    (fun os started H enc _ => lifted os started H enc)

theorem proved : Rows.FnCutCardSaid :=
  Claim7.holds_tied_plain_at .later [] [.sentinel, .sentinel, .sentinel, .sentinel, .sentinel] true (true, "ed888367449acd6afd80057b2906ce1b79ec16b7beef13a0a9ac5f630eedede4") true
    over (fun _ h => by cases h) c1 (fun _ h => by cases h) fnCut_row_tie rfl ⟨rfl, rfl⟩ qc4 rfl
    (fun f fn hf hfn => by
      obtain rfl : f = 6 := Option.some.inj (c5.symm.trans hf) |>.symm
      obtain rfl : fn = Tryd.f6 := (Option.some.inj (Tryd.func6.symm.trans hfn)).symm
      exact ⟨qc2, fun j t ht => by
        rw [Tryd.params6] at ht
        have hm : t ∈ [26, 3] := by simpa using Array.mem_of_getElem? ht
        have hall : ([26, 3].all fun u => !Tryd.prog.wantsStandIn u) = true := by kernel_rfl
        exact (show Tryd.prog.wantsStandIn t = false by simpa using List.all_eq_true.1 hall t hm)⟩)
    c3
#print axioms proved
end Go.Proofs.YtdgehpocmfjbiaaDoor.fnCut
