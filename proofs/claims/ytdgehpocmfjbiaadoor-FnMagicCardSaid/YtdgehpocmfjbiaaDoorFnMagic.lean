/- Proved: there is an error if one of the first four bytes is another one, or the class, the order of bytes or the version is none, at every argument. N -/
import Derived.Test.YtdgehpocmfjbiaaDoorTc
import Derived.Test.YtdgehpocmfjbiaaDoorTd
import Derived.Test.YtdgehpocmfjbiaaDoorTf
import Derived.Test.YtdgehpocmfjbiaaDoorTh
import Derived.Test.YtdgehpocmfjbiaaDoorTg
import Derived.Test.YtdgehpocmfjbiaaDoorCards
import Derived.Test.YtdgehpocmfjbiaaDoorTie
import Derived.Test.YtdgehpocmfjbiaaDoorFnMagicJ
import Derived.Test.YtdgehpocmfjbiaaDoorFnMagicJC
import Derived.LaidMore
import Derived.LaidLaws
import Derived.Stop.Joined
import Derived.SevenTiedAt
import Derived.ProofKit
import Derived.OpenShut
import Derived.ShutString
import Derived.ChangeOld
import Derived.Below
set_option linter.unusedVariables false
set_option linter.unusedSimpArgs false
set_option maxRecDepth 100000
set_option maxHeartbeats 2000000
namespace Go.Proofs.YtdgehpocmfjbiaaDoor
open Go.RowKit
theorem LC {l : List UInt8} {i0 i1 i2 i3 i4 i5 i6 i7 i8 i9 jV i11 i12 jU jT jS : UInt8} (h : l.take 16 = [i0, i1, i2, i3, i4, i5, i6, i7, i8, i9, jV, i11, i12, jU, jT, jS]) : (((l.drop 0).take 16).map Bv).toArray = #[aV i0.toNat, aV i1.toNat, aV i2.toNat, aV i3.toNat, aV i4.toNat, aV i5.toNat, aV i6.toNat, aV i7.toNat, aV i8.toNat, aV i9.toNat, aV jV.toNat, aV i11.toNat, aV i12.toNat, aV jU.toNat, aV jT.toNat, aV jS.toNat] := by
 rw [List.drop_zero, h]; rfl

abbrev bZ := fun s (b : Nat) (o : Nat) (n : Nat) (c : Nat) => ((s, .cells #[.iface 178 (.slice (some ⟨b, o, none⟩) n c), ay 0, ay 0, ay 9223372036854775807, ay 9223372036854775807] 246 (0, 0)) : Nat × Obj)
abbrev bT := fun (b : Nat) (o : Nat) (n : Nat) (c : Nat) s => ([(0, .iface 178 (.slice (some ⟨b, o, none⟩) n c)), (4, aC s)] : Slots)
abbrev dw := fun z4 (i0 : UInt8) (i1 : UInt8) (i2 : UInt8) (i3 : UInt8) (i4 : UInt8) (i5 : UInt8) (i6 : UInt8) (i7 : UInt8) (i8 : UInt8) (i9 : UInt8) (jV : UInt8) (i11 : UInt8) (i12 : UInt8) (jU : UInt8) (jT : UInt8) (jS : UInt8) => ((z4, .cells #[aV i0.toNat, aV i1.toNat, aV i2.toNat, aV i3.toNat, aV i4.toNat, aV i5.toNat, aV i6.toNat, aV i7.toNat, aV i8.toNat, aV i9.toNat, aV jV.toNat, aV i11.toNat, aV i12.toNat, aV jU.toNat, aV jT.toNat, aV jS.toNat] 205 (0, 0)) : Nat × Obj)
abbrev qZ := fun z4 => ([(2, .pointer none), (94, .agg #[ay 0, .string (⟨#[98, 97, 100, 32, 109, 97, 103, 105, 99, 32, 110, 117, 109, 98, 101, 114]⟩ : ByteArray), .iface 33 (aH z4 4 16)])] : Slots)
abbrev uz := fun z17 (i4 : UInt8) => ((z17, .cells #[aV i4.toNat, aK 0, aK 0, aK 0, aK 0, aK 0, .int .u16 0, .int .u16 0, bG 0, aN, aN, aN, aN, aN] 131 (0, 0)) : Nat × Obj)
abbrev lS := fun z17 (i4 : UInt8) (i5 : UInt8) => ((z17, .cells #[aV i4.toNat, aV i5.toNat, aK 0, aK 0, aK 0, aK 0, .int .u16 0, .int .u16 0, bG 0, aN, aN, aN, aN, aN] 131 (0, 0)) : Nat × Obj)
abbrev nZ := fun z17 (i4 : UInt8) (i5 : UInt8) (i6 : UInt8) => ((z17, .cells #[aV i4.toNat, aV i5.toNat, aV i6.toNat, aK 0, aK 0, aK 0, .int .u16 0, .int .u16 0, bG 0, aN, aN, aN, aN, aN] 131 (0, 0)) : Nat × Obj)
abbrev ru := fun (i6 : UInt8) => ((169, .agg #[ay 0, .string (⟨#[117, 110, 107, 110, 111, 119, 110, 32, 69, 76, 70, 32, 118, 101, 114, 115, 105, 111, 110]⟩ : ByteArray), .iface 118 (aV i6.toNat)]) : Nat × Value)
abbrev yA := fun z17 (i4 : UInt8) (i5 : UInt8) => ((z17, .cells #[aV i4.toNat, aV i5.toNat, aK 0, aK 0, aK 0, aK 1, .int .u16 0, .int .u16 0, bG 0, aN, aN, aN, aN, aN] 131 (0, 0)) : Nat × Obj)
abbrev nY := fun z17 (i4 : UInt8) (i5 : UInt8) (i6 : UInt8) => ((z17, .cells #[aV i4.toNat, aV i5.toNat, aV i6.toNat, aK 0, aK 0, aK 1, .int .u16 0, .int .u16 0, bG 0, aN, aN, aN, aN, aN] 131 (0, 0)) : Nat × Obj)
abbrev xP := fun (i5 : UInt8) => ((139, .agg #[ay 0, .string (⟨#[117, 110, 107, 110, 111, 119, 110, 32, 69, 76, 70, 32, 100, 97, 116, 97, 32, 101, 110, 99, 111, 100, 105, 110, 103]⟩ : ByteArray), .iface 117 (aV i5.toNat)]) : Nat × Value)
theorem H9 (l : List UInt8) (b o n c : Nat) (hl : n = l.length) (hnc : n ≤ c) (hn : 16 ≤ n) (i0 i1 i2 i3 i4 i5 i6 i7 i8 i9 jV i11 i12 jU jT jS : UInt8) (hid : l.take 16 = [i0, i1, i2, i3, i4, i5, i6, i7, i8, i9, jV, i11, i12, jU, jT, jS]) (hbad : ¬ (i0.toNat = 127 ∧ i1.toNat = 69 ∧ i2.toNat = 76 ∧ i3.toNat = 70 ∧ (i4.toNat = 1 ∨ i4.toNat = 2) ∧ (i5.toNat = 1 ∨ i5.toNat = 2) ∧ i6.toNat = 1)) (w0 : World) (hbl : b < w0.heap.size) (hr : Row w0 (some ⟨b, o, none⟩) (l.map Bv)) : Calls Tryd.prog 78 #[.iface 178 (.slice (some ⟨b, o, none⟩) n c)] w0 fun e w' => ∃ v, e = .returned (.tuple #[.pointer none, .iface 206 v]) ∧ Below w0.heap.size w0 w' := by
 obtain ⟨w, hw⟩ : ∃ w, w0 = w := ⟨_, rfl⟩
 have HM : Mm [] w0 w [] := hw ▸ Mm.start w0
 conv => arg 4; rw [hw]
 clear hw
 refine dD (c := spine Tryd.f78 0) Tryd.func78 rfl Tryd.ntmps78 [(0, .iface 178 (.slice (some ⟨b, o, none⟩) n c))] (by kernel_rfl) (Nat.le_of_ble_eq_true rfl) ?_
 intro a HF
 refine aY ?_
 refine wp_pure HF HM rfl 2 [] [(0, .iface 178 (.slice (some ⟨b, o, none⟩) n c))] (by kernel_rfl) fun a HF => ?_
 refine dM ?_
 refine wp_pure HF HM rfl 1 [] [(0, .iface 178 (.slice (some ⟨b, o, none⟩) n c)), (57, .iface 178 (.slice (some ⟨b, o, none⟩) n c))] (by kernel_rfl) fun a HF => ?_
 refine bn HF (by kernel_rfl) 92 #[.iface 178 (.slice (some ⟨b, o, none⟩) n c), ay 0, ay 9223372036854775807] (by kernel_rfl) (fun w => by kernel_rfl) (Calls.mono (nX 178 (.slice (some ⟨b, o, none⟩) n c) 0 9223372036854775807 (by omega) (by omega) (by omega) w) ?_)
 rintro _ w1 ⟨s, rfl, hb, hge, hgn⟩
 replace HM : Mm [] w0 w1 [bZ s b o n c] := HM.push hb hge hgn
 clear hb hge hgn
 refine ⟨_, rfl, ?_⟩; clear HF; intro a HF
 refine wp_pure HF HM rfl 1 [] (bT b o n c s) (by kernel_rfl) fun a HF => ?_
 refine dM ?_
 obtain ⟨z4, nH⟩ : ∃ z, w1.heap.size = z := ⟨_, rfl⟩
 refine aO HF HM nH 1 [] ((bT b o n c s) ++ [(5, aC z4)]) [(z4, .cells #[aK 0, aK 0, aK 0, aK 0, aK 0, aK 0, aK 0, aK 0, aK 0, aK 0, aK 0, aK 0, aK 0, aK 0, aK 0, aK 0] 205 (0, 0)), bZ s b o n c] (by kernel_rfl) fun a w HF HM => ?_
 clear nH
 refine aI ?_
 refine wp_seq ?_
 refine jO HM (by kernel_rfl) [bZ s b o n c] [(0, false), (1, false), (2, false), (3, false), (4, false), (5, true), (6, false), (7, false), (8, false), (9, false), (10, false)] (by kernel_rfl) fun w2 HM => ?_
 refine bD HF (HM.told [1] rfl) 5 [] ((bT b o n c s) ++ [(5, aC z4), (61, aH z4 16 16), (64, .iface 178 (.slice (some ⟨b, o, none⟩) n c))]) (by kernel_rfl) fun a HF => ?_
 refine bQ rfl ?_
 have hbi : b ≠ z4 := fun e => absurd hbl (Nat.not_lt_of_le (e ▸ HM.ge (i := 0) rfl))
 refine bn HF (by kernel_rfl) 127 #[.slice (some ⟨b, o, none⟩) n c, aH z4 16 16, aA 0] (by kernel_rfl) (fun w => by kernel_rfl) (Calls.mono (qh l b o n c hl hnc z4 #[aK 0, aK 0, aK 0, aK 0, aK 0, aK 0, aK 0, aK 0, aK 0, aK 0, aK 0, aK 0, aK 0, aK 0, aK 0, aK 0] 205 16 16 rfl 0 (by omega) (by omega) w2 (HM.row hr (by intro b' o' s' _; simp)) hbi (HM.get (i := 0) rfl)) ?_)
 rintro _ w3 ⟨rfl, hkp, hgn⟩
 rw [LC hid] at hgn
 replace HM : Mm [] w0 w3 [dw z4 i0 i1 i2 i3 i4 i5 i6 i7 i8 i9 jV i11 i12 jU jT jS, bZ s b o n c] := HM.put (i := 0) rfl hgn hkp
 clear hkp hgn
 refine ⟨_, rfl, ?_⟩; clear HF; intro a HF
 replace HF := HF.sub ((bT b o n c s) ++ [(5, aC z4), (65, .tuple #[aA 16, .nilIface])]) (by kernel_rfl)
 refine cZ (HM.told [1] rfl) ?_
 refine bD HF (HM.told [1] rfl) 5 [] ((bT b o n c s) ++ [(5, aC z4), (7, .nilIface)]) (by kernel_rfl) fun a HF => ?_
 refine iP ?_
 refine aQ ?_
 refine aY ?_
 refine wp_pure HF HM rfl 2 [] ((bT b o n c s) ++ [(5, aC z4), (7, .nilIface), (69, .bool false)]) (by kernel_rfl) fun a HF => ?_
 refine aI ?_
 refine aZ HF rfl ?_
 refine wp_skip ?_
 repeat first | refine aQ ?_ | refine aU ?_
 refine wp_seq ?_
 refine aY ?_
 refine wp_pure HF HM rfl 4 [[1]] ((bT b o n c s) ++ [(5, aC z4), (77, .bool (((i0.toNat : Nat) : Int) != 127))]) (by kernel_rfl) fun a HF => ?_
 by_cases hc1 : ((i0.toNat : Nat) : Int) ≠ 127
 ·rw [show (((i0.toNat : Nat) : Int) != 127) = true from uI (hc1)] at HF
  refine wp_pure HF HM rfl 14 [] ((bT b o n c s) ++ [(5, aC z4), (91, .bool true)]) (by kernel_rfl) fun a HF => ?_
  refine aI ?_
  refine bF HF rfl ?_
  refine jO HM (by kernel_rfl) [dw z4 i0 i1 i2 i3 i4 i5 i6 i7 i8 i9 jV i11 i12 jU jT jS, bZ s b o n c] [(0, false), (1, false), (2, false), (5, false), (3, true), (4, false), (6, false)] (by kernel_rfl) fun w4 HM => ?_
  refine bD HF (HM.told [0, 1] rfl) 4 [] (qZ z4) (by kernel_rfl) fun a HF => ?_
  refine bQ rfl ?_
  obtain ⟨z8, hz8⟩ : ∃ z, w4.heap.size = z := ⟨_, rfl⟩
  refine aO HF HM hz8 1 [] [(2, .pointer none), (95, aC z8)] [(z8, .cells #[ay 0, .string (⟨#[98, 97, 100, 32, 109, 97, 103, 105, 99, 32, 110, 117, 109, 98, 101, 114]⟩ : ByteArray), .iface 33 (aH z4 4 16)] 208 (0, 0)), dw z4 i0 i1 i2 i3 i4 i5 i6 i7 i8 i9 jV i11 i12 jU jT jS, bZ s b o n c] (by kernel_rfl) fun a w HF HM => ?_
  clear hz8
  refine cZ (HM.told [1, 2] rfl) ?_
  refine bD HF (HM.told [1, 2] rfl) 2 [] [(2, .pointer none), (3, .iface 206 (aC z8))] (by kernel_rfl) fun a HF => ?_
  refine iP ?_
  refine aQ ?_
  refine wp_ret ?_
  repeat first | refine bV ?_ | refine dh ?_
  exact jk HF rfl rfl rfl ⟨_, rfl, HM.below⟩
 rw [show (((i0.toNat : Nat) : Int) != 127) = false from B_ (hc1)] at HF
 refine wp_pure HF HM rfl 5 [[1]] ((bT b o n c s) ++ [(5, aC z4), (82, .bool (((i1.toNat : Nat) : Int) != 69))]) (by kernel_rfl) fun a HF => ?_
 by_cases hc2 : ((i1.toNat : Nat) : Int) ≠ 69
 ·rw [show (((i1.toNat : Nat) : Int) != 69) = true from uI (hc2)] at HF
  refine wp_pure HF HM rfl 9 [] ((bT b o n c s) ++ [(5, aC z4), (91, .bool true)]) (by kernel_rfl) fun a HF => ?_
  refine aI ?_
  refine bF HF rfl ?_
  refine jO HM (by kernel_rfl) [dw z4 i0 i1 i2 i3 i4 i5 i6 i7 i8 i9 jV i11 i12 jU jT jS, bZ s b o n c] [(0, false), (1, false), (2, false), (5, false), (3, true), (4, false), (6, false)] (by kernel_rfl) fun w5 HM => ?_
  refine bD HF (HM.told [0, 1] rfl) 4 [] (qZ z4) (by kernel_rfl) fun a HF => ?_
  refine bQ rfl ?_
  obtain ⟨z11, Gn⟩ : ∃ z, w5.heap.size = z := ⟨_, rfl⟩
  refine aO HF HM Gn 1 [] [(2, .pointer none), (95, aC z11)] [(z11, .cells #[ay 0, .string (⟨#[98, 97, 100, 32, 109, 97, 103, 105, 99, 32, 110, 117, 109, 98, 101, 114]⟩ : ByteArray), .iface 33 (aH z4 4 16)] 208 (0, 0)), dw z4 i0 i1 i2 i3 i4 i5 i6 i7 i8 i9 jV i11 i12 jU jT jS, bZ s b o n c] (by kernel_rfl) fun a w HF HM => ?_
  clear Gn
  refine cZ (HM.told [1, 2] rfl) ?_
  refine bD HF (HM.told [1, 2] rfl) 2 [] [(2, .pointer none), (3, .iface 206 (aC z11))] (by kernel_rfl) fun a HF => ?_
  refine iP ?_
  refine aQ ?_
  refine wp_ret ?_
  repeat first | refine bV ?_ | refine dh ?_
  exact jk HF rfl rfl rfl ⟨_, rfl, HM.below⟩
 rw [show (((i1.toNat : Nat) : Int) != 69) = false from B_ (hc2)] at HF
 refine wp_pure HF HM rfl 5 [[1]] ((bT b o n c s) ++ [(5, aC z4), (87, .bool (((i2.toNat : Nat) : Int) != 76))]) (by kernel_rfl) fun a HF => ?_
 by_cases hc3 : ((i2.toNat : Nat) : Int) ≠ 76
 ·rw [show (((i2.toNat : Nat) : Int) != 76) = true from uI (hc3)] at HF
  refine wp_pure HF HM rfl 4 [] ((bT b o n c s) ++ [(5, aC z4), (91, .bool true)]) (by kernel_rfl) fun a HF => ?_
  refine aI ?_
  refine bF HF rfl ?_
  refine jO HM (by kernel_rfl) [dw z4 i0 i1 i2 i3 i4 i5 i6 i7 i8 i9 jV i11 i12 jU jT jS, bZ s b o n c] [(0, false), (1, false), (2, false), (5, false), (3, true), (4, false), (6, false)] (by kernel_rfl) fun w6 HM => ?_
  refine bD HF (HM.told [0, 1] rfl) 4 [] (qZ z4) (by kernel_rfl) fun a HF => ?_
  refine bQ rfl ?_
  obtain ⟨FH, Gl⟩ : ∃ z, w6.heap.size = z := ⟨_, rfl⟩
  refine aO HF HM Gl 1 [] [(2, .pointer none), (95, aC FH)] [(FH, .cells #[ay 0, .string (⟨#[98, 97, 100, 32, 109, 97, 103, 105, 99, 32, 110, 117, 109, 98, 101, 114]⟩ : ByteArray), .iface 33 (aH z4 4 16)] 208 (0, 0)), dw z4 i0 i1 i2 i3 i4 i5 i6 i7 i8 i9 jV i11 i12 jU jT jS, bZ s b o n c] (by kernel_rfl) fun a w HF HM => ?_
  clear Gl
  refine cZ (HM.told [1, 2] rfl) ?_
  refine bD HF (HM.told [1, 2] rfl) 2 [] [(2, .pointer none), (3, .iface 206 (aC FH))] (by kernel_rfl) fun a HF => ?_
  refine iP ?_
  refine aQ ?_
  refine wp_ret ?_
  repeat first | refine bV ?_ | refine dh ?_
  exact jk HF rfl rfl rfl ⟨_, rfl, HM.below⟩
 rw [show (((i2.toNat : Nat) : Int) != 76) = false from B_ (hc3)] at HF
 refine wp_pure HF HM rfl 4 [[1]] ((bT b o n c s) ++ [(5, aC z4), (91, .bool (((i3.toNat : Nat) : Int) != 70))]) (by kernel_rfl) fun a HF => ?_
 refine aI ?_
 by_cases hc4 : ((i3.toNat : Nat) : Int) ≠ 70
 ·rw [show (((i3.toNat : Nat) : Int) != 70) = true from uI (hc4)] at HF
  refine bF HF rfl ?_
  refine jO HM (by kernel_rfl) [dw z4 i0 i1 i2 i3 i4 i5 i6 i7 i8 i9 jV i11 i12 jU jT jS, bZ s b o n c] [(0, false), (1, false), (2, false), (5, false), (3, true), (4, false), (6, false)] (by kernel_rfl) fun w7 HM => ?_
  refine bD HF (HM.told [0, 1] rfl) 4 [] (qZ z4) (by kernel_rfl) fun a HF => ?_
  refine bQ rfl ?_
  obtain ⟨Cj, Gj⟩ : ∃ z, w7.heap.size = z := ⟨_, rfl⟩
  refine aO HF HM Gj 1 [] [(2, .pointer none), (95, aC Cj)] [(Cj, .cells #[ay 0, .string (⟨#[98, 97, 100, 32, 109, 97, 103, 105, 99, 32, 110, 117, 109, 98, 101, 114]⟩ : ByteArray), .iface 33 (aH z4 4 16)] 208 (0, 0)), dw z4 i0 i1 i2 i3 i4 i5 i6 i7 i8 i9 jV i11 i12 jU jT jS, bZ s b o n c] (by kernel_rfl) fun a w HF HM => ?_
  clear Gj
  refine cZ (HM.told [1, 2] rfl) ?_
  refine bD HF (HM.told [1, 2] rfl) 2 [] [(2, .pointer none), (3, .iface 206 (aC Cj))] (by kernel_rfl) fun a HF => ?_
  refine iP ?_
  refine aQ ?_
  refine wp_ret ?_
  repeat first | refine bV ?_ | refine dh ?_
  exact jk HF rfl rfl rfl ⟨_, rfl, HM.below⟩
 rw [show (((i3.toNat : Nat) : Int) != 70) = false from B_ (hc4)] at HF
 refine aZ HF rfl ?_
 refine wp_skip ?_
 repeat first | refine aQ ?_ | refine aU ?_
 refine aY ?_
 obtain ⟨z17, hz17⟩ : ∃ z, w3.heap.size = z := ⟨_, rfl⟩
 refine aO HF HM hz17 2 [] ((bT b o n c s) ++ [(5, aC z4), (8, aC z17)]) [(z17, .cells #[aK 0, aK 0, aK 0, aK 0, aK 0, aK 0, .int .u16 0, .int .u16 0, bG 0, aN, aN, aN, aN, aN] 131 (0, 0)), dw z4 i0 i1 i2 i3 i4 i5 i6 i7 i8 i9 jV i11 i12 jU jT jS, bZ s b o n c] (by kernel_rfl) fun a w HF HM => ?_
 clear hz17
 refine dM ?_
 refine aO HF HM rfl 7 [[1], [2]] ((bT b o n c s) ++ [(5, aC z4), (8, aC z17)]) [uz z17 i4, dw z4 i0 i1 i2 i3 i4 i5 i6 i7 i8 i9 jV i11 i12 jU jT jS, bZ s b o n c] (by kernel_rfl) fun a w HF HM => ?_
 refine aI ?_
 refine wp_seq ?_
 refine aY ?_
 refine wp_pure HF HM rfl 5 [[2]] ((bT b o n c s) ++ [(5, aC z4), (8, aC z17), (108, aV i4.toNat)]) (by kernel_rfl) fun a HF => ?_
 refine aI ?_
 refine wp_block ?_
 refine aY ?_
 refine wp_pure HF HM rfl 2 [] ((bT b o n c s) ++ [(5, aC z4), (8, aC z17), (108, aV i4.toNat), (118, .bool (((i4.toNat : Nat) : Int) == 1))]) (by kernel_rfl) fun a HF => ?_
 refine aI ?_
 by_cases hc5 : ((i4.toNat : Nat) : Int) = 1
 ·rw [show (((i4.toNat : Nat) : Int) == 1) = true from oz (hc5)] at HF
  refine bF HF rfl ?_
  refine wp_skip ?_
  repeat first | refine aQ ?_ | refine aU ?_
  refine aY ?_
  refine aO HF HM rfl 7 [[1], [2]] ((bT b o n c s) ++ [(5, aC z4), (8, aC z17)]) [lS z17 i4 i5, dw z4 i0 i1 i2 i3 i4 i5 i6 i7 i8 i9 jV i11 i12 jU jT jS, bZ s b o n c] (by kernel_rfl) fun a w HF HM => ?_
  refine dM ?_
  refine wp_pure HF HM rfl 1 [] ((bT b o n c s) ++ [(5, aC z4), (8, aC z17)]) (by kernel_rfl) fun a HF => ?_
  refine aI ?_
  refine wp_seq ?_
  refine aY ?_
  refine wp_pure HF HM rfl 5 [[2]] ((bT b o n c s) ++ [(5, aC z4), (8, aC z17), (132, aV i5.toNat)]) (by kernel_rfl) fun a HF => ?_
  refine aI ?_
  refine wp_block ?_
  refine aY ?_
  refine wp_pure HF HM rfl 2 [] ((bT b o n c s) ++ [(5, aC z4), (8, aC z17), (132, aV i5.toNat), (142, .bool (((i5.toNat : Nat) : Int) == 1))]) (by kernel_rfl) fun a HF => ?_
  refine aI ?_
  by_cases hc6 : ((i5.toNat : Nat) : Int) = 1
  ·rw [show (((i5.toNat : Nat) : Int) == 1) = true from oz (hc6)] at HF
   refine bF HF rfl ?_
   refine wp_region_lit ?_
   refine wp_pure HF HM rfl 1 [] ((bT b o n c s) ++ [(5, aC z4), (8, aC z17), (9, aK 0)]) (by kernel_rfl) fun a HF => ?_
   refine wpList_nil ?_
   repeat first | refine aQ ?_ | refine aU ?_
   refine aY ?_
   refine aO HF HM rfl 6 [[2]] ((bT b o n c s) ++ [(5, aC z4), (8, aC z17), (9, aK 0)]) [lS z17 i4 i5, dw z4 i0 i1 i2 i3 i4 i5 i6 i7 i8 i9 jV i11 i12 jU jT jS, bZ s b o n c] (by kernel_rfl) fun a w HF HM => ?_
   refine dM ?_
   refine aO HF HM rfl 7 [[1], [2]] ((bT b o n c s) ++ [(5, aC z4), (8, aC z17), (9, aK 0)]) [nZ z17 i4 i5 i6, dw z4 i0 i1 i2 i3 i4 i5 i6 i7 i8 i9 jV i11 i12 jU jT jS, bZ s b o n c] (by kernel_rfl) fun a w HF HM => ?_
   refine aI ?_
   refine wp_seq ?_
   refine aY ?_
   refine wp_pure HF HM rfl 6 [[2]] ((bT b o n c s) ++ [(5, aC z4), (8, aC z17), (9, aK 0), (162, .bool (((i6.toNat : Nat) : Int) != 1))]) (by kernel_rfl) fun a HF => ?_
   refine aI ?_
   rw [show (((i6.toNat : Nat) : Int) != 1) = true from uI (by omega)] at HF
   refine bF HF rfl ?_
   refine jO HM (by kernel_rfl) [nZ z17 i4 i5 i6, dw z4 i0 i1 i2 i3 i4 i5 i6 i7 i8 i9 jV i11 i12 jU jT jS, bZ s b o n c] [(0, false), (1, false), (2, false), (3, false), (4, false), (5, false), (6, false), (9, false), (7, true), (8, false), (10, false)] (by kernel_rfl) fun w8 HM => ?_
   refine bD HF (HM.told [0, 1, 2] rfl) 8 [[2]] [(2, .pointer none), ru i6] (by kernel_rfl) fun a HF => ?_
   refine bQ rfl ?_
   obtain ⟨z29, hz29⟩ : ∃ z, w8.heap.size = z := ⟨_, rfl⟩
   refine aO HF HM hz29 1 [] [(2, .pointer none), (170, aC z29)] [(z29, .cells #[ay 0, .string (⟨#[117, 110, 107, 110, 111, 119, 110, 32, 69, 76, 70, 32, 118, 101, 114, 115, 105, 111, 110]⟩ : ByteArray), .iface 118 (aV i6.toNat)] 208 (0, 0)), nZ z17 i4 i5 i6, dw z4 i0 i1 i2 i3 i4 i5 i6 i7 i8 i9 jV i11 i12 jU jT jS, bZ s b o n c] (by kernel_rfl) fun a w HF HM => ?_
   clear hz29
   refine cZ (HM.told [1, 2, 3] rfl) ?_
   refine bD HF (HM.told [1, 2, 3] rfl) 2 [] [(2, .pointer none), (3, .iface 206 (aC z29))] (by kernel_rfl) fun a HF => ?_
   refine iP ?_
   refine aQ ?_
   refine wp_ret ?_
   repeat first | refine bV ?_ | refine dh ?_
   exact jk HF rfl rfl rfl ⟨_, rfl, HM.below⟩
  rw [show (((i5.toNat : Nat) : Int) == 1) = false from oO (hc6)] at HF
  refine aZ HF rfl ?_
  refine aY ?_
  refine wp_pure HF HM rfl 2 [] ((bT b o n c s) ++ [(5, aC z4), (8, aC z17), (144, .bool (((i5.toNat : Nat) : Int) == 2))]) (by kernel_rfl) fun a HF => ?_
  refine aI ?_
  by_cases EK : ((i5.toNat : Nat) : Int) = 2
  ·rw [show (((i5.toNat : Nat) : Int) == 2) = true from oz (EK)] at HF
   refine bF HF rfl ?_
   refine wp_region_lit ?_
   refine wp_pure HF HM rfl 1 [] ((bT b o n c s) ++ [(5, aC z4), (8, aC z17), (9, aK 1)]) (by kernel_rfl) fun a HF => ?_
   refine wpList_nil ?_
   repeat first | refine aQ ?_ | refine aU ?_
   refine aY ?_
   refine aO HF HM rfl 6 [[2]] ((bT b o n c s) ++ [(5, aC z4), (8, aC z17), (9, aK 1)]) [yA z17 i4 i5, dw z4 i0 i1 i2 i3 i4 i5 i6 i7 i8 i9 jV i11 i12 jU jT jS, bZ s b o n c] (by kernel_rfl) fun a w HF HM => ?_
   refine dM ?_
   refine aO HF HM rfl 7 [[1], [2]] ((bT b o n c s) ++ [(5, aC z4), (8, aC z17), (9, aK 1)]) [nY z17 i4 i5 i6, dw z4 i0 i1 i2 i3 i4 i5 i6 i7 i8 i9 jV i11 i12 jU jT jS, bZ s b o n c] (by kernel_rfl) fun a w HF HM => ?_
   refine aI ?_
   refine wp_seq ?_
   refine aY ?_
   refine wp_pure HF HM rfl 6 [[2]] ((bT b o n c s) ++ [(5, aC z4), (8, aC z17), (9, aK 1), (162, .bool (((i6.toNat : Nat) : Int) != 1))]) (by kernel_rfl) fun a HF => ?_
   refine aI ?_
   rw [show (((i6.toNat : Nat) : Int) != 1) = true from uI (by omega)] at HF
   refine bF HF rfl ?_
   refine jO HM (by kernel_rfl) [nY z17 i4 i5 i6, dw z4 i0 i1 i2 i3 i4 i5 i6 i7 i8 i9 jV i11 i12 jU jT jS, bZ s b o n c] [(0, false), (1, false), (2, false), (3, false), (4, false), (5, false), (6, false), (9, false), (7, true), (8, false), (10, false)] (by kernel_rfl) fun w9 HM => ?_
   refine bD HF (HM.told [0, 1, 2] rfl) 8 [[2]] [(2, .pointer none), ru i6] (by kernel_rfl) fun a HF => ?_
   refine bQ rfl ?_
   obtain ⟨z35, Gh⟩ : ∃ z, w9.heap.size = z := ⟨_, rfl⟩
   refine aO HF HM Gh 1 [] [(2, .pointer none), (170, aC z35)] [(z35, .cells #[ay 0, .string (⟨#[117, 110, 107, 110, 111, 119, 110, 32, 69, 76, 70, 32, 118, 101, 114, 115, 105, 111, 110]⟩ : ByteArray), .iface 118 (aV i6.toNat)] 208 (0, 0)), nY z17 i4 i5 i6, dw z4 i0 i1 i2 i3 i4 i5 i6 i7 i8 i9 jV i11 i12 jU jT jS, bZ s b o n c] (by kernel_rfl) fun a w HF HM => ?_
   clear Gh
   refine cZ (HM.told [1, 2, 3] rfl) ?_
   refine bD HF (HM.told [1, 2, 3] rfl) 2 [] [(2, .pointer none), (3, .iface 206 (aC z35))] (by kernel_rfl) fun a HF => ?_
   refine iP ?_
   refine aQ ?_
   refine wp_ret ?_
   repeat first | refine bV ?_ | refine dh ?_
   exact jk HF rfl rfl rfl ⟨_, rfl, HM.below⟩
  rw [show (((i5.toNat : Nat) : Int) == 2) = false from oO (EK)] at HF
  refine aZ HF rfl ?_
  refine jO HM (by kernel_rfl) [lS z17 i4 i5, dw z4 i0 i1 i2 i3 i4 i5 i6 i7 i8 i9 jV i11 i12 jU jT jS, bZ s b o n c] [(0, false), (1, false), (2, false), (3, false), (4, false), (5, false), (6, false), (9, false), (7, true), (8, false), (10, false)] (by kernel_rfl) fun w10 HM => ?_
  refine bD HF (HM.told [0, 1, 2] rfl) 8 [[2]] [(2, .pointer none), xP i5] (by kernel_rfl) fun a HF => ?_
  refine bQ rfl ?_
  obtain ⟨z36, hz36⟩ : ∃ z, w10.heap.size = z := ⟨_, rfl⟩
  refine aO HF HM hz36 1 [] [(2, .pointer none), (140, aC z36)] [(z36, .cells #[ay 0, .string (⟨#[117, 110, 107, 110, 111, 119, 110, 32, 69, 76, 70, 32, 100, 97, 116, 97, 32, 101, 110, 99, 111, 100, 105, 110, 103]⟩ : ByteArray), .iface 117 (aV i5.toNat)] 208 (0, 0)), lS z17 i4 i5, dw z4 i0 i1 i2 i3 i4 i5 i6 i7 i8 i9 jV i11 i12 jU jT jS, bZ s b o n c] (by kernel_rfl) fun a w HF HM => ?_
  clear hz36
  refine cZ (HM.told [1, 2, 3] rfl) ?_
  refine bD HF (HM.told [1, 2, 3] rfl) 2 [] [(2, .pointer none), (3, .iface 206 (aC z36))] (by kernel_rfl) fun a HF => ?_
  refine iP ?_
  refine aQ ?_
  refine wp_ret ?_
  repeat first | refine bV ?_ | refine dh ?_
  exact jk HF rfl rfl rfl ⟨_, rfl, HM.below⟩
 rw [show (((i4.toNat : Nat) : Int) == 1) = false from oO (hc5)] at HF
 refine aZ HF rfl ?_
 refine aY ?_
 refine wp_pure HF HM rfl 2 [] ((bT b o n c s) ++ [(5, aC z4), (8, aC z17), (120, .bool (((i4.toNat : Nat) : Int) == 2))]) (by kernel_rfl) fun a HF => ?_
 refine aI ?_
 by_cases hc8 : ((i4.toNat : Nat) : Int) = 2
 ·rw [show (((i4.toNat : Nat) : Int) == 2) = true from oz (hc8)] at HF
  refine bF HF rfl ?_
  refine wp_skip ?_
  repeat first | refine aQ ?_ | refine aU ?_
  refine aY ?_
  refine aO HF HM rfl 7 [[1], [2]] ((bT b o n c s) ++ [(5, aC z4), (8, aC z17)]) [lS z17 i4 i5, dw z4 i0 i1 i2 i3 i4 i5 i6 i7 i8 i9 jV i11 i12 jU jT jS, bZ s b o n c] (by kernel_rfl) fun a w HF HM => ?_
  refine dM ?_
  refine wp_pure HF HM rfl 1 [] ((bT b o n c s) ++ [(5, aC z4), (8, aC z17)]) (by kernel_rfl) fun a HF => ?_
  refine aI ?_
  refine wp_seq ?_
  refine aY ?_
  refine wp_pure HF HM rfl 5 [[2]] ((bT b o n c s) ++ [(5, aC z4), (8, aC z17), (132, aV i5.toNat)]) (by kernel_rfl) fun a HF => ?_
  refine aI ?_
  refine wp_block ?_
  refine aY ?_
  refine wp_pure HF HM rfl 2 [] ((bT b o n c s) ++ [(5, aC z4), (8, aC z17), (132, aV i5.toNat), (142, .bool (((i5.toNat : Nat) : Int) == 1))]) (by kernel_rfl) fun a HF => ?_
  refine aI ?_
  by_cases IQ : ((i5.toNat : Nat) : Int) = 1
  ·rw [show (((i5.toNat : Nat) : Int) == 1) = true from oz (IQ)] at HF
   refine bF HF rfl ?_
   refine wp_region_lit ?_
   refine wp_pure HF HM rfl 1 [] ((bT b o n c s) ++ [(5, aC z4), (8, aC z17), (9, aK 0)]) (by kernel_rfl) fun a HF => ?_
   refine wpList_nil ?_
   repeat first | refine aQ ?_ | refine aU ?_
   refine aY ?_
   refine aO HF HM rfl 6 [[2]] ((bT b o n c s) ++ [(5, aC z4), (8, aC z17), (9, aK 0)]) [lS z17 i4 i5, dw z4 i0 i1 i2 i3 i4 i5 i6 i7 i8 i9 jV i11 i12 jU jT jS, bZ s b o n c] (by kernel_rfl) fun a w HF HM => ?_
   refine dM ?_
   refine aO HF HM rfl 7 [[1], [2]] ((bT b o n c s) ++ [(5, aC z4), (8, aC z17), (9, aK 0)]) [nZ z17 i4 i5 i6, dw z4 i0 i1 i2 i3 i4 i5 i6 i7 i8 i9 jV i11 i12 jU jT jS, bZ s b o n c] (by kernel_rfl) fun a w HF HM => ?_
   refine aI ?_
   refine wp_seq ?_
   refine aY ?_
   refine wp_pure HF HM rfl 6 [[2]] ((bT b o n c s) ++ [(5, aC z4), (8, aC z17), (9, aK 0), (162, .bool (((i6.toNat : Nat) : Int) != 1))]) (by kernel_rfl) fun a HF => ?_
   refine aI ?_
   rw [show (((i6.toNat : Nat) : Int) != 1) = true from uI (by omega)] at HF
   refine bF HF rfl ?_
   refine jO HM (by kernel_rfl) [nZ z17 i4 i5 i6, dw z4 i0 i1 i2 i3 i4 i5 i6 i7 i8 i9 jV i11 i12 jU jT jS, bZ s b o n c] [(0, false), (1, false), (2, false), (3, false), (4, false), (5, false), (6, false), (9, false), (7, true), (8, false), (10, false)] (by kernel_rfl) fun rZ HM => ?_
   refine bD HF (HM.told [0, 1, 2] rfl) 8 [[2]] [(2, .pointer none), ru i6] (by kernel_rfl) fun a HF => ?_
   refine bQ rfl ?_
   obtain ⟨z46, hz46⟩ : ∃ z, rZ.heap.size = z := ⟨_, rfl⟩
   refine aO HF HM hz46 1 [] [(2, .pointer none), (170, aC z46)] [(z46, .cells #[ay 0, .string (⟨#[117, 110, 107, 110, 111, 119, 110, 32, 69, 76, 70, 32, 118, 101, 114, 115, 105, 111, 110]⟩ : ByteArray), .iface 118 (aV i6.toNat)] 208 (0, 0)), nZ z17 i4 i5 i6, dw z4 i0 i1 i2 i3 i4 i5 i6 i7 i8 i9 jV i11 i12 jU jT jS, bZ s b o n c] (by kernel_rfl) fun a w HF HM => ?_
   clear hz46
   refine cZ (HM.told [1, 2, 3] rfl) ?_
   refine bD HF (HM.told [1, 2, 3] rfl) 2 [] [(2, .pointer none), (3, .iface 206 (aC z46))] (by kernel_rfl) fun a HF => ?_
   refine iP ?_
   refine aQ ?_
   refine wp_ret ?_
   repeat first | refine bV ?_ | refine dh ?_
   exact jk HF rfl rfl rfl ⟨_, rfl, HM.below⟩
  rw [show (((i5.toNat : Nat) : Int) == 1) = false from oO (IQ)] at HF
  refine aZ HF rfl ?_
  refine aY ?_
  refine wp_pure HF HM rfl 2 [] ((bT b o n c s) ++ [(5, aC z4), (8, aC z17), (144, .bool (((i5.toNat : Nat) : Int) == 2))]) (by kernel_rfl) fun a HF => ?_
  refine aI ?_
  by_cases AY : ((i5.toNat : Nat) : Int) = 2
  ·rw [show (((i5.toNat : Nat) : Int) == 2) = true from oz (AY)] at HF
   refine bF HF rfl ?_
   refine wp_region_lit ?_
   refine wp_pure HF HM rfl 1 [] ((bT b o n c s) ++ [(5, aC z4), (8, aC z17), (9, aK 1)]) (by kernel_rfl) fun a HF => ?_
   refine wpList_nil ?_
   repeat first | refine aQ ?_ | refine aU ?_
   refine aY ?_
   refine aO HF HM rfl 6 [[2]] ((bT b o n c s) ++ [(5, aC z4), (8, aC z17), (9, aK 1)]) [yA z17 i4 i5, dw z4 i0 i1 i2 i3 i4 i5 i6 i7 i8 i9 jV i11 i12 jU jT jS, bZ s b o n c] (by kernel_rfl) fun a w HF HM => ?_
   refine dM ?_
   refine aO HF HM rfl 7 [[1], [2]] ((bT b o n c s) ++ [(5, aC z4), (8, aC z17), (9, aK 1)]) [nY z17 i4 i5 i6, dw z4 i0 i1 i2 i3 i4 i5 i6 i7 i8 i9 jV i11 i12 jU jT jS, bZ s b o n c] (by kernel_rfl) fun a w HF HM => ?_
   refine aI ?_
   refine wp_seq ?_
   refine aY ?_
   refine wp_pure HF HM rfl 6 [[2]] ((bT b o n c s) ++ [(5, aC z4), (8, aC z17), (9, aK 1), (162, .bool (((i6.toNat : Nat) : Int) != 1))]) (by kernel_rfl) fun a HF => ?_
   refine aI ?_
   rw [show (((i6.toNat : Nat) : Int) != 1) = true from uI (by omega)] at HF
   refine bF HF rfl ?_
   refine jO HM (by kernel_rfl) [nY z17 i4 i5 i6, dw z4 i0 i1 i2 i3 i4 i5 i6 i7 i8 i9 jV i11 i12 jU jT jS, bZ s b o n c] [(0, false), (1, false), (2, false), (3, false), (4, false), (5, false), (6, false), (9, false), (7, true), (8, false), (10, false)] (by kernel_rfl) fun w12 HM => ?_
   refine bD HF (HM.told [0, 1, 2] rfl) 8 [[2]] [(2, .pointer none), ru i6] (by kernel_rfl) fun a HF => ?_
   refine bQ rfl ?_
   obtain ⟨z52, hz52⟩ : ∃ z, w12.heap.size = z := ⟨_, rfl⟩
   refine aO HF HM hz52 1 [] [(2, .pointer none), (170, aC z52)] [(z52, .cells #[ay 0, .string (⟨#[117, 110, 107, 110, 111, 119, 110, 32, 69, 76, 70, 32, 118, 101, 114, 115, 105, 111, 110]⟩ : ByteArray), .iface 118 (aV i6.toNat)] 208 (0, 0)), nY z17 i4 i5 i6, dw z4 i0 i1 i2 i3 i4 i5 i6 i7 i8 i9 jV i11 i12 jU jT jS, bZ s b o n c] (by kernel_rfl) fun a w HF HM => ?_
   clear hz52
   refine cZ (HM.told [1, 2, 3] rfl) ?_
   refine bD HF (HM.told [1, 2, 3] rfl) 2 [] [(2, .pointer none), (3, .iface 206 (aC z52))] (by kernel_rfl) fun a HF => ?_
   refine iP ?_
   refine aQ ?_
   refine wp_ret ?_
   repeat first | refine bV ?_ | refine dh ?_
   exact jk HF rfl rfl rfl ⟨_, rfl, HM.below⟩
  rw [show (((i5.toNat : Nat) : Int) == 2) = false from oO (AY)] at HF
  refine aZ HF rfl ?_
  refine jO HM (by kernel_rfl) [lS z17 i4 i5, dw z4 i0 i1 i2 i3 i4 i5 i6 i7 i8 i9 jV i11 i12 jU jT jS, bZ s b o n c] [(0, false), (1, false), (2, false), (3, false), (4, false), (5, false), (6, false), (9, false), (7, true), (8, false), (10, false)] (by kernel_rfl) fun wE HM => ?_
  refine bD HF (HM.told [0, 1, 2] rfl) 8 [[2]] [(2, .pointer none), xP i5] (by kernel_rfl) fun a HF => ?_
  refine bQ rfl ?_
  obtain ⟨z53, hz53⟩ : ∃ z, wE.heap.size = z := ⟨_, rfl⟩
  refine aO HF HM hz53 1 [] [(2, .pointer none), (140, aC z53)] [(z53, .cells #[ay 0, .string (⟨#[117, 110, 107, 110, 111, 119, 110, 32, 69, 76, 70, 32, 100, 97, 116, 97, 32, 101, 110, 99, 111, 100, 105, 110, 103]⟩ : ByteArray), .iface 117 (aV i5.toNat)] 208 (0, 0)), lS z17 i4 i5, dw z4 i0 i1 i2 i3 i4 i5 i6 i7 i8 i9 jV i11 i12 jU jT jS, bZ s b o n c] (by kernel_rfl) fun a w HF HM => ?_
  clear hz53
  refine cZ (HM.told [1, 2, 3] rfl) ?_
  refine bD HF (HM.told [1, 2, 3] rfl) 2 [] [(2, .pointer none), (3, .iface 206 (aC z53))] (by kernel_rfl) fun a HF => ?_
  refine iP ?_
  refine aQ ?_
  refine wp_ret ?_
  repeat first | refine bV ?_ | refine dh ?_
  exact jk HF rfl rfl rfl ⟨_, rfl, HM.below⟩
 rw [show (((i4.toNat : Nat) : Int) == 2) = false from oO (hc8)] at HF
 refine aZ HF rfl ?_
 refine jO HM (by kernel_rfl) [uz z17 i4, dw z4 i0 i1 i2 i3 i4 i5 i6 i7 i8 i9 jV i11 i12 jU jT jS, bZ s b o n c] [(0, false), (1, false), (2, false), (3, false), (4, false), (5, false), (6, false), (9, false), (7, true), (8, false), (10, false)] (by kernel_rfl) fun zU HM => ?_
 refine bD HF (HM.told [0, 1, 2] rfl) 8 [[2]] [(2, .pointer none), (115, .agg #[ay 0, .string (⟨#[117, 110, 107, 110, 111, 119, 110, 32, 69, 76, 70, 32, 99, 108, 97, 115, 115]⟩ : ByteArray), .iface 116 (aV i4.toNat)])] (by kernel_rfl) fun a HF => ?_
 refine bQ rfl ?_
 obtain ⟨z54, hz54⟩ : ∃ z, zU.heap.size = z := ⟨_, rfl⟩
 refine aO HF HM hz54 1 [] [(2, .pointer none), (116, aC z54)] [(z54, .cells #[ay 0, .string (⟨#[117, 110, 107, 110, 111, 119, 110, 32, 69, 76, 70, 32, 99, 108, 97, 115, 115]⟩ : ByteArray), .iface 116 (aV i4.toNat)] 208 (0, 0)), uz z17 i4, dw z4 i0 i1 i2 i3 i4 i5 i6 i7 i8 i9 jV i11 i12 jU jT jS, bZ s b o n c] (by kernel_rfl) fun a w HF HM => ?_
 clear hz54
 refine cZ (HM.told [1, 2, 3] rfl) ?_
 refine bD HF (HM.told [1, 2, 3] rfl) 2 [] [(2, .pointer none), (3, .iface 206 (aC z54))] (by kernel_rfl) fun a HF => ?_
 refine iP ?_
 refine aQ ?_
 refine wp_ret ?_
 repeat first | refine bV ?_ | refine dh ?_
 exact jk HF rfl rfl rfl ⟨_, rfl, HM.below⟩

end Go.Proofs.YtdgehpocmfjbiaaDoor
namespace Go.Proofs.YtdgehpocmfjbiaaDoor
open Go.RowKit

theorem Lm (l : List UInt8) (A : Option Addr) (n c : Nat) (hl : n = l.length) (hnc : n ≤ c) (hn : 16 ≤ n) (i0 i1 i2 i3 i4 i5 i6 i7 i8 i9 jV i11 i12 jU jT jS : UInt8) (hid : l.take 16 = [i0, i1, i2, i3, i4, i5, i6, i7, i8, i9, jV, i11, i12, jU, jT, jS]) (hbad : ¬ (i0.toNat = 127 ∧ i1.toNat = 69 ∧ i2.toNat = 76 ∧ i3.toNat = 70 ∧ (i4.toNat = 1 ∨ i4.toNat = 2) ∧ (i5.toNat = 1 ∨ i5.toNat = 2) ∧ i6.toNat = 1)) (h47 : n ≤ 140737488355328) (w0 : World) (hr : Row w0 A (l.map Bv)) : Calls Tryd.prog 55 #[.slice A n c] w0 fun e w' => e = .returned (.tuple #[.pointer none, .bool false]) ∧ Below w0.heap.size w0 w' := by
 obtain ⟨w, hw⟩ : ∃ w, w0 = w := ⟨_, rfl⟩
 have HM : Mm [] w0 w [] := hw ▸ Mm.start w0
 conv => arg 4; rw [hw]
 clear hw
 refine dD Tryd.func55 rfl Tryd.ntmps55 [(0, .slice A n c)] (by kernel_rfl) (Nat.le_of_ble_eq_true rfl) ?_
 intro a HF
 refine aY ?_
 refine wp_pure HF HM rfl 2 [] [(0, .slice A n c)] (by kernel_rfl) fun a HF => ?_
 refine dM ?_
 refine wp_pure HF HM rfl 1 [] [(7, .slice A n c)] (by kernel_rfl) fun a HF => ?_
 refine zT HF HM rfl _ _ 33 rfl rfl 5 Tryd.underlying33 ED rfl (by omega) rfl A n c (l.map Bv) rfl (by simp [hl]) (by omega) (HM.row hr) (qL _) (by unfold maxLen; omega) (by omega) ?_
 intro a w1 g cap cb bU htk hcs uP hcap hbel HF2; clear HF HM hbel
 have HM : Mm [] w0 w1 [(g, .cells cb 5 (0, 0))] := bU
 have HF := HF2.sub [(8, aH g n cap)] (by kernel_rfl); clear bU HF2
 refine wp_pure HF HM rfl 1 [] [(9, .iface 178 (aH g n cap))] (by kernel_rfl) fun a HF => ?_
 refine bn HF (by kernel_rfl) 78 #[.iface 178 (aH g n cap)] (by kernel_rfl) (fun w => by kernel_rfl) (Calls.mono (H9 l g 0 n cap hl uP hn i0 i1 i2 i3 i4 i5 i6 i7 i8 i9 jV i11 i12 jU jT jS hid hbad w1 (HM.lt (i := 0) rfl) (HM.lI (i := 0) rfl htk)) ?_)
 rintro _ w2 ⟨v, rfl, hb⟩
 replace HM := HM.call hb
 clear hb
 refine ⟨_, rfl, ?_⟩; clear HF; intro a HF
 refine wp_pure HF HM rfl 5 [] [(4, .pointer none), (5, .iface 206 (v))] (by kernel_rfl) fun a HF => ?_
 refine aI ?_
 refine sG (by kernel_rfl) (by kernel_rfl) ?_
 refine rU HF HM rfl 5 [] [(2, .pointer none), (3, .bool false)] (by kernel_rfl) fun a HF => ?_
 refine uJ ?_
 rintro w3 ⟨nq, hq⟩
 replace HM : Mm [] w0 w3 [(g, .cells cb 5 (0, 0))] := by rw [hq]; exact HM.drewN nq
 clear hq nq
 refine wp_ret ?_
 repeat first | refine bV ?_ | refine dh ?_
 exact jk HF rfl rfl rfl ⟨rfl, HM.below⟩

theorem Dh (l : List UInt8) (A : Option Addr) (n c : Nat) (hl : n = l.length) (hnc : n ≤ c) (hn : 16 ≤ n) (i0 i1 i2 i3 i4 i5 i6 i7 i8 i9 jV i11 i12 jU jT jS : UInt8) (hid : l.take 16 = [i0, i1, i2, i3, i4, i5, i6, i7, i8, i9, jV, i11, i12, jU, jT, jS]) (hbad : ¬ (i0.toNat = 127 ∧ i1.toNat = 69 ∧ i2.toNat = 76 ∧ i3.toNat = 70 ∧ (i4.toNat = 1 ∨ i4.toNat = 2) ∧ (i5.toNat = 1 ∨ i5.toNat = 2) ∧ i6.toNat = 1)) (h47 : n ≤ 140737488355328) (w0 : World) (hr : Row w0 A (l.map Bv)) : Calls Tryd.prog 31 #[.slice A n c] w0 fun e w' => e = .returned (.tuple #[.agg #[.int .i64 0, .int .i64 0, .int .i64 0, .int .i64 0, .int .i64 0, .int .i64 0, .int .i64 0, .int .u64 0], .bool false]) ∧ Below w0.heap.size w0 w' := by
 obtain ⟨w, hw⟩ : ∃ w, w0 = w := ⟨_, rfl⟩
 have HM : Mm [] w0 w [] := hw ▸ Mm.start w0
 conv => arg 4; rw [hw]
 clear hw
 refine dD Tryd.func31 rfl Tryd.ntmps31 [(0, .slice A n c)] (by kernel_rfl) (Nat.le_of_ble_eq_true rfl) ?_
 intro a HF
 refine aY ?_
 obtain ⟨z1, hz1⟩ : ∃ z, w.heap.size = z := ⟨_, rfl⟩
 refine aO HF HM hz1 2 [] [(0, .slice A n c), (2, aC z1)] [(z1, .cells #[.int .i64 0, .int .i64 0, .int .i64 0, .int .i64 0, .int .i64 0, .int .i64 0, .int .i64 0, .int .u64 0] 48 (0, 0))] (by kernel_rfl) fun a w HF HM => ?_
 clear hz1
 refine dM ?_
 refine wp_pure HF HM rfl 1 [] [(2, aC z1), (7, .slice A n c)] (by kernel_rfl) fun a HF => ?_
 refine bn HF (by kernel_rfl) 55 #[.slice A n c] (by kernel_rfl) (fun w => by kernel_rfl) (Calls.mono (Lm l A n c hl hnc hn i0 i1 i2 i3 i4 i5 i6 i7 i8 i9 jV i11 i12 jU jT jS hid hbad h47 w (HM.row hr)) ?_)
 rintro _ w1 ⟨rfl, hb⟩
 replace HM := HM.call hb
 clear hb
 refine ⟨_, rfl, ?_⟩; clear HF; intro a HF
 refine wp_pure HF HM rfl 5 [] [(2, aC z1), (4, .pointer none), (5, .bool false)] (by kernel_rfl) fun a HF => ?_
 refine aI ?_
 refine wp_seq ?_
 refine aY ?_
 refine wp_pure HF HM rfl 2 [] [(2, aC z1), (4, .pointer none), (12, .bool true)] (by kernel_rfl) fun a HF => ?_
 refine aI ?_
 refine bF HF rfl ?_
 refine aY ?_
 refine aO HF HM rfl 3 [[0]] [(2, aC z1), (3, .bool false)] [(z1, .cells #[.int .i64 0, .int .i64 0, .int .i64 0, .int .i64 0, .int .i64 0, .int .i64 0, .int .i64 0, .int .u64 0] 48 (0, 0))] (by kernel_rfl) fun a w HF HM => ?_
 refine aI ?_
 refine wp_ret ?_
 repeat first | refine bV ?_ | refine dh ?_
 exact bodyPost_ret (results_cell_tmp rfl (HF.getD rfl) (HF.getD rfl) (HM.get (i := 0) rfl) Tryd.underlying48 (by kernel_rfl)) HF.1 ⟨rfl, HM.below⟩

end Go.Proofs.YtdgehpocmfjbiaaDoor
namespace Go.Proofs.YtdgehpocmfjbiaaDoor
open Go.RowKit
section
variable {P : Program} {w : World}
/-- the address of element j, the row's address laid open -/
theorem wG {t e : TypeId} {k : Nat} (ht : P.underlying t = some (.slice e)) (hi : (P.info? e).map (·.size) = some k) {ρ : Operand → Value} {o : Oper} {x ix : Operand} (ho : o.op = .indexAddr t x ix) {A : Option Addr} {n c : Nat} (j : Nat) {g off : Nat} (hA : A = some ⟨g, off, none⟩) {kk : IntKind} (hx : ρ x = .slice A n c) (hj : ρ ix = .int kk (j : Int)) (h : j < n) :
  (execOp ρ o).run P w = .ok (.value (.pointer (some ⟨g, off + j * k, none⟩))) w := by
 subst hA
 have := ig (w := w) ht hi ho j hx hj h (Option.some_ne_none _)
 rw [Option.map_some, Bg] at this
 exact this
end
end Go.Proofs.YtdgehpocmfjbiaaDoor
namespace Go.Proofs.YtdgehpocmfjbiaaDoor
open Go.RowKit
theorem Ej {l r : List UInt8} {wide big : Bool} {abi aF : Nat} (h : l = tV wide big abi aF ++ r) (k m : Nat) (hk : k ≤ 6) (hm : m < 256) {u : UInt8} (hu : l[k]? = some u) (hne : u.toNat ≠ m) (hv : (k = 4 ∨ k = 5) → m ≠ 1 ∧ m ≠ 2) : ∃ i0 i1 i2 i3 i4 i5 i6 i7 i8 i9 jV i11 i12 jU jT jS : UInt8, (l.set k (UInt8.ofNat m)).take 16 = [i0, i1, i2, i3, i4, i5, i6, i7, i8, i9, jV, i11, i12, jU, jT, jS] ∧ ¬ (i0.toNat = 127 ∧ i1.toNat = 69 ∧ i2.toNat = 76 ∧ i3.toNat = 70 ∧ (i4.toNat = 1 ∨ i4.toNat = 2) ∧ (i5.toNat = 1 ∨ i5.toNat = 2) ∧ i6.toNat = 1) := by
 have e : (UInt8.ofNat m).toNat = m := by simp; omega
 have h16 : l.take 16 = tV wide big abi aF := by subst h; rfl
 rw [List.take_set, h16]
 have hu2 : (l.take 16)[k]? = some u := by rw [List.getElem?_take, if_pos (by omega)]; exact hu
 rw [h16] at hu2
 generalize UInt8.ofNat m = q at e
 have hq : k = 0 ∨ k = 1 ∨ k = 2 ∨ k = 3 ∨ k = 4 ∨ k = 5 ∨ k = 6 := by omega
 rcases hq with rfl | rfl | rfl | rfl | rfl | rfl | rfl
 ·refine ⟨_, _, _, _, _, _, _, _, _, _, _, _, _, _, _, _, rfl, ?_⟩
  rintro ⟨hx, _⟩
  obtain rfl := Option.some.inj hu2
  exact hne (by rw [← e, hx]; rfl)
 ·refine ⟨_, _, _, _, _, _, _, _, _, _, _, _, _, _, _, _, rfl, ?_⟩
  rintro ⟨_, hx, _⟩
  obtain rfl := Option.some.inj hu2
  exact hne (by rw [← e, hx]; rfl)
 ·refine ⟨_, _, _, _, _, _, _, _, _, _, _, _, _, _, _, _, rfl, ?_⟩
  rintro ⟨_, _, hx, _⟩
  obtain rfl := Option.some.inj hu2
  exact hne (by rw [← e, hx]; rfl)
 ·refine ⟨_, _, _, _, _, _, _, _, _, _, _, _, _, _, _, _, rfl, ?_⟩
  rintro ⟨_, _, _, hx, _⟩
  obtain rfl := Option.some.inj hu2
  exact hne (by rw [← e, hx]; rfl)
 ·refine ⟨_, _, _, _, _, _, _, _, _, _, _, _, _, _, _, _, rfl, ?_⟩
  rintro ⟨_, _, _, _, hx, _⟩
  have h1 := hv (by omega)
  omega
 ·refine ⟨_, _, _, _, _, _, _, _, _, _, _, _, _, _, _, _, rfl, ?_⟩
  rintro ⟨_, _, _, _, _, hx, _⟩
  have h1 := hv (by omega)
  omega
 ·refine ⟨_, _, _, _, _, _, _, _, _, _, _, _, _, _, _, _, rfl, ?_⟩
  rintro ⟨_, _, _, _, _, _, hx⟩
  obtain rfl := Option.some.inj hu2
  exact hne (by rw [← e, hx]; rfl)

abbrev jB := fun z1 (x : dN) => ((z1, .cells #[.bool x.wide, .bool x.big, aV x.abi, aV x.aF, .int .i64 x.ty, .int .i64 x.machine, aJ x.entry, .slice x.A x.ss.length x.c, .slice x.B x.ps.length x.d] 26 (0, 0)) : Nat × Obj)
abbrev je := fun (kz : Int) (mv : Nat) z1 => ([(1, .int .i64 kz), (2, aV mv), (3, aC z1)] : Slots)
abbrev jQ := fun k (mv : Nat) z1 kD (x : dN) jH => ([(1, aA k), (2, aV mv), (3, aC z1), (7, aH kD x.img.file.length jH)] : Slots)
abbrev NS := ((56, .tuple #[.agg #[ay 0, ay 0, ay 0, ay 0, ay 0, ay 0, ay 0, bG 0], .bool false]) : Nat × Value)
abbrev wM := fun (x : dN) => ((60, .agg #[.bool x.wide, .bool x.big, aV x.abi, aV x.aF, .int .i64 x.ty, .int .i64 x.machine, aJ x.entry, .slice x.A x.ss.length x.c, .slice x.B x.ps.length x.d]) : Nat × Value)
theorem KE (x : dN) (kz : Int) (mv : Nat) (w0 : World) (h : x.At w0) (hkz : -9223372036854775808 ≤ kz ∧ kz ≤ 9223372036854775807) (hmv : mv < 256) : Calls Tryd.prog 8 #[x.val, .int .i64 kz, aV mv] w0 fun e w' => e = .returned (.bool true) ∧ Below w0.heap.size w0 w' := by
 have habi := h.abi; have habiv := h.aF
 obtain ⟨w, hw⟩ : ∃ w, w0 = w := ⟨_, rfl⟩
 have HM : Mm [] w0 w [] := hw ▸ Mm.start w0
 conv => arg 4; rw [hw]
 clear hw
 refine dD Tryd.func8 rfl Tryd.ntmps8 [(0, .agg #[.bool x.wide, .bool x.big, aV x.abi, aV x.aF, .int .i64 x.ty, .int .i64 x.machine, aJ x.entry, .slice x.A x.ss.length x.c, .slice x.B x.ps.length x.d]), (1, .int .i64 kz), (2, aV mv)] (by kernel_rfl) (Nat.le_of_ble_eq_true rfl) ?_
 intro a HF
 refine aY ?_
 obtain ⟨z1, hz1⟩ : ∃ z, w.heap.size = z := ⟨_, rfl⟩
 refine aO HF HM hz1 2 [] (je kz mv z1) [jB z1 x] (by kernel_rfl) fun a w HF HM => ?_
 clear hz1
 refine aI ?_
 refine wp_seq ?_
 refine aY ?_
 refine wp_pure HF HM rfl 1 [[0]] ((je kz mv z1) ++ [(12, .agg #[.bool x.wide, .bool x.big, aV x.abi, aV x.aF, .int .i64 x.ty, .int .i64 x.machine, aJ x.entry, .slice x.A x.ss.length x.c, .slice x.B x.ps.length x.d])]) (by kernel_rfl) fun a HF => ?_
 refine bn HF (by kernel_rfl) 20 #[.agg #[.bool x.wide, .bool x.big, aV x.abi, aV x.aF, .int .i64 x.ty, .int .i64 x.machine, aJ x.entry, .slice x.A x.ss.length x.c, .slice x.B x.ps.length x.d]] (by kernel_rfl) (fun w => by kernel_rfl) (Calls.mono (Hq x w (h.below HM.below)) ?_)
 rintro _ w1 ⟨b1, rfl, hb⟩
 replace HM := HM.call hb
 clear hb
 refine ⟨_, rfl, ?_⟩; clear HF; intro a HF
 replace HF := HF.sub ((je kz mv z1) ++ [(13, .bool b1)]) (by kernel_rfl)
 rcases kY b1 with hc2 | hc2
 ·replace HF := Fr.sub (Fr.tell HF 13 rfl (congrArg Value.bool hc2)) ((je kz mv z1) ++ [(13, .bool false)]) (by kernel_rfl)
  refine wp_pure HF HM rfl 1 [] ((je kz mv z1) ++ [(14, .bool true)]) (by kernel_rfl) fun a HF => ?_
  refine aI ?_
  refine bF HF rfl ?_
  refine aY ?_
  refine wp_pure HF HM rfl 1 [] [(6, .bool true)] (by kernel_rfl) fun a HF => ?_
  refine aI ?_
  refine wp_ret ?_
  repeat first | refine bV ?_ | refine dh ?_
  exact dH HF rfl rfl ⟨rfl, HM.below⟩
 replace HF := Fr.sub (Fr.tell HF 13 rfl (congrArg Value.bool hc2)) ((je kz mv z1) ++ [(13, .bool true)]) (by kernel_rfl)
 refine wp_pure HF HM rfl 1 [] ((je kz mv z1) ++ [(14, .bool false)]) (by kernel_rfl) fun a HF => ?_
 refine aI ?_
 refine aZ HF rfl ?_
 refine wp_skip ?_
 repeat first | refine aQ ?_ | refine aU ?_
 refine wp_seq ?_
 refine aY ?_
 refine wp_pure HF HM rfl 1 [[0]] ((je kz mv z1) ++ [(15, .agg #[.bool x.wide, .bool x.big, aV x.abi, aV x.aF, .int .i64 x.ty, .int .i64 x.machine, aJ x.entry, .slice x.A x.ss.length x.c, .slice x.B x.ps.length x.d])]) (by kernel_rfl) fun a HF => ?_
 refine bn HF (by kernel_rfl) 22 #[.agg #[.bool x.wide, .bool x.big, aV x.abi, aV x.aF, .int .i64 x.ty, .int .i64 x.machine, aJ x.entry, .slice x.A x.ss.length x.c, .slice x.B x.ps.length x.d]] (by kernel_rfl) (fun w => by kernel_rfl) (Calls.mono (Ih x w1 (h.below HM.below)) ?_)
 rintro _ w2 ⟨b3, rfl, hb, Gs⟩
 replace HM := HM.call hb
 clear hb
 refine ⟨_, rfl, ?_⟩; clear HF; intro a HF
 replace HF := HF.sub ((je kz mv z1) ++ [(16, .bool b3)]) (by kernel_rfl)
 rcases kY b3 with hc5 | hc5
 ·replace HF := Fr.sub (Fr.tell HF 16 rfl (congrArg Value.bool hc5)) ((je kz mv z1) ++ [(16, .bool false)]) (by kernel_rfl)
  refine wp_pure HF HM rfl 9 [] ((je kz mv z1) ++ [(25, .bool true)]) (by kernel_rfl) fun a HF => ?_
  refine aI ?_
  refine bF HF rfl ?_
  refine aY ?_
  refine wp_pure HF HM rfl 1 [] [(6, .bool true)] (by kernel_rfl) fun a HF => ?_
  refine aI ?_
  refine wp_ret ?_
  repeat first | refine bV ?_ | refine dh ?_
  exact dH HF rfl rfl ⟨rfl, HM.below⟩
 replace HF := Fr.sub (Fr.tell HF 16 rfl (congrArg Value.bool hc5)) ((je kz mv z1) ++ [(16, .bool true)]) (by kernel_rfl)
 refine wp_pure HF HM rfl 6 [] ((je kz mv z1) ++ [(22, .bool (decide (kz < 0)))]) (by kernel_rfl) fun a HF => ?_
 by_cases hc6 : kz < 0
 ·rw [show decide (kz < 0) = true from fC (hc6)] at HF
  refine wp_pure HF HM rfl 3 [] ((je kz mv z1) ++ [(25, .bool true)]) (by kernel_rfl) fun a HF => ?_
  refine aI ?_
  refine bF HF rfl ?_
  refine aY ?_
  refine wp_pure HF HM rfl 1 [] [(6, .bool true)] (by kernel_rfl) fun a HF => ?_
  refine aI ?_
  refine wp_ret ?_
  repeat first | refine bV ?_ | refine dh ?_
  exact dH HF rfl rfl ⟨rfl, HM.below⟩
 rw [show decide (kz < 0) = false from dI (hc6)] at HF
 refine wp_pure HF HM rfl 3 [] ((je kz mv z1) ++ [(25, .bool (decide (6 < kz)))]) (by kernel_rfl) fun a HF => ?_
 refine aI ?_
 by_cases EK : 6 < kz
 ·rw [show decide (6 < kz) = true from fC (EK)] at HF
  refine bF HF rfl ?_
  refine aY ?_
  refine wp_pure HF HM rfl 1 [] [(6, .bool true)] (by kernel_rfl) fun a HF => ?_
  refine aI ?_
  refine wp_ret ?_
  repeat first | refine bV ?_ | refine dh ?_
  exact dH HF rfl rfl ⟨rfl, HM.below⟩
 rw [show decide (6 < kz) = false from dI (EK)] at HF
 refine aZ HF rfl ?_
 refine wp_skip ?_
 repeat first | refine aQ ?_ | refine aU ?_
 refine aY ?_
 obtain ⟨k, rfl⟩ := Int.eq_ofNat_of_zero_le (show 0 ≤ kz by omega)
 have hk6 : k ≤ 6 := by omega
 refine wp_pure HF HM rfl 1 [[0]] [(1, aA k), (2, aV mv), (3, aC z1), (26, .agg #[.bool x.wide, .bool x.big, aV x.abi, aV x.aF, .int .i64 x.ty, .int .i64 x.machine, aJ x.entry, .slice x.A x.ss.length x.c, .slice x.B x.ps.length x.d])] (by kernel_rfl) fun a HF => ?_
 have ok := (Gs hc5).1
 have oD := dN.ok ok h
 have hn16 : 16 ≤ x.img.file.length := by
  have hq := (qG oD).head.len
  unfold fF at hq
  split at hq <;> omega
 refine bn HF (by kernel_rfl) 25 #[.agg #[.bool x.wide, .bool x.big, aV x.abi, aV x.aF, .int .i64 x.ty, .int .i64 x.machine, aJ x.entry, .slice x.A x.ss.length x.c, .slice x.B x.ps.length x.d]] (by kernel_rfl) (fun w => by kernel_rfl) (Calls.mono (vZ x w2 (h.below HM.below) (Gs hc5).1) ?_)
 rintro _ w3 ⟨kD, jH, Fv, rfl, hb, qm⟩
 replace HM : Mm [] w0 w3 [(kD, .cells Fv 5 (0, 0)), jB z1 x] := HM.push hb qm.new qm.obj
 clear hb
 refine ⟨_, rfl, ?_⟩; clear HF; intro a HF
 refine wp_pure HF HM rfl 1 [] (jQ k mv z1 kD x jH) (by kernel_rfl) fun a HF => ?_
 refine aI ?_
 refine wp_seq ?_
 refine aY ?_
 refine wp_pure HF HM rfl 2 [] ((jQ k mv z1 kD x jH) ++ [(28, aH kD x.img.file.length jH), (29, aA k)]) (by kernel_rfl) fun a HF => ?_
 obtain ⟨m9, hm9⟩ : ∃ m, x.img.file[k]? = some m := ⟨_, List.getElem?_eq_getElem (by omega)⟩
 refine eY HF (by kernel_rfl) (.pointer (Option.map (fun q : Addr => q.add (k * 1)) (some ⟨kD, 0, none⟩))) (by kernel_rfl) (ig Tryd.underlying33 (by kernel_rfl) rfl k rfl rfl (by omega) (Option.some_ne_none _)) fun a HF => ?_
 refine eY HF (by kernel_rfl) (aV m9.toNat) (by kernel_rfl) (pW rfl rfl (rP (HM.lI (i := 0) rfl qm.tk) k hm9) (by kernel_rfl)) fun a HF => ?_
 refine wp_pure HF HM rfl 3 [] ((jQ k mv z1 kD x jH) ++ [(34, .bool (((m9.toNat : Nat) : Int) == ((mv : Nat) : Int)))]) (by kernel_rfl) fun a HF => ?_
 by_cases AY : ((m9.toNat : Nat) : Int) = ((mv : Nat) : Int)
 ·rw [show (((m9.toNat : Nat) : Int) == ((mv : Nat) : Int)) = true from oz (AY)] at HF
  refine wp_pure HF HM rfl 15 [] ((jQ k mv z1 kD x jH) ++ [(49, .bool true)]) (by kernel_rfl) fun a HF => ?_
  refine aI ?_
  refine bF HF rfl ?_
  refine aY ?_
  refine wp_pure HF HM rfl 1 [] [(6, .bool true)] (by kernel_rfl) fun a HF => ?_
  refine aI ?_
  refine wp_ret ?_
  repeat first | refine bV ?_ | refine dh ?_
  exact dH HF rfl rfl ⟨rfl, HM.below⟩
 rw [show (((m9.toNat : Nat) : Int) == ((mv : Nat) : Int)) = false from oO (AY)] at HF
 refine wp_pure HF HM rfl 3 [] ((jQ k mv z1 kD x jH) ++ [(34, .bool false), (37, .bool (((k : Nat) : Int) == 4))]) (by kernel_rfl) fun a HF => ?_
 by_cases Gy : ((k : Nat) : Int) = 4
 ·rw [show (((k : Nat) : Int) == 4) = true from oz (Gy)] at HF
  refine wp_pure HF HM rfl 7 [] ((jQ k mv z1 kD x jH) ++ [(34, .bool false), (41, .bool true), (44, .bool (((mv : Nat) : Int) == 1))]) (by kernel_rfl) fun a HF => ?_
  by_cases hc12 : ((mv : Nat) : Int) = 1
  ·rw [show (((mv : Nat) : Int) == 1) = true from oz (hc12)] at HF
   refine wp_pure HF HM rfl 5 [] ((jQ k mv z1 kD x jH) ++ [(49, .bool true)]) (by kernel_rfl) fun a HF => ?_
   refine aI ?_
   refine bF HF rfl ?_
   refine aY ?_
   refine wp_pure HF HM rfl 1 [] [(6, .bool true)] (by kernel_rfl) fun a HF => ?_
   refine aI ?_
   refine wp_ret ?_
   repeat first | refine bV ?_ | refine dh ?_
   exact dH HF rfl rfl ⟨rfl, HM.below⟩
  rw [show (((mv : Nat) : Int) == 1) = false from oO (hc12)] at HF
  refine wp_pure HF HM rfl 5 [] ((jQ k mv z1 kD x jH) ++ [(49, .bool (((mv : Nat) : Int) == 2))]) (by kernel_rfl) fun a HF => ?_
  refine aI ?_
  by_cases hc13 : ((mv : Nat) : Int) = 2
  ·rw [show (((mv : Nat) : Int) == 2) = true from oz (hc13)] at HF
   refine bF HF rfl ?_
   refine aY ?_
   refine wp_pure HF HM rfl 1 [] [(6, .bool true)] (by kernel_rfl) fun a HF => ?_
   refine aI ?_
   refine wp_ret ?_
   repeat first | refine bV ?_ | refine dh ?_
   exact dH HF rfl rfl ⟨rfl, HM.below⟩
  rw [show (((mv : Nat) : Int) == 2) = false from oO (hc13)] at HF
  refine aZ HF rfl ?_
  refine wp_skip ?_
  repeat first | refine aQ ?_ | refine aU ?_
  refine aY ?_
  refine wp_pure HF HM rfl 3 [] [(3, aC z1), (7, aH kD x.img.file.length jH), (50, aH kD x.img.file.length jH), (51, aA k), (52, aV mv)] (by kernel_rfl) fun a HF => ?_
  refine eY HF (by kernel_rfl) (.pointer (some ⟨kD, 0 + k * 1, none⟩)) (by kernel_rfl) (wG Tryd.underlying33 (by kernel_rfl) rfl k rfl rfl rfl (by omega)) fun a HF => ?_
  refine qy HF HM rfl 5 _ _ rfl rfl 0 kD (0 + k * 1) Fv 5 rfl rfl (aV mv) rfl rfl rfl (by rw [qm.sz]; have hq := qm.nc; omega) (by kernel_rfl) ?_
  intro a w4 uf bU tX HF2; clear HF HM
  have tks : uf.toList.take (x.img.file.length * 1) = (x.img.file.set k (UInt8.ofNat mv)).map Bv := by rw [tX, List.take_set, qm.tk, List.map_set, wW hmv, Nat.zero_add, Nat.mul_one]
  have szs : uf.size = jH * 1 := by rw [← Array.length_toList, tX, List.length_set, Array.length_toList, qm.sz]
  have HM : Mm [] w0 w4 [(kD, .cells uf 5 (0, 0)), jB z1 x] := bU
  have HF := HF2.sub [(3, aC z1), (7, aH kD x.img.file.length jH)] (by kernel_rfl); clear bU HF2 tX
  refine dM ?_
  refine wp_pure HF HM rfl 1 [] [(3, aC z1), (55, aH kD x.img.file.length jH)] (by kernel_rfl) fun a HF => ?_
  obtain ⟨r_, hr_⟩ := (qG oD).head.id
  obtain ⟨i0, i1, i2, i3, i4, i5, i6, i7, i8, i9, jV, i11, i12, jU, jT, jS, hid, hbad⟩ := Ej hr_ k mv (by omega) hmv hm9 (by omega) (fun hq => by omega)
  refine bn HF (by kernel_rfl) 31 #[aH kD x.img.file.length jH] (by kernel_rfl) (fun w => by kernel_rfl) (Calls.mono (Dh (x.img.file.set k (UInt8.ofNat mv)) _ _ _ (by rw [List.length_set]) qm.nc hn16 i0 i1 i2 i3 i4 i5 i6 i7 i8 i9 jV i11 i12 jU jT jS hid hbad (by have hq := dK.Ok.length_le oD; omega) w4 (HM.lI (i := 0) rfl tks)) ?_)
  rintro _ w5 ⟨rfl, hb⟩
  replace HM := HM.call hb
  clear hb
  refine ⟨_, rfl, ?_⟩; clear HF; intro a HF
  obtain ⟨z28, Gi⟩ : ∃ z, w5.heap.size = z := ⟨_, rfl⟩
  refine aO HF HM Gi 6 [[2]] [(3, aC z1), (9, .bool false)] [(z28, .cells #[ay 0, ay 0, ay 0, ay 0, ay 0, ay 0, ay 0, bG 0] 48 (0, 0)), (kD, .cells uf 5 (0, 0)), jB z1 x] (by kernel_rfl) fun a w HF HM => ?_
  clear Gi
  refine dM ?_
  refine wp_pure HF HM rfl 1 [[0]] [(9, .bool false), wM x] (by kernel_rfl) fun a HF => ?_
  refine bn HF (by kernel_rfl) 25 #[.agg #[.bool x.wide, .bool x.big, aV x.abi, aV x.aF, .int .i64 x.ty, .int .i64 x.machine, aJ x.entry, .slice x.A x.ss.length x.c, .slice x.B x.ps.length x.d]] (by kernel_rfl) (fun w => by kernel_rfl) (Calls.mono (vZ x w (h.below HM.below) (Gs hc5).1) ?_)
  rintro _ w6 ⟨LQ, NW, KP, rfl, hb, Fj⟩
  replace HM : Mm [] w0 w6 [(LQ, .cells KP 5 (0, 0)), (z28, .cells #[ay 0, ay 0, ay 0, ay 0, ay 0, ay 0, ay 0, bG 0] 48 (0, 0)), (kD, .cells uf 5 (0, 0)), jB z1 x] := HM.push hb Fj.new Fj.obj
  clear hb
  refine ⟨_, rfl, ?_⟩; clear HF; intro a HF
  refine bn HF (by kernel_rfl) 31 #[aH LQ x.img.file.length NW] (by kernel_rfl) (fun w => by kernel_rfl) (Calls.mono (Di x.img.file _ _ _ rfl Fj.nc x.img.wide x.img.big x.img.abi x.img.aF x.img.ty x.img.machine x.img.entry (fF x.img.wide) x.img.cO.length x.img.kM x.img.all.length (DZ x.img) (Ai x.img) (Eb x.img) (qG oD) (by have hq := dK.Ok.length_le oD; omega) w6 (HM.lI (i := 0) rfl Fj.tk)) ?_)
  rintro _ w7 ⟨rfl, hb⟩
  replace HM := HM.call hb
  clear hb
  refine ⟨_, rfl, ?_⟩; clear HF; intro a HF
  try simp only [aA, aJ, ay, bG, bf] at HF
  rw [show ((x.img.ty : Nat) : Int) = x.ty from Int.toNat_of_nonneg ok.Ik, show ((x.img.machine : Nat) : Int) = x.machine from Int.toNat_of_nonneg ok.mc0] at HF
  obtain ⟨z30, hz30⟩ : ∃ z, w7.heap.size = z := ⟨_, rfl⟩
  refine aO HF HM hz30 6 [[4]] [(9, .bool false), (11, .bool true)] [(z30, .cells #[ay (if x.wide then 2 else 1), ay (if x.big then 2 else 1), ay 1, aA x.abi, aA x.aF, .int .i64 x.ty, .int .i64 x.machine, aJ x.entry] 48 (0, 0)), (LQ, .cells KP 5 (0, 0)), (z28, .cells #[ay 0, ay 0, ay 0, ay 0, ay 0, ay 0, ay 0, bG 0] 48 (0, 0)), (kD, .cells uf 5 (0, 0)), jB z1 x] (by kernel_rfl) fun a w HF HM => ?_
  clear hz30
  refine dM ?_
  refine wp_pure HF HM rfl 6 [] [(6, .bool true)] (by kernel_rfl) fun a HF => ?_
  refine aI ?_
  refine wp_ret ?_
  repeat first | refine bV ?_ | refine dh ?_
  exact dH HF rfl rfl ⟨rfl, HM.below⟩
 rw [show (((k : Nat) : Int) == 4) = false from oO (Gy)] at HF
 refine wp_pure HF HM rfl 4 [] ((jQ k mv z1 kD x jH) ++ [(34, .bool false), (41, .bool (((k : Nat) : Int) == 5))]) (by kernel_rfl) fun a HF => ?_
 by_cases hc16 : ((k : Nat) : Int) = 5
 ·rw [show (((k : Nat) : Int) == 5) = true from oz (hc16)] at HF
  refine wp_pure HF HM rfl 3 [] ((jQ k mv z1 kD x jH) ++ [(34, .bool false), (41, .bool true), (44, .bool (((mv : Nat) : Int) == 1))]) (by kernel_rfl) fun a HF => ?_
  by_cases hc17 : ((mv : Nat) : Int) = 1
  ·rw [show (((mv : Nat) : Int) == 1) = true from oz (hc17)] at HF
   refine wp_pure HF HM rfl 5 [] ((jQ k mv z1 kD x jH) ++ [(49, .bool true)]) (by kernel_rfl) fun a HF => ?_
   refine aI ?_
   refine bF HF rfl ?_
   refine aY ?_
   refine wp_pure HF HM rfl 1 [] [(6, .bool true)] (by kernel_rfl) fun a HF => ?_
   refine aI ?_
   refine wp_ret ?_
   repeat first | refine bV ?_ | refine dh ?_
   exact dH HF rfl rfl ⟨rfl, HM.below⟩
  rw [show (((mv : Nat) : Int) == 1) = false from oO (hc17)] at HF
  refine wp_pure HF HM rfl 5 [] ((jQ k mv z1 kD x jH) ++ [(49, .bool (((mv : Nat) : Int) == 2))]) (by kernel_rfl) fun a HF => ?_
  refine aI ?_
  by_cases hc18 : ((mv : Nat) : Int) = 2
  ·rw [show (((mv : Nat) : Int) == 2) = true from oz (hc18)] at HF
   refine bF HF rfl ?_
   refine aY ?_
   refine wp_pure HF HM rfl 1 [] [(6, .bool true)] (by kernel_rfl) fun a HF => ?_
   refine aI ?_
   refine wp_ret ?_
   repeat first | refine bV ?_ | refine dh ?_
   exact dH HF rfl rfl ⟨rfl, HM.below⟩
  rw [show (((mv : Nat) : Int) == 2) = false from oO (hc18)] at HF
  refine aZ HF rfl ?_
  refine wp_skip ?_
  repeat first | refine aQ ?_ | refine aU ?_
  refine aY ?_
  refine wp_pure HF HM rfl 3 [] [(3, aC z1), (7, aH kD x.img.file.length jH), (50, aH kD x.img.file.length jH), (51, aA k), (52, aV mv)] (by kernel_rfl) fun a HF => ?_
  refine eY HF (by kernel_rfl) (.pointer (some ⟨kD, 0 + k * 1, none⟩)) (by kernel_rfl) (wG Tryd.underlying33 (by kernel_rfl) rfl k rfl rfl rfl (by omega)) fun a HF => ?_
  refine qy HF HM rfl 5 _ _ rfl rfl 0 kD (0 + k * 1) Fv 5 rfl rfl (aV mv) rfl rfl rfl (by rw [qm.sz]; have hq := qm.nc; omega) (by kernel_rfl) ?_
  intro a w8 BU bU tX HF2; clear HF HM
  have tks : BU.toList.take (x.img.file.length * 1) = (x.img.file.set k (UInt8.ofNat mv)).map Bv := by rw [tX, List.take_set, qm.tk, List.map_set, wW hmv, Nat.zero_add, Nat.mul_one]
  have szs : BU.size = jH * 1 := by rw [← Array.length_toList, tX, List.length_set, Array.length_toList, qm.sz]
  have HM : Mm [] w0 w8 [(kD, .cells BU 5 (0, 0)), jB z1 x] := bU
  have HF := HF2.sub [(3, aC z1), (7, aH kD x.img.file.length jH)] (by kernel_rfl); clear bU HF2 tX
  refine dM ?_
  refine wp_pure HF HM rfl 1 [] [(3, aC z1), (55, aH kD x.img.file.length jH)] (by kernel_rfl) fun a HF => ?_
  obtain ⟨r_, hr_⟩ := (qG oD).head.id
  obtain ⟨i0, i1, i2, i3, i4, i5, i6, i7, i8, i9, jV, i11, i12, jU, jT, jS, hid, hbad⟩ := Ej hr_ k mv (by omega) hmv hm9 (by omega) (fun hq => by omega)
  refine bn HF (by kernel_rfl) 31 #[aH kD x.img.file.length jH] (by kernel_rfl) (fun w => by kernel_rfl) (Calls.mono (Dh (x.img.file.set k (UInt8.ofNat mv)) _ _ _ (by rw [List.length_set]) qm.nc hn16 i0 i1 i2 i3 i4 i5 i6 i7 i8 i9 jV i11 i12 jU jT jS hid hbad (by have hq := dK.Ok.length_le oD; omega) w8 (HM.lI (i := 0) rfl tks)) ?_)
  rintro _ w9 ⟨rfl, hb⟩
  replace HM := HM.call hb
  clear hb
  refine ⟨_, rfl, ?_⟩; clear HF; intro a HF
  obtain ⟨z40, hz40⟩ : ∃ z, w9.heap.size = z := ⟨_, rfl⟩
  refine aO HF HM hz40 6 [[2]] [(3, aC z1), (9, .bool false)] [(z40, .cells #[ay 0, ay 0, ay 0, ay 0, ay 0, ay 0, ay 0, bG 0] 48 (0, 0)), (kD, .cells BU 5 (0, 0)), jB z1 x] (by kernel_rfl) fun a w HF HM => ?_
  clear hz40
  refine dM ?_
  refine wp_pure HF HM rfl 1 [[0]] [(9, .bool false), wM x] (by kernel_rfl) fun a HF => ?_
  refine bn HF (by kernel_rfl) 25 #[.agg #[.bool x.wide, .bool x.big, aV x.abi, aV x.aF, .int .i64 x.ty, .int .i64 x.machine, aJ x.entry, .slice x.A x.ss.length x.c, .slice x.B x.ps.length x.d]] (by kernel_rfl) (fun w => by kernel_rfl) (Calls.mono (vZ x w (h.below HM.below) (Gs hc5).1) ?_)
  rintro _ w10 ⟨LP, NV, KO, rfl, hb, Fh⟩
  replace HM : Mm [] w0 w10 [(LP, .cells KO 5 (0, 0)), (z40, .cells #[ay 0, ay 0, ay 0, ay 0, ay 0, ay 0, ay 0, bG 0] 48 (0, 0)), (kD, .cells BU 5 (0, 0)), jB z1 x] := HM.push hb Fh.new Fh.obj
  clear hb
  refine ⟨_, rfl, ?_⟩; clear HF; intro a HF
  refine bn HF (by kernel_rfl) 31 #[aH LP x.img.file.length NV] (by kernel_rfl) (fun w => by kernel_rfl) (Calls.mono (Di x.img.file _ _ _ rfl Fh.nc x.img.wide x.img.big x.img.abi x.img.aF x.img.ty x.img.machine x.img.entry (fF x.img.wide) x.img.cO.length x.img.kM x.img.all.length (DZ x.img) (Ai x.img) (Eb x.img) (qG oD) (by have hq := dK.Ok.length_le oD; omega) w10 (HM.lI (i := 0) rfl Fh.tk)) ?_)
  rintro _ rZ ⟨rfl, hb⟩
  replace HM := HM.call hb
  clear hb
  refine ⟨_, rfl, ?_⟩; clear HF; intro a HF
  try simp only [aA, aJ, ay, bG, bf] at HF
  rw [show ((x.img.ty : Nat) : Int) = x.ty from Int.toNat_of_nonneg ok.Ik, show ((x.img.machine : Nat) : Int) = x.machine from Int.toNat_of_nonneg ok.mc0] at HF
  obtain ⟨z42, hz42⟩ : ∃ z, rZ.heap.size = z := ⟨_, rfl⟩
  refine aO HF HM hz42 6 [[4]] [(9, .bool false), (11, .bool true)] [(z42, .cells #[ay (if x.wide then 2 else 1), ay (if x.big then 2 else 1), ay 1, aA x.abi, aA x.aF, .int .i64 x.ty, .int .i64 x.machine, aJ x.entry] 48 (0, 0)), (LP, .cells KO 5 (0, 0)), (z40, .cells #[ay 0, ay 0, ay 0, ay 0, ay 0, ay 0, ay 0, bG 0] 48 (0, 0)), (kD, .cells BU 5 (0, 0)), jB z1 x] (by kernel_rfl) fun a w HF HM => ?_
  clear hz42
  refine dM ?_
  refine wp_pure HF HM rfl 6 [] [(6, .bool true)] (by kernel_rfl) fun a HF => ?_
  refine aI ?_
  refine wp_ret ?_
  repeat first | refine bV ?_ | refine dh ?_
  exact dH HF rfl rfl ⟨rfl, HM.below⟩
 rw [show (((k : Nat) : Int) == 5) = false from oO (hc16)] at HF
 refine wp_pure HF HM rfl 8 [] ((jQ k mv z1 kD x jH) ++ [(49, .bool false)]) (by kernel_rfl) fun a HF => ?_
 refine aI ?_
 refine aZ HF rfl ?_
 refine wp_skip ?_
 repeat first | refine aQ ?_ | refine aU ?_
 refine aY ?_
 refine wp_pure HF HM rfl 3 [] [(3, aC z1), (7, aH kD x.img.file.length jH), (50, aH kD x.img.file.length jH), (51, aA k), (52, aV mv)] (by kernel_rfl) fun a HF => ?_
 refine eY HF (by kernel_rfl) (.pointer (some ⟨kD, 0 + k * 1, none⟩)) (by kernel_rfl) (wG Tryd.underlying33 (by kernel_rfl) rfl k rfl rfl rfl (by omega)) fun a HF => ?_
 refine qy HF HM rfl 5 _ _ rfl rfl 0 kD (0 + k * 1) Fv 5 rfl rfl (aV mv) rfl rfl rfl (by rw [qm.sz]; have hq := qm.nc; omega) (by kernel_rfl) ?_
 intro a w12 BR bU tX HF2; clear HF HM
 have tks : BR.toList.take (x.img.file.length * 1) = (x.img.file.set k (UInt8.ofNat mv)).map Bv := by rw [tX, List.take_set, qm.tk, List.map_set, wW hmv, Nat.zero_add, Nat.mul_one]
 have szs : BR.size = jH * 1 := by rw [← Array.length_toList, tX, List.length_set, Array.length_toList, qm.sz]
 have HM : Mm [] w0 w12 [(kD, .cells BR 5 (0, 0)), jB z1 x] := bU
 have HF := HF2.sub [(3, aC z1), (7, aH kD x.img.file.length jH)] (by kernel_rfl); clear bU HF2 tX
 refine dM ?_
 refine wp_pure HF HM rfl 1 [] [(3, aC z1), (55, aH kD x.img.file.length jH)] (by kernel_rfl) fun a HF => ?_
 obtain ⟨r_, hr_⟩ := (qG oD).head.id
 obtain ⟨i0, i1, i2, i3, i4, i5, i6, i7, i8, i9, jV, i11, i12, jU, jT, jS, hid, hbad⟩ := Ej hr_ k mv (by omega) hmv hm9 (by omega) (fun hq => by omega)
 refine bn HF (by kernel_rfl) 31 #[aH kD x.img.file.length jH] (by kernel_rfl) (fun w => by kernel_rfl) (Calls.mono (Dh (x.img.file.set k (UInt8.ofNat mv)) _ _ _ (by rw [List.length_set]) qm.nc hn16 i0 i1 i2 i3 i4 i5 i6 i7 i8 i9 jV i11 i12 jU jT jS hid hbad (by have hq := dK.Ok.length_le oD; omega) w12 (HM.lI (i := 0) rfl tks)) ?_)
 rintro _ wE ⟨rfl, hb⟩
 replace HM := HM.call hb
 clear hb
 refine ⟨_, rfl, ?_⟩; clear HF; intro a HF
 obtain ⟨z47, hz47⟩ : ∃ z, wE.heap.size = z := ⟨_, rfl⟩
 refine aO HF HM hz47 6 [[2]] [(3, aC z1), (9, .bool false)] [(z47, .cells #[ay 0, ay 0, ay 0, ay 0, ay 0, ay 0, ay 0, bG 0] 48 (0, 0)), (kD, .cells BR 5 (0, 0)), jB z1 x] (by kernel_rfl) fun a w HF HM => ?_
 clear hz47
 refine dM ?_
 refine wp_pure HF HM rfl 1 [[0]] [(9, .bool false), wM x] (by kernel_rfl) fun a HF => ?_
 refine bn HF (by kernel_rfl) 25 #[.agg #[.bool x.wide, .bool x.big, aV x.abi, aV x.aF, .int .i64 x.ty, .int .i64 x.machine, aJ x.entry, .slice x.A x.ss.length x.c, .slice x.B x.ps.length x.d]] (by kernel_rfl) (fun w => by kernel_rfl) (Calls.mono (vZ x w (h.below HM.below) (Gs hc5).1) ?_)
 rintro _ zU ⟨LM, NU, KN, rfl, hb, Fg⟩
 replace HM : Mm [] w0 zU [(LM, .cells KN 5 (0, 0)), (z47, .cells #[ay 0, ay 0, ay 0, ay 0, ay 0, ay 0, ay 0, bG 0] 48 (0, 0)), (kD, .cells BR 5 (0, 0)), jB z1 x] := HM.push hb Fg.new Fg.obj
 clear hb
 refine ⟨_, rfl, ?_⟩; clear HF; intro a HF
 refine bn HF (by kernel_rfl) 31 #[aH LM x.img.file.length NU] (by kernel_rfl) (fun w => by kernel_rfl) (Calls.mono (Di x.img.file _ _ _ rfl Fg.nc x.img.wide x.img.big x.img.abi x.img.aF x.img.ty x.img.machine x.img.entry (fF x.img.wide) x.img.cO.length x.img.kM x.img.all.length (DZ x.img) (Ai x.img) (Eb x.img) (qG oD) (by have hq := dK.Ok.length_le oD; omega) zU (HM.lI (i := 0) rfl Fg.tk)) ?_)
 rintro _ Cm ⟨rfl, hb⟩
 replace HM := HM.call hb
 clear hb
 refine ⟨_, rfl, ?_⟩; clear HF; intro a HF
 try simp only [aA, aJ, ay, bG, bf] at HF
 rw [show ((x.img.ty : Nat) : Int) = x.ty from Int.toNat_of_nonneg ok.Ik, show ((x.img.machine : Nat) : Int) = x.machine from Int.toNat_of_nonneg ok.mc0] at HF
 obtain ⟨z49, hz49⟩ : ∃ z, Cm.heap.size = z := ⟨_, rfl⟩
 refine aO HF HM hz49 6 [[4]] [(9, .bool false), (11, .bool true)] [(z49, .cells #[ay (if x.wide then 2 else 1), ay (if x.big then 2 else 1), ay 1, aA x.abi, aA x.aF, .int .i64 x.ty, .int .i64 x.machine, aJ x.entry] 48 (0, 0)), (LM, .cells KN 5 (0, 0)), (z47, .cells #[ay 0, ay 0, ay 0, ay 0, ay 0, ay 0, ay 0, bG 0] 48 (0, 0)), (kD, .cells BR 5 (0, 0)), jB z1 x] (by kernel_rfl) fun a w HF HM => ?_
 clear hz49
 refine dM ?_
 refine wp_pure HF HM rfl 6 [] [(6, .bool true)] (by kernel_rfl) fun a HF => ?_
 refine aI ?_
 refine wp_ret ?_
 repeat first | refine bV ?_ | refine dh ?_
 exact dH HF rfl rfl ⟨rfl, HM.below⟩

end Go.Proofs.YtdgehpocmfjbiaaDoor
namespace Go.Proofs.YtdgehpocmfjbiaaDoor.fnMagic
open Go Go.ChangeShapes Go.WideShapes Go.ChangeAt Go.RowKit Go.Deep

theorem own : ownKnob Tryd.prog.godebug = none := by kernel_rfl
theorem laidOut : laidOutB Tryd.prog = true := by kernel_rfl
theorem door_met (os : Os) (args : Array Value) : laidMetH Tryd.prog Rows.fnMagicRow.laid ((World.doorLaid Tryd.prog 123 os).forCall (fun _ _ => 0) ⟨#[], args, []⟩).memory :=
  laidMetH_of_parts3 (fuel := 8) (laidMet_of_run' 8 (by kernel_rfl) (by kernel_rfl)) (by kernel_rfl) (by kernel_rfl)

set_option maxRecDepth 100000 in
theorem lifted (os : Os) (started : os.Started) (H : Type) (enc : TypeId × Value → H) :
    ReturnsInHanded {} Tryd.checked os 8 .any (fun w args => (Rows.fnMagicSpec.pre enc Tryd.prog Tryd.f8 [] false w args ∧ laidMetH Tryd.prog Rows.fnMagicRow.laid w) ∧ sizedMet enc Tryd.prog Tryd.f8 (OpenSpec.ofChange Rows.fnMagicSpec) false w args)
      (Rows.fnMagicSpec.post enc Tryd.prog Tryd.f8 false true false false) := by
  refine returnsInHanded_of_change_and (C := Tryd.checked) (X := fun w _ => laidMetH Tryd.prog Rows.fnMagicRow.laid w) (fun _ _ _ hh h => h.of_heap hh) own started (by kernel_rfl) Tryd.func8
    (ChangeSpec.witness_shaped (enc := enc) (C := Tryd.checked) (os := os) (X := fun w _ => laidMetH Tryd.prog Rows.fnMagicRow.laid w) false (World.doorLaid Tryd.prog 123 os) #[.agg #[.bool false, .bool false, .int .u8 0, .int .u8 0, .int .i64 0, .int .i64 0, .int .u64 0, .slice none 0 0, .slice none 0 0], .int .i64 0, .int .u8 0] 8 rfl (World.shaped_of_RefB (by kernel_rfl) (by kernel_rfl)) (by kernel_rfl) (by kernel_rfl) (by kernel_rfl) (door_met os _)) ?_
  intro W base args ds gs before hval0 hW _ _ hL _
  have hval : ∀ (j : Nat) t v, Tryd.f8.params[j]? = some t → args[j]? = some v → Value.okWide Tryd.prog W .any base t v := hval0
  have hW' := hW
  obtain ⟨p, q, hA0, hV, rfl, hfz, hnd⟩ := hW
  have hA : DataW.TrodAll enc Tryd.prog W 0 (fun _ => true) true Tryd.f8.params.toList args.toList ds p := hA0
  rw [Tryd.params8] at hA hval
  obtain ⟨v0, vs0, d0, ds0, p0, q0, hargs, rfl, rfl, h0, r0⟩ := trodAll_cons hA
  obtain ⟨v1, vs1, d1, ds1, p1, q1, rfl, rfl, rfl, h1, r1⟩ := trodAll_cons r0
  obtain ⟨v2, vs2, d2, ds2, p2, q2, rfl, rfl, rfl, h2, r2⟩ := trodAll_cons r1
  obtain ⟨rfl, rfl, rfl⟩ := trodAll_nil r2
  obtain rfl : args = #[v0, v1, v2] := by cases args; simp_all
  obtain ⟨rfl, rfl⟩ := trodVars_none hV
  have k0 := h0
  have lt0 : ∀ x ∈ p0, x.block < W.heap.size := by obtain ⟨m, hm⟩ := k0; exact DataW.trod_lt m _ _ _ hm
  have k1 := h1
  have lt1 : ∀ x ∈ p1, x.block < W.heap.size := by obtain ⟨m, hm⟩ := k1; exact DataW.trod_lt m _ _ _ hm
  have k2 := h2
  have lt2 : ∀ x ∈ p2, x.block < W.heap.size := by obtain ⟨m, hm⟩ := k2; exact DataW.trod_lt m _ _ _ hm
  obtain ⟨x0, rfl, hx0⟩ := Ll (hval 0 26 v0 rfl rfl) h0
  obtain ⟨a1, rfl, -, -, z1⟩ := open_int Tryd.underlying3 (hval 1 3 v1 rfl rfl) h1
  have q1 := bounds_i64 z1
  obtain ⟨a2, rfl, -, -, z2⟩ := open_int Tryd.underlying5 (hval 2 5 v2 rfl rfl) h2
  have q2 := bounds_u8 z2
  obtain ⟨m2, rfl⟩ := Int.eq_ofNat_of_zero_le q2.1
  clear hA0 hval0
  refine (KE x0 a1 m2 W hx0 q1 (by omega)).mono fun e W' ⟨he, bel⟩ => ?_
  subst he
  exact ⟨_, rfl, _, _, _, [], _, [], hW', trodAll_mk1 (shut_bool Tryd.underlying4 _), (trodAll_cons_mk (Below.trod laidOut (by kernel_rfl) (of_decide_eq_true (by kernel_rfl)) k0 bel lt0) (trodAll_cons_mk (Below.trod laidOut (by kernel_rfl) (of_decide_eq_true (by kernel_rfl)) k1 bel lt1) (trodAll_cons_mk (Below.trod laidOut (by kernel_rfl) (of_decide_eq_true (by kernel_rfl)) k2 bel lt2) trodAll_mk0))), rfl, bel.frame _, fun h => by cases h⟩

set_option maxRecDepth 100000 in
theorem ND : joinedFacts Tryd.pinned.checked.prog 8 Tryd.f8 Rows.fnMagicSpec Rows.fnMagicRow = true := (and_t (and_t (and_t (and_t (and_t (and_t (and_t (and_t (and_t (and_t (and_t (and_t (and_t (and_t (and_t (and_t (and_t (and_t (and_t (and_t (and_t (and_t (and_t (and_t (and_t (and_t (and_t (and_t (and_t (and_t (and_t l0 l1) l2) l3) l4) l5) l6) l7) l8) l9) l10) l11) l12) l13) l14) l15) l16) l17) l18) l19) l20) l21) l22) l23) l24) l25) l26) l27) l28) l29) l30) l31)

theorem over : Rows.FnMagicSaid :=
  OpenClaim.holds_of_wide 8 Tryd.f8 rfl rfl rfl rfl rfl rfl rfl ⟨rfl, rfl, rfl, rfl, rfl⟩ rfl rfl rfl rfl rfl c5 Tryd.func8 ND
    (of_decide_eq_true (by kernel_rfl)) (by unfold Func.isWrapper; first | (rw [if_pos (by decide +kernel)]; kernel_rfl) | (rw [if_neg (by decide +kernel)]; exact ⟨rfl, rfl⟩))
    (fun os started H enc _ => lifted os started H enc)

theorem proved : Rows.FnMagicCardSaid :=
  Claim7.holds_tied_plain_at .later [] [.sentinel, .sentinel, .sentinel, .sentinel, .sentinel] true (true, "ed888367449acd6afd80057b2906ce1b79ec16b7beef13a0a9ac5f630eedede4") true
    over (fun _ h => by cases h) c1 (fun _ h => by cases h) fnMagic_row_tie rfl ⟨rfl, rfl⟩ qc4 rfl
    (fun f fn hf hfn => by
      obtain rfl : f = 8 := Option.some.inj (c5.symm.trans hf) |>.symm
      obtain rfl : fn = Tryd.f8 := (Option.some.inj (Tryd.func8.symm.trans hfn)).symm
      exact ⟨qc2, fun j t ht => by
        rw [Tryd.params8] at ht
        have hm : t ∈ [26, 3, 5] := by simpa using Array.mem_of_getElem? ht
        have hall : ([26, 3, 5].all fun u => !Tryd.prog.wantsStandIn u) = true := by kernel_rfl
        exact (show Tryd.prog.wantsStandIn t = false by simpa using List.all_eq_true.1 hall t hm)⟩)
    c3
#print axioms proved
end Go.Proofs.YtdgehpocmfjbiaaDoor.fnMagic
