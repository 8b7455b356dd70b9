/- Images as they lie in memory. · An image of which IsImage says true lays out a good file. · laws.zzFits1 to zzFits5: they return, and turn nothing. ·  -/
import Derived.Test.YtdgehpocmfjbiaaDoorSb
import Derived.Test.YtdgehpocmfjbiaaDoorSd
import Derived.Test.YtdgehpocmfjbiaaDoorSf
set_option linter.unusedVariables false
set_option linter.unusedSimpArgs false
set_option maxRecDepth 100000
set_option maxHeartbeats 2000000
namespace Go.Proofs.YtdgehpocmfjbiaaDoor
open Go.RowKit

structure kL where
 ty : Nat
 flags : Nat
 bU : Nat
 bV : Nat
 bY : Nat
 align : Nat
 data : List UInt8
 A : Option Addr
 c : Nat
structure dP where
 name : List UInt8
 ty : Nat
 flags : Nat
 addr : Nat
 link : Nat
 info : Nat
 align : Nat
 ent : Nat
 size : Nat
 data : List UInt8
 A : Option Addr
 c : Nat
def kL.cells (m : kL) : List Value := [.int .u32 ((m.ty : Nat) : Int), .int .u32 ((m.flags : Nat) : Int), .int .u64 ((m.bU : Nat) : Int), .int .u64 ((m.bV : Nat) : Int), .int .u64 ((m.bY : Nat) : Int), .int .u64 ((m.align : Nat) : Int), .slice m.A m.data.length m.c]
def dP.cells (m : dP) : List Value := [.string (⟨m.name.toArray⟩), .int .u32 ((m.ty : Nat) : Int), .int .u32 ((m.flags : Nat) : Int), .int .u64 ((m.addr : Nat) : Int), .int .u32 ((m.link : Nat) : Int), .int .u32 ((m.info : Nat) : Int), .int .u64 ((m.align : Nat) : Int), .int .u64 ((m.ent : Nat) : Int), .int .u64 ((m.size : Nat) : Int), .slice m.A m.data.length m.c]
structure b_ where
 wide : Bool
 big : Bool
 abi : Nat
 aH : Nat
 ty : Int
 machine : Int
 entry : Nat
 ss : List kL
 A : Option Addr
 c : Nat
 ps : List dP
 B : Option Addr
 d : Nat
def b_.val (x : b_) : Value := .agg #[.bool x.wide, .bool x.big, .int .u8 ((x.abi : Nat) : Int), .int .u8 ((x.aH : Nat) : Int), .int .i64 x.ty, .int .i64 x.machine, .int .u64 ((x.entry : Nat) : Int), .slice x.A x.ss.length x.c, .slice x.B x.ps.length x.d]
structure kL.At (w : World) (m : kL) : Prop where
 row : Row w m.A (m.data.map Bv)
 c1 : m.data.length ≤ m.c
 c2 : m.c ≤ maxLen
 ty : m.ty < 4294967296
 flags : m.flags < 4294967296
 bU : m.bU < 18446744073709551616
 bV : m.bV < 18446744073709551616
 bY : m.bY < 18446744073709551616
 align : m.align < 18446744073709551616
structure dP.At (w : World) (m : dP) : Prop where
 row : Row w m.A (m.data.map Bv)
 c1 : m.data.length ≤ m.c
 c2 : m.c ≤ maxLen
 nm : m.name.length ≤ maxLen
 ty : m.ty < 4294967296
 flags : m.flags < 4294967296
 addr : m.addr < 18446744073709551616
 link : m.link < 4294967296
 info : m.info < 4294967296
 align : m.align < 18446744073709551616
 ent : m.ent < 18446744073709551616
 size : m.size < 18446744073709551616
structure b_.At (w : World) (x : b_) : Prop where
 dA : Row w x.A (x.ss.flatMap kL.cells)
 parts : Row w x.B (x.ps.flatMap dP.cells)
 seg : ∀ m ∈ x.ss, kL.At w m
 part : ∀ m ∈ x.ps, dP.At w m
 c1 : x.ss.length ≤ x.c
 c2 : x.c ≤ maxLen
 d1 : x.ps.length ≤ x.d
 d2 : x.d ≤ maxLen
 abi : x.abi < 256
 aH : x.aH < 256
 entry : x.entry < 18446744073709551616
theorem kL.At.below {w w' : World} {m : kL} (h : kL.At w m) (hb : Below w.heap.size w w') : kL.At w' m := { h with row := h.row.below hb }
theorem dP.At.below {w w' : World} {m : dP} (h : dP.At w m) (hb : Below w.heap.size w w') : dP.At w' m := { h with row := h.row.below hb }
theorem b_.At.below {w w' : World} {x : b_} (h : b_.At w x) (hb : Below w.heap.size w w') : b_.At w' x :=
 { h with dA := h.dA.below hb, parts := h.parts.below hb, seg := fun m hm => (h.seg m hm).below hb, part := fun m hm => (h.part m hm).below hb }
def kL.seg (m : kL) : Seg := ⟨m.ty, m.flags, m.bU, m.bV, m.bY, m.align, m.data⟩
def dP.part (m : dP) : Part := ⟨m.name, m.ty, m.flags, m.addr, m.link, m.info, m.align, m.ent, m.size, m.data⟩
def b_.img (x : b_) : dU := ⟨x.wide, x.big, x.abi, x.aH, x.ty.toNat, x.machine.toNat, x.entry, x.ss.map kL.seg, x.ps.map dP.part⟩
/-- what IsImage tells of a segment -/
structure kL.Ok (wide : Bool) (m : kL) : Prop where
 fit : lY wide [m.bU, m.bV, m.bY, m.align] = true
 ty : m.ty < 2147483648
 data : m.data.length ≤ 65536
structure dP.Ok (wide : Bool) (m : dP) : Prop where
 fit : lY wide [m.addr, m.align, m.ent, m.size] = true
 name : m.name.length ≤ 1024
 EM : 0 ∉ m.name
 data : m.data.length ≤ 1100000
 J7 : m.ty ≠ 0
 J6 : m.ty < 1610612736
 zip : wC ⟨m.name.toArray⟩ = false
 flags : (qO (m.flags : Int) 2048 == 0) = true
 bss : m.ty = 8 → m.data.length = 0
 size : m.size < 4611686018427387904
structure b_.Ok (x : b_) : Prop where
 J7 : 0 ≤ x.ty
 J6 : x.ty ≤ 65535
 mc0 : 0 ≤ x.machine
 mc1 : x.machine ≤ 65535
 fit : lY x.wide [x.entry] = true
 dA : x.ss.length ≤ 100
 parts : x.ps.length ≤ 102
 seg : ∀ m ∈ x.ss, kL.Ok x.wide m
 part : ∀ m ∈ x.ps, dP.Ok x.wide m
theorem rU {wide : Bool} {l : List Nat} (h : lY wide l = true) {n : Nat} (hn : n ∈ l) (h64 : n < 18446744073709551616) : n < 256 ^ iT wide := by
 cases wide with
 | true => exact h64
 | false =>
  simp only [lY, Bool.false_or, List.all_eq_true, decide_eq_true_eq] at h
  exact h n hn
end Go.Proofs.YtdgehpocmfjbiaaDoor
namespace Go.Proofs.YtdgehpocmfjbiaaDoor
open Go.RowKit

theorem b_.ok {x : b_} {w : World} (h : x.Ok) (a : x.At w) : x.img.Ok where
 abi := a.abi
 aH := a.aH
 ty := by have := h.J7; have := h.J6; show x.ty.toNat < _; omega
 machine := by have := h.mc0; have := h.mc1; show x.machine.toNat < _; omega
 entry := rU h.fit (n := x.entry) (by simp) a.entry
 dA := by show (x.ss.map _).length ≤ _; rw [List.length_map]; exact h.dA
 parts := by show (x.ps.map _).length ≤ _; rw [List.length_map]; exact h.parts
 seg := fun s hs => by
  obtain ⟨m, hm, rfl⟩ := List.mem_map.1 (show s ∈ x.ss.map kL.seg from hs)
  have o := h.seg m hm
  have b := a.seg m hm
  exact ⟨o.ty, b.flags, rU o.fit (n := m.bU) (by simp) b.bU, rU o.fit (n := m.bV) (by simp) b.bV, rU o.fit (n := m.bY) (by simp) b.bY, rU o.fit (n := m.align) (by simp) b.align, o.data⟩
 part := fun p hp => by
  obtain ⟨m, hm, rfl⟩ := List.mem_map.1 (show p ∈ x.ps.map dP.part from hp)
  have o := h.part m hm
  have b := a.part m hm
  exact ⟨o.name, o.EM, b.ty, b.flags, o.flags, rU o.fit (n := m.addr) (by simp) b.addr, b.link, b.info, rU o.fit (n := m.align) (by simp) b.align, rU o.fit (n := m.ent) (by simp) b.ent, rU o.fit (n := m.size) (by simp) b.size, o.size, o.data⟩
end Go.Proofs.YtdgehpocmfjbiaaDoor
namespace Go.Proofs.YtdgehpocmfjbiaaDoor
open Go.RowKit

theorem L6 (m : kL) (w0 : World) : Calls Tryd.prog 76 #[.agg #[bn m.ty, bn m.flags, aI m.bU, aI m.bV, aI m.bY, aI m.align, .slice m.A m.data.length m.c]] w0 fun e w' => ∃ b, e = .returned (.bool b) ∧ Below w0.heap.size w0 w' := by
 obtain ⟨w, hw⟩ : ∃ w, w0 = w := ⟨_, rfl⟩
 have HM : Mm [] w0 w [] := hw ▸ Mm.start w0
 conv => arg 4; rw [hw]
 clear hw
 refine cu Tryd.func76 rfl Tryd.ntmps76 [(0, .agg #[bn m.ty, bn m.flags, aI m.bU, aI m.bV, aI m.bY, aI m.align, .slice m.A m.data.length m.c])] (by kernel_rfl) (Nat.le_of_ble_eq_true rfl) ?_
 intro a HF
 refine aO ?_
 obtain ⟨z1, hz1⟩ : ∃ z, w.heap.size = z := ⟨_, rfl⟩
 refine aT HF HM hz1 2 [] [(1, aB z1)] [(z1, .cells #[bn m.ty, bn m.flags, aI m.bU, aI m.bV, aI m.bY, aI m.align, .slice m.A m.data.length m.c] 57 (0, 0))] (by kernel_rfl) fun a w HF HM => ?_
 clear hz1
 refine aA ?_
 refine wp_seq ?_
 refine aO ?_
 refine wp_pure HF HM rfl 4 [[0]] [(6, .bool (decide (2147483647 < ((m.data.length : Nat) : Int))))] (by kernel_rfl) fun a HF => ?_
 refine aA ?_
 by_cases hc1 : 2147483647 < ((m.data.length : Nat) : Int)
 ·rw [show decide (2147483647 < ((m.data.length : Nat) : Int)) = true from dK (hc1)] at HF
  refine bD HF rfl ?_
  refine aO ?_
  refine wp_pure HF HM rfl 1 [] [(2, .bool false)] (by kernel_rfl) fun a HF => ?_
  refine aA ?_
  refine wp_ret ?_
  repeat first | refine bJ ?_ | refine bM ?_
  exact bQ HF rfl rfl ⟨false, rfl, HM.below⟩
 rw [show decide (2147483647 < ((m.data.length : Nat) : Int)) = false from cZ (hc1)] at HF
 refine aY HF rfl ?_
 refine wp_skip ?_
 repeat first | refine aK ?_ | refine aP ?_
 refine aO ?_
 refine wp_pure HF HM rfl 1 [] [(2, .bool true)] (by kernel_rfl) fun a HF => ?_
 refine aA ?_
 refine wp_ret ?_
 repeat first | refine bJ ?_ | refine bM ?_
 exact bQ HF rfl rfl ⟨true, rfl, HM.below⟩

theorem LY (m : dP) (w0 : World) : Calls Tryd.prog 77 #[.agg #[.string (⟨m.name.toArray⟩), bn m.ty, bn m.flags, aI m.addr, bn m.link, bn m.info, aI m.align, aI m.ent, aI m.size, .slice m.A m.data.length m.c]] w0 fun e w' => ∃ b, e = .returned (.bool b) ∧ Below w0.heap.size w0 w' := by
 obtain ⟨w, hw⟩ : ∃ w, w0 = w := ⟨_, rfl⟩
 have HM : Mm [] w0 w [] := hw ▸ Mm.start w0
 conv => arg 4; rw [hw]
 clear hw
 refine cu Tryd.func77 rfl Tryd.ntmps77 [(0, .agg #[.string (⟨m.name.toArray⟩), bn m.ty, bn m.flags, aI m.addr, bn m.link, bn m.info, aI m.align, aI m.ent, aI m.size, .slice m.A m.data.length m.c])] (by kernel_rfl) (Nat.le_of_ble_eq_true rfl) ?_
 intro a HF
 refine aO ?_
 obtain ⟨z1, hz1⟩ : ∃ z, w.heap.size = z := ⟨_, rfl⟩
 refine aT HF HM hz1 2 [] [(1, aB z1)] [(z1, .cells #[.string (⟨m.name.toArray⟩), bn m.ty, bn m.flags, aI m.addr, bn m.link, bn m.info, aI m.align, aI m.ent, aI m.size, .slice m.A m.data.length m.c] 46 (0, 0))] (by kernel_rfl) fun a w HF HM => ?_
 clear hz1
 refine aA ?_
 refine wp_seq ?_
 refine aO ?_
 refine wp_pure HF HM rfl 4 [[0]] [(1, aB z1), (6, .bool (decide (2147483647 < ((m.name.length : Nat) : Int))))] (by kernel_rfl) fun a HF => ?_
 refine aA ?_
 by_cases hc1 : 2147483647 < ((m.name.length : Nat) : Int)
 ·rw [show decide (2147483647 < ((m.name.length : Nat) : Int)) = true from dK (hc1)] at HF
  refine bD HF rfl ?_
  refine aO ?_
  refine wp_pure HF HM rfl 1 [] [(2, .bool false)] (by kernel_rfl) fun a HF => ?_
  refine aA ?_
  refine wp_ret ?_
  repeat first | refine bJ ?_ | refine bM ?_
  exact bQ HF rfl rfl ⟨false, rfl, HM.below⟩
 rw [show decide (2147483647 < ((m.name.length : Nat) : Int)) = false from cZ (hc1)] at HF
 refine aY HF rfl ?_
 refine wp_skip ?_
 repeat first | refine aK ?_ | refine aP ?_
 refine wp_seq ?_
 refine aO ?_
 refine wp_pure HF HM rfl 4 [[0]] [(10, .bool (decide (2147483647 < ((m.data.length : Nat) : Int))))] (by kernel_rfl) fun a HF => ?_
 refine aA ?_
 by_cases hc2 : 2147483647 < ((m.data.length : Nat) : Int)
 ·rw [show decide (2147483647 < ((m.data.length : Nat) : Int)) = true from dK (hc2)] at HF
  refine bD HF rfl ?_
  refine aO ?_
  refine wp_pure HF HM rfl 1 [] [(2, .bool false)] (by kernel_rfl) fun a HF => ?_
  refine aA ?_
  refine wp_ret ?_
  repeat first | refine bJ ?_ | refine bM ?_
  exact bQ HF rfl rfl ⟨false, rfl, HM.below⟩
 rw [show decide (2147483647 < ((m.data.length : Nat) : Int)) = false from cZ (hc2)] at HF
 refine aY HF rfl ?_
 refine wp_skip ?_
 repeat first | refine aK ?_ | refine aP ?_
 refine aO ?_
 refine wp_pure HF HM rfl 1 [] [(2, .bool true)] (by kernel_rfl) fun a HF => ?_
 refine aA ?_
 refine wp_ret ?_
 repeat first | refine bJ ?_ | refine bM ?_
 exact bQ HF rfl rfl ⟨true, rfl, HM.below⟩

abbrev jB := fun (A : Option Addr) (l : List kL) (c : Nat) => ([(8, .slice A l.length c), (9, ay l.length)] : Slots)
theorem L8 (l : List kL) (A : Option Addr) (c : Nat) (w0 : World) (hr : Row w0 A (l.flatMap kL.cells)) : Calls Tryd.prog 49 #[.slice A l.length c] w0 fun e w' => ∃ b, e = .returned (.bool b) ∧ Below w0.heap.size w0 w' := by
 obtain ⟨w, hw⟩ : ∃ w, w0 = w := ⟨_, rfl⟩
 have HM : Mm [] w0 w [] := hw ▸ Mm.start w0
 conv => arg 4; rw [hw]
 clear hw
 refine cu Tryd.func49 rfl Tryd.ntmps49 [(0, .slice A l.length c)] (by kernel_rfl) (Nat.le_of_ble_eq_true rfl) ?_
 intro a HF
 refine aO ?_
 refine wp_pure HF HM rfl 1 [] [(0, .slice A l.length c)] (by kernel_rfl) fun a HF => ?_
 refine aA ?_
 refine wp_seq ?_
 refine aO ?_
 refine wp_pure HF HM rfl 3 [] [(0, .slice A l.length c), (7, .bool (decide (2147483647 < ((l.length : Nat) : Int))))] (by kernel_rfl) fun a HF => ?_
 refine aA ?_
 by_cases hc1 : 2147483647 < ((l.length : Nat) : Int)
 ·rw [show decide (2147483647 < ((l.length : Nat) : Int)) = true from dK (hc1)] at HF
  refine bD HF rfl ?_
  refine aO ?_
  refine wp_pure HF HM rfl 1 [] [(2, .bool false)] (by kernel_rfl) fun a HF => ?_
  refine aA ?_
  refine wp_ret ?_
  repeat first | refine bJ ?_ | refine bM ?_
  exact bQ HF rfl rfl ⟨false, rfl, HM.below⟩
 rw [show decide (2147483647 < ((l.length : Nat) : Int)) = false from cZ (hc1)] at HF
 refine aY HF rfl ?_
 refine wp_skip ?_
 repeat first | refine aK ?_ | refine aP ?_
 refine wp_seq ?_
 refine aO ?_
 refine wp_pure HF HM rfl 3 [] ((jB A l c) ++ [(10, aF 0)]) (by kernel_rfl) fun a HF => ?_
 refine aA ?_
 refine wp_block ?_
 refine kC (l.length) (fun i a w => (Mm [] w0 w [] ∧ Fr 18 a ((jB A l c) ++ [(10, ay i)]))) ?_ ?_ ?_
 ·exact ⟨HM, HF.sub ((jB A l c) ++ [(10, aF 0)]) (by kernel_rfl)⟩
 ·intro i a w KX hi hI KR
  obtain ⟨HM, HF⟩ := hI
  refine aO ?_
  refine wp_pure HF HM rfl 1 [] ((jB A l c) ++ [(10, ay i), (11, .bool (decide (((i : Nat) : Int) < ((l.length : Nat) : Int))))]) (by kernel_rfl) fun a HF => ?_
  refine aA ?_
  refine wp_seq ?_
  rw [show decide (((i : Nat) : Int) < ((l.length : Nat) : Int)) = true from dK (by omega)] at HF
  refine bD HF rfl ?_
  refine wp_skip ?_
  repeat first | refine aK ?_ | refine aP ?_
  refine wp_seq ?_
  refine wp_block ?_
  refine aO ?_
  obtain ⟨m2, hm2⟩ : ∃ m, l[i]? = some m := ⟨_, List.getElem?_eq_getElem (by omega)⟩
  refine dG HF (by kernel_rfl) (.pointer (Option.map (fun q : Addr => q.add (i * 7)) A)) (by kernel_rfl) (fD Tryd.underlying23 (by kernel_rfl) rfl i rfl rfl (by omega) (ji (ku (f := kL.cells) (k := 7) (fun _ => rfl) (HM.row hr) i hm2) (Nat.zero_lt_succ _))) fun a HF => ?_
  refine dG HF (by kernel_rfl) (.agg #[bn m2.ty, bn m2.flags, aI m2.bU, aI m2.bV, aI m2.bY, aI m2.align, .slice m2.A m2.data.length m2.c]) (by kernel_rfl) (lJ rfl rfl (ku (f := kL.cells) (k := 7) (fun _ => rfl) (HM.row hr) i hm2) (Nat.zero_lt_succ _) Tryd.underlying57 rfl (by kernel_rfl)) fun a HF => ?_
  obtain ⟨z6, EX⟩ : ∃ z, w.heap.size = z := ⟨_, rfl⟩
  refine aT HF HM EX 2 [[0]] [(4, aB z6), (8, .slice A l.length c), (9, ay l.length), (10, ay i)] [(z6, .cells #[bn m2.ty, bn m2.flags, aI m2.bU, aI m2.bV, aI m2.bY, aI m2.align, .slice m2.A m2.data.length m2.c] 57 (0, 0))] (by kernel_rfl) fun a w HF HM => ?_
  clear EX
  refine dF ?_
  refine wp_pure HF HM rfl 1 [[0]] ((jB A l c) ++ [(10, ay i), (14, .agg #[bn m2.ty, bn m2.flags, aI m2.bU, aI m2.bV, aI m2.bY, aI m2.align, .slice m2.A m2.data.length m2.c])]) (by kernel_rfl) fun a HF => ?_
  refine bf HF (by kernel_rfl) 76 #[.agg #[bn m2.ty, bn m2.flags, aI m2.bU, aI m2.bV, aI m2.bY, aI m2.align, .slice m2.A m2.data.length m2.c]] (by kernel_rfl) (fun w => by kernel_rfl) (Calls.mono (L6 m2 w) ?_)
  rintro _ w1 ⟨b3, rfl, hb⟩
  replace HM := HM.call hb
  clear hb
  refine ⟨_, rfl, ?_⟩; clear HF; intro a HF
  replace HF := HF.sub ((jB A l c) ++ [(10, ay i), (15, .bool b3)]) (by kernel_rfl)
  rcases dZ b3 with hc4 | hc4
  ·replace HF := Fr.sub (Fr.tell HF 15 rfl (congrArg Value.bool hc4)) ((jB A l c) ++ [(10, ay i), (15, .bool false)]) (by kernel_rfl)
   refine wp_pure HF HM rfl 1 [] ((jB A l c) ++ [(10, ay i), (16, .bool true)]) (by kernel_rfl) fun a HF => ?_
   refine aA ?_
   refine bD HF rfl ?_
   refine aO ?_
   refine wp_pure HF HM rfl 1 [] [(2, .bool false)] (by kernel_rfl) fun a HF => ?_
   refine aA ?_
   refine wp_ret ?_
   repeat first | refine bJ ?_ | refine bM ?_
   exact bQ HF rfl rfl ⟨false, rfl, HM.below⟩
  replace HF := Fr.sub (Fr.tell HF 15 rfl (congrArg Value.bool hc4)) ((jB A l c) ++ [(10, ay i), (15, .bool true)]) (by kernel_rfl)
  refine wp_pure HF HM rfl 1 [] ((jB A l c) ++ [(10, ay i), (16, .bool false)]) (by kernel_rfl) fun a HF => ?_
  refine aA ?_
  refine aY HF rfl ?_
  refine wp_skip ?_
  repeat first | refine aK ?_ | refine aP ?_
  refine wp_region_lit ?_
  refine wp_pure HF HM rfl 1 [] ((jB A l c) ++ [(17, aF (IntKind.i64.wrap (((i : Nat) : Int) + 1)))]) (by kernel_rfl) fun a HF => ?_
  rw [show IntKind.i64.wrap (((i : Nat) : Int) + 1) = (((i + 1) : Nat) : Int) from (IntWalk.i64_in _ (by omega)).trans (by omega)] at HF
  refine wp_pure HF HM rfl 1 [] ((jB A l c) ++ [(10, ay (i + 1))]) (by kernel_rfl) fun a HF => ?_
  refine wpList_nil ?_
  repeat first | refine aK ?_ | refine aP ?_
  exact KR _ _ (⟨(HM.pick [] [] rfl (by decide)), HF.sub ((jB A l c) ++ [(10, ay (i + 1))]) (by kernel_rfl)⟩)
 ·intro a w KX hI
  obtain ⟨HM, HF⟩ := hI
  refine aO ?_
  refine wp_pure HF HM rfl 1 [] ((jB A l c) ++ [(10, ay l.length), (11, .bool (decide (((l.length : Nat) : Int) < ((l.length : Nat) : Int))))]) (by kernel_rfl) fun a HF => ?_
  refine aA ?_
  refine wp_seq ?_
  rw [show decide (((l.length : Nat) : Int) < ((l.length : Nat) : Int)) = false from cZ (by omega)] at HF
  refine aY HF rfl ?_
  refine wp_exit ?_
  repeat (first | refine eH ?_ | refine dY rfl ?_)
  refine gZ ?_
  repeat first | refine aK ?_ | refine aP ?_
  refine aO ?_
  refine wp_pure HF HM rfl 1 [] [(2, .bool true)] (by kernel_rfl) fun a HF => ?_
  refine aA ?_
  refine wp_ret ?_
  repeat first | refine bJ ?_ | refine bM ?_
  exact bQ HF rfl rfl ⟨true, rfl, HM.below⟩

abbrev jA := fun (A : Option Addr) (l : List dP) (c : Nat) => ([(8, .slice A l.length c), (9, ay l.length)] : Slots)
theorem LZ (l : List dP) (A : Option Addr) (c : Nat) (w0 : World) (hr : Row w0 A (l.flatMap dP.cells)) : Calls Tryd.prog 50 #[.slice A l.length c] w0 fun e w' => ∃ b, e = .returned (.bool b) ∧ Below w0.heap.size w0 w' := by
 obtain ⟨w, hw⟩ : ∃ w, w0 = w := ⟨_, rfl⟩
 have HM : Mm [] w0 w [] := hw ▸ Mm.start w0
 conv => arg 4; rw [hw]
 clear hw
 refine cu Tryd.func50 rfl Tryd.ntmps50 [(0, .slice A l.length c)] (by kernel_rfl) (Nat.le_of_ble_eq_true rfl) ?_
 intro a HF
 refine aO ?_
 refine wp_pure HF HM rfl 1 [] [(0, .slice A l.length c)] (by kernel_rfl) fun a HF => ?_
 refine aA ?_
 refine wp_seq ?_
 refine aO ?_
 refine wp_pure HF HM rfl 3 [] [(0, .slice A l.length c), (7, .bool (decide (2147483647 < ((l.length : Nat) : Int))))] (by kernel_rfl) fun a HF => ?_
 refine aA ?_
 by_cases hc1 : 2147483647 < ((l.length : Nat) : Int)
 ·rw [show decide (2147483647 < ((l.length : Nat) : Int)) = true from dK (hc1)] at HF
  refine bD HF rfl ?_
  refine aO ?_
  refine wp_pure HF HM rfl 1 [] [(2, .bool false)] (by kernel_rfl) fun a HF => ?_
  refine aA ?_
  refine wp_ret ?_
  repeat first | refine bJ ?_ | refine bM ?_
  exact bQ HF rfl rfl ⟨false, rfl, HM.below⟩
 rw [show decide (2147483647 < ((l.length : Nat) : Int)) = false from cZ (hc1)] at HF
 refine aY HF rfl ?_
 refine wp_skip ?_
 repeat first | refine aK ?_ | refine aP ?_
 refine wp_seq ?_
 refine aO ?_
 refine wp_pure HF HM rfl 3 [] ((jA A l c) ++ [(10, aF 0)]) (by kernel_rfl) fun a HF => ?_
 refine aA ?_
 refine wp_block ?_
 refine kC (l.length) (fun i a w => (Mm [] w0 w [] ∧ Fr 18 a ((jA A l c) ++ [(10, ay i)]))) ?_ ?_ ?_
 ·exact ⟨HM, HF.sub ((jA A l c) ++ [(10, aF 0)]) (by kernel_rfl)⟩
 ·intro i a w KX hi hI KR
  obtain ⟨HM, HF⟩ := hI
  refine aO ?_
  refine wp_pure HF HM rfl 1 [] ((jA A l c) ++ [(10, ay i), (11, .bool (decide (((i : Nat) : Int) < ((l.length : Nat) : Int))))]) (by kernel_rfl) fun a HF => ?_
  refine aA ?_
  refine wp_seq ?_
  rw [show decide (((i : Nat) : Int) < ((l.length : Nat) : Int)) = true from dK (by omega)] at HF
  refine bD HF rfl ?_
  refine wp_skip ?_
  repeat first | refine aK ?_ | refine aP ?_
  refine wp_seq ?_
  refine wp_block ?_
  refine aO ?_
  obtain ⟨m2, hm2⟩ : ∃ m, l[i]? = some m := ⟨_, List.getElem?_eq_getElem (by omega)⟩
  refine dG HF (by kernel_rfl) (.pointer (Option.map (fun q : Addr => q.add (i * 10)) A)) (by kernel_rfl) (fD Tryd.underlying24 (by kernel_rfl) rfl i rfl rfl (by omega) (ji (ku (f := dP.cells) (k := 10) (fun _ => rfl) (HM.row hr) i hm2) (Nat.zero_lt_succ _))) fun a HF => ?_
  refine dG HF (by kernel_rfl) (.agg #[.string (⟨m2.name.toArray⟩), bn m2.ty, bn m2.flags, aI m2.addr, bn m2.link, bn m2.info, aI m2.align, aI m2.ent, aI m2.size, .slice m2.A m2.data.length m2.c]) (by kernel_rfl) (lJ rfl rfl (ku (f := dP.cells) (k := 10) (fun _ => rfl) (HM.row hr) i hm2) (Nat.zero_lt_succ _) Tryd.underlying46 rfl (by kernel_rfl)) fun a HF => ?_
  obtain ⟨z6, EX⟩ : ∃ z, w.heap.size = z := ⟨_, rfl⟩
  refine aT HF HM EX 2 [[0]] [(4, aB z6), (8, .slice A l.length c), (9, ay l.length), (10, ay i)] [(z6, .cells #[.string (⟨m2.name.toArray⟩), bn m2.ty, bn m2.flags, aI m2.addr, bn m2.link, bn m2.info, aI m2.align, aI m2.ent, aI m2.size, .slice m2.A m2.data.length m2.c] 46 (0, 0))] (by kernel_rfl) fun a w HF HM => ?_
  clear EX
  refine dF ?_
  refine wp_pure HF HM rfl 1 [[0]] ((jA A l c) ++ [(10, ay i), (14, .agg #[.string (⟨m2.name.toArray⟩), bn m2.ty, bn m2.flags, aI m2.addr, bn m2.link, bn m2.info, aI m2.align, aI m2.ent, aI m2.size, .slice m2.A m2.data.length m2.c])]) (by kernel_rfl) fun a HF => ?_
  refine bf HF (by kernel_rfl) 77 #[.agg #[.string (⟨m2.name.toArray⟩), bn m2.ty, bn m2.flags, aI m2.addr, bn m2.link, bn m2.info, aI m2.align, aI m2.ent, aI m2.size, .slice m2.A m2.data.length m2.c]] (by kernel_rfl) (fun w => by kernel_rfl) (Calls.mono (LY m2 w) ?_)
  rintro _ w1 ⟨b3, rfl, hb⟩
  replace HM := HM.call hb
  clear hb
  refine ⟨_, rfl, ?_⟩; clear HF; intro a HF
  replace HF := HF.sub ((jA A l c) ++ [(10, ay i), (15, .bool b3)]) (by kernel_rfl)
  rcases dZ b3 with hc4 | hc4
  ·replace HF := Fr.sub (Fr.tell HF 15 rfl (congrArg Value.bool hc4)) ((jA A l c) ++ [(10, ay i), (15, .bool false)]) (by kernel_rfl)
   refine wp_pure HF HM rfl 1 [] ((jA A l c) ++ [(10, ay i), (16, .bool true)]) (by kernel_rfl) fun a HF => ?_
   refine aA ?_
   refine bD HF rfl ?_
   refine aO ?_
   refine wp_pure HF HM rfl 1 [] [(2, .bool false)] (by kernel_rfl) fun a HF => ?_
   refine aA ?_
   refine wp_ret ?_
   repeat first | refine bJ ?_ | refine bM ?_
   exact bQ HF rfl rfl ⟨false, rfl, HM.below⟩
  replace HF := Fr.sub (Fr.tell HF 15 rfl (congrArg Value.bool hc4)) ((jA A l c) ++ [(10, ay i), (15, .bool true)]) (by kernel_rfl)
  refine wp_pure HF HM rfl 1 [] ((jA A l c) ++ [(10, ay i), (16, .bool false)]) (by kernel_rfl) fun a HF => ?_
  refine aA ?_
  refine aY HF rfl ?_
  refine wp_skip ?_
  repeat first | refine aK ?_ | refine aP ?_
  refine wp_region_lit ?_
  refine wp_pure HF HM rfl 1 [] ((jA A l c) ++ [(17, aF (IntKind.i64.wrap (((i : Nat) : Int) + 1)))]) (by kernel_rfl) fun a HF => ?_
  rw [show IntKind.i64.wrap (((i : Nat) : Int) + 1) = (((i + 1) : Nat) : Int) from (IntWalk.i64_in _ (by omega)).trans (by omega)] at HF
  refine wp_pure HF HM rfl 1 [] ((jA A l c) ++ [(10, ay (i + 1))]) (by kernel_rfl) fun a HF => ?_
  refine wpList_nil ?_
  repeat first | refine aK ?_ | refine aP ?_
  exact KR _ _ (⟨(HM.pick [] [] rfl (by decide)), HF.sub ((jA A l c) ++ [(10, ay (i + 1))]) (by kernel_rfl)⟩)
 ·intro a w KX hI
  obtain ⟨HM, HF⟩ := hI
  refine aO ?_
  refine wp_pure HF HM rfl 1 [] ((jA A l c) ++ [(10, ay l.length), (11, .bool (decide (((l.length : Nat) : Int) < ((l.length : Nat) : Int))))]) (by kernel_rfl) fun a HF => ?_
  refine aA ?_
  refine wp_seq ?_
  rw [show decide (((l.length : Nat) : Int) < ((l.length : Nat) : Int)) = false from cZ (by omega)] at HF
  refine aY HF rfl ?_
  refine wp_exit ?_
  repeat (first | refine eH ?_ | refine dY rfl ?_)
  refine gZ ?_
  repeat first | refine aK ?_ | refine aP ?_
  refine aO ?_
  refine wp_pure HF HM rfl 1 [] [(2, .bool true)] (by kernel_rfl) fun a HF => ?_
  refine aA ?_
  refine wp_ret ?_
  repeat first | refine bJ ?_ | refine bM ?_
  exact bQ HF rfl rfl ⟨true, rfl, HM.below⟩

theorem BZ (x : b_) (w0 : World) (h : x.At w0) : Calls Tryd.prog 20 #[x.val] w0 fun e w' => ∃ b, e = .returned (.bool b) ∧ Below w0.heap.size w0 w' := by
 obtain ⟨w, hw⟩ : ∃ w, w0 = w := ⟨_, rfl⟩
 have HM : Mm [] w0 w [] := hw ▸ Mm.start w0
 conv => arg 4; rw [hw]
 clear hw
 refine cu Tryd.func20 rfl Tryd.ntmps20 [(0, .agg #[.bool x.wide, .bool x.big, aX x.abi, aX x.aH, .int .i64 x.ty, .int .i64 x.machine, aI x.entry, .slice x.A x.ss.length x.c, .slice x.B x.ps.length x.d])] (by kernel_rfl) (Nat.le_of_ble_eq_true rfl) ?_
 intro a HF
 refine aO ?_
 obtain ⟨z1, hz1⟩ : ∃ z, w.heap.size = z := ⟨_, rfl⟩
 refine aT HF HM hz1 2 [] [(1, aB z1)] [(z1, .cells #[.bool x.wide, .bool x.big, aX x.abi, aX x.aH, .int .i64 x.ty, .int .i64 x.machine, aI x.entry, .slice x.A x.ss.length x.c, .slice x.B x.ps.length x.d] 26 (0, 0))] (by kernel_rfl) fun a w HF HM => ?_
 clear hz1
 refine aA ?_
 refine wp_seq ?_
 refine aO ?_
 refine wp_pure HF HM rfl 2 [[0]] [(1, aB z1), (4, .slice x.A x.ss.length x.c)] (by kernel_rfl) fun a HF => ?_
 refine bf HF (by kernel_rfl) 49 #[.slice x.A x.ss.length x.c] (by kernel_rfl) (fun w => by kernel_rfl) (Calls.mono (L8 x.ss x.A x.c w (HM.row h.dA)) ?_)
 rintro _ w1 ⟨b1, rfl, hb⟩
 replace HM := HM.call hb
 clear hb
 refine ⟨_, rfl, ?_⟩; clear HF; intro a HF
 replace HF := HF.sub [(1, aB z1), (5, .bool b1)] (by kernel_rfl)
 rcases dZ b1 with hc2 | hc2
 ·replace HF := Fr.sub (Fr.tell HF 5 rfl (congrArg Value.bool hc2)) [(1, aB z1), (5, .bool false)] (by kernel_rfl)
  refine wp_pure HF HM rfl 1 [] [(1, aB z1), (6, .bool true)] (by kernel_rfl) fun a HF => ?_
  refine aA ?_
  refine bD HF rfl ?_
  refine aO ?_
  refine wp_pure HF HM rfl 1 [] [(2, .bool false)] (by kernel_rfl) fun a HF => ?_
  refine aA ?_
  refine wp_ret ?_
  repeat first | refine bJ ?_ | refine bM ?_
  exact bQ HF rfl rfl ⟨false, rfl, HM.below⟩
 replace HF := Fr.sub (Fr.tell HF 5 rfl (congrArg Value.bool hc2)) [(1, aB z1), (5, .bool true)] (by kernel_rfl)
 refine wp_pure HF HM rfl 1 [] [(1, aB z1), (6, .bool false)] (by kernel_rfl) fun a HF => ?_
 refine aA ?_
 refine aY HF rfl ?_
 refine wp_skip ?_
 repeat first | refine aK ?_ | refine aP ?_
 refine wp_seq ?_
 refine aO ?_
 refine wp_pure HF HM rfl 2 [[0]] [(8, .slice x.B x.ps.length x.d)] (by kernel_rfl) fun a HF => ?_
 refine bf HF (by kernel_rfl) 50 #[.slice x.B x.ps.length x.d] (by kernel_rfl) (fun w => by kernel_rfl) (Calls.mono (LZ x.ps x.B x.d w1 (HM.row h.parts)) ?_)
 rintro _ w2 ⟨b3, rfl, hb⟩
 replace HM := HM.call hb
 clear hb
 refine ⟨_, rfl, ?_⟩; clear HF; intro a HF
 replace HF := HF.sub [(9, .bool b3)] (by kernel_rfl)
 rcases dZ b3 with hc4 | hc4
 ·replace HF := Fr.sub (Fr.tell HF 9 rfl (congrArg Value.bool hc4)) [(9, .bool false)] (by kernel_rfl)
  refine wp_pure HF HM rfl 1 [] [(10, .bool true)] (by kernel_rfl) fun a HF => ?_
  refine aA ?_
  refine bD HF rfl ?_
  refine aO ?_
  refine wp_pure HF HM rfl 1 [] [(2, .bool false)] (by kernel_rfl) fun a HF => ?_
  refine aA ?_
  refine wp_ret ?_
  repeat first | refine bJ ?_ | refine bM ?_
  exact bQ HF rfl rfl ⟨false, rfl, HM.below⟩
 replace HF := Fr.sub (Fr.tell HF 9 rfl (congrArg Value.bool hc4)) [(9, .bool true)] (by kernel_rfl)
 refine wp_pure HF HM rfl 1 [] [(10, .bool false)] (by kernel_rfl) fun a HF => ?_
 refine aA ?_
 refine aY HF rfl ?_
 refine wp_skip ?_
 repeat first | refine aK ?_ | refine aP ?_
 refine aO ?_
 refine wp_pure HF HM rfl 1 [] [(2, .bool true)] (by kernel_rfl) fun a HF => ?_
 refine aA ?_
 refine wp_ret ?_
 repeat first | refine bJ ?_ | refine bM ?_
 exact bQ HF rfl rfl ⟨true, rfl, HM.below⟩

end Go.Proofs.YtdgehpocmfjbiaaDoor
namespace Go.Proofs.YtdgehpocmfjbiaaDoor
open Go.RowKit

abbrev kE := fun z1 (x : b_) => ((z1, .cells #[.bool x.wide, .bool x.big, aX x.abi, aX x.aH, .int .i64 x.ty, .int .i64 x.machine, aI x.entry, .slice x.A x.ss.length x.c, .slice x.B x.ps.length x.d] 26 (0, 0)) : Nat × Obj)
abbrev lg := fun z1 (x : b_) => ([(1, aB z1), (46, .slice x.A x.ss.length x.c), (47, ay x.ss.length)] : Slots)
abbrev qF := fun z1 z24 (x : b_) i => ([(1, aB z1), (4, aB z24), (46, .slice x.A x.ss.length x.c), (47, ay x.ss.length), (48, ay i)] : Slots)
abbrev iU := fun z1 (x : b_) => ([(1, aB z1), (77, .slice x.B x.ps.length x.d), (78, ay x.ps.length)] : Slots)
abbrev CU := fun z38 (m12 : dP) => ((z38, .cells #[.string (⟨m12.name.toArray⟩), bn m12.ty, bn m12.flags, aI m12.addr, bn m12.link, bn m12.info, aI m12.align, aI m12.ent, aI m12.size, .slice m12.A m12.data.length m12.c] 46 (0, 0)) : Nat × Obj)
abbrev fE := fun z1 z38 (x : b_) i => ([(1, aB z1), (6, aB z38), (77, .slice x.B x.ps.length x.d), (78, ay x.ps.length), (79, ay i)] : Slots)
theorem uy (x : b_) (w0 : World) (h : x.At w0) : Calls Tryd.prog 22 #[x.val] w0 fun e w' => ∃ b, e = .returned (.bool b) ∧ Below w0.heap.size w0 w' ∧ (b = true → x.Ok ∧ x.ps.length ≤ 100) := by
 obtain ⟨w, hw⟩ : ∃ w, w0 = w := ⟨_, rfl⟩
 have HM : Mm [] w0 w [] := hw ▸ Mm.start w0
 conv => arg 4; rw [hw]
 clear hw
 refine cu Tryd.func22 rfl Tryd.ntmps22 [(0, .agg #[.bool x.wide, .bool x.big, aX x.abi, aX x.aH, .int .i64 x.ty, .int .i64 x.machine, aI x.entry, .slice x.A x.ss.length x.c, .slice x.B x.ps.length x.d])] (by kernel_rfl) (Nat.le_of_ble_eq_true rfl) ?_
 intro a HF
 refine aO ?_
 obtain ⟨z1, hz1⟩ : ∃ z, w.heap.size = z := ⟨_, rfl⟩
 refine aT HF HM hz1 2 [] [(1, aB z1)] [kE z1 x] (by kernel_rfl) fun a w HF HM => ?_
 clear hz1
 refine aA ?_
 refine wp_seq ?_
 refine aO ?_
 refine wp_pure HF HM rfl 4 [[0]] [(1, aB z1), (10, .bool (decide (x.ty < 0)))] (by kernel_rfl) fun a HF => ?_
 by_cases hc1 : x.ty < 0
 ·rw [show decide (x.ty < 0) = true from dK (hc1)] at HF
  refine wp_pure HF HM rfl 34 [] [(1, aB z1), (44, .bool true)] (by kernel_rfl) fun a HF => ?_
  refine aA ?_
  refine bD HF rfl ?_
  refine aO ?_
  refine wp_pure HF HM rfl 1 [] [(2, .bool false)] (by kernel_rfl) fun a HF => ?_
  refine aA ?_
  refine wp_ret ?_
  repeat first | refine bJ ?_ | refine bM ?_
  exact bQ HF rfl rfl ⟨false, rfl, HM.below, fun h => by cases h⟩
 rw [show decide (x.ty < 0) = false from cZ (hc1)] at HF
 refine wp_pure HF HM rfl 5 [[0]] [(1, aB z1), (15, .bool (decide (65535 < x.ty)))] (by kernel_rfl) fun a HF => ?_
 by_cases hc2 : 65535 < x.ty
 ·rw [show decide (65535 < x.ty) = true from dK (hc2)] at HF
  refine wp_pure HF HM rfl 29 [] [(1, aB z1), (44, .bool true)] (by kernel_rfl) fun a HF => ?_
  refine aA ?_
  refine bD HF rfl ?_
  refine aO ?_
  refine wp_pure HF HM rfl 1 [] [(2, .bool false)] (by kernel_rfl) fun a HF => ?_
  refine aA ?_
  refine wp_ret ?_
  repeat first | refine bJ ?_ | refine bM ?_
  exact bQ HF rfl rfl ⟨false, rfl, HM.below, fun h => by cases h⟩
 rw [show decide (65535 < x.ty) = false from cZ (hc2)] at HF
 refine wp_pure HF HM rfl 5 [[0]] [(1, aB z1), (20, .bool (decide (x.machine < 0)))] (by kernel_rfl) fun a HF => ?_
 by_cases hc3 : x.machine < 0
 ·rw [show decide (x.machine < 0) = true from dK (hc3)] at HF
  refine wp_pure HF HM rfl 24 [] [(1, aB z1), (44, .bool true)] (by kernel_rfl) fun a HF => ?_
  refine aA ?_
  refine bD HF rfl ?_
  refine aO ?_
  refine wp_pure HF HM rfl 1 [] [(2, .bool false)] (by kernel_rfl) fun a HF => ?_
  refine aA ?_
  refine wp_ret ?_
  repeat first | refine bJ ?_ | refine bM ?_
  exact bQ HF rfl rfl ⟨false, rfl, HM.below, fun h => by cases h⟩
 rw [show decide (x.machine < 0) = false from cZ (hc3)] at HF
 refine wp_pure HF HM rfl 5 [[0]] [(1, aB z1), (25, .bool (decide (65535 < x.machine)))] (by kernel_rfl) fun a HF => ?_
 by_cases hc4 : 65535 < x.machine
 ·rw [show decide (65535 < x.machine) = true from dK (hc4)] at HF
  refine wp_pure HF HM rfl 19 [] [(1, aB z1), (44, .bool true)] (by kernel_rfl) fun a HF => ?_
  refine aA ?_
  refine bD HF rfl ?_
  refine aO ?_
  refine wp_pure HF HM rfl 1 [] [(2, .bool false)] (by kernel_rfl) fun a HF => ?_
  refine aA ?_
  refine wp_ret ?_
  repeat first | refine bJ ?_ | refine bM ?_
  exact bQ HF rfl rfl ⟨false, rfl, HM.below, fun h => by cases h⟩
 rw [show decide (65535 < x.machine) = false from cZ (hc4)] at HF
 obtain ⟨z14, hz14⟩ : ∃ z, w.heap.size = z := ⟨_, rfl⟩
 refine aT HF HM hz14 4 [[0], [0]] [(1, aB z1), (25, .bool false), (26, .agg #[.bool x.wide, .bool x.big, aX x.abi, aX x.aH, .int .i64 x.ty, .int .i64 x.machine, aI x.entry, .slice x.A x.ss.length x.c, .slice x.B x.ps.length x.d]), (29, aC z14 1 1)] [(z14, .cells #[aI x.entry] 22 (0, 0)), kE z1 x] (by kernel_rfl) fun a w HF HM => ?_
 clear hz14
 refine bf HF (by kernel_rfl) 52 #[.agg #[.bool x.wide, .bool x.big, aX x.abi, aX x.aH, .int .i64 x.ty, .int .i64 x.machine, aI x.entry, .slice x.A x.ss.length x.c, .slice x.B x.ps.length x.d], aC z14 1 1] (by kernel_rfl) (fun w => by kernel_rfl) (Calls.mono (fits_any x.wide _ _ _ _ _ _ _ _ [x.entry] _ _ _ rfl (by simp) w (HM.rowAt (i := 0) rfl)) ?_)
 rintro _ w1 ⟨rfl, hb⟩
 replace HM := HM.call hb
 clear hb
 refine ⟨_, rfl, ?_⟩; clear HF; intro a HF
 replace HF := HF.sub [(1, aB z1), (25, .bool false), (30, .bool (lY x.wide [x.entry]))] (by kernel_rfl)
 rcases dZ (lY x.wide [x.entry]) with hc5 | hc5
 ·replace HF := Fr.sub (Fr.tell HF 30 rfl (congrArg Value.bool hc5)) [(1, aB z1), (25, .bool false), (30, .bool false)] (by kernel_rfl)
  refine wp_pure HF HM rfl 14 [] [(1, aB z1), (44, .bool true)] (by kernel_rfl) fun a HF => ?_
  refine aA ?_
  refine bD HF rfl ?_
  refine aO ?_
  refine wp_pure HF HM rfl 1 [] [(2, .bool false)] (by kernel_rfl) fun a HF => ?_
  refine aA ?_
  refine wp_ret ?_
  repeat first | refine bJ ?_ | refine bM ?_
  exact bQ HF rfl rfl ⟨false, rfl, HM.below, fun h => by cases h⟩
 replace HF := Fr.sub (Fr.tell HF 30 rfl (congrArg Value.bool hc5)) [(1, aB z1), (25, .bool false), (30, .bool true)] (by kernel_rfl)
 refine wp_pure HF HM rfl 9 [[0]] [(1, aB z1), (39, .bool (decide (100 < ((x.ss.length : Nat) : Int))))] (by kernel_rfl) fun a HF => ?_
 by_cases hc6 : 100 < ((x.ss.length : Nat) : Int)
 ·rw [show decide (100 < ((x.ss.length : Nat) : Int)) = true from dK (hc6)] at HF
  refine wp_pure HF HM rfl 5 [] [(1, aB z1), (44, .bool true)] (by kernel_rfl) fun a HF => ?_
  refine aA ?_
  refine bD HF rfl ?_
  refine aO ?_
  refine wp_pure HF HM rfl 1 [] [(2, .bool false)] (by kernel_rfl) fun a HF => ?_
  refine aA ?_
  refine wp_ret ?_
  repeat first | refine bJ ?_ | refine bM ?_
  exact bQ HF rfl rfl ⟨false, rfl, HM.below, fun h => by cases h⟩
 rw [show decide (100 < ((x.ss.length : Nat) : Int)) = false from cZ (hc6)] at HF
 refine wp_pure HF HM rfl 5 [[0]] [(1, aB z1), (44, .bool (decide (100 < ((x.ps.length : Nat) : Int))))] (by kernel_rfl) fun a HF => ?_
 refine aA ?_
 by_cases hc7 : 100 < ((x.ps.length : Nat) : Int)
 ·rw [show decide (100 < ((x.ps.length : Nat) : Int)) = true from dK (hc7)] at HF
  refine bD HF rfl ?_
  refine aO ?_
  refine wp_pure HF HM rfl 1 [] [(2, .bool false)] (by kernel_rfl) fun a HF => ?_
  refine aA ?_
  refine wp_ret ?_
  repeat first | refine bJ ?_ | refine bM ?_
  exact bQ HF rfl rfl ⟨false, rfl, HM.below, fun h => by cases h⟩
 rw [show decide (100 < ((x.ps.length : Nat) : Int)) = false from cZ (hc7)] at HF
 refine aY HF rfl ?_
 refine wp_skip ?_
 repeat first | refine aK ?_ | refine aP ?_
 refine wp_seq ?_
 refine aO ?_
 refine wp_pure HF HM rfl 4 [[0]] ((lg z1 x) ++ [(48, aF 0)]) (by kernel_rfl) fun a HF => ?_
 refine aA ?_
 refine wp_block ?_
 replace HM := HM.pick [1] [kE z1 x] rfl (by decide)
 refine kC (x.ss.length) (fun i a w => ((∀ j m, j < i → x.ss[j]? = some m → kL.Ok x.wide m) ∧ Mm [] w0 w [kE z1 x] ∧ Fr 149 a ((lg z1 x) ++ [(48, ay i)]))) ?_ ?_ ?_
 ·exact ⟨fun j m hj => absurd hj (Nat.not_lt_zero j), HM, HF.sub ((lg z1 x) ++ [(48, aF 0)]) (by kernel_rfl)⟩
 ·intro i a w KX hi hI KR
  obtain ⟨Oj, HM, HF⟩ := hI
  refine aO ?_
  refine wp_pure HF HM rfl 1 [] ((lg z1 x) ++ [(48, ay i), (49, .bool (decide (((i : Nat) : Int) < ((x.ss.length : Nat) : Int))))]) (by kernel_rfl) fun a HF => ?_
  refine aA ?_
  refine wp_seq ?_
  rw [show decide (((i : Nat) : Int) < ((x.ss.length : Nat) : Int)) = true from dK (by omega)] at HF
  refine bD HF rfl ?_
  refine wp_skip ?_
  repeat first | refine aK ?_ | refine aP ?_
  refine wp_seq ?_
  refine wp_block ?_
  refine aO ?_
  obtain ⟨m8, hm8⟩ : ∃ m, x.ss[i]? = some m := ⟨_, List.getElem?_eq_getElem (by omega)⟩
  refine dG HF (by kernel_rfl) (.pointer (Option.map (fun q : Addr => q.add (i * 7)) x.A)) (by kernel_rfl) (fD Tryd.underlying23 (by kernel_rfl) rfl i rfl rfl (by omega) (ji (ku (f := kL.cells) (k := 7) (fun _ => rfl) (HM.row h.dA) i hm8) (Nat.zero_lt_succ _))) fun a HF => ?_
  refine dG HF (by kernel_rfl) (.agg #[bn m8.ty, bn m8.flags, aI m8.bU, aI m8.bV, aI m8.bY, aI m8.align, .slice m8.A m8.data.length m8.c]) (by kernel_rfl) (lJ rfl rfl (ku (f := kL.cells) (k := 7) (fun _ => rfl) (HM.row h.dA) i hm8) (Nat.zero_lt_succ _) Tryd.underlying57 rfl (by kernel_rfl)) fun a HF => ?_
  obtain ⟨z24, hz24⟩ : ∃ z, w.heap.size = z := ⟨_, rfl⟩
  refine aT HF HM hz24 2 [[1]] (qF z1 z24 x i) [(z24, .cells #[bn m8.ty, bn m8.flags, aI m8.bU, aI m8.bV, aI m8.bY, aI m8.align, .slice m8.A m8.data.length m8.c] 57 (0, 0)), kE z1 x] (by kernel_rfl) fun a w HF HM => ?_
  clear hz24
  refine dF ?_
  obtain ⟨z25, AV⟩ : ∃ z, w.heap.size = z := ⟨_, rfl⟩
  refine aT HF HM AV 10 [[0], [1], [1], [1], [1]] ((qF z1 z24 x i) ++ [(52, .agg #[.bool x.wide, .bool x.big, aX x.abi, aX x.aH, .int .i64 x.ty, .int .i64 x.machine, aI x.entry, .slice x.A x.ss.length x.c, .slice x.B x.ps.length x.d]), (61, aC z25 4 4)]) [(z25, .cells #[aI m8.bU, aI m8.bV, aI m8.bY, aI m8.align] 22 (0, 0)), (z24, .cells #[bn m8.ty, bn m8.flags, aI m8.bU, aI m8.bV, aI m8.bY, aI m8.align, .slice m8.A m8.data.length m8.c] 57 (0, 0)), kE z1 x] (by kernel_rfl) fun a w HF HM => ?_
  clear AV
  refine bf HF (by kernel_rfl) 52 #[.agg #[.bool x.wide, .bool x.big, aX x.abi, aX x.aH, .int .i64 x.ty, .int .i64 x.machine, aI x.entry, .slice x.A x.ss.length x.c, .slice x.B x.ps.length x.d], aC z25 4 4] (by kernel_rfl) (fun w => by kernel_rfl) (Calls.mono (fits_any x.wide _ _ _ _ _ _ _ _ [m8.bU, m8.bV, m8.bY, m8.align] _ _ _ rfl (by simp) w (HM.rowAt (i := 0) rfl)) ?_)
  rintro _ w2 ⟨rfl, hb⟩
  replace HM := HM.call hb
  clear hb
  refine ⟨_, rfl, ?_⟩; clear HF; intro a HF
  replace HF := HF.sub ((qF z1 z24 x i) ++ [(62, .bool (lY x.wide [m8.bU, m8.bV, m8.bY, m8.align]))]) (by kernel_rfl)
  rcases dZ (lY x.wide [m8.bU, m8.bV, m8.bY, m8.align]) with Ny | Ny
  ·replace HF := Fr.sub (Fr.tell HF 62 rfl (congrArg Value.bool Ny)) ((qF z1 z24 x i) ++ [(62, .bool false)]) (by kernel_rfl)
   refine wp_pure HF HM rfl 12 [] ((lg z1 x) ++ [(48, ay i), (74, .bool true)]) (by kernel_rfl) fun a HF => ?_
   refine aA ?_
   refine bD HF rfl ?_
   refine aO ?_
   refine wp_pure HF HM rfl 1 [] [(2, .bool false)] (by kernel_rfl) fun a HF => ?_
   refine aA ?_
   refine wp_ret ?_
   repeat first | refine bJ ?_ | refine bM ?_
   exact bQ HF rfl rfl ⟨false, rfl, HM.below, fun h => by cases h⟩
  replace HF := Fr.sub (Fr.tell HF 62 rfl (congrArg Value.bool Ny)) ((qF z1 z24 x i) ++ [(62, .bool true)]) (by kernel_rfl)
  refine wp_pure HF HM rfl 7 [[1]] ((qF z1 z24 x i) ++ [(69, .bool (decide (2147483648 ≤ ((m8.ty : Nat) : Int))))]) (by kernel_rfl) fun a HF => ?_
  by_cases yL : 2147483648 ≤ ((m8.ty : Nat) : Int)
  ·rw [show decide (2147483648 ≤ ((m8.ty : Nat) : Int)) = true from dK (yL)] at HF
   refine wp_pure HF HM rfl 5 [] ((lg z1 x) ++ [(48, ay i), (74, .bool true)]) (by kernel_rfl) fun a HF => ?_
   refine aA ?_
   refine bD HF rfl ?_
   refine aO ?_
   refine wp_pure HF HM rfl 1 [] [(2, .bool false)] (by kernel_rfl) fun a HF => ?_
   refine aA ?_
   refine wp_ret ?_
   repeat first | refine bJ ?_ | refine bM ?_
   exact bQ HF rfl rfl ⟨false, rfl, HM.below, fun h => by cases h⟩
  rw [show decide (2147483648 ≤ ((m8.ty : Nat) : Int)) = false from cZ (yL)] at HF
  refine wp_pure HF HM rfl 5 [[1]] ((lg z1 x) ++ [(48, ay i), (74, .bool (decide (65536 < ((m8.data.length : Nat) : Int))))]) (by kernel_rfl) fun a HF => ?_
  refine aA ?_
  by_cases hc11 : 65536 < ((m8.data.length : Nat) : Int)
  ·rw [show decide (65536 < ((m8.data.length : Nat) : Int)) = true from dK (hc11)] at HF
   refine bD HF rfl ?_
   refine aO ?_
   refine wp_pure HF HM rfl 1 [] [(2, .bool false)] (by kernel_rfl) fun a HF => ?_
   refine aA ?_
   refine wp_ret ?_
   repeat first | refine bJ ?_ | refine bM ?_
   exact bQ HF rfl rfl ⟨false, rfl, HM.below, fun h => by cases h⟩
  rw [show decide (65536 < ((m8.data.length : Nat) : Int)) = false from cZ (hc11)] at HF
  refine aY HF rfl ?_
  refine wp_skip ?_
  repeat first | refine aK ?_ | refine aP ?_
  refine wp_region_lit ?_
  refine wp_pure HF HM rfl 1 [] ((lg z1 x) ++ [(75, aF (IntKind.i64.wrap (((i : Nat) : Int) + 1)))]) (by kernel_rfl) fun a HF => ?_
  rw [show IntKind.i64.wrap (((i : Nat) : Int) + 1) = (((i + 1) : Nat) : Int) from (IntWalk.i64_in _ (by omega)).trans (by omega)] at HF
  refine wp_pure HF HM rfl 1 [] ((lg z1 x) ++ [(48, ay (i + 1))]) (by kernel_rfl) fun a HF => ?_
  refine wpList_nil ?_
  repeat first | refine aK ?_ | refine aP ?_
  exact KR _ _ (⟨fun j m hj hm => (Nat.lt_or_ge j i).elim (fun g => Oj j m g hm) (fun g => by obtain rfl : j = i := (by omega); rw [hm8] at hm; obtain rfl := Option.some.inj hm; exact ⟨by assumption, by omega, by omega⟩), (HM.pick [2] [kE z1 x] rfl (by decide)), HF.sub ((lg z1 x) ++ [(48, ay (i + 1))]) (by kernel_rfl)⟩)
 ·intro a w KX hI
  obtain ⟨Oj, HM, HF⟩ := hI
  refine aO ?_
  refine wp_pure HF HM rfl 1 [] ((lg z1 x) ++ [(48, ay x.ss.length), (49, .bool (decide (((x.ss.length : Nat) : Int) < ((x.ss.length : Nat) : Int))))]) (by kernel_rfl) fun a HF => ?_
  refine aA ?_
  refine wp_seq ?_
  rw [show decide (((x.ss.length : Nat) : Int) < ((x.ss.length : Nat) : Int)) = false from cZ (by omega)] at HF
  refine aY HF rfl ?_
  refine wp_exit ?_
  repeat (first | refine eH ?_ | refine dY rfl ?_)
  refine gZ ?_
  repeat first | refine aK ?_ | refine aP ?_
  refine wp_seq ?_
  refine aO ?_
  refine wp_pure HF HM rfl 4 [[0]] ((iU z1 x) ++ [(79, aF 0)]) (by kernel_rfl) fun a HF => ?_
  refine aA ?_
  refine wp_block ?_
  refine kC (x.ps.length) (fun i a w => ((∀ j m, j < i → x.ps[j]? = some m → dP.Ok x.wide m) ∧ Mm [] w0 w [kE z1 x] ∧ Fr 149 a ((iU z1 x) ++ [(79, ay i)]))) ?_ ?_ ?_
  ·exact ⟨fun j m hj => absurd hj (Nat.not_lt_zero j), HM, HF.sub ((iU z1 x) ++ [(79, aF 0)]) (by kernel_rfl)⟩
  ·intro i a w KX hi hI KR
   obtain ⟨hparts, HM, HF⟩ := hI
   refine aO ?_
   refine wp_pure HF HM rfl 1 [] ((iU z1 x) ++ [(79, ay i), (80, .bool (decide (((i : Nat) : Int) < ((x.ps.length : Nat) : Int))))]) (by kernel_rfl) fun a HF => ?_
   refine aA ?_
   refine wp_seq ?_
   rw [show decide (((i : Nat) : Int) < ((x.ps.length : Nat) : Int)) = true from dK (by omega)] at HF
   refine bD HF rfl ?_
   refine wp_skip ?_
   repeat first | refine aK ?_ | refine aP ?_
   refine wp_seq ?_
   refine wp_block ?_
   refine aO ?_
   obtain ⟨m12, zi⟩ : ∃ m, x.ps[i]? = some m := ⟨_, List.getElem?_eq_getElem (by omega)⟩
   refine dG HF (by kernel_rfl) (.pointer (Option.map (fun q : Addr => q.add (i * 10)) x.B)) (by kernel_rfl) (fD Tryd.underlying24 (by kernel_rfl) rfl i rfl rfl (by omega) (ji (ku (f := dP.cells) (k := 10) (fun _ => rfl) (HM.row h.parts) i zi) (Nat.zero_lt_succ _))) fun a HF => ?_
   refine dG HF (by kernel_rfl) (.agg #[.string (⟨m12.name.toArray⟩), bn m12.ty, bn m12.flags, aI m12.addr, bn m12.link, bn m12.info, aI m12.align, aI m12.ent, aI m12.size, .slice m12.A m12.data.length m12.c]) (by kernel_rfl) (lJ rfl rfl (ku (f := dP.cells) (k := 10) (fun _ => rfl) (HM.row h.parts) i zi) (Nat.zero_lt_succ _) Tryd.underlying46 rfl (by kernel_rfl)) fun a HF => ?_
   obtain ⟨z38, hz38⟩ : ∃ z, w.heap.size = z := ⟨_, rfl⟩
   refine aT HF HM hz38 2 [[1]] (fE z1 z38 x i) [CU z38 m12, kE z1 x] (by kernel_rfl) fun a w HF HM => ?_
   clear hz38
   refine aA ?_
   refine wp_seq ?_
   refine aO ?_
   obtain ⟨z39, hz39⟩ : ∃ z, w.heap.size = z := ⟨_, rfl⟩
   refine aT HF HM hz39 10 [[0], [1], [1], [1], [1]] ((fE z1 z38 x i) ++ [(83, .agg #[.bool x.wide, .bool x.big, aX x.abi, aX x.aH, .int .i64 x.ty, .int .i64 x.machine, aI x.entry, .slice x.A x.ss.length x.c, .slice x.B x.ps.length x.d]), (92, aC z39 4 4)]) [(z39, .cells #[aI m12.addr, aI m12.align, aI m12.ent, aI m12.size] 22 (0, 0)), CU z38 m12, kE z1 x] (by kernel_rfl) fun a w HF HM => ?_
   clear hz39
   refine bf HF (by kernel_rfl) 52 #[.agg #[.bool x.wide, .bool x.big, aX x.abi, aX x.aH, .int .i64 x.ty, .int .i64 x.machine, aI x.entry, .slice x.A x.ss.length x.c, .slice x.B x.ps.length x.d], aC z39 4 4] (by kernel_rfl) (fun w => by kernel_rfl) (Calls.mono (fits_any x.wide _ _ _ _ _ _ _ _ [m12.addr, m12.align, m12.ent, m12.size] _ _ _ rfl (by simp) w (HM.rowAt (i := 0) rfl)) ?_)
   rintro _ w3 ⟨rfl, hb⟩
   replace HM := HM.call hb
   clear hb
   refine ⟨_, rfl, ?_⟩; clear HF; intro a HF
   replace HF := HF.sub ((fE z1 z38 x i) ++ [(93, .bool (lY x.wide [m12.addr, m12.align, m12.ent, m12.size]))]) (by kernel_rfl)
   rcases dZ (lY x.wide [m12.addr, m12.align, m12.ent, m12.size]) with hc13 | hc13
   ·replace HF := Fr.sub (Fr.tell HF 93 rfl (congrArg Value.bool hc13)) ((fE z1 z38 x i) ++ [(93, .bool false)]) (by kernel_rfl)
    refine wp_pure HF HM rfl 29 [] ((fE z1 z38 x i) ++ [(122, .bool true)]) (by kernel_rfl) fun a HF => ?_
    refine aA ?_
    refine bD HF rfl ?_
    refine aO ?_
    refine wp_pure HF HM rfl 1 [] [(2, .bool false)] (by kernel_rfl) fun a HF => ?_
    refine aA ?_
    refine wp_ret ?_
    repeat first | refine bJ ?_ | refine bM ?_
    exact bQ HF rfl rfl ⟨false, rfl, HM.below, fun h => by cases h⟩
   replace HF := Fr.sub (Fr.tell HF 93 rfl (congrArg Value.bool hc13)) ((fE z1 z38 x i) ++ [(93, .bool true)]) (by kernel_rfl)
   refine wp_pure HF HM rfl 8 [[1]] ((fE z1 z38 x i) ++ [(101, .bool (decide (1024 < ((m12.name.length : Nat) : Int))))]) (by kernel_rfl) fun a HF => ?_
   by_cases G_ : 1024 < ((m12.name.length : Nat) : Int)
   ·rw [show decide (1024 < ((m12.name.length : Nat) : Int)) = true from dK (G_)] at HF
    refine wp_pure HF HM rfl 21 [] ((fE z1 z38 x i) ++ [(122, .bool true)]) (by kernel_rfl) fun a HF => ?_
    refine aA ?_
    refine bD HF rfl ?_
    refine aO ?_
    refine wp_pure HF HM rfl 1 [] [(2, .bool false)] (by kernel_rfl) fun a HF => ?_
    refine aA ?_
    refine wp_ret ?_
    repeat first | refine bJ ?_ | refine bM ?_
    exact bQ HF rfl rfl ⟨false, rfl, HM.below, fun h => by cases h⟩
   rw [show decide (1024 < ((m12.name.length : Nat) : Int)) = false from cZ (G_)] at HF
   refine wp_pure HF HM rfl 2 [[1]] ((fE z1 z38 x i) ++ [(101, .bool false), (103, .string (⟨m12.name.toArray⟩))]) (by kernel_rfl) fun a HF => ?_
   have hnm := (h.part m12 (List.mem_of_getElem? zi)).nm
   refine bf HF (by kernel_rfl) 53 #[.string (⟨m12.name.toArray⟩)] (by kernel_rfl) (fun w => by kernel_rfl) (Calls.mono (Ig m12.name (by unfold maxLen at hnm; omega) w3) ?_)
   rintro _ w4 ⟨rfl, hq⟩
   replace hq := hq.symm; subst hq
   refine ⟨_, rfl, ?_⟩; clear HF; intro a HF
   replace HF := HF.sub ((fE z1 z38 x i) ++ [(101, .bool false), (104, .bool (decide (0 ∉ m12.name)))]) (by kernel_rfl)
   by_cases hc15 : 0 ∉ m12.name
   ·rw [show decide (0 ∉ m12.name) = true from dK (hc15)] at HF
    refine wp_pure HF HM rfl 9 [[1]] ((fE z1 z38 x i) ++ [(113, .bool (decide (65536 < ((m12.data.length : Nat) : Int))))]) (by kernel_rfl) fun a HF => ?_
    by_cases hc16 : 65536 < ((m12.data.length : Nat) : Int)
    ·rw [show decide (65536 < ((m12.data.length : Nat) : Int)) = true from dK (hc16)] at HF
     refine wp_pure HF HM rfl 9 [] ((fE z1 z38 x i) ++ [(122, .bool true)]) (by kernel_rfl) fun a HF => ?_
     refine aA ?_
     refine bD HF rfl ?_
     refine aO ?_
     refine wp_pure HF HM rfl 1 [] [(2, .bool false)] (by kernel_rfl) fun a HF => ?_
     refine aA ?_
     refine wp_ret ?_
     repeat first | refine bJ ?_ | refine bM ?_
     exact bQ HF rfl rfl ⟨false, rfl, HM.below, fun h => by cases h⟩
    rw [show decide (65536 < ((m12.data.length : Nat) : Int)) = false from cZ (hc16)] at HF
    refine wp_pure HF HM rfl 5 [[1]] ((fE z1 z38 x i) ++ [(118, .bool (((m12.ty : Nat) : Int) == 0))]) (by kernel_rfl) fun a HF => ?_
    by_cases hc17 : ((m12.ty : Nat) : Int) = 0
    ·rw [show (((m12.ty : Nat) : Int) == 0) = true from nZ (hc17)] at HF
     refine wp_pure HF HM rfl 4 [] ((fE z1 z38 x i) ++ [(122, .bool true)]) (by kernel_rfl) fun a HF => ?_
     refine aA ?_
     refine bD HF rfl ?_
     refine aO ?_
     refine wp_pure HF HM rfl 1 [] [(2, .bool false)] (by kernel_rfl) fun a HF => ?_
     refine aA ?_
     refine wp_ret ?_
     repeat first | refine bJ ?_ | refine bM ?_
     exact bQ HF rfl rfl ⟨false, rfl, HM.below, fun h => by cases h⟩
    rw [show (((m12.ty : Nat) : Int) == 0) = false from oM (hc17)] at HF
    refine wp_pure HF HM rfl 4 [[1]] ((fE z1 z38 x i) ++ [(122, .bool (decide (1610612736 ≤ ((m12.ty : Nat) : Int))))]) (by kernel_rfl) fun a HF => ?_
    refine aA ?_
    by_cases hc18 : 1610612736 ≤ ((m12.ty : Nat) : Int)
    ·rw [show decide (1610612736 ≤ ((m12.ty : Nat) : Int)) = true from dK (hc18)] at HF
     refine bD HF rfl ?_
     refine aO ?_
     refine wp_pure HF HM rfl 1 [] [(2, .bool false)] (by kernel_rfl) fun a HF => ?_
     refine aA ?_
     refine wp_ret ?_
     repeat first | refine bJ ?_ | refine bM ?_
     exact bQ HF rfl rfl ⟨false, rfl, HM.below, fun h => by cases h⟩
    rw [show decide (1610612736 ≤ ((m12.ty : Nat) : Int)) = false from cZ (hc18)] at HF
    refine aY HF rfl ?_
    refine wp_skip ?_
    repeat first | refine aK ?_ | refine aP ?_
    refine aO ?_
    refine wp_pure HF HM rfl 2 [[1]] ((fE z1 z38 x i) ++ [(124, .string (⟨m12.name.toArray⟩))]) (by kernel_rfl) fun a HF => ?_
    refine bf HF (by kernel_rfl) 54 #[.string (⟨m12.name.toArray⟩)] (by kernel_rfl) (fun w => by kernel_rfl) (Calls.mono (NH ⟨m12.name.toArray⟩ w3) ?_)
    rintro _ w5 ⟨rfl, hq⟩
    replace hq := hq.symm; subst hq
    refine ⟨_, rfl, ?_⟩; clear HF; intro a HF
    refine wp_pure HF HM rfl 1 [] ((fE z1 z38 x i) ++ [(126, .bool (wC ⟨m12.name.toArray⟩))]) (by kernel_rfl) fun a HF => ?_
    rcases dZ (wC ⟨m12.name.toArray⟩) with hc19 | hc19
    ·replace HF := Fr.sub (Fr.tell HF 126 rfl (congrArg Value.bool hc19)) ((fE z1 z38 x i) ++ [(126, .bool false)]) (by kernel_rfl)
     refine wp_pure HF HM rfl 6 [[1]] ((fE z1 z38 x i) ++ [(132, .bool (((qO ((m12.flags : Nat) : Int) 2048)) != 0))]) (by kernel_rfl) fun a HF => ?_
     by_cases hc20 : ((qO ((m12.flags : Nat) : Int) 2048)) ≠ 0
     ·rw [show (((qO ((m12.flags : Nat) : Int) 2048)) != 0) = true from Gm (hc20)] at HF
      refine wp_pure HF HM rfl 15 [] ((iU z1 x) ++ [(79, ay i), (147, .bool true)]) (by kernel_rfl) fun a HF => ?_
      refine aA ?_
      refine bD HF rfl ?_
      refine aO ?_
      refine wp_pure HF HM rfl 1 [] [(2, .bool false)] (by kernel_rfl) fun a HF => ?_
      refine aA ?_
      refine wp_ret ?_
      repeat first | refine bJ ?_ | refine bM ?_
      exact bQ HF rfl rfl ⟨false, rfl, HM.below, fun h => by cases h⟩
     rw [show (((qO ((m12.flags : Nat) : Int) 2048)) != 0) = false from yS (hc20)] at HF
     refine wp_pure HF HM rfl 4 [[1]] ((fE z1 z38 x i) ++ [(132, .bool false), (136, .bool (((m12.ty : Nat) : Int) == 8))]) (by kernel_rfl) fun a HF => ?_
     by_cases hc21 : ((m12.ty : Nat) : Int) = 8
     ·rw [show (((m12.ty : Nat) : Int) == 8) = true from nZ (hc21)] at HF
      refine wp_pure HF HM rfl 7 [[1]] ((fE z1 z38 x i) ++ [(143, .bool (decide (0 < ((m12.data.length : Nat) : Int))))]) (by kernel_rfl) fun a HF => ?_
      by_cases hc22 : 0 < ((m12.data.length : Nat) : Int)
      ·rw [show decide (0 < ((m12.data.length : Nat) : Int)) = true from dK (hc22)] at HF
       refine wp_pure HF HM rfl 4 [] ((iU z1 x) ++ [(79, ay i), (147, .bool true)]) (by kernel_rfl) fun a HF => ?_
       refine aA ?_
       refine bD HF rfl ?_
       refine aO ?_
       refine wp_pure HF HM rfl 1 [] [(2, .bool false)] (by kernel_rfl) fun a HF => ?_
       refine aA ?_
       refine wp_ret ?_
       repeat first | refine bJ ?_ | refine bM ?_
       exact bQ HF rfl rfl ⟨false, rfl, HM.below, fun h => by cases h⟩
      rw [show decide (0 < ((m12.data.length : Nat) : Int)) = false from cZ (hc22)] at HF
      refine wp_pure HF HM rfl 4 [[1]] ((iU z1 x) ++ [(79, ay i), (147, .bool (decide (4611686018427387904 ≤ ((m12.size : Nat) : Int))))]) (by kernel_rfl) fun a HF => ?_
      refine aA ?_
      by_cases G9 : 4611686018427387904 ≤ ((m12.size : Nat) : Int)
      ·rw [show decide (4611686018427387904 ≤ ((m12.size : Nat) : Int)) = true from dK (G9)] at HF
       refine bD HF rfl ?_
       refine aO ?_
       refine wp_pure HF HM rfl 1 [] [(2, .bool false)] (by kernel_rfl) fun a HF => ?_
       refine aA ?_
       refine wp_ret ?_
       repeat first | refine bJ ?_ | refine bM ?_
       exact bQ HF rfl rfl ⟨false, rfl, HM.below, fun h => by cases h⟩
      rw [show decide (4611686018427387904 ≤ ((m12.size : Nat) : Int)) = false from cZ (G9)] at HF
      refine aY HF rfl ?_
      refine wp_skip ?_
      repeat first | refine aK ?_ | refine aP ?_
      refine wp_region_lit ?_
      refine wp_pure HF HM rfl 1 [] ((iU z1 x) ++ [(148, aF (IntKind.i64.wrap (((i : Nat) : Int) + 1)))]) (by kernel_rfl) fun a HF => ?_
      rw [show IntKind.i64.wrap (((i : Nat) : Int) + 1) = (((i + 1) : Nat) : Int) from (IntWalk.i64_in _ (by omega)).trans (by omega)] at HF
      refine wp_pure HF HM rfl 1 [] ((iU z1 x) ++ [(79, ay (i + 1))]) (by kernel_rfl) fun a HF => ?_
      refine wpList_nil ?_
      repeat first | refine aK ?_ | refine aP ?_
      exact KR _ _ (⟨fun j m hj hm => (Nat.lt_or_ge j i).elim (fun g => hparts j m g hm) (fun g => by obtain rfl : j = i := (by omega); rw [zi] at hm; obtain rfl := Option.some.inj hm; exact ⟨by assumption, by omega, by assumption, by omega, by omega, by omega, by assumption, nZ (Decidable.byContradiction (by assumption)), fun h8 => by omega, by omega⟩), (HM.pick [2] [kE z1 x] rfl (by decide)), HF.sub ((iU z1 x) ++ [(79, ay (i + 1))]) (by kernel_rfl)⟩)
     rw [show (((m12.ty : Nat) : Int) == 8) = false from oM (hc21)] at HF
     refine wp_pure HF HM rfl 11 [[1]] ((iU z1 x) ++ [(79, ay i), (147, .bool (decide (4611686018427387904 ≤ ((m12.size : Nat) : Int))))]) (by kernel_rfl) fun a HF => ?_
     refine aA ?_
     by_cases hc24 : 4611686018427387904 ≤ ((m12.size : Nat) : Int)
     ·rw [show decide (4611686018427387904 ≤ ((m12.size : Nat) : Int)) = true from dK (hc24)] at HF
      refine bD HF rfl ?_
      refine aO ?_
      refine wp_pure HF HM rfl 1 [] [(2, .bool false)] (by kernel_rfl) fun a HF => ?_
      refine aA ?_
      refine wp_ret ?_
      repeat first | refine bJ ?_ | refine bM ?_
      exact bQ HF rfl rfl ⟨false, rfl, HM.below, fun h => by cases h⟩
     rw [show decide (4611686018427387904 ≤ ((m12.size : Nat) : Int)) = false from cZ (hc24)] at HF
     refine aY HF rfl ?_
     refine wp_skip ?_
     repeat first | refine aK ?_ | refine aP ?_
     refine wp_region_lit ?_
     refine wp_pure HF HM rfl 1 [] ((iU z1 x) ++ [(148, aF (IntKind.i64.wrap (((i : Nat) : Int) + 1)))]) (by kernel_rfl) fun a HF => ?_
     rw [show IntKind.i64.wrap (((i : Nat) : Int) + 1) = (((i + 1) : Nat) : Int) from (IntWalk.i64_in _ (by omega)).trans (by omega)] at HF
     refine wp_pure HF HM rfl 1 [] ((iU z1 x) ++ [(79, ay (i + 1))]) (by kernel_rfl) fun a HF => ?_
     refine wpList_nil ?_
     repeat first | refine aK ?_ | refine aP ?_
     exact KR _ _ (⟨fun j m hj hm => (Nat.lt_or_ge j i).elim (fun g => hparts j m g hm) (fun g => by obtain rfl : j = i := (by omega); rw [zi] at hm; obtain rfl := Option.some.inj hm; exact ⟨by assumption, by omega, by assumption, by omega, by omega, by omega, by assumption, nZ (Decidable.byContradiction (by assumption)), fun h8 => by omega, by omega⟩), (HM.pick [2] [kE z1 x] rfl (by decide)), HF.sub ((iU z1 x) ++ [(79, ay (i + 1))]) (by kernel_rfl)⟩)
    replace HF := Fr.sub (Fr.tell HF 126 rfl (congrArg Value.bool hc19)) ((fE z1 z38 x i) ++ [(126, .bool true)]) (by kernel_rfl)
    refine wp_pure HF HM rfl 21 [] ((iU z1 x) ++ [(79, ay i), (147, .bool true)]) (by kernel_rfl) fun a HF => ?_
    refine aA ?_
    refine bD HF rfl ?_
    refine aO ?_
    refine wp_pure HF HM rfl 1 [] [(2, .bool false)] (by kernel_rfl) fun a HF => ?_
    refine aA ?_
    refine wp_ret ?_
    repeat first | refine bJ ?_ | refine bM ?_
    exact bQ HF rfl rfl ⟨false, rfl, HM.below, fun h => by cases h⟩
   rw [show decide (0 ∉ m12.name) = false from cZ (hc15)] at HF
   refine wp_pure HF HM rfl 18 [] ((fE z1 z38 x i) ++ [(122, .bool true)]) (by kernel_rfl) fun a HF => ?_
   refine aA ?_
   refine bD HF rfl ?_
   refine aO ?_
   refine wp_pure HF HM rfl 1 [] [(2, .bool false)] (by kernel_rfl) fun a HF => ?_
   refine aA ?_
   refine wp_ret ?_
   repeat first | refine bJ ?_ | refine bM ?_
   exact bQ HF rfl rfl ⟨false, rfl, HM.below, fun h => by cases h⟩
  ·intro a w KX hI
   obtain ⟨hparts, HM, HF⟩ := hI
   refine aO ?_
   refine wp_pure HF HM rfl 1 [] ((iU z1 x) ++ [(79, ay x.ps.length), (80, .bool (decide (((x.ps.length : Nat) : Int) < ((x.ps.length : Nat) : Int))))]) (by kernel_rfl) fun a HF => ?_
   refine aA ?_
   refine wp_seq ?_
   rw [show decide (((x.ps.length : Nat) : Int) < ((x.ps.length : Nat) : Int)) = false from cZ (by omega)] at HF
   refine aY HF rfl ?_
   refine wp_exit ?_
   repeat (first | refine eH ?_ | refine dY rfl ?_)
   refine gZ ?_
   repeat first | refine aK ?_ | refine aP ?_
   refine aO ?_
   refine wp_pure HF HM rfl 1 [] [(2, .bool true)] (by kernel_rfl) fun a HF => ?_
   refine aA ?_
   refine wp_ret ?_
   repeat first | refine bJ ?_ | refine bM ?_
   exact bQ HF rfl rfl ⟨true, rfl, HM.below, fun _ => ⟨⟨by omega, by omega, by omega, by omega, by assumption, by omega, by omega, fun m hm => (List.getElem?_of_mem hm).elim fun j hj => Oj j m (List.getElem?_eq_some_iff.1 hj).1 hj, fun m hm => (List.getElem?_of_mem hm).elim fun j hj => hparts j m (List.getElem?_eq_some_iff.1 hj).1 hj⟩, by omega⟩⟩

end Go.Proofs.YtdgehpocmfjbiaaDoor
namespace Go.Proofs.YtdgehpocmfjbiaaDoor
open Go.RowKit

def lq (s : List UInt8) : Value := .string ⟨s.toArray⟩
def sJ (n : Nat) : Value := ay n
theorem GH {l : List (List UInt8)} {i : Nat} {m : List UInt8} (h : l[i]? = some m) : aZ (l.take (i + 1)) = aZ (l.take i) ++ m ++ [0] := by
 obtain ⟨hl, e⟩ := List.getElem?_eq_some_iff.1 h
 rw [MK l i hl, e]
theorem sZ {l : List (List UInt8)} {i : Nat} {m : List UInt8} (h : l[i]? = some m) : (aZ (l.take i)).length + m.length + 1 ≤ (aZ l).length := by
 obtain ⟨hl, e⟩ := List.getElem?_eq_some_iff.1 h
 obtain ⟨r, e2⟩ := Aw l i hl
 rw [e2, e]
 simp only [List.length_append, List.length_cons]
 omega
theorem Ie {l : List (List UInt8)} {i : Nat} {m : List UInt8} (h : l[i]? = some m) : (aZ (l.take i)).length + m.length + 1 = (aZ (l.take (i + 1))).length := by
 rw [GH h]; simp; omega

abbrev EU := fun og (l : List (List UInt8)) i oc qg qc (A : Option Addr) (n : Nat) (c : Nat) => ([(4, aC og ((aZ (l.take i)).length) oc), (5, aC qg i qc), (10, .slice A n c), (11, ay n), (12, ay i)] : Slots)
theorem EW (l : List (List UInt8)) (A : Option Addr) (n c : Nat) (hn : n = l.length) (w0 : World) (hr : Row w0 A (l.map lq)) (hb : (aZ l).length ≤ 4000000000) (hb2 : n ≤ 4000000000) :
  Calls Tryd.prog 65 #[.slice A n c] w0 fun e w' => ∃ g cap cur g2 cap2 mX, e = .returned (.tuple #[aC g (aZ l).length cap, aC g2 l.length cap2]) ∧ Below w0.heap.size w0 w' ∧ Own w0.heap.size w' 5 1 g (aZ l).length cap cur ((aZ l).map Bv) ∧ Own w0.heap.size w' 3 1 g2 l.length cap2 mX ((List.range l.length).map (fun j => sJ (nameAt l j))) ∧ g ≠ g2 := by
 obtain ⟨w, hw⟩ : ∃ w, w0 = w := ⟨_, rfl⟩
 have HM : Mm [] w0 w [] := hw ▸ Mm.start w0
 conv => arg 4; rw [hw]
 clear hw
 refine cu Tryd.func65 rfl Tryd.ntmps65 [(0, .slice A n c)] (by kernel_rfl) (Nat.le_of_ble_eq_true rfl) ?_
 intro a HF
 refine aO ?_
 refine wp_pure HF HM rfl 2 [] [(0, .slice A n c)] (by kernel_rfl) fun a HF => ?_
 refine dF ?_
 obtain ⟨z2, hz2⟩ : ∃ z, w.heap.size = z := ⟨_, rfl⟩
 refine aT HF HM hz2 2 [] [(0, .slice A n c), (4, aC z2 1 1)] [(z2, .cells #[aQ 0] 5 (0, 0))] (by kernel_rfl) fun a w HF HM => ?_
 clear hz2
 refine dF ?_
 obtain ⟨z3, hz3⟩ : ∃ z, w.heap.size = z := ⟨_, rfl⟩
 refine aT HF HM hz3 2 [] [(0, .slice A n c), (4, aC z2 1 1), (5, aC z3 0 0)] [(z3, .cells #[] 3 (0, 0)), (z2, .cells #[aQ 0] 5 (0, 0))] (by kernel_rfl) fun a w HF HM => ?_
 clear hz3
 refine aA ?_
 refine wp_seq ?_
 refine aO ?_
 refine wp_pure HF HM rfl 3 [] [(4, aC z2 1 1), (5, aC z3 0 0), (10, .slice A n c), (11, ay n), (12, aF 0)] (by kernel_rfl) fun a HF => ?_
 refine aA ?_
 refine wp_block ?_
 refine kC (n) (fun i a w => (∃ og : Nat, ∃ oc : Nat, ∃ ok : Array Value, ∃ qg : Nat, ∃ qc : Nat, ∃ qk : Array Value, (ok.toList.take (((aZ (l.take i)).length) * 1) = (aZ (l.take i)).map Bv) ∧ (ok.size = oc * 1) ∧ (((aZ (l.take i)).length) ≤ oc) ∧ (oc ≤ maxLen) ∧ (qk.toList.take (i * 1) = (List.range i).map (fun j => sJ (nameAt l j))) ∧ (qk.size = qc * 1) ∧ (i ≤ qc) ∧ (qc ≤ maxLen) ∧ Mm [] w0 w [(qg, .cells qk 3 (0, 0)), (og, .cells ok 5 (0, 0))] ∧ Fr 29 a (EU og l i oc qg qc A n c))) ?_ ?_ ?_
 ·exact ⟨z2, 1, #[aQ 0], z3, 0, #[], rfl, rfl, Nat.le_refl _, by unfold maxLen; omega, rfl, rfl, Nat.le_refl _, by unfold maxLen; omega, HM, HF.sub [(4, aC z2 ((aZ (l.take 0)).length) 1), (5, aC z3 0 0), (10, .slice A n c), (11, ay n), (12, aF 0)] (by kernel_rfl)⟩
 ·intro i a w KX hi hI KR
  obtain ⟨og, oc, ok, qg, qc, qk, lX, sG, pU, sH, Aq, Gx, EI, Gy, HM, HF⟩ := hI
  refine aO ?_
  refine wp_pure HF HM rfl 1 [] ((EU og l i oc qg qc A n c) ++ [(13, .bool (decide (((i : Nat) : Int) < ((n : Nat) : Int))))]) (by kernel_rfl) fun a HF => ?_
  refine aA ?_
  refine wp_seq ?_
  rw [show decide (((i : Nat) : Int) < ((n : Nat) : Int)) = true from dK (by omega)] at HF
  refine bD HF rfl ?_
  refine wp_skip ?_
  repeat first | refine aK ?_ | refine aP ?_
  refine wp_seq ?_
  refine wp_block ?_
  refine aO ?_
  obtain ⟨m1, hm1⟩ : ∃ m, l[i]? = some m := ⟨_, List.getElem?_eq_getElem (by omega)⟩
  have hnl := sZ hm1
  refine dG HF (by kernel_rfl) (.pointer (Option.map (fun q : Addr => q.add (i * 1)) A)) (by kernel_rfl) (fD Tryd.underlying38 (by kernel_rfl) rfl i rfl rfl (by omega) (ji (kU (HM.row hr) i hm1) (Nat.zero_lt_succ _))) fun a HF => ?_
  refine dG HF (by kernel_rfl) (.string (⟨m1.toArray⟩)) (by kernel_rfl) (lI rfl rfl (kU (HM.row hr) i hm1) (by kernel_rfl)) fun a HF => ?_
  refine wp_pure HF HM rfl 1 [] [(4, aC og ((aZ (l.take i)).length) oc), (5, aC qg i qc), (7, .string (⟨m1.toArray⟩)), (10, .slice A n c), (11, ay n), (12, ay i)] (by kernel_rfl) fun a HF => ?_
  refine dF ?_
  obtain ⟨z7, yX⟩ : ∃ z, w.heap.size = z := ⟨_, rfl⟩
  refine aT HF HM yX 4 [] [(4, aC og ((aZ (l.take i)).length) oc), (7, .string (⟨m1.toArray⟩)), (10, .slice A n c), (11, ay n), (12, ay i), (16, aC qg i qc), (19, aC z7 1 1)] [(z7, .cells #[ay ((aZ (l.take i)).length)] 3 (0, 0)), (qg, .cells qk 3 (0, 0)), (og, .cells ok 5 (0, 0))] (by kernel_rfl) fun a w HF HM => ?_
  clear yX
  refine fZ HF HM rfl _ _ 66 66 rfl rfl 3 (z := aF 0) (size := 1) (bytes := 8) Tryd.underlying66 (by kernel_rfl) rfl (by decide) 1 qg i qc qk rfl rfl EI Gy Gx ((List.range i).map (fun j => sJ (nameAt l j))) Aq (aC z7 1 1) 1 [ay ((aZ (l.take i)).length)] rfl (lW Tryd.underlying66 rfl (by decide) (HM.rowAt (i := 0) rfl) (lu rfl)) (by unfold maxLen; omega) (by omega) ?_
  intro a w1 g2 cap2 mX bT qj hsz2 qQ hcm2 HF2; clear HF HM
  replace qj : mX.toList.take ((i + 1) * 1) = (List.range (i + 1)).map (fun j => sJ (nameAt l j)) := qj.trans (by rw [List.range_succ, List.map_append]; rfl)
  have HM : Mm [] w0 w1 [(z7, .cells #[ay ((aZ (l.take i)).length)] 3 (0, 0)), (g2, .cells mX 3 (0, 0)), (og, .cells ok 5 (0, 0))] := bT
  have HF := HF2.sub [(4, aC og ((aZ (l.take i)).length) oc), (7, .string (⟨m1.toArray⟩)), (10, .slice A n c), (11, ay n), (12, ay i), (20, aC g2 (i + 1) cap2)] (by kernel_rfl); clear bT HF2
  refine wp_pure HF HM rfl 1 [] [(4, aC og ((aZ (l.take i)).length) oc), (5, aC g2 (i + 1) cap2), (7, .string (⟨m1.toArray⟩)), (10, .slice A n c), (11, ay n), (12, ay i)] (by kernel_rfl) fun a HF => ?_
  refine aA ?_
  refine wp_region_lit ?_
  refine wp_pure HF HM rfl 2 [] [(5, aC g2 (i + 1) cap2), (10, .slice A n c), (11, ay n), (12, ay i), (21, aC og ((aZ (l.take i)).length) oc), (22, .string (⟨m1.toArray⟩))] (by kernel_rfl) fun a HF => ?_
  refine fZ HF HM rfl _ _ 33 9 rfl rfl 5 (z := aQ 0) (size := 1) (bytes := 1) Tryd.underlying33 (by kernel_rfl) rfl (by decide) 2 og ((aZ (l.take i)).length) oc ok rfl rfl pU sH sG ((aZ (l.take i)).map Bv) lX (.string (⟨m1.toArray⟩)) m1.length (m1.map Bv) rfl (NR Tryd.underlying9 m1) (by unfold maxLen; omega) (by omega) ?_
  intro a w2 g3 cap3 vg bT Ci hsz3 IU Le HF2; clear HF HM
  have HM : Mm [] w0 w2 [(z7, .cells #[ay ((aZ (l.take i)).length)] 3 (0, 0)), (g2, .cells mX 3 (0, 0)), (g3, .cells vg 5 (0, 0))] := bT
  have HF := HF2.sub [(5, aC g2 (i + 1) cap2), (10, .slice A n c), (11, ay n), (12, ay i), (23, aC g3 (((aZ (l.take i)).length) + m1.length) cap3)] (by kernel_rfl); clear bT HF2
  obtain ⟨z10, E5⟩ : ∃ z, w2.heap.size = z := ⟨_, rfl⟩
  refine aT HF HM E5 1 [] [(5, aC g2 (i + 1) cap2), (10, .slice A n c), (11, ay n), (12, ay i), (23, aC g3 (((aZ (l.take i)).length) + m1.length) cap3), (24, aC z10 1 1)] [(z10, .cells #[aQ 0] 5 (0, 0)), (z7, .cells #[ay ((aZ (l.take i)).length)] 3 (0, 0)), (g2, .cells mX 3 (0, 0)), (g3, .cells vg 5 (0, 0))] (by kernel_rfl) fun a w HF HM => ?_
  clear E5
  refine fZ HF HM rfl _ _ 33 33 rfl rfl 5 (z := aQ 0) (size := 1) (bytes := 1) Tryd.underlying33 (by kernel_rfl) rfl (by decide) 3 g3 (((aZ (l.take i)).length) + m1.length) cap3 vg rfl rfl IU Le hsz3 ((aZ (l.take i)).map Bv ++ (m1.map Bv)) Ci (aC z10 1 1) 1 [aQ 0] rfl (lW Tryd.underlying33 rfl (by decide) (HM.rowAt (i := 0) rfl) (lu rfl)) (by unfold maxLen; omega) (by omega) ?_
  intro a w3 g4 cap4 sO bT sK IQ AZ IW HF2; clear HF HM
  rw [show (((aZ (l.take i)).length) + m1.length) + 1 = (((aZ (l.take i)).length) + m1.length + 1) from by omega] at HF2 sK AZ
  replace sK : sO.toList.take ((((aZ (l.take i)).length) + m1.length + 1) * 1) = (aZ (l.take (i + 1))).map Bv := sK.trans (by rw [GH hm1, List.map_append, List.map_append]; rfl)
  have HM : Mm [] w0 w3 [(z10, .cells #[aQ 0] 5 (0, 0)), (z7, .cells #[ay ((aZ (l.take i)).length)] 3 (0, 0)), (g2, .cells mX 3 (0, 0)), (g4, .cells sO 5 (0, 0))] := bT
  have HF := HF2.sub [(5, aC g2 (i + 1) cap2), (10, .slice A n c), (11, ay n), (12, ay i), (25, aC g4 (((aZ (l.take i)).length) + m1.length + 1) cap4)] (by kernel_rfl); clear bT HF2
  refine wp_pure HF HM rfl 1 [] [(4, aC g4 (((aZ (l.take i)).length) + m1.length + 1) cap4), (5, aC g2 (i + 1) cap2), (10, .slice A n c), (11, ay n), (12, ay i)] (by kernel_rfl) fun a HF => ?_
  refine wpList_nil ?_
  repeat first | refine aK ?_ | refine aP ?_
  refine wp_region_lit ?_
  refine wp_pure HF HM rfl 1 [] [(4, aC g4 (((aZ (l.take i)).length) + m1.length + 1) cap4), (5, aC g2 (i + 1) cap2), (10, .slice A n c), (11, ay n), (26, aF (IntKind.i64.wrap (((i : Nat) : Int) + 1)))] (by kernel_rfl) fun a HF => ?_
  rw [show IntKind.i64.wrap (((i : Nat) : Int) + 1) = (((i + 1) : Nat) : Int) from (IntWalk.i64_in _ (by omega)).trans (by omega)] at HF
  refine wp_pure HF HM rfl 1 [] [(4, aC g4 (((aZ (l.take i)).length) + m1.length + 1) cap4), (5, aC g2 (i + 1) cap2), (10, .slice A n c), (11, ay n), (12, ay (i + 1))] (by kernel_rfl) fun a HF => ?_
  refine wpList_nil ?_
  repeat first | refine aK ?_ | refine aP ?_
  rw [show (((aZ (l.take i)).length) + m1.length + 1) = ((aZ (l.take (i + 1))).length) from Ie hm1] at HF sK AZ
  exact KR _ _ (⟨g4, cap4, sO, g2, cap2, mX, sK, IQ, AZ, IW, qj, hsz2, qQ, hcm2, (HM.pick [2, 3] [(g2, .cells mX 3 (0, 0)), (g4, .cells sO 5 (0, 0))] rfl (by decide)), HF.sub [(4, aC g4 ((aZ (l.take (i + 1))).length) cap4), (5, aC g2 (i + 1) cap2), (10, .slice A n c), (11, ay n), (12, ay (i + 1))] (by kernel_rfl)⟩)
 ·intro a w KX hI
  obtain ⟨og, oc, ok, qg, qc, qk, lX, sG, pU, sH, Aq, Gx, EI, Gy, HM, HF⟩ := hI
  refine aO ?_
  refine wp_pure HF HM rfl 1 [] [(4, aC og ((aZ (l.take n)).length) oc), (5, aC qg n qc), (10, .slice A n c), (11, ay n), (12, ay n), (13, .bool (decide (((n : Nat) : Int) < ((n : Nat) : Int))))] (by kernel_rfl) fun a HF => ?_
  refine aA ?_
  refine wp_seq ?_
  rw [show decide (((n : Nat) : Int) < ((n : Nat) : Int)) = false from cZ (by omega)] at HF
  refine aY HF rfl ?_
  refine wp_exit ?_
  repeat (first | refine eH ?_ | refine dY rfl ?_)
  refine gZ ?_
  repeat first | refine aK ?_ | refine aP ?_
  refine aO ?_
  refine wp_pure HF HM rfl 4 [] [(2, aC og ((aZ (l.take n)).length) oc), (3, aC qg n qc)] (by kernel_rfl) fun a HF => ?_
  refine aA ?_
  refine wp_ret ?_
  repeat first | refine bJ ?_ | refine bM ?_
  rw [hn, List.take_length] at HF lX pU
  rw [hn] at Aq EI
  exact jq HF rfl rfl rfl ⟨og, oc, ok, qg, qc, qk, rfl, HM.below, ⟨HM.ge (i := 1) rfl, HM.get (i := 1) rfl, lX, sG, pU, sH⟩, ⟨HM.ge (i := 0) rfl, HM.get (i := 0) rfl, Aq, Gx, EI, Gy⟩, HM.ne (i := 1) (j := 0) rfl rfl (by decide)⟩

theorem Jd (wide : Bool) (w0 : World) : Calls Tryd.prog 64 #[.bool wide] w0 fun e w' => e = .returned (.tuple #[ay (gV wide), ay (iF wide), ay (iV wide)]) ∧ Below w0.heap.size w0 w' := by
 cases wide with
 | true =>
  obtain ⟨w, hw⟩ : ∃ w, w0 = w := ⟨_, rfl⟩
  have HM : Mm [] w0 w [] := hw ▸ Mm.start w0
  conv => arg 4; rw [hw]
  clear hw
  refine cu Tryd.func64 rfl Tryd.ntmps64 [(0, .bool true)] (by kernel_rfl) (Nat.le_of_ble_eq_true rfl) ?_
  intro a HF
  refine aO ?_
  obtain ⟨z1, hz1⟩ : ∃ z, w.heap.size = z := ⟨_, rfl⟩
  refine wp_pure HF HM hz1 3 [] [(0, .bool true)] (by kernel_rfl) fun a HF => ?_
  clear hz1
  refine aA ?_
  refine wp_seq ?_
  refine aO ?_
  obtain ⟨z2, hz2⟩ : ∃ z, w.heap.size = z := ⟨_, rfl⟩
  refine wp_pure HF HM hz2 1 [] [(5, .bool true)] (by kernel_rfl) fun a HF => ?_
  clear hz2
  refine aA ?_
  refine bD HF rfl ?_
  refine aO ?_
  obtain ⟨z3, hz3⟩ : ∃ z, w.heap.size = z := ⟨_, rfl⟩
  refine wp_pure HF HM hz3 3 [] [(2, .int .i64 64), (3, .int .i64 56), (4, .int .i64 64)] (by kernel_rfl) fun a HF => ?_
  clear hz3
  refine aA ?_
  refine wp_ret ?_
  repeat first | refine bJ ?_ | refine bM ?_
  exact EH HF rfl rfl rfl rfl ⟨rfl, HM.below⟩
 | false =>
  obtain ⟨w, hw⟩ : ∃ w, w0 = w := ⟨_, rfl⟩
  have HM : Mm [] w0 w [] := hw ▸ Mm.start w0
  conv => arg 4; rw [hw]
  clear hw
  refine cu Tryd.func64 rfl Tryd.ntmps64 [(0, .bool false)] (by kernel_rfl) (Nat.le_of_ble_eq_true rfl) ?_
  intro a HF
  refine aO ?_
  refine wp_pure HF HM rfl 3 [] [(0, .bool false)] (by kernel_rfl) fun a HF => ?_
  refine aA ?_
  refine wp_seq ?_
  refine aO ?_
  refine wp_pure HF HM rfl 1 [] [(5, .bool false)] (by kernel_rfl) fun a HF => ?_
  refine aA ?_
  refine aY HF rfl ?_
  refine wp_skip ?_
  repeat first | refine aK ?_ | refine aP ?_
  refine aO ?_
  refine wp_pure HF HM rfl 3 [] [(2, .int .i64 52), (3, .int .i64 32), (4, .int .i64 40)] (by kernel_rfl) fun a HF => ?_
  refine aA ?_
  refine wp_ret ?_
  repeat first | refine bJ ?_ | refine bM ?_
  exact EH HF rfl rfl rfl rfl ⟨rfl, HM.below⟩

def JI : dP := ⟨[], 0, 0, 0, 0, 0, 0, 0, 0, [], none, 0⟩
def nI (x : b_) : List dP := JI :: x.ps
theorem CY (x : b_) : (nI x).length = x.ps.length + 1 := by simp [nI]
def Qb (x : b_) (g cap : Nat) : dP := ⟨zy, 3, 0, 0, 0, 0, 1, 0, 0, aZ x.img.names, some ⟨g, 0, none⟩, cap⟩
def allM (x : b_) (g cap : Nat) : List dP := nI x ++ [Qb x g cap]
theorem Au (x : b_) : x.img.names = (nI x).map (·.name) ++ [zy] := by
 simp [dU.names, dU.firsts, b_.img, nI, uT, JI, dP.part, Function.comp_def]
theorem CG (x : b_) (g cap : Nat) : (allM x g cap).length = x.ps.length + 2 := by simp [allM, nI]
theorem Fz (x : b_) (g cap : Nat) : (allM x g cap).map dP.part = x.img.all := by
 simp [allM, nI, dU.all, dU.firsts, b_.img, JI, uT, dP.part, Qb, dU.CJ]
theorem ET (x : b_) : x.img.names.length = x.ps.length + 2 := by rw [Au]; simp [nI]
theorem qW {α : Type} {l : List α} {i : Nat} {m : α} (h : l[i]? = some m) : l.take (i + 1) = l.take i ++ [m] := by
 obtain ⟨hl, e⟩ := List.getElem?_eq_some_iff.1 h
 rw [List.take_succ_eq_append_getElem hl, e]

abbrev Ae := fun z1 (x : b_) => ((z1, .cells #[.bool x.wide, .bool x.big, aX x.abi, aX x.aH, .int .i64 x.ty, .int .i64 x.machine, aI x.entry, .slice x.A x.ss.length x.c, .slice x.B x.ps.length x.d] 26 (0, 0)) : Nat × Obj)
abbrev Il := fun g1 (x : b_) cap1 og i oc => ([(3, aC g1 (x.ps.length + 1) cap1), (4, aC og i oc), (15, aC g1 (x.ps.length + 1) cap1), (16, ay (x.ps.length + 1)), (17, ay i)] : Slots)
abbrev Ad := fun g1 (x : b_) cap1 g3 i cap3 => ([(3, aC g1 (x.ps.length + 1) cap1), (4, aC g3 (i + 1) cap3), (15, aC g1 (x.ps.length + 1) cap1), (16, ay (x.ps.length + 1))] : Slots)
abbrev yx := fun z13 => ((z13, .cells #[.string (⟨#[46, 115, 104, 115, 116, 114, 116, 97, 98]⟩ : ByteArray)] 9 (0, 0)) : Nat × Obj)
abbrev Io := fun xq gt (x : b_) dB => ((xq, .cells #[.string (⟨#[46, 115, 104, 115, 116, 114, 116, 97, 98]⟩ : ByteArray), iR 3, iR 0, bH 0, iR 0, iR 0, bH 1, bH 0, bH 0, aC gt ((aZ x.img.names).length) dB] 46 (0, 0)) : Nat × Obj)
theorem R_ (x : b_) (w0 : World) (h : x.At w0) (hp : x.ps.length ≤ 1000000) (hnb : (aZ x.img.names).length ≤ 4000000000) :
  Calls Tryd.prog 38 #[x.val] w0 fun e w' => ∃ g cap cur gt dB jo, e = .returned (aC g (x.ps.length + 2) cap) ∧ Below w0.heap.size w0 w' ∧ Own w0.heap.size w' 46 10 g (x.ps.length + 2) cap cur ((allM x gt dB).flatMap dP.cells) ∧ Own w0.heap.size w' 5 1 gt (aZ x.img.names).length dB jo ((aZ x.img.names).map Bv) ∧ g ≠ gt := by
 have hfl := CY x
 obtain ⟨w, hw⟩ : ∃ w, w0 = w := ⟨_, rfl⟩
 have HM : Mm [] w0 w [] := hw ▸ Mm.start w0
 conv => arg 4; rw [hw]
 clear hw
 refine cu Tryd.func38 rfl Tryd.ntmps38 [(0, .agg #[.bool x.wide, .bool x.big, aX x.abi, aX x.aH, .int .i64 x.ty, .int .i64 x.machine, aI x.entry, .slice x.A x.ss.length x.c, .slice x.B x.ps.length x.d])] (by kernel_rfl) (Nat.le_of_ble_eq_true rfl) ?_
 intro a HF
 refine aO ?_
 obtain ⟨z1, hz1⟩ : ∃ z, w.heap.size = z := ⟨_, rfl⟩
 refine aT HF HM hz1 2 [] [(1, aB z1)] [Ae z1 x] (by kernel_rfl) fun a w HF HM => ?_
 clear hz1
 refine dF ?_
 obtain ⟨z2, hz2⟩ : ∃ z, w.heap.size = z := ⟨_, rfl⟩
 refine aT HF HM hz2 4 [[0]] [(10, aC z2 1 1), (12, .slice x.B x.ps.length x.d)] [(z2, .cells #[.string (⟨#[]⟩ : ByteArray), iR 0, iR 0, bH 0, iR 0, iR 0, bH 0, bH 0, bH 0, aN] 46 (0, 0)), Ae z1 x] (by kernel_rfl) fun a w HF HM => ?_
 clear hz2
 refine fZ HF HM rfl _ _ 24 24 rfl rfl 46 (z := .agg #[.string (⟨#[]⟩ : ByteArray), iR 0, iR 0, bH 0, iR 0, iR 0, bH 0, bH 0, bH 0, aN]) (size := 10) (bytes := 88) Tryd.underlying24 (by kernel_rfl) rfl (by decide) 0 z2 1 1 #[.string (⟨#[]⟩ : ByteArray), iR 0, iR 0, bH 0, iR 0, iR 0, bH 0, bH 0, bH 0, aN] rfl rfl (Nat.le_refl _) (by unfold maxLen; omega) rfl ([.string (⟨#[]⟩ : ByteArray), iR 0, iR 0, bH 0, iR 0, iR 0, bH 0, bH 0, bH 0, aN]) rfl (.slice x.B x.ps.length x.d) x.ps.length (x.ps.flatMap dP.cells) rfl (lW Tryd.underlying24 (Hf (f := dP.cells) (k := 10) (fun _ => rfl) _) (by decide) (HM.row h.parts) (Lm (fun _ => rfl) _)) (by unfold maxLen; omega) (by omega) ?_
 intro a w1 g1 cap1 vk bT KQ hsz1 E8 hcm1 HF2; clear HF HM
 rw [show 1 + x.ps.length = (x.ps.length + 1) from by omega] at HF2 KQ E8
 replace KQ : vk.toList.take ((x.ps.length + 1) * 10) = (nI x).flatMap dP.cells := KQ.trans (by unfold nI; rw [List.flatMap_cons]; rfl)
 have HM : Mm [] w0 w1 [(g1, .cells vk 46 (0, 0)), Ae z1 x] := bT
 have HF := HF2.sub [(13, aC g1 (x.ps.length + 1) cap1)] (by kernel_rfl); clear bT HF2
 refine wp_pure HF HM rfl 1 [] [(3, aC g1 (x.ps.length + 1) cap1)] (by kernel_rfl) fun a HF => ?_
 refine dF ?_
 obtain ⟨z4, qP⟩ : ∃ z, w1.heap.size = z := ⟨_, rfl⟩
 refine aT HF HM qP 2 [] [(3, aC g1 (x.ps.length + 1) cap1), (4, aC z4 0 0)] [(z4, .cells #[] 9 (0, 0)), (g1, .cells vk 46 (0, 0)), Ae z1 x] (by kernel_rfl) fun a w HF HM => ?_
 clear qP
 refine aA ?_
 refine wp_seq ?_
 refine aO ?_
 refine wp_pure HF HM rfl 3 [] [(3, aC g1 (x.ps.length + 1) cap1), (4, aC z4 0 0), (15, aC g1 (x.ps.length + 1) cap1), (16, ay (x.ps.length + 1)), (17, aF 0)] (by kernel_rfl) fun a HF => ?_
 refine aA ?_
 refine wp_block ?_
 replace HM := HM.pick [0, 1] [(z4, .cells #[] 9 (0, 0)), (g1, .cells vk 46 (0, 0))] rfl (by decide)
 refine kC ((x.ps.length + 1)) (fun i a w => (∃ og : Nat, ∃ oc : Nat, ∃ ok : Array Value, (ok.toList.take (i * 1) = ((nI x).take i).map (fun p => lq p.name)) ∧ (ok.size = oc * 1) ∧ (i ≤ oc) ∧ (oc ≤ maxLen) ∧ Mm [] w0 w [(og, .cells ok 9 (0, 0)), (g1, .cells vk 46 (0, 0))] ∧ Fr 39 a (Il g1 x cap1 og i oc))) ?_ ?_ ?_
 ·exact ⟨z4, 0, #[], rfl, rfl, Nat.le_refl _, by unfold maxLen; omega, HM, HF.sub [(3, aC g1 (x.ps.length + 1) cap1), (4, aC z4 0 0), (15, aC g1 (x.ps.length + 1) cap1), (16, ay (x.ps.length + 1)), (17, aF 0)] (by kernel_rfl)⟩
 ·intro i a w KX hi hI KR
  obtain ⟨og, oc, ok, lX, sG, pU, sH, HM, HF⟩ := hI
  refine aO ?_
  refine wp_pure HF HM rfl 1 [] ((Il g1 x cap1 og i oc) ++ [(18, .bool (decide (((i : Nat) : Int) < (((x.ps.length + 1) : Nat) : Int))))]) (by kernel_rfl) fun a HF => ?_
  refine aA ?_
  refine wp_seq ?_
  rw [show decide (((i : Nat) : Int) < (((x.ps.length + 1) : Nat) : Int)) = true from dK (by omega)] at HF
  refine bD HF rfl ?_
  refine wp_skip ?_
  repeat first | refine aK ?_ | refine aP ?_
  refine wp_seq ?_
  refine wp_block ?_
  refine aO ?_
  obtain ⟨m2, hm2⟩ : ∃ m, (nI x)[i]? = some m := ⟨_, List.getElem?_eq_getElem (by omega)⟩
  refine dG HF (by kernel_rfl) (.pointer (Option.map (fun q : Addr => q.add (i * 10)) (some ⟨g1, 0, none⟩))) (by kernel_rfl) (fD Tryd.underlying24 (by kernel_rfl) rfl i rfl rfl (by omega) (Option.some_ne_none _)) fun a HF => ?_
  refine dG HF (by kernel_rfl) (.agg #[.string (⟨m2.name.toArray⟩), bn m2.ty, bn m2.flags, aI m2.addr, bn m2.link, bn m2.info, aI m2.align, aI m2.ent, aI m2.size, .slice m2.A m2.data.length m2.c]) (by kernel_rfl) (lJ rfl rfl (ku (f := dP.cells) (k := 10) (fun _ => rfl) (HM.lZ (i := 1) rfl KQ) i hm2) (Nat.zero_lt_succ _) Tryd.underlying46 rfl (by kernel_rfl)) fun a HF => ?_
  obtain ⟨z7, yX⟩ : ∃ z, w.heap.size = z := ⟨_, rfl⟩
  refine aT HF HM yX 2 [[2]] [(3, aC g1 (x.ps.length + 1) cap1), (4, aC og i oc), (6, aB z7), (15, aC g1 (x.ps.length + 1) cap1), (16, ay (x.ps.length + 1)), (17, ay i)] [(z7, .cells #[.string (⟨m2.name.toArray⟩), bn m2.ty, bn m2.flags, aI m2.addr, bn m2.link, bn m2.info, aI m2.align, aI m2.ent, aI m2.size, .slice m2.A m2.data.length m2.c] 46 (0, 0)), (og, .cells ok 9 (0, 0)), (g1, .cells vk 46 (0, 0))] (by kernel_rfl) fun a w HF HM => ?_
  clear yX
  refine aA ?_
  refine wp_region_lit ?_
  obtain ⟨z8, hz8⟩ : ∃ z, w.heap.size = z := ⟨_, rfl⟩
  refine aT HF HM hz8 4 [[2]] [(3, aC g1 (x.ps.length + 1) cap1), (15, aC g1 (x.ps.length + 1) cap1), (16, ay (x.ps.length + 1)), (17, ay i), (21, aC og i oc), (24, aC z8 1 1)] [(z8, .cells #[.string (⟨m2.name.toArray⟩)] 9 (0, 0)), (z7, .cells #[.string (⟨m2.name.toArray⟩), bn m2.ty, bn m2.flags, aI m2.addr, bn m2.link, bn m2.info, aI m2.align, aI m2.ent, aI m2.size, .slice m2.A m2.data.length m2.c] 46 (0, 0)), (og, .cells ok 9 (0, 0)), (g1, .cells vk 46 (0, 0))] (by kernel_rfl) fun a w HF HM => ?_
  clear hz8
  refine fZ HF HM rfl _ _ 38 38 rfl rfl 9 (z := .string (⟨#[]⟩ : ByteArray)) (size := 1) (bytes := 16) Tryd.underlying38 (by kernel_rfl) rfl (by decide) 2 og i oc ok rfl rfl pU sH sG (((nI x).take i).map (fun p => lq p.name)) lX (aC z8 1 1) 1 [.string (⟨m2.name.toArray⟩)] rfl (lW Tryd.underlying38 rfl (by decide) (HM.rowAt (i := 0) rfl) (lu rfl)) (by unfold maxLen; omega) (by omega) ?_
  intro a w2 g3 cap3 vg bT Ci hsz3 IU Le HF2; clear HF HM
  replace Ci : vg.toList.take ((i + 1) * 1) = ((nI x).take (i + 1)).map (fun p => lq p.name) := Ci.trans (by rw [qW hm2, List.map_append]; rfl)
  have HM : Mm [] w0 w2 [(z8, .cells #[.string (⟨m2.name.toArray⟩)] 9 (0, 0)), (z7, .cells #[.string (⟨m2.name.toArray⟩), bn m2.ty, bn m2.flags, aI m2.addr, bn m2.link, bn m2.info, aI m2.align, aI m2.ent, aI m2.size, .slice m2.A m2.data.length m2.c] 46 (0, 0)), (g3, .cells vg 9 (0, 0)), (g1, .cells vk 46 (0, 0))] := bT
  have HF := HF2.sub [(3, aC g1 (x.ps.length + 1) cap1), (15, aC g1 (x.ps.length + 1) cap1), (16, ay (x.ps.length + 1)), (17, ay i), (25, aC g3 (i + 1) cap3)] (by kernel_rfl); clear bT HF2
  refine wp_pure HF HM rfl 1 [] ((Ad g1 x cap1 g3 i cap3) ++ [(17, ay i)]) (by kernel_rfl) fun a HF => ?_
  refine wpList_nil ?_
  repeat first | refine aK ?_ | refine aP ?_
  refine wp_region_lit ?_
  refine wp_pure HF HM rfl 1 [] ((Ad g1 x cap1 g3 i cap3) ++ [(26, aF (IntKind.i64.wrap (((i : Nat) : Int) + 1)))]) (by kernel_rfl) fun a HF => ?_
  rw [show IntKind.i64.wrap (((i : Nat) : Int) + 1) = (((i + 1) : Nat) : Int) from (IntWalk.i64_in _ (by omega)).trans (by omega)] at HF
  refine wp_pure HF HM rfl 1 [] ((Ad g1 x cap1 g3 i cap3) ++ [(17, ay (i + 1))]) (by kernel_rfl) fun a HF => ?_
  refine wpList_nil ?_
  repeat first | refine aK ?_ | refine aP ?_
  exact KR _ _ (⟨g3, cap3, vg, Ci, hsz3, IU, Le, (HM.pick [2, 3] [(g3, .cells vg 9 (0, 0)), (g1, .cells vk 46 (0, 0))] rfl (by decide)), HF.sub ((Ad g1 x cap1 g3 i cap3) ++ [(17, ay (i + 1))]) (by kernel_rfl)⟩)
 ·intro a w KX hI
  obtain ⟨og, oc, ok, lX, sG, pU, sH, HM, HF⟩ := hI
  refine aO ?_
  refine wp_pure HF HM rfl 1 [] [(3, aC g1 (x.ps.length + 1) cap1), (4, aC og (x.ps.length + 1) oc), (15, aC g1 (x.ps.length + 1) cap1), (16, ay (x.ps.length + 1)), (17, ay (x.ps.length + 1)), (18, .bool (decide ((((x.ps.length + 1) : Nat) : Int) < (((x.ps.length + 1) : Nat) : Int))))] (by kernel_rfl) fun a HF => ?_
  refine aA ?_
  refine wp_seq ?_
  rw [show decide ((((x.ps.length + 1) : Nat) : Int) < (((x.ps.length + 1) : Nat) : Int)) = false from cZ (by omega)] at HF
  refine aY HF rfl ?_
  refine wp_exit ?_
  repeat (first | refine eH ?_ | refine dY rfl ?_)
  refine gZ ?_
  repeat first | refine aK ?_ | refine aP ?_
  refine aO ?_
  obtain ⟨z13, KP⟩ : ∃ z, w.heap.size = z := ⟨_, rfl⟩
  refine aT HF HM KP 2 [] [(3, aC g1 (x.ps.length + 1) cap1), (28, aC og (x.ps.length + 1) oc), (29, aC z13 1 1)] [yx z13, (og, .cells ok 9 (0, 0)), (g1, .cells vk 46 (0, 0))] (by kernel_rfl) fun a w HF HM => ?_
  clear KP
  refine fZ HF HM rfl _ _ 38 38 rfl rfl 9 (z := .string (⟨#[]⟩ : ByteArray)) (size := 1) (bytes := 16) Tryd.underlying38 (by kernel_rfl) rfl (by decide) 1 og (x.ps.length + 1) oc ok rfl rfl pU sH sG (((nI x).take (x.ps.length + 1)).map (fun p => lq p.name)) lX (aC z13 1 1) 1 [.string (⟨#[46, 115, 104, 115, 116, 114, 116, 97, 98]⟩ : ByteArray)] rfl (lW Tryd.underlying38 rfl (by decide) (HM.rowAt (i := 0) rfl) (lu rfl)) (by unfold maxLen; omega) (by omega) ?_
  intro a w3 g4 cap4 sO bT sK IQ AZ IW HF2; clear HF HM
  rw [show (x.ps.length + 1) + 1 = (x.ps.length + 2) from by omega] at HF2 sK AZ
  replace sK : sO.toList.take ((x.ps.length + 2) * 1) = x.img.names.map lq := sK.trans (by rw [Au, ← CY, List.take_length, List.map_append, List.map_map]; rfl)
  have HM : Mm [] w0 w3 [yx z13, (g4, .cells sO 9 (0, 0)), (g1, .cells vk 46 (0, 0))] := bT
  have HF := HF2.sub [(3, aC g1 (x.ps.length + 1) cap1), (30, aC g4 (x.ps.length + 2) cap4)] (by kernel_rfl); clear bT HF2
  refine bf HF (by kernel_rfl) 65 #[aC g4 (x.ps.length + 2) cap4] (by kernel_rfl) (fun w => by kernel_rfl) (Calls.mono (EW x.img.names _ _ _ (by rw [ET]) w3 (HM.lZ (i := 1) rfl sK) hnb (by omega)) ?_)
  rintro _ w4 ⟨gt, dB, jo, g3, cap3, vg, rfl, hb, ho, ho3, hne⟩
  replace HM : Mm [] w0 w4 [(gt, .cells jo 5 (0, 0)), yx z13, (g4, .cells sO 9 (0, 0)), (g1, .cells vk 46 (0, 0))] := HM.push hb ho.new ho.obj
  refine ⟨_, rfl, ?_⟩; clear HF; intro a HF
  refine wp_pure HF HM rfl 5 [] [(3, aC g1 (x.ps.length + 1) cap1), (7, aC gt ((aZ x.img.names).length) dB)] (by kernel_rfl) fun a HF => ?_
  refine dF ?_
  obtain ⟨xq, EZ⟩ : ∃ z, w4.heap.size = z := ⟨_, rfl⟩
  refine aT HF HM EZ 4 [] [(34, aC g1 (x.ps.length + 1) cap1), (37, aC xq 1 1)] [Io xq gt x dB, (gt, .cells jo 5 (0, 0)), yx z13, (g4, .cells sO 9 (0, 0)), (g1, .cells vk 46 (0, 0))] (by kernel_rfl) fun a w HF HM => ?_
  clear EZ
  refine fZ HF HM rfl _ _ 24 24 rfl rfl 46 (z := .agg #[.string (⟨#[]⟩ : ByteArray), iR 0, iR 0, bH 0, iR 0, iR 0, bH 0, bH 0, bH 0, aN]) (size := 10) (bytes := 88) Tryd.underlying24 (by kernel_rfl) rfl (by decide) 4 g1 (x.ps.length + 1) cap1 vk rfl rfl E8 hcm1 hsz1 ((nI x).flatMap dP.cells) KQ (aC xq 1 1) 1 [.string (⟨#[46, 115, 104, 115, 116, 114, 116, 97, 98]⟩ : ByteArray), iR 3, iR 0, bH 0, iR 0, iR 0, bH 1, bH 0, bH 0, aC gt ((aZ x.img.names).length) dB] rfl (lW Tryd.underlying24 rfl (by decide) (HM.rowAt (i := 0) rfl) (lu rfl)) (by unfold maxLen; omega) (by omega) ?_
  intro a w5 g5 cap5 rW bT rQ hsz5 x9 Fa HF2; clear HF HM
  rw [show (x.ps.length + 1) + 1 = (x.ps.length + 2) from by omega] at HF2 rQ x9
  replace rQ : rW.toList.take ((x.ps.length + 2) * 10) = (allM x gt dB).flatMap dP.cells := rQ.trans (by unfold allM; rw [List.flatMap_append]; rfl)
  have HM : Mm [] w0 w5 [Io xq gt x dB, (gt, .cells jo 5 (0, 0)), yx z13, (g4, .cells sO 9 (0, 0)), (g5, .cells rW 46 (0, 0))] := bT
  have HF := HF2.sub [(38, aC g5 (x.ps.length + 2) cap5)] (by kernel_rfl); clear bT HF2
  refine wp_pure HF HM rfl 1 [] [(2, aC g5 (x.ps.length + 2) cap5)] (by kernel_rfl) fun a HF => ?_
  refine aA ?_
  refine wp_ret ?_
  repeat first | refine bJ ?_ | refine bM ?_
  exact bQ HF rfl rfl ⟨g5, cap5, rW, gt, dB, jo, rfl, HM.below, ⟨HM.ge (i := 4) rfl, HM.get (i := 4) rfl, rQ, hsz5, x9, Fa⟩, ⟨HM.ge (i := 1) rfl, HM.get (i := 1) rfl, ho.tk, ho.sz, ho.nc, ho.cm⟩, HM.ne (i := 4) (j := 1) rfl rfl (by decide)⟩

end Go.Proofs.YtdgehpocmfjbiaaDoor
namespace Go.Proofs.YtdgehpocmfjbiaaDoor
open Go.RowKit

def r_ (wide big : Bool) (abi aH : Nat) : List UInt8 := [127, 69, 76, 70, if wide then 2 else 1, if big then 2 else 1, 1, UInt8.ofNat abi, UInt8.ofNat aH] ++ List.replicate 7 0
theorem LX {n : Nat} (h : n < 256) : Bv (UInt8.ofNat n) = aX n := by
 rw [Ef]
 have : ((n : Nat) : Int) % 256 = (n : Int) := by omega
 rw [this]
theorem MP (wide big : Bool) (abi aH : Nat) (h1 : abi < 256) (h2 : aH < 256) :
  (#[.int .u8 127, .int .u8 69, .int .u8 76, .int .u8 70, .int .u8 (if wide then 2 else 1), .int .u8 (if big then 2 else 1), .int .u8 1, aX abi, aX aH] : Array Value).toList ++ List.replicate 7 (.int .u8 0) = (r_ wide big abi aH).map Bv := by
 unfold r_
 rw [List.map_append, List.map_replicate]
 simp only [List.map_cons, List.map_nil]
 rw [LX h1, LX h2]
 cases wide <;> cases big <;> rfl

abbrev mV := fun z1 (x : b_) => ((z1, .cells #[.bool x.wide, .bool x.big, aX x.abi, aX x.aH, .int .i64 x.ty, .int .i64 x.machine, aI x.entry, .slice x.A x.ss.length x.c, .slice x.B x.ps.length x.d] 26 (0, 0)) : Nat × Obj)
abbrev wI := fun (dA : Nat) (at_ : Nat) (m : Nat) (lS : Nat) z1 => ([(1, ay dA), (2, ay at_), (3, ay m), (4, ay lS), (5, aB z1)] : Slots)
abbrev dS := fun (dA : Nat) (at_ : Nat) (m : Nat) (lS : Nat) z1 (x : b_) => ((wI dA at_ m lS z1) ++ [(11, ay (gV x.wide)), (12, ay (iF x.wide)), (13, ay (iV x.wide))] : Slots)
abbrev wJ := fun z11 (x : b_) => ((z11, .cells #[aQ 127, aQ 69, aQ 76, aQ 70, aQ (if x.wide then 2 else 1), aQ (if x.big then 2 else 1), aQ 1, aX x.abi, aX x.aH] 5 (0, 0)) : Nat × Obj)
abbrev uf := fun (dA : Nat) (m : Nat) (x : b_) z5 => ([(1, ay dA), (3, ay m), (11, ay (gV x.wide)), (12, ay (iF x.wide)), (13, ay (iV x.wide)), (14, aB z5)] : Slots)
theorem JD (x : b_) (dA at_ m lS : Nat) (hsg : dA ≤ 1000000) (hat : at_ ≤ 4000000000) (hm1 : 1 ≤ m) (hm : m ≤ 1000000) (hfr : lS ≤ 4000000000) (ht0 : 0 ≤ x.ty) (ht1 : x.ty ≤ 65535) (hm0 : 0 ≤ x.machine) (hm9 : x.machine ≤ 65535) (w0 : World) (h : x.At w0) :
  Calls Tryd.prog 66 #[x.val, ay dA, ay at_, ay m, ay lS] w0 fun e w' => ∃ g cap cur, e = .returned (aC g (headB x.wide x.big x.abi x.aH x.ty.toNat x.machine.toNat x.entry dA at_ m lS).length cap) ∧ Below w0.heap.size w0 w' ∧ Own w0.heap.size w' 5 1 g (headB x.wide x.big x.abi x.aH x.ty.toNat x.machine.toNat x.entry dA at_ m lS).length cap cur ((headB x.wide x.big x.abi x.aH x.ty.toNat x.machine.toNat x.entry dA at_ m lS).map Bv) := by
 have hty : x.ty = ((x.ty.toNat : Nat) : Int) := by omega
 have hmc : x.machine = ((x.machine.toNat : Nat) : Int) := by omega
 have hsz : gV x.wide ≤ 64 ∧ iF x.wide ≤ 64 ∧ iV x.wide ≤ 64 := by unfold gV iF iV; cases x.wide <;> decide
 have hent := h.entry
 obtain ⟨w, hw⟩ : ∃ w, w0 = w := ⟨_, rfl⟩
 have HM : Mm [] w0 w [] := hw ▸ Mm.start w0
 conv => arg 4; rw [hw]
 clear hw
 refine cu Tryd.func66 rfl Tryd.ntmps66 [(0, .agg #[.bool x.wide, .bool x.big, aX x.abi, aX x.aH, .int .i64 x.ty, .int .i64 x.machine, aI x.entry, .slice x.A x.ss.length x.c, .slice x.B x.ps.length x.d]), (1, ay dA), (2, ay at_), (3, ay m), (4, ay lS)] (by kernel_rfl) (Nat.le_of_ble_eq_true rfl) ?_
 intro a HF
 refine aO ?_
 obtain ⟨z1, hz1⟩ : ∃ z, w.heap.size = z := ⟨_, rfl⟩
 refine aT HF HM hz1 2 [] (wI dA at_ m lS z1) [mV z1 x] (by kernel_rfl) fun a w HF HM => ?_
 clear hz1
 refine dF ?_
 obtain ⟨z2, hz2⟩ : ∃ z, w.heap.size = z := ⟨_, rfl⟩
 refine wp_pure HF HM hz2 2 [[0]] ((wI dA at_ m lS z1) ++ [(19, .bool x.wide)]) (by kernel_rfl) fun a HF => ?_
 clear hz2
 refine bf HF (by kernel_rfl) 64 #[.bool x.wide] (by kernel_rfl) (fun w => by kernel_rfl) (Calls.mono (Jd x.wide w) ?_)
 rintro _ w1 ⟨rfl, hb⟩
 replace HM := HM.call hb
 clear hb
 refine ⟨_, rfl, ?_⟩; clear HF; intro a HF
 refine wp_pure HF HM rfl 7 [] (dS dA at_ m lS z1 x) (by kernel_rfl) fun a HF => ?_
 refine dF ?_
 obtain ⟨z4, qP⟩ : ∃ z, w1.heap.size = z := ⟨_, rfl⟩
 refine wp_pure HF HM qP 5 [[0], [0]] ((dS dA at_ m lS z1 x) ++ [(28, .agg #[.bool x.wide, .bool x.big, aN])]) (by kernel_rfl) fun a HF => ?_
 clear qP
 obtain ⟨z5, uG⟩ : ∃ z, w1.heap.size = z := ⟨_, rfl⟩
 have hzl : z1 < z5 := uG ▸ HM.lt (i := 0) rfl
 have hge : w0.heap.size ≤ z5 := uG ▸ HM.size
 refine aT HF HM uG 2 [] ((dS dA at_ m lS z1 x) ++ [(14, aB z5)]) [(z5, .cells #[.bool x.wide, .bool x.big, aN] 169 (0, 0)), mV z1 x] (by kernel_rfl) fun a w HF HM => ?_
 clear uG
 refine dF ?_
 refine wp_pure HF HM rfl 2 [] ((dS dA at_ m lS z1 x) ++ [(14, aB z5), (15, aQ 1), (16, aQ 1)]) (by kernel_rfl) fun a HF => ?_
 refine aA ?_
 refine wp_seq ?_
 refine aO ?_
 refine wp_pure HF HM rfl 2 [[0]] ((dS dA at_ m lS z1 x) ++ [(14, aB z5), (15, aQ 1), (16, aQ 1), (31, .bool x.wide)]) (by kernel_rfl) fun a HF => ?_
 refine aA ?_
 refine pJ (fun a w => (Mm [] w0 w [(z5, .cells #[.bool x.wide, .bool x.big, aN] 169 (0, 0)), mV z1 x] ∧ Fr 100 a ((dS dA at_ m lS z1 x) ++ [(14, aB z5), (15, aQ (if x.wide then 2 else 1)), (16, aQ 1)]))) ?_ ?_
 ·rcases dZ x.wide with hc1 | hc1
  ·replace HF := Fr.sub (Fr.tell HF 31 rfl (congrArg Value.bool hc1)) ((dS dA at_ m lS z1 x) ++ [(14, aB z5), (15, aQ 1), (16, aQ 1), (31, .bool false)]) (by kernel_rfl)
   refine aY HF rfl ?_
   refine wp_skip ?_
   repeat first | refine aK ?_ | refine aP ?_
   exact ⟨HM, (by rw [show (if x.wide then 2 else 1 : Int) = 1 from by rw [hc1]; rfl]; exact HF.sub ((dS dA at_ m lS z1 x) ++ [(14, aB z5), (15, aQ 1), (16, aQ 1)]) (by kernel_rfl))⟩
  replace HF := Fr.sub (Fr.tell HF 31 rfl (congrArg Value.bool hc1)) ((dS dA at_ m lS z1 x) ++ [(14, aB z5), (15, aQ 1), (16, aQ 1), (31, .bool true)]) (by kernel_rfl)
  refine bD HF rfl ?_
  refine wp_region_lit ?_
  refine wp_pure HF HM rfl 1 [] ((dS dA at_ m lS z1 x) ++ [(14, aB z5), (15, aQ 2), (16, aQ 1)]) (by kernel_rfl) fun a HF => ?_
  refine wpList_nil ?_
  repeat first | refine aK ?_ | refine aP ?_
  exact ⟨HM, (by rw [show (if x.wide then 2 else 1 : Int) = 2 from by rw [hc1]; rfl]; exact HF.sub ((dS dA at_ m lS z1 x) ++ [(14, aB z5), (15, aQ 2), (16, aQ 1)]) (by kernel_rfl))⟩
 rintro a w ⟨HM, HF⟩
 repeat first | refine aK ?_ | refine aP ?_
 refine wp_seq ?_
 refine aO ?_
 refine wp_pure HF HM rfl 2 [[0]] ((dS dA at_ m lS z1 x) ++ [(14, aB z5), (15, aQ (if x.wide then 2 else 1)), (16, aQ 1), (33, .bool x.big)]) (by kernel_rfl) fun a HF => ?_
 refine aA ?_
 refine pJ (fun a w => (Mm [] w0 w [(z5, .cells #[.bool x.wide, .bool x.big, aN] 169 (0, 0)), mV z1 x] ∧ Fr 100 a ((dS dA at_ m lS z1 x) ++ [(14, aB z5), (15, aQ (if x.wide then 2 else 1)), (16, aQ (if x.big then 2 else 1))]))) ?_ ?_
 ·rcases dZ x.big with hc2 | hc2
  ·replace HF := Fr.sub (Fr.tell HF 33 rfl (congrArg Value.bool hc2)) ((dS dA at_ m lS z1 x) ++ [(14, aB z5), (15, aQ (if x.wide then 2 else 1)), (16, aQ 1), (33, .bool false)]) (by kernel_rfl)
   refine aY HF rfl ?_
   refine wp_skip ?_
   repeat first | refine aK ?_ | refine aP ?_
   exact ⟨HM, (by rw [show (if x.big then 2 else 1 : Int) = 1 from by rw [hc2]; rfl]; exact HF.sub ((dS dA at_ m lS z1 x) ++ [(14, aB z5), (15, aQ (if x.wide then 2 else 1)), (16, aQ 1)]) (by kernel_rfl))⟩
  replace HF := Fr.sub (Fr.tell HF 33 rfl (congrArg Value.bool hc2)) ((dS dA at_ m lS z1 x) ++ [(14, aB z5), (15, aQ (if x.wide then 2 else 1)), (16, aQ 1), (33, .bool true)]) (by kernel_rfl)
  refine bD HF rfl ?_
  refine wp_region_lit ?_
  refine wp_pure HF HM rfl 1 [] ((dS dA at_ m lS z1 x) ++ [(14, aB z5), (15, aQ (if x.wide then 2 else 1)), (16, aQ 2)]) (by kernel_rfl) fun a HF => ?_
  refine wpList_nil ?_
  repeat first | refine aK ?_ | refine aP ?_
  exact ⟨HM, (by rw [show (if x.big then 2 else 1 : Int) = 2 from by rw [hc2]; rfl]; exact HF.sub ((dS dA at_ m lS z1 x) ++ [(14, aB z5), (15, aQ (if x.wide then 2 else 1)), (16, aQ 2)]) (by kernel_rfl))⟩
 rintro a w ⟨HM, HF⟩
 repeat first | refine aK ?_ | refine aP ?_
 refine aO ?_
 obtain ⟨z11, hz11⟩ : ∃ z, w.heap.size = z := ⟨_, rfl⟩
 refine aT HF HM hz11 8 [[0], [0]] ((dS dA at_ m lS z1 x) ++ [(14, aB z5), (34, aB z5), (41, aC z11 9 9)]) [wJ z11 x, (z5, .cells #[.bool x.wide, .bool x.big, aN] 169 (0, 0)), mV z1 x] (by kernel_rfl) fun a w HF HM => ?_
 clear hz11
 have hgl := HM.lt (i := 1) rfl
 refine Ht HF HM rfl _ _ 33 3 rfl rfl 5 Tryd.underlying33 Tryd.underlying3 (by kernel_rfl) 0 z11 9 #[aQ 127, aQ 69, aQ 76, aQ 70, aQ (if x.wide then 2 else 1), aQ (if x.big then 2 else 1), aQ 1, aX x.abi, aX x.aH] rfl rfl rfl 7 (by omega) (by omega) (by omega) rfl ?_
 intro a w2 gz QS QN bT hgz tkz szz ncz cmz HF2; clear HF HM
 have HM : Mm [] w0 w2 [(gz, .cells QN 5 (0, 0)), wJ z11 x, (z5, .cells #[.bool x.wide, .bool x.big, aN] 169 (0, 0)), mV z1 x] := bT
 have HF := HF2.sub ((dS dA at_ m lS z1 x) ++ [(14, aB z5), (34, aB z5), (42, aC gz 16 QS)]) (by kernel_rfl); clear bT HF2
 refine aT HF HM rfl 3 [[1]] ((dS dA at_ m lS z1 x) ++ [(14, aB z5)]) [(gz, .cells QN 5 (0, 0)), wJ z11 x, (z5, .cells #[.bool x.wide, .bool x.big, aC gz 16 QS] 169 (0, 0)), mV z1 x] (by kernel_rfl) fun a w HF HM => ?_
 have HR : je w z5 x.wide x.big (r_ x.wide x.big x.abi x.aH) := ⟨_, HM.get (i := 2) rfl, by rw [List.length_map]; rfl, .inr ⟨gz, QS, QN, rfl, by omega, HM.get (i := 0) rfl, ncz, cmz, szz, tkz.trans (MP x.wide x.big x.abi x.aH h.abi h.aH)⟩⟩
 replace HM := HM.pick [3] [mV z1 x] rfl (by decide)
 refine dF ?_
 refine wp_pure HF HM rfl 4 [[0]] [(1, ay dA), (2, ay at_), (3, ay m), (4, ay lS), (5, aB z1), (11, ay (gV x.wide)), (12, ay (iF x.wide)), (13, ay (iV x.wide)), (14, aB z5), (45, aB z5), (48, bH (IntKind.u64.wrap x.ty))] (by kernel_rfl) fun a HF => ?_
 rw [show IntKind.u64.wrap x.ty = x.ty from IntWalk.u64_in _ (by omega)] at HF
 rw [hty] at HF
 refine bf HF (by kernel_rfl) 73 #[aB z5, aI x.ty.toNat, aF 2] (by kernel_rfl) (fun w => by kernel_rfl) (Calls.mono (put_any z5 x.ty.toNat 2 x.big x.wide _ (by omega) (by have hz := bZ x.wide 0 (by omega); have hz2 := bZ x.wide 2 (by omega); have qP := bZ x.wide 4 (by omega); simp only [List.length_append, bK, r_, List.length_cons, List.length_nil, List.length_replicate]; omega) w HR) ?_)
 rintro _ w3 ⟨rfl, HR2, hb⟩
 replace HM := HM.rH hb (by intro p hp; rw [List.mem_singleton] at hp; subst hp; exact hzl) hge
 clear HR; have HR := HR2; clear HR2 hb
 refine ⟨_, rfl, ?_⟩; clear HF; intro a HF
 replace HF := HF.sub ((dS dA at_ m lS z1 x) ++ [(14, aB z5)]) (by kernel_rfl)
 refine dF ?_
 refine wp_pure HF HM rfl 4 [[0]] [(1, ay dA), (2, ay at_), (3, ay m), (4, ay lS), (5, aB z1), (11, ay (gV x.wide)), (12, ay (iF x.wide)), (13, ay (iV x.wide)), (14, aB z5), (50, aB z5), (53, bH (IntKind.u64.wrap x.machine))] (by kernel_rfl) fun a HF => ?_
 rw [show IntKind.u64.wrap x.machine = x.machine from IntWalk.u64_in _ (by omega)] at HF
 rw [hmc] at HF
 refine bf HF (by kernel_rfl) 73 #[aB z5, aI x.machine.toNat, aF 2] (by kernel_rfl) (fun w => by kernel_rfl) (Calls.mono (put_any z5 x.machine.toNat 2 x.big x.wide _ (by omega) (by have hz := bZ x.wide 0 (by omega); have hz2 := bZ x.wide 2 (by omega); have qP := bZ x.wide 4 (by omega); simp only [List.length_append, bK, r_, List.length_cons, List.length_nil, List.length_replicate]; omega) w3 HR) ?_)
 rintro _ w4 ⟨rfl, HR2, hb⟩
 replace HM := HM.rH hb (by intro p hp; rw [List.mem_singleton] at hp; subst hp; exact hzl) hge
 clear HR; have HR := HR2; clear HR2 hb
 refine ⟨_, rfl, ?_⟩; clear HF; intro a HF
 replace HF := HF.sub ((dS dA at_ m lS z1 x) ++ [(14, aB z5)]) (by kernel_rfl)
 refine dF ?_
 refine wp_pure HF HM rfl 1 [] ((dS dA at_ m lS z1 x) ++ [(14, aB z5), (55, aB z5)]) (by kernel_rfl) fun a HF => ?_
 refine bf HF (by kernel_rfl) 73 #[aB z5, bH 1, aF 4] (by kernel_rfl) (fun w => by kernel_rfl) (Calls.mono (put_any z5 1 4 x.big x.wide _ (by omega) (by have hz := bZ x.wide 0 (by omega); have hz2 := bZ x.wide 2 (by omega); have qP := bZ x.wide 4 (by omega); simp only [List.length_append, bK, r_, List.length_cons, List.length_nil, List.length_replicate]; omega) w4 HR) ?_)
 rintro _ w5 ⟨rfl, HR2, hb⟩
 replace HM := HM.rH hb (by intro p hp; rw [List.mem_singleton] at hp; subst hp; exact hzl) hge
 clear HR; have HR := HR2; clear HR2 hb
 refine ⟨_, rfl, ?_⟩; clear HF; intro a HF
 replace HF := HF.sub ((dS dA at_ m lS z1 x) ++ [(14, aB z5)]) (by kernel_rfl)
 refine dF ?_
 refine wp_pure HF HM rfl 3 [[0]] [(1, ay dA), (2, ay at_), (3, ay m), (4, ay lS), (11, ay (gV x.wide)), (12, ay (iF x.wide)), (13, ay (iV x.wide)), (14, aB z5), (57, aB z5), (59, aI x.entry)] (by kernel_rfl) fun a HF => ?_
 refine bf HF (by kernel_rfl) 73 #[aB z5, aI x.entry, aF 0] (by kernel_rfl) (fun w => by kernel_rfl) (Calls.mono (put_any z5 x.entry 0 x.big x.wide _ (by omega) (by have hz := bZ x.wide 0 (by omega); have hz2 := bZ x.wide 2 (by omega); have qP := bZ x.wide 4 (by omega); simp only [List.length_append, bK, r_, List.length_cons, List.length_nil, List.length_replicate]; omega) w5 HR) ?_)
 rintro _ w6 ⟨rfl, HR2, hb⟩
 replace HM := HM.rH hb (by intro p hp; rw [List.mem_singleton] at hp; subst hp; exact hzl) hge
 clear HR; have HR := HR2; clear HR2 hb
 refine ⟨_, rfl, ?_⟩; clear HF; intro a HF
 replace HF := HF.sub [(1, ay dA), (2, ay at_), (3, ay m), (4, ay lS), (11, ay (gV x.wide)), (12, ay (iF x.wide)), (13, ay (iV x.wide)), (14, aB z5)] (by kernel_rfl)
 refine dF ?_
 refine wp_pure HF HM rfl 3 [] [(1, ay dA), (3, ay m), (4, ay lS), (11, ay (gV x.wide)), (12, ay (iF x.wide)), (13, ay (iV x.wide)), (14, aB z5), (61, aB z5), (63, bH (IntKind.u64.wrap ((at_ : Nat) : Int)))] (by kernel_rfl) fun a HF => ?_
 rw [show IntKind.u64.wrap ((at_ : Nat) : Int) = ((at_ : Nat) : Int) from IntWalk.u64_in _ (by omega)] at HF
 refine bf HF (by kernel_rfl) 73 #[aB z5, aI at_, aF 0] (by kernel_rfl) (fun w => by kernel_rfl) (Calls.mono (put_any z5 at_ 0 x.big x.wide _ (by omega) (by have hz := bZ x.wide 0 (by omega); have hz2 := bZ x.wide 2 (by omega); have qP := bZ x.wide 4 (by omega); simp only [List.length_append, bK, r_, List.length_cons, List.length_nil, List.length_replicate]; omega) w6 HR) ?_)
 rintro _ w7 ⟨rfl, HR2, hb⟩
 replace HM := HM.rH hb (by intro p hp; rw [List.mem_singleton] at hp; subst hp; exact hzl) hge
 clear HR; have HR := HR2; clear HR2 hb
 refine ⟨_, rfl, ?_⟩; clear HF; intro a HF
 replace HF := HF.sub [(1, ay dA), (3, ay m), (4, ay lS), (11, ay (gV x.wide)), (12, ay (iF x.wide)), (13, ay (iV x.wide)), (14, aB z5)] (by kernel_rfl)
 refine dF ?_
 refine wp_pure HF HM rfl 3 [] ((uf dA m x z5) ++ [(65, aB z5), (67, bH (IntKind.u64.wrap ((lS : Nat) : Int)))]) (by kernel_rfl) fun a HF => ?_
 rw [show IntKind.u64.wrap ((lS : Nat) : Int) = ((lS : Nat) : Int) from IntWalk.u64_in _ (by omega)] at HF
 refine bf HF (by kernel_rfl) 73 #[aB z5, aI lS, aF 0] (by kernel_rfl) (fun w => by kernel_rfl) (Calls.mono (put_any z5 lS 0 x.big x.wide _ (by omega) (by have hz := bZ x.wide 0 (by omega); have hz2 := bZ x.wide 2 (by omega); have qP := bZ x.wide 4 (by omega); simp only [List.length_append, bK, r_, List.length_cons, List.length_nil, List.length_replicate]; omega) w7 HR) ?_)
 rintro _ w8 ⟨rfl, HR2, hb⟩
 replace HM := HM.rH hb (by intro p hp; rw [List.mem_singleton] at hp; subst hp; exact hzl) hge
 clear HR; have HR := HR2; clear HR2 hb
 refine ⟨_, rfl, ?_⟩; clear HF; intro a HF
 replace HF := HF.sub (uf dA m x z5) (by kernel_rfl)
 refine dF ?_
 refine wp_pure HF HM rfl 1 [] ((uf dA m x z5) ++ [(69, aB z5)]) (by kernel_rfl) fun a HF => ?_
 refine bf HF (by kernel_rfl) 73 #[aB z5, bH 0, aF 4] (by kernel_rfl) (fun w => by kernel_rfl) (Calls.mono (put_any z5 0 4 x.big x.wide _ (by omega) (by have hz := bZ x.wide 0 (by omega); have hz2 := bZ x.wide 2 (by omega); have qP := bZ x.wide 4 (by omega); simp only [List.length_append, bK, r_, List.length_cons, List.length_nil, List.length_replicate]; omega) w8 HR) ?_)
 rintro _ w9 ⟨rfl, HR2, hb⟩
 replace HM := HM.rH hb (by intro p hp; rw [List.mem_singleton] at hp; subst hp; exact hzl) hge
 clear HR; have HR := HR2; clear HR2 hb
 refine ⟨_, rfl, ?_⟩; clear HF; intro a HF
 replace HF := HF.sub (uf dA m x z5) (by kernel_rfl)
 refine dF ?_
 refine wp_pure HF HM rfl 3 [] [(1, ay dA), (3, ay m), (12, ay (iF x.wide)), (13, ay (iV x.wide)), (14, aB z5), (71, aB z5), (73, bH (IntKind.u64.wrap (((gV x.wide) : Nat) : Int)))] (by kernel_rfl) fun a HF => ?_
 rw [show IntKind.u64.wrap (((gV x.wide) : Nat) : Int) = (((gV x.wide) : Nat) : Int) from IntWalk.u64_in _ (by omega)] at HF
 refine bf HF (by kernel_rfl) 73 #[aB z5, aI (gV x.wide), aF 2] (by kernel_rfl) (fun w => by kernel_rfl) (Calls.mono (put_any z5 (gV x.wide) 2 x.big x.wide _ (by omega) (by have hz := bZ x.wide 0 (by omega); have hz2 := bZ x.wide 2 (by omega); have qP := bZ x.wide 4 (by omega); simp only [List.length_append, bK, r_, List.length_cons, List.length_nil, List.length_replicate]; omega) w9 HR) ?_)
 rintro _ w10 ⟨rfl, HR2, hb⟩
 replace HM := HM.rH hb (by intro p hp; rw [List.mem_singleton] at hp; subst hp; exact hzl) hge
 clear HR; have HR := HR2; clear HR2 hb
 refine ⟨_, rfl, ?_⟩; clear HF; intro a HF
 replace HF := HF.sub [(1, ay dA), (3, ay m), (12, ay (iF x.wide)), (13, ay (iV x.wide)), (14, aB z5)] (by kernel_rfl)
 refine dF ?_
 refine wp_pure HF HM rfl 3 [] [(1, ay dA), (3, ay m), (13, ay (iV x.wide)), (14, aB z5), (75, aB z5), (77, bH (IntKind.u64.wrap (((iF x.wide) : Nat) : Int)))] (by kernel_rfl) fun a HF => ?_
 rw [show IntKind.u64.wrap (((iF x.wide) : Nat) : Int) = (((iF x.wide) : Nat) : Int) from IntWalk.u64_in _ (by omega)] at HF
 refine bf HF (by kernel_rfl) 73 #[aB z5, aI (iF x.wide), aF 2] (by kernel_rfl) (fun w => by kernel_rfl) (Calls.mono (put_any z5 (iF x.wide) 2 x.big x.wide _ (by omega) (by have hz := bZ x.wide 0 (by omega); have hz2 := bZ x.wide 2 (by omega); have qP := bZ x.wide 4 (by omega); simp only [List.length_append, bK, r_, List.length_cons, List.length_nil, List.length_replicate]; omega) w10 HR) ?_)
 rintro _ qU ⟨rfl, HR2, hb⟩
 replace HM := HM.rH hb (by intro p hp; rw [List.mem_singleton] at hp; subst hp; exact hzl) hge
 clear HR; have HR := HR2; clear HR2 hb
 refine ⟨_, rfl, ?_⟩; clear HF; intro a HF
 replace HF := HF.sub [(1, ay dA), (3, ay m), (13, ay (iV x.wide)), (14, aB z5)] (by kernel_rfl)
 refine dF ?_
 refine wp_pure HF HM rfl 3 [] [(3, ay m), (13, ay (iV x.wide)), (14, aB z5), (79, aB z5), (81, bH (IntKind.u64.wrap ((dA : Nat) : Int)))] (by kernel_rfl) fun a HF => ?_
 rw [show IntKind.u64.wrap ((dA : Nat) : Int) = ((dA : Nat) : Int) from IntWalk.u64_in _ (by omega)] at HF
 refine bf HF (by kernel_rfl) 73 #[aB z5, aI dA, aF 2] (by kernel_rfl) (fun w => by kernel_rfl) (Calls.mono (put_any z5 dA 2 x.big x.wide _ (by omega) (by have hz := bZ x.wide 0 (by omega); have hz2 := bZ x.wide 2 (by omega); have qP := bZ x.wide 4 (by omega); simp only [List.length_append, bK, r_, List.length_cons, List.length_nil, List.length_replicate]; omega) qU HR) ?_)
 rintro _ w12 ⟨rfl, HR2, hb⟩
 replace HM := HM.rH hb (by intro p hp; rw [List.mem_singleton] at hp; subst hp; exact hzl) hge
 clear HR; have HR := HR2; clear HR2 hb
 refine ⟨_, rfl, ?_⟩; clear HF; intro a HF
 replace HF := HF.sub [(3, ay m), (13, ay (iV x.wide)), (14, aB z5)] (by kernel_rfl)
 refine dF ?_
 refine wp_pure HF HM rfl 3 [] [(3, ay m), (14, aB z5), (83, aB z5), (85, bH (IntKind.u64.wrap (((iV x.wide) : Nat) : Int)))] (by kernel_rfl) fun a HF => ?_
 rw [show IntKind.u64.wrap (((iV x.wide) : Nat) : Int) = (((iV x.wide) : Nat) : Int) from IntWalk.u64_in _ (by omega)] at HF
 refine bf HF (by kernel_rfl) 73 #[aB z5, aI (iV x.wide), aF 2] (by kernel_rfl) (fun w => by kernel_rfl) (Calls.mono (put_any z5 (iV x.wide) 2 x.big x.wide _ (by omega) (by have hz := bZ x.wide 0 (by omega); have hz2 := bZ x.wide 2 (by omega); have qP := bZ x.wide 4 (by omega); simp only [List.length_append, bK, r_, List.length_cons, List.length_nil, List.length_replicate]; omega) w12 HR) ?_)
 rintro _ uI ⟨rfl, HR2, hb⟩
 replace HM := HM.rH hb (by intro p hp; rw [List.mem_singleton] at hp; subst hp; exact hzl) hge
 clear HR; have HR := HR2; clear HR2 hb
 refine ⟨_, rfl, ?_⟩; clear HF; intro a HF
 replace HF := HF.sub [(3, ay m), (14, aB z5)] (by kernel_rfl)
 refine dF ?_
 refine wp_pure HF HM rfl 3 [] [(3, ay m), (14, aB z5), (87, aB z5), (89, bH (IntKind.u64.wrap ((m : Nat) : Int)))] (by kernel_rfl) fun a HF => ?_
 rw [show IntKind.u64.wrap ((m : Nat) : Int) = ((m : Nat) : Int) from IntWalk.u64_in _ (by omega)] at HF
 refine bf HF (by kernel_rfl) 73 #[aB z5, aI m, aF 2] (by kernel_rfl) (fun w => by kernel_rfl) (Calls.mono (put_any z5 m 2 x.big x.wide _ (by omega) (by have hz := bZ x.wide 0 (by omega); have hz2 := bZ x.wide 2 (by omega); have qP := bZ x.wide 4 (by omega); simp only [List.length_append, bK, r_, List.length_cons, List.length_nil, List.length_replicate]; omega) uI HR) ?_)
 rintro _ Ey ⟨rfl, HR2, hb⟩
 replace HM := HM.rH hb (by intro p hp; rw [List.mem_singleton] at hp; subst hp; exact hzl) hge
 clear HR; have HR := HR2; clear HR2 hb
 refine ⟨_, rfl, ?_⟩; clear HF; intro a HF
 replace HF := HF.sub [(3, ay m), (14, aB z5)] (by kernel_rfl)
 refine dF ?_
 refine wp_pure HF HM rfl 3 [] [(14, aB z5), (91, aB z5), (93, aF (IntKind.i64.wrap (((m : Nat) : Int) - 1)))] (by kernel_rfl) fun a HF => ?_
 rw [show IntKind.i64.wrap (((m : Nat) : Int) - 1) = (((m - 1) : Nat) : Int) from (IntWalk.i64_in _ (by omega)).trans (by omega)] at HF
 refine wp_pure HF HM rfl 1 [] [(14, aB z5), (91, aB z5), (94, bH (IntKind.u64.wrap (((m - 1) : Nat) : Int)))] (by kernel_rfl) fun a HF => ?_
 rw [show IntKind.u64.wrap (((m - 1) : Nat) : Int) = (((m - 1) : Nat) : Int) from IntWalk.u64_in _ (by omega)] at HF
 refine bf HF (by kernel_rfl) 73 #[aB z5, aI (m - 1), aF 2] (by kernel_rfl) (fun w => by kernel_rfl) (Calls.mono (put_any z5 (m - 1) 2 x.big x.wide _ (by omega) (by have hz := bZ x.wide 0 (by omega); have hz2 := bZ x.wide 2 (by omega); have qP := bZ x.wide 4 (by omega); simp only [List.length_append, bK, r_, List.length_cons, List.length_nil, List.length_replicate]; omega) Ey HR) ?_)
 rintro _ Bg ⟨rfl, HR2, hb⟩
 replace HM := HM.rH hb (by intro p hp; rw [List.mem_singleton] at hp; subst hp; exact hzl) hge
 clear HR; have HR := HR2; clear HR2 hb
 refine ⟨_, rfl, ?_⟩; clear HF; intro a HF
 replace HF := HF.sub [(14, aB z5)] (by kernel_rfl)
 refine dF ?_
 obtain ⟨v, hv, hown⟩ := HR
 have hcv : Bg.cell? ⟨z5, 2, none⟩ = some v := fO hv 2
 refine wp_pure HF HM rfl 3 [] [(98, .pointer (some ⟨z5, 2, none⟩))] (by kernel_rfl) fun a HF => ?_
 refine dG HF (by kernel_rfl) (v) (by kernel_rfl) (dV rfl rfl (by kernel_rfl) hcv) fun a HF => ?_
 refine wp_pure HF HM rfl 1 [] [(10, v)] (by kernel_rfl) fun a HF => ?_
 refine aA ?_
 refine wp_ret ?_
 repeat first | refine bJ ?_ | refine bM ?_
 have hown2 : Bg.ownsRow (z5 + 1) 5 1 v (headB x.wide x.big x.abi x.aH x.ty.toNat x.machine.toNat x.entry dA at_ m lS).length ((headB x.wide x.big x.abi x.aH x.ty.toNat x.machine.toNat x.entry dA at_ m lS).map Bv) := hown
 rcases hown2.2 with ⟨_, h0⟩ | ⟨g, cap, cur, rfl, hg, hh, hnc, hcm, hcs, htk⟩
 ·rw [uX] at h0; unfold gV at h0; split at h0 <;> omega
 exact bQ HF rfl rfl ⟨g, cap, cur, rfl, HM.below, ⟨by omega, hh, htk, hcs, hnc, hcm⟩⟩

end Go.Proofs.YtdgehpocmfjbiaaDoor
namespace Go.Proofs.YtdgehpocmfjbiaaDoor
open Go.RowKit

section
variable {x : b_} {g cap i : Nat}
def fdM (m : dP) : List UInt8 := mW m.part
def jQ (x : b_) (i : Nat) : List UInt8 := (x.ss.take i).flatMap (·.data)
theorem Gw {m : kL} (hm : x.ss[i]? = some m) : jQ x (i + 1) = jQ x i ++ m.data := by
 unfold jQ
 rw [qW hm, List.flatMap_append]
 simp
theorem Df (x : b_) (i : Nat) : jQ x i = (x.img.dA.take i).flatMap (·.data) := by
 unfold jQ
 show _ = ((x.ss.map kL.seg).take i).flatMap (·.data)
 rw [← List.map_take, List.flatMap_map]
 rfl
theorem Md (x : b_) (i : Nat) : x.img.kN i = x.img.at0 + (jQ x i).length := by rw [Df]; rfl
theorem Ak (x : b_) : x.img.dA.length = x.ss.length := List.length_map ..
theorem NU (x : b_) : jQ x x.ss.length = x.img.ni := by
 rw [Df, ← Ak, List.take_length]
 rfl
theorem OW (x : b_) (i : Nat) : (jQ x i).length ≤ x.img.ni.length := by rw [Df]; exact CX _ _ _
def g_ (x : b_) (g cap i : Nat) : List UInt8 := x.img.ni ++ ((allM x g cap).take i).flatMap fdM
theorem OL (x : b_) (g cap : Nat) : g_ x g cap 0 = x.img.ni := by simp [g_]
theorem Aa {m : dP} (hm : (allM x g cap)[i]? = some m) : g_ x g cap (i + 1) = g_ x g cap i ++ fdM m := by
 unfold g_
 rw [qW hm, List.flatMap_append, List.append_assoc]
 simp
theorem Fp (x : b_) (g cap i : Nat) : g_ x g cap i = x.img.ni ++ (x.img.all.take i).flatMap mW := by
 unfold g_
 rw [← Fz x g cap, ← List.map_take, List.flatMap_map]
 rfl
theorem MC (x : b_) (g cap i : Nat) (h : i ≠ 0) : x.img.iK i = x.img.at0 + (g_ x g cap i).length := by
 rw [Fp]
 unfold dU.iK
 rw [if_neg h, List.length_append, Nat.add_assoc]
theorem nY (x : b_) : x.img.all.length = x.ps.length + 2 := by rw [← Fz x 0 0, List.length_map, CG]
theorem Fq (x : b_) (g cap : Nat) : g_ x g cap (x.ps.length + 2) = x.img.ni ++ x.img.oD := by
 rw [Fp, ← nY, List.take_length]
 rfl
theorem Hr (x : b_) (g cap i : Nat) (ok : x.img.Ok) : (g_ x g cap i).length ≤ 120953600 := by
 have h1 := ok.Dh
 have h2 := ok.Di
 have h3 := CX mW x.img.all i
 have h4 : ((x.img.all.take i).flatMap mW).length ≤ x.img.oD.length := h3
 rw [Fp, List.length_append]
 omega
theorem Qd (x : b_) (g cap : Nat) : x.img.m_ = x.img.at0 + (g_ x g cap (x.ps.length + 2)).length := by
 rw [Fq]
 rfl
theorem SV (x : b_) : x.img.at0 = gV x.wide + iF x.wide * x.ss.length := by
 unfold dU.at0
 rw [Ak]
 rfl
theorem head_eq (x : b_) : headB x.wide x.big x.abi x.aH x.ty.toNat x.machine.toNat x.entry x.ss.length (gV x.wide) (x.ps.length + 2) x.img.m_ = x.img.head := by
 unfold dU.head
 rw [Ak, nY]
 rfl
def kT (x : b_) (i : Nat) : List UInt8 := x.img.head ++ eG x.img.qJ 0 (x.img.dA.take i)
theorem Jf (x : b_) : kT x 0 = x.img.head := by simp [kT, eG]
def pz (x : b_) (i : Nat) (m : kL) : List UInt8 := uM x.wide x.big m.ty m.flags m.bU m.bV m.bY m.align m.data.length (x.img.kN i)
theorem Jg {m : kL} (hm : x.ss[i]? = some m) : kT x (i + 1) = kT x i ++ pz x i m := by
 have h1 : x.img.dA[i]? = some m.seg := by
  show (x.ss.map kL.seg)[i]? = _
  rw [List.getElem?_map, hm]; rfl
 obtain ⟨hl, e⟩ := List.getElem?_eq_some_iff.1 h1
 have hr : pz x i m = x.img.qJ i m.seg := rfl
 unfold kT
 rw [hr, Ej _ _ _ hl, e]
 simp only [List.append_assoc]
theorem G5 (x : b_) (i : Nat) (ok : x.img.Ok) : (kT x i).length ≤ 122000000 := by
 have h := ok.length_le
 have h2 : (eG x.img.qJ 0 (x.img.dA.take i)).length ≤ (eG x.img.qJ 0 x.img.dA).length := by
  rw [nG x.img.qJ (iF x.img.wide) _ _ fun j a _ => uo .., nG x.img.qJ (iF x.img.wide) _ _ fun j a _ => uo ..]
  exact Nat.mul_le_mul_right _ (by rw [List.length_take]; omega)
 unfold kT
 unfold dU.file at h
 simp only [List.length_append] at h ⊢
 omega
def nC (x : b_) (i : Nat) : List UInt8 := kT x x.ss.length ++ (x.img.ni ++ x.img.oD) ++ eG x.img.oQ 0 (x.img.all.take i)
theorem Jo (x : b_) : nC x 0 = kT x x.ss.length ++ (x.img.ni ++ x.img.oD) := by simp [nC, eG]
def pF (x : b_) (i : Nat) (m : dP) : List UInt8 := xu x.wide x.big (x.img.lD i) m.ty m.flags m.addr (x.img.iK i) (rX m.ty m.size m.data.length) m.link m.info m.align m.ent
theorem Jp {m : dP} (hm : (allM x g cap)[i]? = some m) : nC x (i + 1) = nC x i ++ pF x i m := by
 have h1 : x.img.all[i]? = some m.part := by rw [← Fz x g cap, List.getElem?_map, hm]; rfl
 obtain ⟨hl, e⟩ := List.getElem?_eq_some_iff.1 h1
 have hr : pF x i m = x.img.oQ i m.part := rfl
 unfold nC
 rw [hr, Ej _ _ _ hl, e]
 simp only [List.append_assoc]
theorem QH (x : b_) : nC x (x.ps.length + 2) = x.img.file := by
 unfold nC kT
 rw [← nY, List.take_length, ← Ak, List.take_length]
 rfl
theorem Ls (x : b_) (i : Nat) (ok : x.img.Ok) : (nC x i).length ≤ 122000000 := by
 have h := ok.length_le
 have h2 : (eG x.img.oQ 0 (x.img.all.take i)).length ≤ (eG x.img.oQ 0 x.img.all).length := by
  rw [nG x.img.oQ (iV x.img.wide) _ _ fun j a _ => uq .., nG x.img.oQ (iV x.img.wide) _ _ fun j a _ => uq ..]
  exact Nat.mul_le_mul_right _ (by rw [List.length_take]; omega)
 unfold nC kT
 rw [← Ak, List.take_length]
 unfold dU.file at h
 simp only [List.length_append] at h ⊢
 omega
theorem PO (x : b_) (g cap : Nat) : (allM x g cap).map (·.name) = x.img.names := by
 rw [Au]
 simp [allM, Qb]
theorem MJ (x : b_) (g cap : Nat) : ((allM x g cap).take (x.ps.length + 2)).map (fun p => lq p.name) = x.img.names.map lq := by
 rw [← CG x g cap, List.take_length, ← PO x g cap, List.map_map]
 rfl
theorem N8 (x : b_) : ((List.range x.img.names.length).map (fun j => sJ (nameAt x.img.names j))).set 0 (sJ 0) = (List.range x.img.names.length).map (fun j => sJ (x.img.lD j)) := by
 apply List.ext_getElem
 ·simp
 ·intro j h1 h2
  rw [List.getElem_set]
  simp only [List.getElem_map, List.getElem_range]
  unfold dU.lD
  split
  ·rename_i h; rw [if_pos h.symm]
  ·rename_i h; rw [if_neg (fun e => h e.symm)]
theorem H8 {f : Nat → Value} (i : Nat) : (List.range i).map f ++ [f i] = (List.range (i + 1)).map f := by
 rw [List.range_succ, List.map_append]; rfl
theorem Si {w0 w : World} {L : List (Nat × Obj)} {jo : Array Value} (h : x.At w0) (HM : Mm [] w0 w L) {k : Nat} {t : TypeId} {f : Nat × Nat} (e : L[k]? = some (g, .cells jo t f)) (tk : jo.toList.take ((aZ x.img.names).length * 1) = (aZ x.img.names).map Bv) (m : dP) (hm : m ∈ allM x g cap) :
  Row w m.A (m.data.map Bv) := by
 simp only [allM, nI, List.mem_append, List.mem_cons, List.not_mem_nil, or_false] at hm
 rcases hm with (rfl | hm) | rfl
 ·exact Row.nil _ _
 ·exact HM.row (h.part m hm).row
 ·exact HM.lZ e tk
structure AllB (m : dP) : Prop where
 ty : m.ty < 4294967296
 flags : m.flags < 4294967296
 link : m.link < 4294967296
 info : m.info < 4294967296
 data : m.data.length ≤ 1100000
theorem P9 {w0 : World} (h : x.At w0) (ok : x.Ok) (m : dP) (hm : m ∈ allM x g cap) : AllB m := by
 have hnb := (b_.ok ok h).sZ
 simp only [allM, nI, List.mem_append, List.mem_cons, List.not_mem_nil, or_false] at hm
 rcases hm with (rfl | hm) | rfl
 ·exact ⟨by decide, by decide, by decide, by decide, by decide⟩
 ·have o := ok.part m hm
  have b := h.part m hm
  exact ⟨b.ty, b.flags, b.link, b.info, by have := o.data; omega⟩
 ·exact ⟨by show 3 < _; omega, by show 0 < _; omega, by show 0 < _; omega, by show 0 < _; omega, by show (aZ x.img.names).length ≤ 1100000; omega⟩
theorem NC {m : dP} (h : ((m.ty : Nat) : Int) ≠ 8) : fdM m = m.data := by
 have : m.ty ≠ 8 := by omega
 show (if m.ty = 8 then [] else m.data) = m.data
 rw [if_neg this]
theorem PY {m : dP} (h : ¬ ((m.ty : Nat) : Int) ≠ 8) : fdM m = [] := by
 have : m.ty = 8 := by omega
 show (if m.ty = 8 then [] else m.data) = []
 rw [if_pos this]
end
theorem KC {w : World} {base e size n : Nat} {v : Value} {xs : List Value} (h : w.ownsRow base e size v n xs) (hn : 0 < n) : ∃ g cap cur, v = .slice (some ⟨g, 0, none⟩) n cap ∧ Own base w e size g n cap cur xs := by
 rcases h.2 with ⟨_, h0⟩ | ⟨g, cap, cur, rfl, hg, hh, hnc, hcm, hcs, htk⟩
 ·omega
 ·exact ⟨g, cap, cur, rfl, ⟨hg, hh, htk, hcs, hnc, hcm⟩⟩
/-- spec.SY, in either class -/
theorem Mc (wide big : Bool) (x2 x3 x4 x5 x6 x7 x8 : Value) (ty flags bU bV bY align n c offset : Nat) (A : Option Addr) (h1 : ty ≤ 4294967295) (h2 : flags ≤ 4294967295) (h3 : offset ≤ 4294967295) (h4 : n ≤ 4294967295) (w : World) :
  Calls Tryd.prog 67 #[.agg #[.bool wide, .bool big, x2, x3, x4, x5, x6, x7, x8], .agg #[.int .u32 ty, .int .u32 flags, .int .u64 bU, .int .u64 bV, .int .u64 bY, .int .u64 align, .slice A n c], .int .i64 offset] w
   fun e w' => ∃ g cap cur, e = .returned (.slice (some ⟨g, 0, none⟩) (uM wide big ty flags bU bV bY align n offset).length cap) ∧ Below w.heap.size w w' ∧ Own w.heap.size w' 5 1 g (uM wide big ty flags bU bV bY align n offset).length cap cur ((uM wide big ty flags bU bV bY align n offset).map Bv) := by
 have hp : 0 < (uM wide big ty flags bU bV bY align n offset).length := by rw [uo]; unfold iF; split <;> omega
 cases wide with
 | true =>
  refine (Hz big x2 x3 x4 x5 x6 x7 x8 ty flags bU bV bY align n c offset A h1 h2 h3 h4 w).mono ?_
  rintro e w' ⟨v, rfl, ho, hb⟩
  obtain ⟨g, cap, cur, rfl, h⟩ := KC ho hp
  exact ⟨g, cap, cur, rfl, hb, h⟩
 | false =>
  refine (HY big x2 x3 x4 x5 x6 x7 x8 ty flags bU bV bY align n c offset A h1 h2 h3 h4 w).mono ?_
  rintro e w' ⟨v, rfl, ho, hb⟩
  obtain ⟨g, cap, cur, rfl, h⟩ := KC ho hp
  exact ⟨g, cap, cur, rfl, hb, h⟩
theorem MB (wide big : Bool) (x2 x3 x4 x5 x6 x7 x8 : Value) (name : Nat) (nm : ByteArray) (ty flags addr link info align ent size n c offset : Nat) (A : Option Addr) (h0 : name ≤ 4294967295) (h1 : ty ≤ 4294967295) (h2 : flags ≤ 4294967295) (h3 : offset ≤ 4294967295) (h4 : n ≤ 4294967295) (h5 : link ≤ 4294967295) (h6 : info ≤ 4294967295) (w : World) :
  Calls Tryd.prog 68 #[.agg #[.bool wide, .bool big, x2, x3, x4, x5, x6, x7, x8], .int .i64 name, .agg #[.string nm, .int .u32 ty, .int .u32 flags, .int .u64 addr, .int .u32 link, .int .u32 info, .int .u64 align, .int .u64 ent, .int .u64 size, .slice A n c], .int .i64 offset] w
   fun e w' => ∃ g cap cur, e = .returned (.slice (some ⟨g, 0, none⟩) (xu wide big name ty flags addr offset (rX ty size n) link info align ent).length cap) ∧ Below w.heap.size w w' ∧ Own w.heap.size w' 5 1 g (xu wide big name ty flags addr offset (rX ty size n) link info align ent).length cap cur ((xu wide big name ty flags addr offset (rX ty size n) link info align ent).map Bv) := by
 have hp : 0 < (xu wide big name ty flags addr offset (rX ty size n) link info align ent).length := by rw [uq]; unfold iV; split <;> omega
 refine (Iw wide big x2 x3 x4 x5 x6 x7 x8 name nm ty flags addr link info align ent size n c offset A h0 h1 h2 h3 h4 h5 h6 w).mono ?_
 rintro e w' ⟨v, rfl, ho, hb⟩
 obtain ⟨g, cap, cur, rfl, h⟩ := KC ho hp
 exact ⟨g, cap, cur, rfl, hb, h⟩
end Go.Proofs.YtdgehpocmfjbiaaDoor
namespace Go.Proofs.YtdgehpocmfjbiaaDoor
open Go.RowKit
end Go.Proofs.YtdgehpocmfjbiaaDoor
