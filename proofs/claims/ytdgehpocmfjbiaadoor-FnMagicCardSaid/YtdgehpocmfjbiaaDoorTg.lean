/- Images as they lie in memory. · An image of which IsImage says true lays out a good file. · laws.zzFits1 to zzFits5: they return, and turn nothing. ·  -/
import Derived.Test.YtdgehpocmfjbiaaDoorTb
import Derived.Test.YtdgehpocmfjbiaaDoorTd
import Derived.Test.YtdgehpocmfjbiaaDoorTf
set_option linter.unusedVariables false
set_option linter.unusedSimpArgs false
set_option maxRecDepth 100000
set_option maxHeartbeats 2000000
namespace Go.Proofs.YtdgehpocmfjbiaaDoor
open Go.RowKit

structure jE where
 ty : Nat
 flags : Nat
 bI : Nat
 bJ : Nat
 bM : Nat
 align : Nat
 data : List UInt8
 A : Option Addr
 c : Nat
structure fP where
 name : List UInt8
 ty : Nat
 flags : Nat
 addr : Nat
 link : Nat
 info : Nat
 align : Nat
 ent : Nat
 size : Nat
 data : List UInt8
 A : Option Addr
 c : Nat
def jE.cells (m : jE) : List Value := [.int .u32 ((m.ty : Nat) : Int), .int .u32 ((m.flags : Nat) : Int), .int .u64 ((m.bI : Nat) : Int), .int .u64 ((m.bJ : Nat) : Int), .int .u64 ((m.bM : Nat) : Int), .int .u64 ((m.align : Nat) : Int), .slice m.A m.data.length m.c]
def fP.cells (m : fP) : List Value := [.string (⟨m.name.toArray⟩), .int .u32 ((m.ty : Nat) : Int), .int .u32 ((m.flags : Nat) : Int), .int .u64 ((m.addr : Nat) : Int), .int .u32 ((m.link : Nat) : Int), .int .u32 ((m.info : Nat) : Int), .int .u64 ((m.align : Nat) : Int), .int .u64 ((m.ent : Nat) : Int), .int .u64 ((m.size : Nat) : Int), .slice m.A m.data.length m.c]
structure dN where
 wide : Bool
 big : Bool
 abi : Nat
 aF : Nat
 ty : Int
 machine : Int
 entry : Nat
 ss : List jE
 A : Option Addr
 c : Nat
 ps : List fP
 B : Option Addr
 d : Nat
def dN.val (x : dN) : Value := .agg #[.bool x.wide, .bool x.big, .int .u8 ((x.abi : Nat) : Int), .int .u8 ((x.aF : Nat) : Int), .int .i64 x.ty, .int .i64 x.machine, .int .u64 ((x.entry : Nat) : Int), .slice x.A x.ss.length x.c, .slice x.B x.ps.length x.d]
structure jE.At (w : World) (m : jE) : Prop where
 row : Row w m.A (m.data.map Bv)
 c1 : m.data.length ≤ m.c
 c2 : m.c ≤ maxLen
 ty : m.ty < 4294967296
 flags : m.flags < 4294967296
 bI : m.bI < 18446744073709551616
 bJ : m.bJ < 18446744073709551616
 bM : m.bM < 18446744073709551616
 align : m.align < 18446744073709551616
structure fP.At (w : World) (m : fP) : Prop where
 row : Row w m.A (m.data.map Bv)
 c1 : m.data.length ≤ m.c
 c2 : m.c ≤ maxLen
 nm : m.name.length ≤ maxLen
 ty : m.ty < 4294967296
 flags : m.flags < 4294967296
 addr : m.addr < 18446744073709551616
 link : m.link < 4294967296
 info : m.info < 4294967296
 align : m.align < 18446744073709551616
 ent : m.ent < 18446744073709551616
 size : m.size < 18446744073709551616
structure dN.At (w : World) (x : dN) : Prop where
 cO : Row w x.A (x.ss.flatMap jE.cells)
 parts : Row w x.B (x.ps.flatMap fP.cells)
 seg : ∀ m ∈ x.ss, jE.At w m
 part : ∀ m ∈ x.ps, fP.At w m
 c1 : x.ss.length ≤ x.c
 c2 : x.c ≤ maxLen
 d1 : x.ps.length ≤ x.d
 d2 : x.d ≤ maxLen
 abi : x.abi < 256
 aF : x.aF < 256
 entry : x.entry < 18446744073709551616
theorem jE.At.below {w w' : World} {m : jE} (h : jE.At w m) (hb : Below w.heap.size w w') : jE.At w' m := { h with row := h.row.below hb }
theorem fP.At.below {w w' : World} {m : fP} (h : fP.At w m) (hb : Below w.heap.size w w') : fP.At w' m := { h with row := h.row.below hb }
theorem dN.At.below {w w' : World} {x : dN} (h : dN.At w x) (hb : Below w.heap.size w w') : dN.At w' x :=
 { h with cO := h.cO.below hb, parts := h.parts.below hb, seg := fun m hm => (h.seg m hm).below hb, part := fun m hm => (h.part m hm).below hb }
def jE.seg (m : jE) : Seg := ⟨m.ty, m.flags, m.bI, m.bJ, m.bM, m.align, m.data⟩
def fP.part (m : fP) : Part := ⟨m.name, m.ty, m.flags, m.addr, m.link, m.info, m.align, m.ent, m.size, m.data⟩
def dN.img (x : dN) : dK := ⟨x.wide, x.big, x.abi, x.aF, x.ty.toNat, x.machine.toNat, x.entry, x.ss.map jE.seg, x.ps.map fP.part⟩
/-- what IsImage tells of a segment -/
structure jE.Ok (wide : Bool) (m : jE) : Prop where
 fit : lX wide [m.bI, m.bJ, m.bM, m.align] = true
 ty : m.ty < 2147483648
 data : m.data.length ≤ 65536
structure fP.Ok (wide : Bool) (m : fP) : Prop where
 fit : lX wide [m.addr, m.align, m.ent, m.size] = true
 name : m.name.length ≤ 1024
 nul : 0 ∉ m.name
 data : m.data.length ≤ 1100000
 Ik : m.ty ≠ 0
 ty1 : m.ty < 1610612736
 zip : xR ⟨m.name.toArray⟩ = false
 flags : (oC (m.flags : Int) 2048 == 0) = true
 bss : m.ty = 8 → m.data.length = 0
 size : m.size < 4611686018427387904
structure dN.Ok (x : dN) : Prop where
 Ik : 0 ≤ x.ty
 ty1 : x.ty ≤ 65535
 mc0 : 0 ≤ x.machine
 mc1 : x.machine ≤ 65535
 fit : lX x.wide [x.entry] = true
 cO : x.ss.length ≤ 100
 parts : x.ps.length ≤ 102
 seg : ∀ m ∈ x.ss, jE.Ok x.wide m
 part : ∀ m ∈ x.ps, fP.Ok x.wide m
theorem pV {wide : Bool} {l : List Nat} (h : lX wide l = true) {n : Nat} (hn : n ∈ l) (h64 : n < 18446744073709551616) : n < 256 ^ iw wide := by
 cases wide with
 | true => exact h64
 | false =>
  simp only [lX, Bool.false_or, List.all_eq_true, decide_eq_true_eq] at h
  exact h n hn
end Go.Proofs.YtdgehpocmfjbiaaDoor
namespace Go.Proofs.YtdgehpocmfjbiaaDoor
open Go.RowKit

theorem dN.ok {x : dN} {w : World} (h : x.Ok) (a : x.At w) : x.img.Ok where
 abi := a.abi
 aF := a.aF
 ty := by have := h.Ik; have := h.ty1; show x.ty.toNat < _; omega
 machine := by have := h.mc0; have := h.mc1; show x.machine.toNat < _; omega
 entry := pV h.fit (n := x.entry) (by simp) a.entry
 cO := by show (x.ss.map _).length ≤ _; rw [List.length_map]; exact h.cO
 parts := by show (x.ps.map _).length ≤ _; rw [List.length_map]; exact h.parts
 seg := fun s hs => by
  obtain ⟨m, hm, rfl⟩ := List.mem_map.1 (show s ∈ x.ss.map jE.seg from hs)
  have o := h.seg m hm
  have b := a.seg m hm
  exact ⟨o.ty, b.flags, pV o.fit (n := m.bI) (by simp) b.bI, pV o.fit (n := m.bJ) (by simp) b.bJ, pV o.fit (n := m.bM) (by simp) b.bM, pV o.fit (n := m.align) (by simp) b.align, o.data⟩
 part := fun p hp => by
  obtain ⟨m, hm, rfl⟩ := List.mem_map.1 (show p ∈ x.ps.map fP.part from hp)
  have o := h.part m hm
  have b := a.part m hm
  exact ⟨o.name, o.nul, b.ty, b.flags, o.flags, pV o.fit (n := m.addr) (by simp) b.addr, b.link, b.info, pV o.fit (n := m.align) (by simp) b.align, pV o.fit (n := m.ent) (by simp) b.ent, pV o.fit (n := m.size) (by simp) b.size, o.size, o.data⟩
end Go.Proofs.YtdgehpocmfjbiaaDoor
namespace Go.Proofs.YtdgehpocmfjbiaaDoor
open Go.RowKit

theorem Hl (m : jE) (w0 : World) : Calls Tryd.prog 76 #[.agg #[aX m.ty, aX m.flags, aJ m.bI, aJ m.bJ, aJ m.bM, aJ m.align, .slice m.A m.data.length m.c]] w0 fun e w' => ∃ b, e = .returned (.bool b) ∧ Below w0.heap.size w0 w' := by
 obtain ⟨w, hw⟩ : ∃ w, w0 = w := ⟨_, rfl⟩
 have HM : Mm [] w0 w [] := hw ▸ Mm.start w0
 conv => arg 4; rw [hw]
 clear hw
 refine dD Tryd.func76 rfl Tryd.ntmps76 [(0, .agg #[aX m.ty, aX m.flags, aJ m.bI, aJ m.bJ, aJ m.bM, aJ m.align, .slice m.A m.data.length m.c])] (by kernel_rfl) (Nat.le_of_ble_eq_true rfl) ?_
 intro a HF
 refine aY ?_
 obtain ⟨z1, hz1⟩ : ∃ z, w.heap.size = z := ⟨_, rfl⟩
 refine aO HF HM hz1 2 [] [(1, aC z1)] [(z1, .cells #[aX m.ty, aX m.flags, aJ m.bI, aJ m.bJ, aJ m.bM, aJ m.align, .slice m.A m.data.length m.c] 57 (0, 0))] (by kernel_rfl) fun a w HF HM => ?_
 clear hz1
 refine aI ?_
 refine wp_seq ?_
 refine aY ?_
 refine wp_pure HF HM rfl 4 [[0]] [(6, .bool (decide (2147483647 < ((m.data.length : Nat) : Int))))] (by kernel_rfl) fun a HF => ?_
 refine aI ?_
 by_cases hc1 : 2147483647 < ((m.data.length : Nat) : Int)
 ·rw [show decide (2147483647 < ((m.data.length : Nat) : Int)) = true from fC (hc1)] at HF
  refine bF HF rfl ?_
  refine aY ?_
  refine wp_pure HF HM rfl 1 [] [(2, .bool false)] (by kernel_rfl) fun a HF => ?_
  refine aI ?_
  refine wp_ret ?_
  repeat first | refine bV ?_ | refine dh ?_
  exact dH HF rfl rfl ⟨false, rfl, HM.below⟩
 rw [show decide (2147483647 < ((m.data.length : Nat) : Int)) = false from dI (hc1)] at HF
 refine aZ HF rfl ?_
 refine wp_skip ?_
 repeat first | refine aQ ?_ | refine aU ?_
 refine aY ?_
 refine wp_pure HF HM rfl 1 [] [(2, .bool true)] (by kernel_rfl) fun a HF => ?_
 refine aI ?_
 refine wp_ret ?_
 repeat first | refine bV ?_ | refine dh ?_
 exact dH HF rfl rfl ⟨true, rfl, HM.below⟩

theorem Hf (m : fP) (w0 : World) : Calls Tryd.prog 77 #[.agg #[.string (⟨m.name.toArray⟩), aX m.ty, aX m.flags, aJ m.addr, aX m.link, aX m.info, aJ m.align, aJ m.ent, aJ m.size, .slice m.A m.data.length m.c]] w0 fun e w' => ∃ b, e = .returned (.bool b) ∧ Below w0.heap.size w0 w' := by
 obtain ⟨w, hw⟩ : ∃ w, w0 = w := ⟨_, rfl⟩
 have HM : Mm [] w0 w [] := hw ▸ Mm.start w0
 conv => arg 4; rw [hw]
 clear hw
 refine dD Tryd.func77 rfl Tryd.ntmps77 [(0, .agg #[.string (⟨m.name.toArray⟩), aX m.ty, aX m.flags, aJ m.addr, aX m.link, aX m.info, aJ m.align, aJ m.ent, aJ m.size, .slice m.A m.data.length m.c])] (by kernel_rfl) (Nat.le_of_ble_eq_true rfl) ?_
 intro a HF
 refine aY ?_
 obtain ⟨z1, hz1⟩ : ∃ z, w.heap.size = z := ⟨_, rfl⟩
 refine aO HF HM hz1 2 [] [(1, aC z1)] [(z1, .cells #[.string (⟨m.name.toArray⟩), aX m.ty, aX m.flags, aJ m.addr, aX m.link, aX m.info, aJ m.align, aJ m.ent, aJ m.size, .slice m.A m.data.length m.c] 46 (0, 0))] (by kernel_rfl) fun a w HF HM => ?_
 clear hz1
 refine aI ?_
 refine wp_seq ?_
 refine aY ?_
 refine wp_pure HF HM rfl 4 [[0]] [(1, aC z1), (6, .bool (decide (2147483647 < ((m.name.length : Nat) : Int))))] (by kernel_rfl) fun a HF => ?_
 refine aI ?_
 by_cases hc1 : 2147483647 < ((m.name.length : Nat) : Int)
 ·rw [show decide (2147483647 < ((m.name.length : Nat) : Int)) = true from fC (hc1)] at HF
  refine bF HF rfl ?_
  refine aY ?_
  refine wp_pure HF HM rfl 1 [] [(2, .bool false)] (by kernel_rfl) fun a HF => ?_
  refine aI ?_
  refine wp_ret ?_
  repeat first | refine bV ?_ | refine dh ?_
  exact dH HF rfl rfl ⟨false, rfl, HM.below⟩
 rw [show decide (2147483647 < ((m.name.length : Nat) : Int)) = false from dI (hc1)] at HF
 refine aZ HF rfl ?_
 refine wp_skip ?_
 repeat first | refine aQ ?_ | refine aU ?_
 refine wp_seq ?_
 refine aY ?_
 refine wp_pure HF HM rfl 4 [[0]] [(10, .bool (decide (2147483647 < ((m.data.length : Nat) : Int))))] (by kernel_rfl) fun a HF => ?_
 refine aI ?_
 by_cases hc2 : 2147483647 < ((m.data.length : Nat) : Int)
 ·rw [show decide (2147483647 < ((m.data.length : Nat) : Int)) = true from fC (hc2)] at HF
  refine bF HF rfl ?_
  refine aY ?_
  refine wp_pure HF HM rfl 1 [] [(2, .bool false)] (by kernel_rfl) fun a HF => ?_
  refine aI ?_
  refine wp_ret ?_
  repeat first | refine bV ?_ | refine dh ?_
  exact dH HF rfl rfl ⟨false, rfl, HM.below⟩
 rw [show decide (2147483647 < ((m.data.length : Nat) : Int)) = false from dI (hc2)] at HF
 refine aZ HF rfl ?_
 refine wp_skip ?_
 repeat first | refine aQ ?_ | refine aU ?_
 refine aY ?_
 refine wp_pure HF HM rfl 1 [] [(2, .bool true)] (by kernel_rfl) fun a HF => ?_
 refine aI ?_
 refine wp_ret ?_
 repeat first | refine bV ?_ | refine dh ?_
 exact dH HF rfl rfl ⟨true, rfl, HM.below⟩

abbrev iR := fun (A : Option Addr) (l : List jE) (c : Nat) => ([(8, .slice A l.length c), (9, aA l.length)] : Slots)
theorem Ho (l : List jE) (A : Option Addr) (c : Nat) (w0 : World) (hr : Row w0 A (l.flatMap jE.cells)) : Calls Tryd.prog 49 #[.slice A l.length c] w0 fun e w' => ∃ b, e = .returned (.bool b) ∧ Below w0.heap.size w0 w' := by
 obtain ⟨w, hw⟩ : ∃ w, w0 = w := ⟨_, rfl⟩
 have HM : Mm [] w0 w [] := hw ▸ Mm.start w0
 conv => arg 4; rw [hw]
 clear hw
 refine dD Tryd.func49 rfl Tryd.ntmps49 [(0, .slice A l.length c)] (by kernel_rfl) (Nat.le_of_ble_eq_true rfl) ?_
 intro a HF
 refine aY ?_
 refine wp_pure HF HM rfl 1 [] [(0, .slice A l.length c)] (by kernel_rfl) fun a HF => ?_
 refine aI ?_
 refine wp_seq ?_
 refine aY ?_
 refine wp_pure HF HM rfl 3 [] [(0, .slice A l.length c), (7, .bool (decide (2147483647 < ((l.length : Nat) : Int))))] (by kernel_rfl) fun a HF => ?_
 refine aI ?_
 by_cases hc1 : 2147483647 < ((l.length : Nat) : Int)
 ·rw [show decide (2147483647 < ((l.length : Nat) : Int)) = true from fC (hc1)] at HF
  refine bF HF rfl ?_
  refine aY ?_
  refine wp_pure HF HM rfl 1 [] [(2, .bool false)] (by kernel_rfl) fun a HF => ?_
  refine aI ?_
  refine wp_ret ?_
  repeat first | refine bV ?_ | refine dh ?_
  exact dH HF rfl rfl ⟨false, rfl, HM.below⟩
 rw [show decide (2147483647 < ((l.length : Nat) : Int)) = false from dI (hc1)] at HF
 refine aZ HF rfl ?_
 refine wp_skip ?_
 repeat first | refine aQ ?_ | refine aU ?_
 refine wp_seq ?_
 refine aY ?_
 refine wp_pure HF HM rfl 3 [] ((iR A l c) ++ [(10, ay 0)]) (by kernel_rfl) fun a HF => ?_
 refine aI ?_
 refine wp_block ?_
 refine oM (l.length) (fun i a w => (Mm [] w0 w [] ∧ Fr 18 a ((iR A l c) ++ [(10, aA i)]))) ?_ ?_ ?_
 ·exact ⟨HM, HF.sub ((iR A l c) ++ [(10, ay 0)]) (by kernel_rfl)⟩
 ·intro i a w KX hi hI KR
  obtain ⟨HM, HF⟩ := hI
  refine aY ?_
  refine wp_pure HF HM rfl 1 [] ((iR A l c) ++ [(10, aA i), (11, .bool (decide (((i : Nat) : Int) < ((l.length : Nat) : Int))))]) (by kernel_rfl) fun a HF => ?_
  refine aI ?_
  refine wp_seq ?_
  rw [show decide (((i : Nat) : Int) < ((l.length : Nat) : Int)) = true from fC (by omega)] at HF
  refine bF HF rfl ?_
  refine wp_skip ?_
  repeat first | refine aQ ?_ | refine aU ?_
  refine wp_seq ?_
  refine wp_block ?_
  refine aY ?_
  obtain ⟨m2, hm2⟩ : ∃ m, l[i]? = some m := ⟨_, List.getElem?_eq_getElem (by omega)⟩
  refine eY HF (by kernel_rfl) (.pointer (Option.map (fun q : Addr => q.add (i * 7)) A)) (by kernel_rfl) (ig Tryd.underlying23 (by kernel_rfl) rfl i rfl rfl (by omega) (nC (lC (f := jE.cells) (k := 7) (fun _ => rfl) (HM.row hr) i hm2) (Nat.zero_lt_succ _))) fun a HF => ?_
  refine eY HF (by kernel_rfl) (.agg #[aX m2.ty, aX m2.flags, aJ m2.bI, aJ m2.bJ, aJ m2.bM, aJ m2.align, .slice m2.A m2.data.length m2.c]) (by kernel_rfl) (lT rfl rfl (lC (f := jE.cells) (k := 7) (fun _ => rfl) (HM.row hr) i hm2) (Nat.zero_lt_succ _) Tryd.underlying57 rfl (by kernel_rfl)) fun a HF => ?_
  obtain ⟨z6, EF⟩ : ∃ z, w.heap.size = z := ⟨_, rfl⟩
  refine aO HF HM EF 2 [[0]] [(4, aC z6), (8, .slice A l.length c), (9, aA l.length), (10, aA i)] [(z6, .cells #[aX m2.ty, aX m2.flags, aJ m2.bI, aJ m2.bJ, aJ m2.bM, aJ m2.align, .slice m2.A m2.data.length m2.c] 57 (0, 0))] (by kernel_rfl) fun a w HF HM => ?_
  clear EF
  refine dM ?_
  refine wp_pure HF HM rfl 1 [[0]] ((iR A l c) ++ [(10, aA i), (14, .agg #[aX m2.ty, aX m2.flags, aJ m2.bI, aJ m2.bJ, aJ m2.bM, aJ m2.align, .slice m2.A m2.data.length m2.c])]) (by kernel_rfl) fun a HF => ?_
  refine bn HF (by kernel_rfl) 76 #[.agg #[aX m2.ty, aX m2.flags, aJ m2.bI, aJ m2.bJ, aJ m2.bM, aJ m2.align, .slice m2.A m2.data.length m2.c]] (by kernel_rfl) (fun w => by kernel_rfl) (Calls.mono (Hl m2 w) ?_)
  rintro _ w1 ⟨b3, rfl, hb⟩
  replace HM := HM.call hb
  clear hb
  refine ⟨_, rfl, ?_⟩; clear HF; intro a HF
  replace HF := HF.sub ((iR A l c) ++ [(10, aA i), (15, .bool b3)]) (by kernel_rfl)
  rcases kY b3 with hc4 | hc4
  ·replace HF := Fr.sub (Fr.tell HF 15 rfl (congrArg Value.bool hc4)) ((iR A l c) ++ [(10, aA i), (15, .bool false)]) (by kernel_rfl)
   refine wp_pure HF HM rfl 1 [] ((iR A l c) ++ [(10, aA i), (16, .bool true)]) (by kernel_rfl) fun a HF => ?_
   refine aI ?_
   refine bF HF rfl ?_
   refine aY ?_
   refine wp_pure HF HM rfl 1 [] [(2, .bool false)] (by kernel_rfl) fun a HF => ?_
   refine aI ?_
   refine wp_ret ?_
   repeat first | refine bV ?_ | refine dh ?_
   exact dH HF rfl rfl ⟨false, rfl, HM.below⟩
  replace HF := Fr.sub (Fr.tell HF 15 rfl (congrArg Value.bool hc4)) ((iR A l c) ++ [(10, aA i), (15, .bool true)]) (by kernel_rfl)
  refine wp_pure HF HM rfl 1 [] ((iR A l c) ++ [(10, aA i), (16, .bool false)]) (by kernel_rfl) fun a HF => ?_
  refine aI ?_
  refine aZ HF rfl ?_
  refine wp_skip ?_
  repeat first | refine aQ ?_ | refine aU ?_
  refine wp_region_lit ?_
  refine wp_pure HF HM rfl 1 [] ((iR A l c) ++ [(17, ay (IntKind.i64.wrap (((i : Nat) : Int) + 1)))]) (by kernel_rfl) fun a HF => ?_
  rw [show IntKind.i64.wrap (((i : Nat) : Int) + 1) = (((i + 1) : Nat) : Int) from (IntWalk.i64_in _ (by omega)).trans (by omega)] at HF
  refine wp_pure HF HM rfl 1 [] ((iR A l c) ++ [(10, aA (i + 1))]) (by kernel_rfl) fun a HF => ?_
  refine wpList_nil ?_
  repeat first | refine aQ ?_ | refine aU ?_
  exact KR _ _ (⟨(HM.pick [] [] rfl (by decide)), HF.sub ((iR A l c) ++ [(10, aA (i + 1))]) (by kernel_rfl)⟩)
 ·intro a w KX hI
  obtain ⟨HM, HF⟩ := hI
  refine aY ?_
  refine wp_pure HF HM rfl 1 [] ((iR A l c) ++ [(10, aA l.length), (11, .bool (decide (((l.length : Nat) : Int) < ((l.length : Nat) : Int))))]) (by kernel_rfl) fun a HF => ?_
  refine aI ?_
  refine wp_seq ?_
  rw [show decide (((l.length : Nat) : Int) < ((l.length : Nat) : Int)) = false from dI (by omega)] at HF
  refine aZ HF rfl ?_
  refine wp_exit ?_
  repeat (first | refine iW ?_ | refine kE rfl ?_)
  refine kL ?_
  repeat first | refine aQ ?_ | refine aU ?_
  refine aY ?_
  refine wp_pure HF HM rfl 1 [] [(2, .bool true)] (by kernel_rfl) fun a HF => ?_
  refine aI ?_
  refine wp_ret ?_
  repeat first | refine bV ?_ | refine dh ?_
  exact dH HF rfl rfl ⟨true, rfl, HM.below⟩

abbrev iQ := fun (A : Option Addr) (l : List fP) (c : Nat) => ([(8, .slice A l.length c), (9, aA l.length)] : Slots)
theorem Hg (l : List fP) (A : Option Addr) (c : Nat) (w0 : World) (hr : Row w0 A (l.flatMap fP.cells)) : Calls Tryd.prog 50 #[.slice A l.length c] w0 fun e w' => ∃ b, e = .returned (.bool b) ∧ Below w0.heap.size w0 w' := by
 obtain ⟨w, hw⟩ : ∃ w, w0 = w := ⟨_, rfl⟩
 have HM : Mm [] w0 w [] := hw ▸ Mm.start w0
 conv => arg 4; rw [hw]
 clear hw
 refine dD Tryd.func50 rfl Tryd.ntmps50 [(0, .slice A l.length c)] (by kernel_rfl) (Nat.le_of_ble_eq_true rfl) ?_
 intro a HF
 refine aY ?_
 refine wp_pure HF HM rfl 1 [] [(0, .slice A l.length c)] (by kernel_rfl) fun a HF => ?_
 refine aI ?_
 refine wp_seq ?_
 refine aY ?_
 refine wp_pure HF HM rfl 3 [] [(0, .slice A l.length c), (7, .bool (decide (2147483647 < ((l.length : Nat) : Int))))] (by kernel_rfl) fun a HF => ?_
 refine aI ?_
 by_cases hc1 : 2147483647 < ((l.length : Nat) : Int)
 ·rw [show decide (2147483647 < ((l.length : Nat) : Int)) = true from fC (hc1)] at HF
  refine bF HF rfl ?_
  refine aY ?_
  refine wp_pure HF HM rfl 1 [] [(2, .bool false)] (by kernel_rfl) fun a HF => ?_
  refine aI ?_
  refine wp_ret ?_
  repeat first | refine bV ?_ | refine dh ?_
  exact dH HF rfl rfl ⟨false, rfl, HM.below⟩
 rw [show decide (2147483647 < ((l.length : Nat) : Int)) = false from dI (hc1)] at HF
 refine aZ HF rfl ?_
 refine wp_skip ?_
 repeat first | refine aQ ?_ | refine aU ?_
 refine wp_seq ?_
 refine aY ?_
 refine wp_pure HF HM rfl 3 [] ((iQ A l c) ++ [(10, ay 0)]) (by kernel_rfl) fun a HF => ?_
 refine aI ?_
 refine wp_block ?_
 refine oM (l.length) (fun i a w => (Mm [] w0 w [] ∧ Fr 18 a ((iQ A l c) ++ [(10, aA i)]))) ?_ ?_ ?_
 ·exact ⟨HM, HF.sub ((iQ A l c) ++ [(10, ay 0)]) (by kernel_rfl)⟩
 ·intro i a w KX hi hI KR
  obtain ⟨HM, HF⟩ := hI
  refine aY ?_
  refine wp_pure HF HM rfl 1 [] ((iQ A l c) ++ [(10, aA i), (11, .bool (decide (((i : Nat) : Int) < ((l.length : Nat) : Int))))]) (by kernel_rfl) fun a HF => ?_
  refine aI ?_
  refine wp_seq ?_
  rw [show decide (((i : Nat) : Int) < ((l.length : Nat) : Int)) = true from fC (by omega)] at HF
  refine bF HF rfl ?_
  refine wp_skip ?_
  repeat first | refine aQ ?_ | refine aU ?_
  refine wp_seq ?_
  refine wp_block ?_
  refine aY ?_
  obtain ⟨m2, hm2⟩ : ∃ m, l[i]? = some m := ⟨_, List.getElem?_eq_getElem (by omega)⟩
  refine eY HF (by kernel_rfl) (.pointer (Option.map (fun q : Addr => q.add (i * 10)) A)) (by kernel_rfl) (ig Tryd.underlying24 (by kernel_rfl) rfl i rfl rfl (by omega) (nC (lC (f := fP.cells) (k := 10) (fun _ => rfl) (HM.row hr) i hm2) (Nat.zero_lt_succ _))) fun a HF => ?_
  refine eY HF (by kernel_rfl) (.agg #[.string (⟨m2.name.toArray⟩), aX m2.ty, aX m2.flags, aJ m2.addr, aX m2.link, aX m2.info, aJ m2.align, aJ m2.ent, aJ m2.size, .slice m2.A m2.data.length m2.c]) (by kernel_rfl) (lT rfl rfl (lC (f := fP.cells) (k := 10) (fun _ => rfl) (HM.row hr) i hm2) (Nat.zero_lt_succ _) Tryd.underlying46 rfl (by kernel_rfl)) fun a HF => ?_
  obtain ⟨z6, EF⟩ : ∃ z, w.heap.size = z := ⟨_, rfl⟩
  refine aO HF HM EF 2 [[0]] [(4, aC z6), (8, .slice A l.length c), (9, aA l.length), (10, aA i)] [(z6, .cells #[.string (⟨m2.name.toArray⟩), aX m2.ty, aX m2.flags, aJ m2.addr, aX m2.link, aX m2.info, aJ m2.align, aJ m2.ent, aJ m2.size, .slice m2.A m2.data.length m2.c] 46 (0, 0))] (by kernel_rfl) fun a w HF HM => ?_
  clear EF
  refine dM ?_
  refine wp_pure HF HM rfl 1 [[0]] ((iQ A l c) ++ [(10, aA i), (14, .agg #[.string (⟨m2.name.toArray⟩), aX m2.ty, aX m2.flags, aJ m2.addr, aX m2.link, aX m2.info, aJ m2.align, aJ m2.ent, aJ m2.size, .slice m2.A m2.data.length m2.c])]) (by kernel_rfl) fun a HF => ?_
  refine bn HF (by kernel_rfl) 77 #[.agg #[.string (⟨m2.name.toArray⟩), aX m2.ty, aX m2.flags, aJ m2.addr, aX m2.link, aX m2.info, aJ m2.align, aJ m2.ent, aJ m2.size, .slice m2.A m2.data.length m2.c]] (by kernel_rfl) (fun w => by kernel_rfl) (Calls.mono (Hf m2 w) ?_)
  rintro _ w1 ⟨b3, rfl, hb⟩
  replace HM := HM.call hb
  clear hb
  refine ⟨_, rfl, ?_⟩; clear HF; intro a HF
  replace HF := HF.sub ((iQ A l c) ++ [(10, aA i), (15, .bool b3)]) (by kernel_rfl)
  rcases kY b3 with hc4 | hc4
  ·replace HF := Fr.sub (Fr.tell HF 15 rfl (congrArg Value.bool hc4)) ((iQ A l c) ++ [(10, aA i), (15, .bool false)]) (by kernel_rfl)
   refine wp_pure HF HM rfl 1 [] ((iQ A l c) ++ [(10, aA i), (16, .bool true)]) (by kernel_rfl) fun a HF => ?_
   refine aI ?_
   refine bF HF rfl ?_
   refine aY ?_
   refine wp_pure HF HM rfl 1 [] [(2, .bool false)] (by kernel_rfl) fun a HF => ?_
   refine aI ?_
   refine wp_ret ?_
   repeat first | refine bV ?_ | refine dh ?_
   exact dH HF rfl rfl ⟨false, rfl, HM.below⟩
  replace HF := Fr.sub (Fr.tell HF 15 rfl (congrArg Value.bool hc4)) ((iQ A l c) ++ [(10, aA i), (15, .bool true)]) (by kernel_rfl)
  refine wp_pure HF HM rfl 1 [] ((iQ A l c) ++ [(10, aA i), (16, .bool false)]) (by kernel_rfl) fun a HF => ?_
  refine aI ?_
  refine aZ HF rfl ?_
  refine wp_skip ?_
  repeat first | refine aQ ?_ | refine aU ?_
  refine wp_region_lit ?_
  refine wp_pure HF HM rfl 1 [] ((iQ A l c) ++ [(17, ay (IntKind.i64.wrap (((i : Nat) : Int) + 1)))]) (by kernel_rfl) fun a HF => ?_
  rw [show IntKind.i64.wrap (((i : Nat) : Int) + 1) = (((i + 1) : Nat) : Int) from (IntWalk.i64_in _ (by omega)).trans (by omega)] at HF
  refine wp_pure HF HM rfl 1 [] ((iQ A l c) ++ [(10, aA (i + 1))]) (by kernel_rfl) fun a HF => ?_
  refine wpList_nil ?_
  repeat first | refine aQ ?_ | refine aU ?_
  exact KR _ _ (⟨(HM.pick [] [] rfl (by decide)), HF.sub ((iQ A l c) ++ [(10, aA (i + 1))]) (by kernel_rfl)⟩)
 ·intro a w KX hI
  obtain ⟨HM, HF⟩ := hI
  refine aY ?_
  refine wp_pure HF HM rfl 1 [] ((iQ A l c) ++ [(10, aA l.length), (11, .bool (decide (((l.length : Nat) : Int) < ((l.length : Nat) : Int))))]) (by kernel_rfl) fun a HF => ?_
  refine aI ?_
  refine wp_seq ?_
  rw [show decide (((l.length : Nat) : Int) < ((l.length : Nat) : Int)) = false from dI (by omega)] at HF
  refine aZ HF rfl ?_
  refine wp_exit ?_
  repeat (first | refine iW ?_ | refine kE rfl ?_)
  refine kL ?_
  repeat first | refine aQ ?_ | refine aU ?_
  refine aY ?_
  refine wp_pure HF HM rfl 1 [] [(2, .bool true)] (by kernel_rfl) fun a HF => ?_
  refine aI ?_
  refine wp_ret ?_
  repeat first | refine bV ?_ | refine dh ?_
  exact dH HF rfl rfl ⟨true, rfl, HM.below⟩

theorem Hq (x : dN) (w0 : World) (h : x.At w0) : Calls Tryd.prog 20 #[x.val] w0 fun e w' => ∃ b, e = .returned (.bool b) ∧ Below w0.heap.size w0 w' := by
 obtain ⟨w, hw⟩ : ∃ w, w0 = w := ⟨_, rfl⟩
 have HM : Mm [] w0 w [] := hw ▸ Mm.start w0
 conv => arg 4; rw [hw]
 clear hw
 refine dD Tryd.func20 rfl Tryd.ntmps20 [(0, .agg #[.bool x.wide, .bool x.big, aV x.abi, aV x.aF, .int .i64 x.ty, .int .i64 x.machine, aJ x.entry, .slice x.A x.ss.length x.c, .slice x.B x.ps.length x.d])] (by kernel_rfl) (Nat.le_of_ble_eq_true rfl) ?_
 intro a HF
 refine aY ?_
 obtain ⟨z1, hz1⟩ : ∃ z, w.heap.size = z := ⟨_, rfl⟩
 refine aO HF HM hz1 2 [] [(1, aC z1)] [(z1, .cells #[.bool x.wide, .bool x.big, aV x.abi, aV x.aF, .int .i64 x.ty, .int .i64 x.machine, aJ x.entry, .slice x.A x.ss.length x.c, .slice x.B x.ps.length x.d] 26 (0, 0))] (by kernel_rfl) fun a w HF HM => ?_
 clear hz1
 refine aI ?_
 refine wp_seq ?_
 refine aY ?_
 refine wp_pure HF HM rfl 2 [[0]] [(1, aC z1), (4, .slice x.A x.ss.length x.c)] (by kernel_rfl) fun a HF => ?_
 refine bn HF (by kernel_rfl) 49 #[.slice x.A x.ss.length x.c] (by kernel_rfl) (fun w => by kernel_rfl) (Calls.mono (Ho x.ss x.A x.c w (HM.row h.cO)) ?_)
 rintro _ w1 ⟨b1, rfl, hb⟩
 replace HM := HM.call hb
 clear hb
 refine ⟨_, rfl, ?_⟩; clear HF; intro a HF
 replace HF := HF.sub [(1, aC z1), (5, .bool b1)] (by kernel_rfl)
 rcases kY b1 with hc2 | hc2
 ·replace HF := Fr.sub (Fr.tell HF 5 rfl (congrArg Value.bool hc2)) [(1, aC z1), (5, .bool false)] (by kernel_rfl)
  refine wp_pure HF HM rfl 1 [] [(1, aC z1), (6, .bool true)] (by kernel_rfl) fun a HF => ?_
  refine aI ?_
  refine bF HF rfl ?_
  refine aY ?_
  refine wp_pure HF HM rfl 1 [] [(2, .bool false)] (by kernel_rfl) fun a HF => ?_
  refine aI ?_
  refine wp_ret ?_
  repeat first | refine bV ?_ | refine dh ?_
  exact dH HF rfl rfl ⟨false, rfl, HM.below⟩
 replace HF := Fr.sub (Fr.tell HF 5 rfl (congrArg Value.bool hc2)) [(1, aC z1), (5, .bool true)] (by kernel_rfl)
 refine wp_pure HF HM rfl 1 [] [(1, aC z1), (6, .bool false)] (by kernel_rfl) fun a HF => ?_
 refine aI ?_
 refine aZ HF rfl ?_
 refine wp_skip ?_
 repeat first | refine aQ ?_ | refine aU ?_
 refine wp_seq ?_
 refine aY ?_
 refine wp_pure HF HM rfl 2 [[0]] [(8, .slice x.B x.ps.length x.d)] (by kernel_rfl) fun a HF => ?_
 refine bn HF (by kernel_rfl) 50 #[.slice x.B x.ps.length x.d] (by kernel_rfl) (fun w => by kernel_rfl) (Calls.mono (Hg x.ps x.B x.d w1 (HM.row h.parts)) ?_)
 rintro _ w2 ⟨b3, rfl, hb⟩
 replace HM := HM.call hb
 clear hb
 refine ⟨_, rfl, ?_⟩; clear HF; intro a HF
 replace HF := HF.sub [(9, .bool b3)] (by kernel_rfl)
 rcases kY b3 with hc4 | hc4
 ·replace HF := Fr.sub (Fr.tell HF 9 rfl (congrArg Value.bool hc4)) [(9, .bool false)] (by kernel_rfl)
  refine wp_pure HF HM rfl 1 [] [(10, .bool true)] (by kernel_rfl) fun a HF => ?_
  refine aI ?_
  refine bF HF rfl ?_
  refine aY ?_
  refine wp_pure HF HM rfl 1 [] [(2, .bool false)] (by kernel_rfl) fun a HF => ?_
  refine aI ?_
  refine wp_ret ?_
  repeat first | refine bV ?_ | refine dh ?_
  exact dH HF rfl rfl ⟨false, rfl, HM.below⟩
 replace HF := Fr.sub (Fr.tell HF 9 rfl (congrArg Value.bool hc4)) [(9, .bool true)] (by kernel_rfl)
 refine wp_pure HF HM rfl 1 [] [(10, .bool false)] (by kernel_rfl) fun a HF => ?_
 refine aI ?_
 refine aZ HF rfl ?_
 refine wp_skip ?_
 repeat first | refine aQ ?_ | refine aU ?_
 refine aY ?_
 refine wp_pure HF HM rfl 1 [] [(2, .bool true)] (by kernel_rfl) fun a HF => ?_
 refine aI ?_
 refine wp_ret ?_
 repeat first | refine bV ?_ | refine dh ?_
 exact dH HF rfl rfl ⟨true, rfl, HM.below⟩

end Go.Proofs.YtdgehpocmfjbiaaDoor
namespace Go.Proofs.YtdgehpocmfjbiaaDoor
open Go.RowKit

abbrev jw := fun z1 (x : dN) => ((z1, .cells #[.bool x.wide, .bool x.big, aV x.abi, aV x.aF, .int .i64 x.ty, .int .i64 x.machine, aJ x.entry, .slice x.A x.ss.length x.c, .slice x.B x.ps.length x.d] 26 (0, 0)) : Nat × Obj)
abbrev jR := fun z1 (x : dN) => ([(1, aC z1), (46, .slice x.A x.ss.length x.c), (47, aA x.ss.length)] : Slots)
abbrev n_ := fun z1 z24 (x : dN) i => ([(1, aC z1), (4, aC z24), (46, .slice x.A x.ss.length x.c), (47, aA x.ss.length), (48, aA i)] : Slots)
abbrev g_ := fun z1 (x : dN) => ([(1, aC z1), (77, .slice x.B x.ps.length x.d), (78, aA x.ps.length)] : Slots)
abbrev yB := fun z38 (m12 : fP) => ((z38, .cells #[.string (⟨m12.name.toArray⟩), aX m12.ty, aX m12.flags, aJ m12.addr, aX m12.link, aX m12.info, aJ m12.align, aJ m12.ent, aJ m12.size, .slice m12.A m12.data.length m12.c] 46 (0, 0)) : Nat × Obj)
abbrev eF := fun z1 z38 (x : dN) i => ([(1, aC z1), (6, aC z38), (77, .slice x.B x.ps.length x.d), (78, aA x.ps.length), (79, aA i)] : Slots)
theorem Ih (x : dN) (w0 : World) (h : x.At w0) : Calls Tryd.prog 22 #[x.val] w0 fun e w' => ∃ b, e = .returned (.bool b) ∧ Below w0.heap.size w0 w' ∧ (b = true → x.Ok ∧ x.ps.length ≤ 100) := by
 obtain ⟨w, hw⟩ : ∃ w, w0 = w := ⟨_, rfl⟩
 have HM : Mm [] w0 w [] := hw ▸ Mm.start w0
 conv => arg 4; rw [hw]
 clear hw
 refine dD Tryd.func22 rfl Tryd.ntmps22 [(0, .agg #[.bool x.wide, .bool x.big, aV x.abi, aV x.aF, .int .i64 x.ty, .int .i64 x.machine, aJ x.entry, .slice x.A x.ss.length x.c, .slice x.B x.ps.length x.d])] (by kernel_rfl) (Nat.le_of_ble_eq_true rfl) ?_
 intro a HF
 refine aY ?_
 obtain ⟨z1, hz1⟩ : ∃ z, w.heap.size = z := ⟨_, rfl⟩
 refine aO HF HM hz1 2 [] [(1, aC z1)] [jw z1 x] (by kernel_rfl) fun a w HF HM => ?_
 clear hz1
 refine aI ?_
 refine wp_seq ?_
 refine aY ?_
 refine wp_pure HF HM rfl 4 [[0]] [(1, aC z1), (10, .bool (decide (x.ty < 0)))] (by kernel_rfl) fun a HF => ?_
 by_cases hc1 : x.ty < 0
 ·rw [show decide (x.ty < 0) = true from fC (hc1)] at HF
  refine wp_pure HF HM rfl 34 [] [(1, aC z1), (44, .bool true)] (by kernel_rfl) fun a HF => ?_
  refine aI ?_
  refine bF HF rfl ?_
  refine aY ?_
  refine wp_pure HF HM rfl 1 [] [(2, .bool false)] (by kernel_rfl) fun a HF => ?_
  refine aI ?_
  refine wp_ret ?_
  repeat first | refine bV ?_ | refine dh ?_
  exact dH HF rfl rfl ⟨false, rfl, HM.below, fun h => by cases h⟩
 rw [show decide (x.ty < 0) = false from dI (hc1)] at HF
 refine wp_pure HF HM rfl 5 [[0]] [(1, aC z1), (15, .bool (decide (65535 < x.ty)))] (by kernel_rfl) fun a HF => ?_
 by_cases hc2 : 65535 < x.ty
 ·rw [show decide (65535 < x.ty) = true from fC (hc2)] at HF
  refine wp_pure HF HM rfl 29 [] [(1, aC z1), (44, .bool true)] (by kernel_rfl) fun a HF => ?_
  refine aI ?_
  refine bF HF rfl ?_
  refine aY ?_
  refine wp_pure HF HM rfl 1 [] [(2, .bool false)] (by kernel_rfl) fun a HF => ?_
  refine aI ?_
  refine wp_ret ?_
  repeat first | refine bV ?_ | refine dh ?_
  exact dH HF rfl rfl ⟨false, rfl, HM.below, fun h => by cases h⟩
 rw [show decide (65535 < x.ty) = false from dI (hc2)] at HF
 refine wp_pure HF HM rfl 5 [[0]] [(1, aC z1), (20, .bool (decide (x.machine < 0)))] (by kernel_rfl) fun a HF => ?_
 by_cases hc3 : x.machine < 0
 ·rw [show decide (x.machine < 0) = true from fC (hc3)] at HF
  refine wp_pure HF HM rfl 24 [] [(1, aC z1), (44, .bool true)] (by kernel_rfl) fun a HF => ?_
  refine aI ?_
  refine bF HF rfl ?_
  refine aY ?_
  refine wp_pure HF HM rfl 1 [] [(2, .bool false)] (by kernel_rfl) fun a HF => ?_
  refine aI ?_
  refine wp_ret ?_
  repeat first | refine bV ?_ | refine dh ?_
  exact dH HF rfl rfl ⟨false, rfl, HM.below, fun h => by cases h⟩
 rw [show decide (x.machine < 0) = false from dI (hc3)] at HF
 refine wp_pure HF HM rfl 5 [[0]] [(1, aC z1), (25, .bool (decide (65535 < x.machine)))] (by kernel_rfl) fun a HF => ?_
 by_cases hc4 : 65535 < x.machine
 ·rw [show decide (65535 < x.machine) = true from fC (hc4)] at HF
  refine wp_pure HF HM rfl 19 [] [(1, aC z1), (44, .bool true)] (by kernel_rfl) fun a HF => ?_
  refine aI ?_
  refine bF HF rfl ?_
  refine aY ?_
  refine wp_pure HF HM rfl 1 [] [(2, .bool false)] (by kernel_rfl) fun a HF => ?_
  refine aI ?_
  refine wp_ret ?_
  repeat first | refine bV ?_ | refine dh ?_
  exact dH HF rfl rfl ⟨false, rfl, HM.below, fun h => by cases h⟩
 rw [show decide (65535 < x.machine) = false from dI (hc4)] at HF
 obtain ⟨FH, Gl⟩ : ∃ z, w.heap.size = z := ⟨_, rfl⟩
 refine aO HF HM Gl 4 [[0], [0]] [(1, aC z1), (25, .bool false), (26, .agg #[.bool x.wide, .bool x.big, aV x.abi, aV x.aF, .int .i64 x.ty, .int .i64 x.machine, aJ x.entry, .slice x.A x.ss.length x.c, .slice x.B x.ps.length x.d]), (29, aH FH 1 1)] [(FH, .cells #[aJ x.entry] 22 (0, 0)), jw z1 x] (by kernel_rfl) fun a w HF HM => ?_
 clear Gl
 refine bn HF (by kernel_rfl) 52 #[.agg #[.bool x.wide, .bool x.big, aV x.abi, aV x.aF, .int .i64 x.ty, .int .i64 x.machine, aJ x.entry, .slice x.A x.ss.length x.c, .slice x.B x.ps.length x.d], aH FH 1 1] (by kernel_rfl) (fun w => by kernel_rfl) (Calls.mono (fits_any x.wide _ _ _ _ _ _ _ _ [x.entry] _ _ _ rfl (by simp) w (HM.rowAt (i := 0) rfl)) ?_)
 rintro _ w1 ⟨rfl, hb⟩
 replace HM := HM.call hb
 clear hb
 refine ⟨_, rfl, ?_⟩; clear HF; intro a HF
 replace HF := HF.sub [(1, aC z1), (25, .bool false), (30, .bool (lX x.wide [x.entry]))] (by kernel_rfl)
 rcases kY (lX x.wide [x.entry]) with hc5 | hc5
 ·replace HF := Fr.sub (Fr.tell HF 30 rfl (congrArg Value.bool hc5)) [(1, aC z1), (25, .bool false), (30, .bool false)] (by kernel_rfl)
  refine wp_pure HF HM rfl 14 [] [(1, aC z1), (44, .bool true)] (by kernel_rfl) fun a HF => ?_
  refine aI ?_
  refine bF HF rfl ?_
  refine aY ?_
  refine wp_pure HF HM rfl 1 [] [(2, .bool false)] (by kernel_rfl) fun a HF => ?_
  refine aI ?_
  refine wp_ret ?_
  repeat first | refine bV ?_ | refine dh ?_
  exact dH HF rfl rfl ⟨false, rfl, HM.below, fun h => by cases h⟩
 replace HF := Fr.sub (Fr.tell HF 30 rfl (congrArg Value.bool hc5)) [(1, aC z1), (25, .bool false), (30, .bool true)] (by kernel_rfl)
 refine wp_pure HF HM rfl 9 [[0]] [(1, aC z1), (39, .bool (decide (100 < ((x.ss.length : Nat) : Int))))] (by kernel_rfl) fun a HF => ?_
 by_cases hc6 : 100 < ((x.ss.length : Nat) : Int)
 ·rw [show decide (100 < ((x.ss.length : Nat) : Int)) = true from fC (hc6)] at HF
  refine wp_pure HF HM rfl 5 [] [(1, aC z1), (44, .bool true)] (by kernel_rfl) fun a HF => ?_
  refine aI ?_
  refine bF HF rfl ?_
  refine aY ?_
  refine wp_pure HF HM rfl 1 [] [(2, .bool false)] (by kernel_rfl) fun a HF => ?_
  refine aI ?_
  refine wp_ret ?_
  repeat first | refine bV ?_ | refine dh ?_
  exact dH HF rfl rfl ⟨false, rfl, HM.below, fun h => by cases h⟩
 rw [show decide (100 < ((x.ss.length : Nat) : Int)) = false from dI (hc6)] at HF
 refine wp_pure HF HM rfl 5 [[0]] [(1, aC z1), (44, .bool (decide (100 < ((x.ps.length : Nat) : Int))))] (by kernel_rfl) fun a HF => ?_
 refine aI ?_
 by_cases EK : 100 < ((x.ps.length : Nat) : Int)
 ·rw [show decide (100 < ((x.ps.length : Nat) : Int)) = true from fC (EK)] at HF
  refine bF HF rfl ?_
  refine aY ?_
  refine wp_pure HF HM rfl 1 [] [(2, .bool false)] (by kernel_rfl) fun a HF => ?_
  refine aI ?_
  refine wp_ret ?_
  repeat first | refine bV ?_ | refine dh ?_
  exact dH HF rfl rfl ⟨false, rfl, HM.below, fun h => by cases h⟩
 rw [show decide (100 < ((x.ps.length : Nat) : Int)) = false from dI (EK)] at HF
 refine aZ HF rfl ?_
 refine wp_skip ?_
 repeat first | refine aQ ?_ | refine aU ?_
 refine wp_seq ?_
 refine aY ?_
 refine wp_pure HF HM rfl 4 [[0]] ((jR z1 x) ++ [(48, ay 0)]) (by kernel_rfl) fun a HF => ?_
 refine aI ?_
 refine wp_block ?_
 replace HM := HM.pick [1] [jw z1 x] rfl (by decide)
 refine oM (x.ss.length) (fun i a w => ((∀ j m, j < i → x.ss[j]? = some m → jE.Ok x.wide m) ∧ Mm [] w0 w [jw z1 x] ∧ Fr 149 a ((jR z1 x) ++ [(48, aA i)]))) ?_ ?_ ?_
 ·exact ⟨fun j m hj => absurd hj (Nat.not_lt_zero j), HM, HF.sub ((jR z1 x) ++ [(48, ay 0)]) (by kernel_rfl)⟩
 ·intro i a w KX hi hI KR
  obtain ⟨Js, HM, HF⟩ := hI
  refine aY ?_
  refine wp_pure HF HM rfl 1 [] ((jR z1 x) ++ [(48, aA i), (49, .bool (decide (((i : Nat) : Int) < ((x.ss.length : Nat) : Int))))]) (by kernel_rfl) fun a HF => ?_
  refine aI ?_
  refine wp_seq ?_
  rw [show decide (((i : Nat) : Int) < ((x.ss.length : Nat) : Int)) = true from fC (by omega)] at HF
  refine bF HF rfl ?_
  refine wp_skip ?_
  repeat first | refine aQ ?_ | refine aU ?_
  refine wp_seq ?_
  refine wp_block ?_
  refine aY ?_
  obtain ⟨m8, hm8⟩ : ∃ m, x.ss[i]? = some m := ⟨_, List.getElem?_eq_getElem (by omega)⟩
  refine eY HF (by kernel_rfl) (.pointer (Option.map (fun q : Addr => q.add (i * 7)) x.A)) (by kernel_rfl) (ig Tryd.underlying23 (by kernel_rfl) rfl i rfl rfl (by omega) (nC (lC (f := jE.cells) (k := 7) (fun _ => rfl) (HM.row h.cO) i hm8) (Nat.zero_lt_succ _))) fun a HF => ?_
  refine eY HF (by kernel_rfl) (.agg #[aX m8.ty, aX m8.flags, aJ m8.bI, aJ m8.bJ, aJ m8.bM, aJ m8.align, .slice m8.A m8.data.length m8.c]) (by kernel_rfl) (lT rfl rfl (lC (f := jE.cells) (k := 7) (fun _ => rfl) (HM.row h.cO) i hm8) (Nat.zero_lt_succ _) Tryd.underlying57 rfl (by kernel_rfl)) fun a HF => ?_
  obtain ⟨z24, hz24⟩ : ∃ z, w.heap.size = z := ⟨_, rfl⟩
  refine aO HF HM hz24 2 [[1]] (n_ z1 z24 x i) [(z24, .cells #[aX m8.ty, aX m8.flags, aJ m8.bI, aJ m8.bJ, aJ m8.bM, aJ m8.align, .slice m8.A m8.data.length m8.c] 57 (0, 0)), jw z1 x] (by kernel_rfl) fun a w HF HM => ?_
  clear hz24
  refine dM ?_
  obtain ⟨z25, hz25⟩ : ∃ z, w.heap.size = z := ⟨_, rfl⟩
  refine aO HF HM hz25 10 [[0], [1], [1], [1], [1]] ((n_ z1 z24 x i) ++ [(52, .agg #[.bool x.wide, .bool x.big, aV x.abi, aV x.aF, .int .i64 x.ty, .int .i64 x.machine, aJ x.entry, .slice x.A x.ss.length x.c, .slice x.B x.ps.length x.d]), (61, aH z25 4 4)]) [(z25, .cells #[aJ m8.bI, aJ m8.bJ, aJ m8.bM, aJ m8.align] 22 (0, 0)), (z24, .cells #[aX m8.ty, aX m8.flags, aJ m8.bI, aJ m8.bJ, aJ m8.bM, aJ m8.align, .slice m8.A m8.data.length m8.c] 57 (0, 0)), jw z1 x] (by kernel_rfl) fun a w HF HM => ?_
  clear hz25
  refine bn HF (by kernel_rfl) 52 #[.agg #[.bool x.wide, .bool x.big, aV x.abi, aV x.aF, .int .i64 x.ty, .int .i64 x.machine, aJ x.entry, .slice x.A x.ss.length x.c, .slice x.B x.ps.length x.d], aH z25 4 4] (by kernel_rfl) (fun w => by kernel_rfl) (Calls.mono (fits_any x.wide _ _ _ _ _ _ _ _ [m8.bI, m8.bJ, m8.bM, m8.align] _ _ _ rfl (by simp) w (HM.rowAt (i := 0) rfl)) ?_)
  rintro _ w2 ⟨rfl, hb⟩
  replace HM := HM.call hb
  clear hb
  refine ⟨_, rfl, ?_⟩; clear HF; intro a HF
  replace HF := HF.sub ((n_ z1 z24 x i) ++ [(62, .bool (lX x.wide [m8.bI, m8.bJ, m8.bM, m8.align]))]) (by kernel_rfl)
  rcases kY (lX x.wide [m8.bI, m8.bJ, m8.bM, m8.align]) with IQ | IQ
  ·replace HF := Fr.sub (Fr.tell HF 62 rfl (congrArg Value.bool IQ)) ((n_ z1 z24 x i) ++ [(62, .bool false)]) (by kernel_rfl)
   refine wp_pure HF HM rfl 12 [] ((jR z1 x) ++ [(48, aA i), (74, .bool true)]) (by kernel_rfl) fun a HF => ?_
   refine aI ?_
   refine bF HF rfl ?_
   refine aY ?_
   refine wp_pure HF HM rfl 1 [] [(2, .bool false)] (by kernel_rfl) fun a HF => ?_
   refine aI ?_
   refine wp_ret ?_
   repeat first | refine bV ?_ | refine dh ?_
   exact dH HF rfl rfl ⟨false, rfl, HM.below, fun h => by cases h⟩
  replace HF := Fr.sub (Fr.tell HF 62 rfl (congrArg Value.bool IQ)) ((n_ z1 z24 x i) ++ [(62, .bool true)]) (by kernel_rfl)
  refine wp_pure HF HM rfl 7 [[1]] ((n_ z1 z24 x i) ++ [(69, .bool (decide (2147483648 ≤ ((m8.ty : Nat) : Int))))]) (by kernel_rfl) fun a HF => ?_
  by_cases AY : 2147483648 ≤ ((m8.ty : Nat) : Int)
  ·rw [show decide (2147483648 ≤ ((m8.ty : Nat) : Int)) = true from fC (AY)] at HF
   refine wp_pure HF HM rfl 5 [] ((jR z1 x) ++ [(48, aA i), (74, .bool true)]) (by kernel_rfl) fun a HF => ?_
   refine aI ?_
   refine bF HF rfl ?_
   refine aY ?_
   refine wp_pure HF HM rfl 1 [] [(2, .bool false)] (by kernel_rfl) fun a HF => ?_
   refine aI ?_
   refine wp_ret ?_
   repeat first | refine bV ?_ | refine dh ?_
   exact dH HF rfl rfl ⟨false, rfl, HM.below, fun h => by cases h⟩
  rw [show decide (2147483648 ≤ ((m8.ty : Nat) : Int)) = false from dI (AY)] at HF
  refine wp_pure HF HM rfl 5 [[1]] ((jR z1 x) ++ [(48, aA i), (74, .bool (decide (65536 < ((m8.data.length : Nat) : Int))))]) (by kernel_rfl) fun a HF => ?_
  refine aI ?_
  by_cases Gy : 65536 < ((m8.data.length : Nat) : Int)
  ·rw [show decide (65536 < ((m8.data.length : Nat) : Int)) = true from fC (Gy)] at HF
   refine bF HF rfl ?_
   refine aY ?_
   refine wp_pure HF HM rfl 1 [] [(2, .bool false)] (by kernel_rfl) fun a HF => ?_
   refine aI ?_
   refine wp_ret ?_
   repeat first | refine bV ?_ | refine dh ?_
   exact dH HF rfl rfl ⟨false, rfl, HM.below, fun h => by cases h⟩
  rw [show decide (65536 < ((m8.data.length : Nat) : Int)) = false from dI (Gy)] at HF
  refine aZ HF rfl ?_
  refine wp_skip ?_
  repeat first | refine aQ ?_ | refine aU ?_
  refine wp_region_lit ?_
  refine wp_pure HF HM rfl 1 [] ((jR z1 x) ++ [(75, ay (IntKind.i64.wrap (((i : Nat) : Int) + 1)))]) (by kernel_rfl) fun a HF => ?_
  rw [show IntKind.i64.wrap (((i : Nat) : Int) + 1) = (((i + 1) : Nat) : Int) from (IntWalk.i64_in _ (by omega)).trans (by omega)] at HF
  refine wp_pure HF HM rfl 1 [] ((jR z1 x) ++ [(48, aA (i + 1))]) (by kernel_rfl) fun a HF => ?_
  refine wpList_nil ?_
  repeat first | refine aQ ?_ | refine aU ?_
  exact KR _ _ (⟨fun j m hj hm => (Nat.lt_or_ge j i).elim (fun g => Js j m g hm) (fun g => by obtain rfl : j = i := (by omega); rw [hm8] at hm; obtain rfl := Option.some.inj hm; exact ⟨by assumption, by omega, by omega⟩), (HM.pick [2] [jw z1 x] rfl (by decide)), HF.sub ((jR z1 x) ++ [(48, aA (i + 1))]) (by kernel_rfl)⟩)
 ·intro a w KX hI
  obtain ⟨Js, HM, HF⟩ := hI
  refine aY ?_
  refine wp_pure HF HM rfl 1 [] ((jR z1 x) ++ [(48, aA x.ss.length), (49, .bool (decide (((x.ss.length : Nat) : Int) < ((x.ss.length : Nat) : Int))))]) (by kernel_rfl) fun a HF => ?_
  refine aI ?_
  refine wp_seq ?_
  rw [show decide (((x.ss.length : Nat) : Int) < ((x.ss.length : Nat) : Int)) = false from dI (by omega)] at HF
  refine aZ HF rfl ?_
  refine wp_exit ?_
  repeat (first | refine iW ?_ | refine kE rfl ?_)
  refine kL ?_
  repeat first | refine aQ ?_ | refine aU ?_
  refine wp_seq ?_
  refine aY ?_
  refine wp_pure HF HM rfl 4 [[0]] ((g_ z1 x) ++ [(79, ay 0)]) (by kernel_rfl) fun a HF => ?_
  refine aI ?_
  refine wp_block ?_
  refine oM (x.ps.length) (fun i a w => ((∀ j m, j < i → x.ps[j]? = some m → fP.Ok x.wide m) ∧ Mm [] w0 w [jw z1 x] ∧ Fr 149 a ((g_ z1 x) ++ [(79, aA i)]))) ?_ ?_ ?_
  ·exact ⟨fun j m hj => absurd hj (Nat.not_lt_zero j), HM, HF.sub ((g_ z1 x) ++ [(79, ay 0)]) (by kernel_rfl)⟩
  ·intro i a w KX hi hI KR
   obtain ⟨hparts, HM, HF⟩ := hI
   refine aY ?_
   refine wp_pure HF HM rfl 1 [] ((g_ z1 x) ++ [(79, aA i), (80, .bool (decide (((i : Nat) : Int) < ((x.ps.length : Nat) : Int))))]) (by kernel_rfl) fun a HF => ?_
   refine aI ?_
   refine wp_seq ?_
   rw [show decide (((i : Nat) : Int) < ((x.ps.length : Nat) : Int)) = true from fC (by omega)] at HF
   refine bF HF rfl ?_
   refine wp_skip ?_
   repeat first | refine aQ ?_ | refine aU ?_
   refine wp_seq ?_
   refine wp_block ?_
   refine aY ?_
   obtain ⟨m12, uQ⟩ : ∃ m, x.ps[i]? = some m := ⟨_, List.getElem?_eq_getElem (by omega)⟩
   refine eY HF (by kernel_rfl) (.pointer (Option.map (fun q : Addr => q.add (i * 10)) x.B)) (by kernel_rfl) (ig Tryd.underlying24 (by kernel_rfl) rfl i rfl rfl (by omega) (nC (lC (f := fP.cells) (k := 10) (fun _ => rfl) (HM.row h.parts) i uQ) (Nat.zero_lt_succ _))) fun a HF => ?_
   refine eY HF (by kernel_rfl) (.agg #[.string (⟨m12.name.toArray⟩), aX m12.ty, aX m12.flags, aJ m12.addr, aX m12.link, aX m12.info, aJ m12.align, aJ m12.ent, aJ m12.size, .slice m12.A m12.data.length m12.c]) (by kernel_rfl) (lT rfl rfl (lC (f := fP.cells) (k := 10) (fun _ => rfl) (HM.row h.parts) i uQ) (Nat.zero_lt_succ _) Tryd.underlying46 rfl (by kernel_rfl)) fun a HF => ?_
   obtain ⟨z38, hz38⟩ : ∃ z, w.heap.size = z := ⟨_, rfl⟩
   refine aO HF HM hz38 2 [[1]] (eF z1 z38 x i) [yB z38 m12, jw z1 x] (by kernel_rfl) fun a w HF HM => ?_
   clear hz38
   refine aI ?_
   refine wp_seq ?_
   refine aY ?_
   obtain ⟨z39, hz39⟩ : ∃ z, w.heap.size = z := ⟨_, rfl⟩
   refine aO HF HM hz39 10 [[0], [1], [1], [1], [1]] ((eF z1 z38 x i) ++ [(83, .agg #[.bool x.wide, .bool x.big, aV x.abi, aV x.aF, .int .i64 x.ty, .int .i64 x.machine, aJ x.entry, .slice x.A x.ss.length x.c, .slice x.B x.ps.length x.d]), (92, aH z39 4 4)]) [(z39, .cells #[aJ m12.addr, aJ m12.align, aJ m12.ent, aJ m12.size] 22 (0, 0)), yB z38 m12, jw z1 x] (by kernel_rfl) fun a w HF HM => ?_
   clear hz39
   refine bn HF (by kernel_rfl) 52 #[.agg #[.bool x.wide, .bool x.big, aV x.abi, aV x.aF, .int .i64 x.ty, .int .i64 x.machine, aJ x.entry, .slice x.A x.ss.length x.c, .slice x.B x.ps.length x.d], aH z39 4 4] (by kernel_rfl) (fun w => by kernel_rfl) (Calls.mono (fits_any x.wide _ _ _ _ _ _ _ _ [m12.addr, m12.align, m12.ent, m12.size] _ _ _ rfl (by simp) w (HM.rowAt (i := 0) rfl)) ?_)
   rintro _ w3 ⟨rfl, hb⟩
   replace HM := HM.call hb
   clear hb
   refine ⟨_, rfl, ?_⟩; clear HF; intro a HF
   replace HF := HF.sub ((eF z1 z38 x i) ++ [(93, .bool (lX x.wide [m12.addr, m12.align, m12.ent, m12.size]))]) (by kernel_rfl)
   rcases kY (lX x.wide [m12.addr, m12.align, m12.ent, m12.size]) with hc13 | hc13
   ·replace HF := Fr.sub (Fr.tell HF 93 rfl (congrArg Value.bool hc13)) ((eF z1 z38 x i) ++ [(93, .bool false)]) (by kernel_rfl)
    refine wp_pure HF HM rfl 29 [] ((eF z1 z38 x i) ++ [(122, .bool true)]) (by kernel_rfl) fun a HF => ?_
    refine aI ?_
    refine bF HF rfl ?_
    refine aY ?_
    refine wp_pure HF HM rfl 1 [] [(2, .bool false)] (by kernel_rfl) fun a HF => ?_
    refine aI ?_
    refine wp_ret ?_
    repeat first | refine bV ?_ | refine dh ?_
    exact dH HF rfl rfl ⟨false, rfl, HM.below, fun h => by cases h⟩
   replace HF := Fr.sub (Fr.tell HF 93 rfl (congrArg Value.bool hc13)) ((eF z1 z38 x i) ++ [(93, .bool true)]) (by kernel_rfl)
   refine wp_pure HF HM rfl 8 [[1]] ((eF z1 z38 x i) ++ [(101, .bool (decide (1024 < ((m12.name.length : Nat) : Int))))]) (by kernel_rfl) fun a HF => ?_
   by_cases hc14 : 1024 < ((m12.name.length : Nat) : Int)
   ·rw [show decide (1024 < ((m12.name.length : Nat) : Int)) = true from fC (hc14)] at HF
    refine wp_pure HF HM rfl 21 [] ((eF z1 z38 x i) ++ [(122, .bool true)]) (by kernel_rfl) fun a HF => ?_
    refine aI ?_
    refine bF HF rfl ?_
    refine aY ?_
    refine wp_pure HF HM rfl 1 [] [(2, .bool false)] (by kernel_rfl) fun a HF => ?_
    refine aI ?_
    refine wp_ret ?_
    repeat first | refine bV ?_ | refine dh ?_
    exact dH HF rfl rfl ⟨false, rfl, HM.below, fun h => by cases h⟩
   rw [show decide (1024 < ((m12.name.length : Nat) : Int)) = false from dI (hc14)] at HF
   refine wp_pure HF HM rfl 2 [[1]] ((eF z1 z38 x i) ++ [(101, .bool false), (103, .string (⟨m12.name.toArray⟩))]) (by kernel_rfl) fun a HF => ?_
   have hnm := (h.part m12 (List.mem_of_getElem? uQ)).nm
   refine bn HF (by kernel_rfl) 53 #[.string (⟨m12.name.toArray⟩)] (by kernel_rfl) (fun w => by kernel_rfl) (Calls.mono (Jp m12.name (by unfold maxLen at hnm; omega) w3) ?_)
   rintro _ w4 ⟨rfl, hq⟩
   replace hq := hq.symm; subst hq
   refine ⟨_, rfl, ?_⟩; clear HF; intro a HF
   replace HF := HF.sub ((eF z1 z38 x i) ++ [(101, .bool false), (104, .bool (decide (0 ∉ m12.name)))]) (by kernel_rfl)
   by_cases hc15 : 0 ∉ m12.name
   ·rw [show decide (0 ∉ m12.name) = true from fC (hc15)] at HF
    refine wp_pure HF HM rfl 9 [[1]] ((eF z1 z38 x i) ++ [(113, .bool (decide (65536 < ((m12.data.length : Nat) : Int))))]) (by kernel_rfl) fun a HF => ?_
    by_cases hc16 : 65536 < ((m12.data.length : Nat) : Int)
    ·rw [show decide (65536 < ((m12.data.length : Nat) : Int)) = true from fC (hc16)] at HF
     refine wp_pure HF HM rfl 9 [] ((eF z1 z38 x i) ++ [(122, .bool true)]) (by kernel_rfl) fun a HF => ?_
     refine aI ?_
     refine bF HF rfl ?_
     refine aY ?_
     refine wp_pure HF HM rfl 1 [] [(2, .bool false)] (by kernel_rfl) fun a HF => ?_
     refine aI ?_
     refine wp_ret ?_
     repeat first | refine bV ?_ | refine dh ?_
     exact dH HF rfl rfl ⟨false, rfl, HM.below, fun h => by cases h⟩
    rw [show decide (65536 < ((m12.data.length : Nat) : Int)) = false from dI (hc16)] at HF
    refine wp_pure HF HM rfl 5 [[1]] ((eF z1 z38 x i) ++ [(118, .bool (((m12.ty : Nat) : Int) == 0))]) (by kernel_rfl) fun a HF => ?_
    by_cases hc17 : ((m12.ty : Nat) : Int) = 0
    ·rw [show (((m12.ty : Nat) : Int) == 0) = true from oz (hc17)] at HF
     refine wp_pure HF HM rfl 4 [] ((eF z1 z38 x i) ++ [(122, .bool true)]) (by kernel_rfl) fun a HF => ?_
     refine aI ?_
     refine bF HF rfl ?_
     refine aY ?_
     refine wp_pure HF HM rfl 1 [] [(2, .bool false)] (by kernel_rfl) fun a HF => ?_
     refine aI ?_
     refine wp_ret ?_
     repeat first | refine bV ?_ | refine dh ?_
     exact dH HF rfl rfl ⟨false, rfl, HM.below, fun h => by cases h⟩
    rw [show (((m12.ty : Nat) : Int) == 0) = false from oO (hc17)] at HF
    refine wp_pure HF HM rfl 4 [[1]] ((eF z1 z38 x i) ++ [(122, .bool (decide (1610612736 ≤ ((m12.ty : Nat) : Int))))]) (by kernel_rfl) fun a HF => ?_
    refine aI ?_
    by_cases hc18 : 1610612736 ≤ ((m12.ty : Nat) : Int)
    ·rw [show decide (1610612736 ≤ ((m12.ty : Nat) : Int)) = true from fC (hc18)] at HF
     refine bF HF rfl ?_
     refine aY ?_
     refine wp_pure HF HM rfl 1 [] [(2, .bool false)] (by kernel_rfl) fun a HF => ?_
     refine aI ?_
     refine wp_ret ?_
     repeat first | refine bV ?_ | refine dh ?_
     exact dH HF rfl rfl ⟨false, rfl, HM.below, fun h => by cases h⟩
    rw [show decide (1610612736 ≤ ((m12.ty : Nat) : Int)) = false from dI (hc18)] at HF
    refine aZ HF rfl ?_
    refine wp_skip ?_
    repeat first | refine aQ ?_ | refine aU ?_
    refine aY ?_
    refine wp_pure HF HM rfl 2 [[1]] ((eF z1 z38 x i) ++ [(124, .string (⟨m12.name.toArray⟩))]) (by kernel_rfl) fun a HF => ?_
    refine bn HF (by kernel_rfl) 54 #[.string (⟨m12.name.toArray⟩)] (by kernel_rfl) (fun w => by kernel_rfl) (Calls.mono (IY ⟨m12.name.toArray⟩ w3) ?_)
    rintro _ w5 ⟨rfl, hq⟩
    replace hq := hq.symm; subst hq
    refine ⟨_, rfl, ?_⟩; clear HF; intro a HF
    refine wp_pure HF HM rfl 1 [] ((eF z1 z38 x i) ++ [(126, .bool (xR ⟨m12.name.toArray⟩))]) (by kernel_rfl) fun a HF => ?_
    rcases kY (xR ⟨m12.name.toArray⟩) with hc19 | hc19
    ·replace HF := Fr.sub (Fr.tell HF 126 rfl (congrArg Value.bool hc19)) ((eF z1 z38 x i) ++ [(126, .bool false)]) (by kernel_rfl)
     refine wp_pure HF HM rfl 6 [[1]] ((eF z1 z38 x i) ++ [(132, .bool (((oC ((m12.flags : Nat) : Int) 2048)) != 0))]) (by kernel_rfl) fun a HF => ?_
     by_cases hc20 : ((oC ((m12.flags : Nat) : Int) 2048)) ≠ 0
     ·rw [show (((oC ((m12.flags : Nat) : Int) 2048)) != 0) = true from uI (hc20)] at HF
      refine wp_pure HF HM rfl 15 [] ((g_ z1 x) ++ [(79, aA i), (147, .bool true)]) (by kernel_rfl) fun a HF => ?_
      refine aI ?_
      refine bF HF rfl ?_
      refine aY ?_
      refine wp_pure HF HM rfl 1 [] [(2, .bool false)] (by kernel_rfl) fun a HF => ?_
      refine aI ?_
      refine wp_ret ?_
      repeat first | refine bV ?_ | refine dh ?_
      exact dH HF rfl rfl ⟨false, rfl, HM.below, fun h => by cases h⟩
     rw [show (((oC ((m12.flags : Nat) : Int) 2048)) != 0) = false from B_ (hc20)] at HF
     refine wp_pure HF HM rfl 4 [[1]] ((eF z1 z38 x i) ++ [(132, .bool false), (136, .bool (((m12.ty : Nat) : Int) == 8))]) (by kernel_rfl) fun a HF => ?_
     by_cases hc21 : ((m12.ty : Nat) : Int) = 8
     ·rw [show (((m12.ty : Nat) : Int) == 8) = true from oz (hc21)] at HF
      refine wp_pure HF HM rfl 7 [[1]] ((eF z1 z38 x i) ++ [(143, .bool (decide (0 < ((m12.data.length : Nat) : Int))))]) (by kernel_rfl) fun a HF => ?_
      by_cases hc22 : 0 < ((m12.data.length : Nat) : Int)
      ·rw [show decide (0 < ((m12.data.length : Nat) : Int)) = true from fC (hc22)] at HF
       refine wp_pure HF HM rfl 4 [] ((g_ z1 x) ++ [(79, aA i), (147, .bool true)]) (by kernel_rfl) fun a HF => ?_
       refine aI ?_
       refine bF HF rfl ?_
       refine aY ?_
       refine wp_pure HF HM rfl 1 [] [(2, .bool false)] (by kernel_rfl) fun a HF => ?_
       refine aI ?_
       refine wp_ret ?_
       repeat first | refine bV ?_ | refine dh ?_
       exact dH HF rfl rfl ⟨false, rfl, HM.below, fun h => by cases h⟩
      rw [show decide (0 < ((m12.data.length : Nat) : Int)) = false from dI (hc22)] at HF
      refine wp_pure HF HM rfl 4 [[1]] ((g_ z1 x) ++ [(79, aA i), (147, .bool (decide (4611686018427387904 ≤ ((m12.size : Nat) : Int))))]) (by kernel_rfl) fun a HF => ?_
      refine aI ?_
      by_cases hc23 : 4611686018427387904 ≤ ((m12.size : Nat) : Int)
      ·rw [show decide (4611686018427387904 ≤ ((m12.size : Nat) : Int)) = true from fC (hc23)] at HF
       refine bF HF rfl ?_
       refine aY ?_
       refine wp_pure HF HM rfl 1 [] [(2, .bool false)] (by kernel_rfl) fun a HF => ?_
       refine aI ?_
       refine wp_ret ?_
       repeat first | refine bV ?_ | refine dh ?_
       exact dH HF rfl rfl ⟨false, rfl, HM.below, fun h => by cases h⟩
      rw [show decide (4611686018427387904 ≤ ((m12.size : Nat) : Int)) = false from dI (hc23)] at HF
      refine aZ HF rfl ?_
      refine wp_skip ?_
      repeat first | refine aQ ?_ | refine aU ?_
      refine wp_region_lit ?_
      refine wp_pure HF HM rfl 1 [] ((g_ z1 x) ++ [(148, ay (IntKind.i64.wrap (((i : Nat) : Int) + 1)))]) (by kernel_rfl) fun a HF => ?_
      rw [show IntKind.i64.wrap (((i : Nat) : Int) + 1) = (((i + 1) : Nat) : Int) from (IntWalk.i64_in _ (by omega)).trans (by omega)] at HF
      refine wp_pure HF HM rfl 1 [] ((g_ z1 x) ++ [(79, aA (i + 1))]) (by kernel_rfl) fun a HF => ?_
      refine wpList_nil ?_
      repeat first | refine aQ ?_ | refine aU ?_
      exact KR _ _ (⟨fun j m hj hm => (Nat.lt_or_ge j i).elim (fun g => hparts j m g hm) (fun g => by obtain rfl : j = i := (by omega); rw [uQ] at hm; obtain rfl := Option.some.inj hm; exact ⟨by assumption, by omega, by assumption, by omega, by omega, by omega, by assumption, oz (Decidable.byContradiction (by assumption)), fun h8 => by omega, by omega⟩), (HM.pick [2] [jw z1 x] rfl (by decide)), HF.sub ((g_ z1 x) ++ [(79, aA (i + 1))]) (by kernel_rfl)⟩)
     rw [show (((m12.ty : Nat) : Int) == 8) = false from oO (hc21)] at HF
     refine wp_pure HF HM rfl 11 [[1]] ((g_ z1 x) ++ [(79, aA i), (147, .bool (decide (4611686018427387904 ≤ ((m12.size : Nat) : Int))))]) (by kernel_rfl) fun a HF => ?_
     refine aI ?_
     by_cases hc24 : 4611686018427387904 ≤ ((m12.size : Nat) : Int)
     ·rw [show decide (4611686018427387904 ≤ ((m12.size : Nat) : Int)) = true from fC (hc24)] at HF
      refine bF HF rfl ?_
      refine aY ?_
      refine wp_pure HF HM rfl 1 [] [(2, .bool false)] (by kernel_rfl) fun a HF => ?_
      refine aI ?_
      refine wp_ret ?_
      repeat first | refine bV ?_ | refine dh ?_
      exact dH HF rfl rfl ⟨false, rfl, HM.below, fun h => by cases h⟩
     rw [show decide (4611686018427387904 ≤ ((m12.size : Nat) : Int)) = false from dI (hc24)] at HF
     refine aZ HF rfl ?_
     refine wp_skip ?_
     repeat first | refine aQ ?_ | refine aU ?_
     refine wp_region_lit ?_
     refine wp_pure HF HM rfl 1 [] ((g_ z1 x) ++ [(148, ay (IntKind.i64.wrap (((i : Nat) : Int) + 1)))]) (by kernel_rfl) fun a HF => ?_
     rw [show IntKind.i64.wrap (((i : Nat) : Int) + 1) = (((i + 1) : Nat) : Int) from (IntWalk.i64_in _ (by omega)).trans (by omega)] at HF
     refine wp_pure HF HM rfl 1 [] ((g_ z1 x) ++ [(79, aA (i + 1))]) (by kernel_rfl) fun a HF => ?_
     refine wpList_nil ?_
     repeat first | refine aQ ?_ | refine aU ?_
     exact KR _ _ (⟨fun j m hj hm => (Nat.lt_or_ge j i).elim (fun g => hparts j m g hm) (fun g => by obtain rfl : j = i := (by omega); rw [uQ] at hm; obtain rfl := Option.some.inj hm; exact ⟨by assumption, by omega, by assumption, by omega, by omega, by omega, by assumption, oz (Decidable.byContradiction (by assumption)), fun h8 => by omega, by omega⟩), (HM.pick [2] [jw z1 x] rfl (by decide)), HF.sub ((g_ z1 x) ++ [(79, aA (i + 1))]) (by kernel_rfl)⟩)
    replace HF := Fr.sub (Fr.tell HF 126 rfl (congrArg Value.bool hc19)) ((eF z1 z38 x i) ++ [(126, .bool true)]) (by kernel_rfl)
    refine wp_pure HF HM rfl 21 [] ((g_ z1 x) ++ [(79, aA i), (147, .bool true)]) (by kernel_rfl) fun a HF => ?_
    refine aI ?_
    refine bF HF rfl ?_
    refine aY ?_
    refine wp_pure HF HM rfl 1 [] [(2, .bool false)] (by kernel_rfl) fun a HF => ?_
    refine aI ?_
    refine wp_ret ?_
    repeat first | refine bV ?_ | refine dh ?_
    exact dH HF rfl rfl ⟨false, rfl, HM.below, fun h => by cases h⟩
   rw [show decide (0 ∉ m12.name) = false from dI (hc15)] at HF
   refine wp_pure HF HM rfl 18 [] ((eF z1 z38 x i) ++ [(122, .bool true)]) (by kernel_rfl) fun a HF => ?_
   refine aI ?_
   refine bF HF rfl ?_
   refine aY ?_
   refine wp_pure HF HM rfl 1 [] [(2, .bool false)] (by kernel_rfl) fun a HF => ?_
   refine aI ?_
   refine wp_ret ?_
   repeat first | refine bV ?_ | refine dh ?_
   exact dH HF rfl rfl ⟨false, rfl, HM.below, fun h => by cases h⟩
  ·intro a w KX hI
   obtain ⟨hparts, HM, HF⟩ := hI
   refine aY ?_
   refine wp_pure HF HM rfl 1 [] ((g_ z1 x) ++ [(79, aA x.ps.length), (80, .bool (decide (((x.ps.length : Nat) : Int) < ((x.ps.length : Nat) : Int))))]) (by kernel_rfl) fun a HF => ?_
   refine aI ?_
   refine wp_seq ?_
   rw [show decide (((x.ps.length : Nat) : Int) < ((x.ps.length : Nat) : Int)) = false from dI (by omega)] at HF
   refine aZ HF rfl ?_
   refine wp_exit ?_
   repeat (first | refine iW ?_ | refine kE rfl ?_)
   refine kL ?_
   repeat first | refine aQ ?_ | refine aU ?_
   refine aY ?_
   refine wp_pure HF HM rfl 1 [] [(2, .bool true)] (by kernel_rfl) fun a HF => ?_
   refine aI ?_
   refine wp_ret ?_
   repeat first | refine bV ?_ | refine dh ?_
   exact dH HF rfl rfl ⟨true, rfl, HM.below, fun _ => ⟨⟨by omega, by omega, by omega, by omega, by assumption, by omega, by omega, fun m hm => (List.getElem?_of_mem hm).elim fun j hj => Js j m (List.getElem?_eq_some_iff.1 hj).1 hj, fun m hm => (List.getElem?_of_mem hm).elim fun j hj => hparts j m (List.getElem?_eq_some_iff.1 hj).1 hj⟩, by omega⟩⟩

end Go.Proofs.YtdgehpocmfjbiaaDoor
namespace Go.Proofs.YtdgehpocmfjbiaaDoor
open Go.RowKit

def uO (s : List UInt8) : Value := .string ⟨s.toArray⟩
def oU (n : Nat) : Value := aA n
theorem CO {l : List (List UInt8)} {i : Nat} {m : List UInt8} (h : l[i]? = some m) : dA (l.take (i + 1)) = dA (l.take i) ++ m ++ [0] := by
 obtain ⟨hl, e⟩ := List.getElem?_eq_some_iff.1 h
 rw [Ib l i hl, e]
theorem o_ {l : List (List UInt8)} {i : Nat} {m : List UInt8} (h : l[i]? = some m) : (dA (l.take i)).length + m.length + 1 ≤ (dA l).length := by
 obtain ⟨hl, e⟩ := List.getElem?_eq_some_iff.1 h
 obtain ⟨r, e2⟩ := wJ l i hl
 rw [e2, e]
 simp only [List.length_append, List.length_cons]
 omega
theorem DK {l : List (List UInt8)} {i : Nat} {m : List UInt8} (h : l[i]? = some m) : (dA (l.take i)).length + m.length + 1 = (dA (l.take (i + 1))).length := by
 rw [CO h]; simp; omega

abbrev AP := fun og (l : List (List UInt8)) i oc qg qc (A : Option Addr) (n : Nat) (c : Nat) => ([(4, aH og ((dA (l.take i)).length) oc), (5, aH qg i qc), (10, .slice A n c), (11, aA n), (12, aA i)] : Slots)
theorem EC (l : List (List UInt8)) (A : Option Addr) (n c : Nat) (hn : n = l.length) (w0 : World) (hr : Row w0 A (l.map uO)) (hb : (dA l).length ≤ 4000000000) (hb2 : n ≤ 4000000000) :
  Calls Tryd.prog 65 #[.slice A n c] w0 fun e w' => ∃ g cap cur g2 cap2 qo, e = .returned (.tuple #[aH g (dA l).length cap, aH g2 l.length cap2]) ∧ Below w0.heap.size w0 w' ∧ Own w0.heap.size w' 5 1 g (dA l).length cap cur ((dA l).map Bv) ∧ Own w0.heap.size w' 3 1 g2 l.length cap2 qo ((List.range l.length).map (fun j => oU (nameAt l j))) ∧ g ≠ g2 := by
 obtain ⟨w, hw⟩ : ∃ w, w0 = w := ⟨_, rfl⟩
 have HM : Mm [] w0 w [] := hw ▸ Mm.start w0
 conv => arg 4; rw [hw]
 clear hw
 refine dD Tryd.func65 rfl Tryd.ntmps65 [(0, .slice A n c)] (by kernel_rfl) (Nat.le_of_ble_eq_true rfl) ?_
 intro a HF
 refine aY ?_
 refine wp_pure HF HM rfl 2 [] [(0, .slice A n c)] (by kernel_rfl) fun a HF => ?_
 refine dM ?_
 obtain ⟨z2, hz2⟩ : ∃ z, w.heap.size = z := ⟨_, rfl⟩
 refine aO HF HM hz2 2 [] [(0, .slice A n c), (4, aH z2 1 1)] [(z2, .cells #[aK 0] 5 (0, 0))] (by kernel_rfl) fun a w HF HM => ?_
 clear hz2
 refine dM ?_
 obtain ⟨z3, hz3⟩ : ∃ z, w.heap.size = z := ⟨_, rfl⟩
 refine aO HF HM hz3 2 [] [(0, .slice A n c), (4, aH z2 1 1), (5, aH z3 0 0)] [(z3, .cells #[] 3 (0, 0)), (z2, .cells #[aK 0] 5 (0, 0))] (by kernel_rfl) fun a w HF HM => ?_
 clear hz3
 refine aI ?_
 refine wp_seq ?_
 refine aY ?_
 refine wp_pure HF HM rfl 3 [] [(4, aH z2 1 1), (5, aH z3 0 0), (10, .slice A n c), (11, aA n), (12, ay 0)] (by kernel_rfl) fun a HF => ?_
 refine aI ?_
 refine wp_block ?_
 refine oM (n) (fun i a w => (∃ og : Nat, ∃ oc : Nat, ∃ ok : Array Value, ∃ qg : Nat, ∃ qc : Nat, ∃ qk : Array Value, (ok.toList.take (((dA (l.take i)).length) * 1) = (dA (l.take i)).map Bv) ∧ (ok.size = oc * 1) ∧ (((dA (l.take i)).length) ≤ oc) ∧ (oc ≤ maxLen) ∧ (qk.toList.take (i * 1) = (List.range i).map (fun j => oU (nameAt l j))) ∧ (qk.size = qc * 1) ∧ (i ≤ qc) ∧ (qc ≤ maxLen) ∧ Mm [] w0 w [(qg, .cells qk 3 (0, 0)), (og, .cells ok 5 (0, 0))] ∧ Fr 29 a (AP og l i oc qg qc A n c))) ?_ ?_ ?_
 ·exact ⟨z2, 1, #[aK 0], z3, 0, #[], rfl, rfl, Nat.le_refl _, by unfold maxLen; omega, rfl, rfl, Nat.le_refl _, by unfold maxLen; omega, HM, HF.sub [(4, aH z2 ((dA (l.take 0)).length) 1), (5, aH z3 0 0), (10, .slice A n c), (11, aA n), (12, ay 0)] (by kernel_rfl)⟩
 ·intro i a w KX hi hI KR
  obtain ⟨og, oc, ok, qg, qc, qk, Ey, F6, Ez, F8, Dy, FY, Et, FZ, HM, HF⟩ := hI
  refine aY ?_
  refine wp_pure HF HM rfl 1 [] ((AP og l i oc qg qc A n c) ++ [(13, .bool (decide (((i : Nat) : Int) < ((n : Nat) : Int))))]) (by kernel_rfl) fun a HF => ?_
  refine aI ?_
  refine wp_seq ?_
  rw [show decide (((i : Nat) : Int) < ((n : Nat) : Int)) = true from fC (by omega)] at HF
  refine bF HF rfl ?_
  refine wp_skip ?_
  repeat first | refine aQ ?_ | refine aU ?_
  refine wp_seq ?_
  refine wp_block ?_
  refine aY ?_
  obtain ⟨m1, hm1⟩ : ∃ m, l[i]? = some m := ⟨_, List.getElem?_eq_getElem (by omega)⟩
  have hnl := o_ hm1
  refine eY HF (by kernel_rfl) (.pointer (Option.map (fun q : Addr => q.add (i * 1)) A)) (by kernel_rfl) (ig Tryd.underlying38 (by kernel_rfl) rfl i rfl rfl (by omega) (nC (rP (HM.row hr) i hm1) (Nat.zero_lt_succ _))) fun a HF => ?_
  refine eY HF (by kernel_rfl) (.string (⟨m1.toArray⟩)) (by kernel_rfl) (pW rfl rfl (rP (HM.row hr) i hm1) (by kernel_rfl)) fun a HF => ?_
  refine wp_pure HF HM rfl 1 [] [(4, aH og ((dA (l.take i)).length) oc), (5, aH qg i qc), (7, .string (⟨m1.toArray⟩)), (10, .slice A n c), (11, aA n), (12, aA i)] (by kernel_rfl) fun a HF => ?_
  refine dM ?_
  obtain ⟨z7, uM⟩ : ∃ z, w.heap.size = z := ⟨_, rfl⟩
  refine aO HF HM uM 4 [] [(4, aH og ((dA (l.take i)).length) oc), (7, .string (⟨m1.toArray⟩)), (10, .slice A n c), (11, aA n), (12, aA i), (16, aH qg i qc), (19, aH z7 1 1)] [(z7, .cells #[aA ((dA (l.take i)).length)] 3 (0, 0)), (qg, .cells qk 3 (0, 0)), (og, .cells ok 5 (0, 0))] (by kernel_rfl) fun a w HF HM => ?_
  clear uM
  refine iG HF HM rfl _ _ 66 66 rfl rfl 3 (z := ay 0) (size := 1) (bytes := 8) Tryd.underlying66 (by kernel_rfl) rfl (by decide) 1 qg i qc qk rfl rfl Et FZ FY ((List.range i).map (fun j => oU (nameAt l j))) Dy (aH z7 1 1) 1 [aA ((dA (l.take i)).length)] rfl (mY Tryd.underlying66 rfl (by decide) (HM.rowAt (i := 0) rfl) (o9 rfl)) (by unfold maxLen; omega) (by omega) ?_
  intro a w1 g2 cap2 qo bU Dc hsz2 uP hcm2 HF2; clear HF HM
  replace Dc : qo.toList.take ((i + 1) * 1) = (List.range (i + 1)).map (fun j => oU (nameAt l j)) := Dc.trans (by rw [List.range_succ, List.map_append]; rfl)
  have HM : Mm [] w0 w1 [(z7, .cells #[aA ((dA (l.take i)).length)] 3 (0, 0)), (g2, .cells qo 3 (0, 0)), (og, .cells ok 5 (0, 0))] := bU
  have HF := HF2.sub [(4, aH og ((dA (l.take i)).length) oc), (7, .string (⟨m1.toArray⟩)), (10, .slice A n c), (11, aA n), (12, aA i), (20, aH g2 (i + 1) cap2)] (by kernel_rfl); clear bU HF2
  refine wp_pure HF HM rfl 1 [] [(4, aH og ((dA (l.take i)).length) oc), (5, aH g2 (i + 1) cap2), (7, .string (⟨m1.toArray⟩)), (10, .slice A n c), (11, aA n), (12, aA i)] (by kernel_rfl) fun a HF => ?_
  refine aI ?_
  refine wp_region_lit ?_
  refine wp_pure HF HM rfl 2 [] [(5, aH g2 (i + 1) cap2), (10, .slice A n c), (11, aA n), (12, aA i), (21, aH og ((dA (l.take i)).length) oc), (22, .string (⟨m1.toArray⟩))] (by kernel_rfl) fun a HF => ?_
  refine iG HF HM rfl _ _ 33 9 rfl rfl 5 (z := aK 0) (size := 1) (bytes := 1) Tryd.underlying33 (by kernel_rfl) rfl (by decide) 2 og ((dA (l.take i)).length) oc ok rfl rfl Ez F8 F6 ((dA (l.take i)).map Bv) Ey (.string (⟨m1.toArray⟩)) m1.length (m1.map Bv) rfl (I_ Tryd.underlying9 m1) (by unfold maxLen; omega) (by omega) ?_
  intro a w2 g3 cap3 qI bU x9 hsz3 Ed Gx HF2; clear HF HM
  have HM : Mm [] w0 w2 [(z7, .cells #[aA ((dA (l.take i)).length)] 3 (0, 0)), (g2, .cells qo 3 (0, 0)), (g3, .cells qI 5 (0, 0))] := bU
  have HF := HF2.sub [(5, aH g2 (i + 1) cap2), (10, .slice A n c), (11, aA n), (12, aA i), (23, aH g3 (((dA (l.take i)).length) + m1.length) cap3)] (by kernel_rfl); clear bU HF2
  obtain ⟨z10, AU⟩ : ∃ z, w2.heap.size = z := ⟨_, rfl⟩
  refine aO HF HM AU 1 [] [(5, aH g2 (i + 1) cap2), (10, .slice A n c), (11, aA n), (12, aA i), (23, aH g3 (((dA (l.take i)).length) + m1.length) cap3), (24, aH z10 1 1)] [(z10, .cells #[aK 0] 5 (0, 0)), (z7, .cells #[aA ((dA (l.take i)).length)] 3 (0, 0)), (g2, .cells qo 3 (0, 0)), (g3, .cells qI 5 (0, 0))] (by kernel_rfl) fun a w HF HM => ?_
  clear AU
  refine iG HF HM rfl _ _ 33 33 rfl rfl 5 (z := aK 0) (size := 1) (bytes := 1) Tryd.underlying33 (by kernel_rfl) rfl (by decide) 3 g3 (((dA (l.take i)).length) + m1.length) cap3 qI rfl rfl Ed Gx hsz3 ((dA (l.take i)).map Bv ++ (m1.map Bv)) x9 (aH z10 1 1) 1 [aK 0] rfl (mY Tryd.underlying33 rfl (by decide) (HM.rowAt (i := 0) rfl) (o9 rfl)) (by unfold maxLen; omega) (by omega) ?_
  intro a w3 g4 cap4 yh bU xZ hsz4 Gt hcm4 HF2; clear HF HM
  rw [show (((dA (l.take i)).length) + m1.length) + 1 = (((dA (l.take i)).length) + m1.length + 1) from by omega] at HF2 xZ Gt
  replace xZ : yh.toList.take ((((dA (l.take i)).length) + m1.length + 1) * 1) = (dA (l.take (i + 1))).map Bv := xZ.trans (by rw [CO hm1, List.map_append, List.map_append]; rfl)
  have HM : Mm [] w0 w3 [(z10, .cells #[aK 0] 5 (0, 0)), (z7, .cells #[aA ((dA (l.take i)).length)] 3 (0, 0)), (g2, .cells qo 3 (0, 0)), (g4, .cells yh 5 (0, 0))] := bU
  have HF := HF2.sub [(5, aH g2 (i + 1) cap2), (10, .slice A n c), (11, aA n), (12, aA i), (25, aH g4 (((dA (l.take i)).length) + m1.length + 1) cap4)] (by kernel_rfl); clear bU HF2
  refine wp_pure HF HM rfl 1 [] [(4, aH g4 (((dA (l.take i)).length) + m1.length + 1) cap4), (5, aH g2 (i + 1) cap2), (10, .slice A n c), (11, aA n), (12, aA i)] (by kernel_rfl) fun a HF => ?_
  refine wpList_nil ?_
  repeat first | refine aQ ?_ | refine aU ?_
  refine wp_region_lit ?_
  refine wp_pure HF HM rfl 1 [] [(4, aH g4 (((dA (l.take i)).length) + m1.length + 1) cap4), (5, aH g2 (i + 1) cap2), (10, .slice A n c), (11, aA n), (26, ay (IntKind.i64.wrap (((i : Nat) : Int) + 1)))] (by kernel_rfl) fun a HF => ?_
  rw [show IntKind.i64.wrap (((i : Nat) : Int) + 1) = (((i + 1) : Nat) : Int) from (IntWalk.i64_in _ (by omega)).trans (by omega)] at HF
  refine wp_pure HF HM rfl 1 [] [(4, aH g4 (((dA (l.take i)).length) + m1.length + 1) cap4), (5, aH g2 (i + 1) cap2), (10, .slice A n c), (11, aA n), (12, aA (i + 1))] (by kernel_rfl) fun a HF => ?_
  refine wpList_nil ?_
  repeat first | refine aQ ?_ | refine aU ?_
  rw [show (((dA (l.take i)).length) + m1.length + 1) = ((dA (l.take (i + 1))).length) from DK hm1] at HF xZ Gt
  exact KR _ _ (⟨g4, cap4, yh, g2, cap2, qo, xZ, hsz4, Gt, hcm4, Dc, hsz2, uP, hcm2, (HM.pick [2, 3] [(g2, .cells qo 3 (0, 0)), (g4, .cells yh 5 (0, 0))] rfl (by decide)), HF.sub [(4, aH g4 ((dA (l.take (i + 1))).length) cap4), (5, aH g2 (i + 1) cap2), (10, .slice A n c), (11, aA n), (12, aA (i + 1))] (by kernel_rfl)⟩)
 ·intro a w KX hI
  obtain ⟨og, oc, ok, qg, qc, qk, Ey, F6, Ez, F8, Dy, FY, Et, FZ, HM, HF⟩ := hI
  refine aY ?_
  refine wp_pure HF HM rfl 1 [] [(4, aH og ((dA (l.take n)).length) oc), (5, aH qg n qc), (10, .slice A n c), (11, aA n), (12, aA n), (13, .bool (decide (((n : Nat) : Int) < ((n : Nat) : Int))))] (by kernel_rfl) fun a HF => ?_
  refine aI ?_
  refine wp_seq ?_
  rw [show decide (((n : Nat) : Int) < ((n : Nat) : Int)) = false from dI (by omega)] at HF
  refine aZ HF rfl ?_
  refine wp_exit ?_
  repeat (first | refine iW ?_ | refine kE rfl ?_)
  refine kL ?_
  repeat first | refine aQ ?_ | refine aU ?_
  refine aY ?_
  refine wp_pure HF HM rfl 4 [] [(2, aH og ((dA (l.take n)).length) oc), (3, aH qg n qc)] (by kernel_rfl) fun a HF => ?_
  refine aI ?_
  refine wp_ret ?_
  repeat first | refine bV ?_ | refine dh ?_
  rw [hn, List.take_length] at HF Ey Ez
  rw [hn] at Dy Et
  exact jk HF rfl rfl rfl ⟨og, oc, ok, qg, qc, qk, rfl, HM.below, ⟨HM.ge (i := 1) rfl, HM.get (i := 1) rfl, Ey, F6, Ez, F8⟩, ⟨HM.ge (i := 0) rfl, HM.get (i := 0) rfl, Dy, FY, Et, FZ⟩, HM.ne (i := 1) (j := 0) rfl rfl (by decide)⟩

theorem Ep (wide : Bool) (w0 : World) : Calls Tryd.prog 64 #[.bool wide] w0 fun e w' => e = .returned (.tuple #[aA (fF wide), aA (gQ wide), aA (h_ wide)]) ∧ Below w0.heap.size w0 w' := by
 cases wide with
 | true =>
  obtain ⟨w, hw⟩ : ∃ w, w0 = w := ⟨_, rfl⟩
  have HM : Mm [] w0 w [] := hw ▸ Mm.start w0
  conv => arg 4; rw [hw]
  clear hw
  refine dD Tryd.func64 rfl Tryd.ntmps64 [(0, .bool true)] (by kernel_rfl) (Nat.le_of_ble_eq_true rfl) ?_
  intro a HF
  refine aY ?_
  obtain ⟨z1, hz1⟩ : ∃ z, w.heap.size = z := ⟨_, rfl⟩
  refine wp_pure HF HM hz1 3 [] [(0, .bool true)] (by kernel_rfl) fun a HF => ?_
  clear hz1
  refine aI ?_
  refine wp_seq ?_
  refine aY ?_
  obtain ⟨z2, hz2⟩ : ∃ z, w.heap.size = z := ⟨_, rfl⟩
  refine wp_pure HF HM hz2 1 [] [(5, .bool true)] (by kernel_rfl) fun a HF => ?_
  clear hz2
  refine aI ?_
  refine bF HF rfl ?_
  refine aY ?_
  obtain ⟨z3, hz3⟩ : ∃ z, w.heap.size = z := ⟨_, rfl⟩
  refine wp_pure HF HM hz3 3 [] [(2, .int .i64 64), (3, .int .i64 56), (4, .int .i64 64)] (by kernel_rfl) fun a HF => ?_
  clear hz3
  refine aI ?_
  refine wp_ret ?_
  repeat first | refine bV ?_ | refine dh ?_
  exact Ak HF rfl rfl rfl rfl ⟨rfl, HM.below⟩
 | false =>
  obtain ⟨w, hw⟩ : ∃ w, w0 = w := ⟨_, rfl⟩
  have HM : Mm [] w0 w [] := hw ▸ Mm.start w0
  conv => arg 4; rw [hw]
  clear hw
  refine dD Tryd.func64 rfl Tryd.ntmps64 [(0, .bool false)] (by kernel_rfl) (Nat.le_of_ble_eq_true rfl) ?_
  intro a HF
  refine aY ?_
  refine wp_pure HF HM rfl 3 [] [(0, .bool false)] (by kernel_rfl) fun a HF => ?_
  refine aI ?_
  refine wp_seq ?_
  refine aY ?_
  refine wp_pure HF HM rfl 1 [] [(5, .bool false)] (by kernel_rfl) fun a HF => ?_
  refine aI ?_
  refine aZ HF rfl ?_
  refine wp_skip ?_
  repeat first | refine aQ ?_ | refine aU ?_
  refine aY ?_
  refine wp_pure HF HM rfl 3 [] [(2, .int .i64 52), (3, .int .i64 32), (4, .int .i64 40)] (by kernel_rfl) fun a HF => ?_
  refine aI ?_
  refine wp_ret ?_
  repeat first | refine bV ?_ | refine dh ?_
  exact Ak HF rfl rfl rfl rfl ⟨rfl, HM.below⟩

def E_ : fP := ⟨[], 0, 0, 0, 0, 0, 0, 0, 0, [], none, 0⟩
def lH (x : dN) : List fP := E_ :: x.ps
theorem yG (x : dN) : (lH x).length = x.ps.length + 1 := by simp [lH]
def KW (x : dN) (g cap : Nat) : fP := ⟨wZ, 3, 0, 0, 0, 0, 1, 0, 0, dA x.img.names, some ⟨g, 0, none⟩, cap⟩
def allM (x : dN) (g cap : Nat) : List fP := lH x ++ [KW x g cap]
theorem wI (x : dN) : x.img.names = (lH x).map (·.name) ++ [wZ] := by
 simp [dK.names, dK.firsts, dN.img, lH, uy, E_, fP.part, Function.comp_def]
theorem yj (x : dN) (g cap : Nat) : (allM x g cap).length = x.ps.length + 2 := by simp [allM, lH]
theorem Bf (x : dN) (g cap : Nat) : (allM x g cap).map fP.part = x.img.all := by
 simp [allM, lH, dK.all, dK.firsts, dN.img, E_, uy, fP.part, KW, dK.BN]
theorem AO (x : dN) : x.img.names.length = x.ps.length + 2 := by rw [wI]; simp [lH]
theorem wX {α : Type} {l : List α} {i : Nat} {m : α} (h : l[i]? = some m) : l.take (i + 1) = l.take i ++ [m] := by
 obtain ⟨hl, e⟩ := List.getElem?_eq_some_iff.1 h
 rw [List.take_succ_eq_append_getElem hl, e]

abbrev wB := fun z1 (x : dN) => ((z1, .cells #[.bool x.wide, .bool x.big, aV x.abi, aV x.aF, .int .i64 x.ty, .int .i64 x.machine, aJ x.entry, .slice x.A x.ss.length x.c, .slice x.B x.ps.length x.d] 26 (0, 0)) : Nat × Obj)
abbrev DT := fun g1 (x : dN) cap1 og i oc => ([(3, aH g1 (x.ps.length + 1) cap1), (4, aH og i oc), (15, aH g1 (x.ps.length + 1) cap1), (16, aA (x.ps.length + 1)), (17, aA i)] : Slots)
abbrev wu := fun g1 (x : dN) cap1 g3 i cap3 => ([(3, aH g1 (x.ps.length + 1) cap1), (4, aH g3 (i + 1) cap3), (15, aH g1 (x.ps.length + 1) cap1), (16, aA (x.ps.length + 1))] : Slots)
abbrev uj := fun z13 => ((z13, .cells #[.string (⟨#[46, 115, 104, 115, 116, 114, 116, 97, 98]⟩ : ByteArray)] 9 (0, 0)) : Nat × Obj)
abbrev DU := fun rY gt (x : dN) bY => ((rY, .cells #[.string (⟨#[46, 115, 104, 115, 116, 114, 116, 97, 98]⟩ : ByteArray), lJ 3, lJ 0, bG 0, lJ 0, lJ 0, bG 1, bG 0, bG 0, aH gt ((dA x.img.names).length) bY] 46 (0, 0)) : Nat × Obj)
theorem Nr (x : dN) (w0 : World) (h : x.At w0) (hp : x.ps.length ≤ 1000000) (hnb : (dA x.img.names).length ≤ 4000000000) :
  Calls Tryd.prog 38 #[x.val] w0 fun e w' => ∃ g cap cur gt bY iK, e = .returned (aH g (x.ps.length + 2) cap) ∧ Below w0.heap.size w0 w' ∧ Own w0.heap.size w' 46 10 g (x.ps.length + 2) cap cur ((allM x gt bY).flatMap fP.cells) ∧ Own w0.heap.size w' 5 1 gt (dA x.img.names).length bY iK ((dA x.img.names).map Bv) ∧ g ≠ gt := by
 have hfl := yG x
 obtain ⟨w, hw⟩ : ∃ w, w0 = w := ⟨_, rfl⟩
 have HM : Mm [] w0 w [] := hw ▸ Mm.start w0
 conv => arg 4; rw [hw]
 clear hw
 refine dD Tryd.func38 rfl Tryd.ntmps38 [(0, .agg #[.bool x.wide, .bool x.big, aV x.abi, aV x.aF, .int .i64 x.ty, .int .i64 x.machine, aJ x.entry, .slice x.A x.ss.length x.c, .slice x.B x.ps.length x.d])] (by kernel_rfl) (Nat.le_of_ble_eq_true rfl) ?_
 intro a HF
 refine aY ?_
 obtain ⟨z1, hz1⟩ : ∃ z, w.heap.size = z := ⟨_, rfl⟩
 refine aO HF HM hz1 2 [] [(1, aC z1)] [wB z1 x] (by kernel_rfl) fun a w HF HM => ?_
 clear hz1
 refine dM ?_
 obtain ⟨z2, hz2⟩ : ∃ z, w.heap.size = z := ⟨_, rfl⟩
 refine aO HF HM hz2 4 [[0]] [(10, aH z2 1 1), (12, .slice x.B x.ps.length x.d)] [(z2, .cells #[.string (⟨#[]⟩ : ByteArray), lJ 0, lJ 0, bG 0, lJ 0, lJ 0, bG 0, bG 0, bG 0, aN] 46 (0, 0)), wB z1 x] (by kernel_rfl) fun a w HF HM => ?_
 clear hz2
 refine iG HF HM rfl _ _ 24 24 rfl rfl 46 (z := .agg #[.string (⟨#[]⟩ : ByteArray), lJ 0, lJ 0, bG 0, lJ 0, lJ 0, bG 0, bG 0, bG 0, aN]) (size := 10) (bytes := 88) Tryd.underlying24 (by kernel_rfl) rfl (by decide) 0 z2 1 1 #[.string (⟨#[]⟩ : ByteArray), lJ 0, lJ 0, bG 0, lJ 0, lJ 0, bG 0, bG 0, bG 0, aN] rfl rfl (Nat.le_refl _) (by unfold maxLen; omega) rfl ([.string (⟨#[]⟩ : ByteArray), lJ 0, lJ 0, bG 0, lJ 0, lJ 0, bG 0, bG 0, bG 0, aN]) rfl (.slice x.B x.ps.length x.d) x.ps.length (x.ps.flatMap fP.cells) rfl (mY Tryd.underlying24 (GL (f := fP.cells) (k := 10) (fun _ => rfl) _) (by decide) (HM.row h.parts) (LU (fun _ => rfl) _)) (by unfold maxLen; omega) (by omega) ?_
 intro a w1 g1 cap1 qJ bU Gp hsz1 Gu hcm1 HF2; clear HF HM
 rw [show 1 + x.ps.length = (x.ps.length + 1) from by omega] at HF2 Gp Gu
 replace Gp : qJ.toList.take ((x.ps.length + 1) * 10) = (lH x).flatMap fP.cells := Gp.trans (by unfold lH; rw [List.flatMap_cons]; rfl)
 have HM : Mm [] w0 w1 [(g1, .cells qJ 46 (0, 0)), wB z1 x] := bU
 have HF := HF2.sub [(13, aH g1 (x.ps.length + 1) cap1)] (by kernel_rfl); clear bU HF2
 refine wp_pure HF HM rfl 1 [] [(3, aH g1 (x.ps.length + 1) cap1)] (by kernel_rfl) fun a HF => ?_
 refine dM ?_
 obtain ⟨z4, nH⟩ : ∃ z, w1.heap.size = z := ⟨_, rfl⟩
 refine aO HF HM nH 2 [] [(3, aH g1 (x.ps.length + 1) cap1), (4, aH z4 0 0)] [(z4, .cells #[] 9 (0, 0)), (g1, .cells qJ 46 (0, 0)), wB z1 x] (by kernel_rfl) fun a w HF HM => ?_
 clear nH
 refine aI ?_
 refine wp_seq ?_
 refine aY ?_
 refine wp_pure HF HM rfl 3 [] [(3, aH g1 (x.ps.length + 1) cap1), (4, aH z4 0 0), (15, aH g1 (x.ps.length + 1) cap1), (16, aA (x.ps.length + 1)), (17, ay 0)] (by kernel_rfl) fun a HF => ?_
 refine aI ?_
 refine wp_block ?_
 replace HM := HM.pick [0, 1] [(z4, .cells #[] 9 (0, 0)), (g1, .cells qJ 46 (0, 0))] rfl (by decide)
 refine oM ((x.ps.length + 1)) (fun i a w => (∃ og : Nat, ∃ oc : Nat, ∃ ok : Array Value, (ok.toList.take (i * 1) = ((lH x).take i).map (fun p => uO p.name)) ∧ (ok.size = oc * 1) ∧ (i ≤ oc) ∧ (oc ≤ maxLen) ∧ Mm [] w0 w [(og, .cells ok 9 (0, 0)), (g1, .cells qJ 46 (0, 0))] ∧ Fr 39 a (DT g1 x cap1 og i oc))) ?_ ?_ ?_
 ·exact ⟨z4, 0, #[], rfl, rfl, Nat.le_refl _, by unfold maxLen; omega, HM, HF.sub [(3, aH g1 (x.ps.length + 1) cap1), (4, aH z4 0 0), (15, aH g1 (x.ps.length + 1) cap1), (16, aA (x.ps.length + 1)), (17, ay 0)] (by kernel_rfl)⟩
 ·intro i a w KX hi hI KR
  obtain ⟨og, oc, ok, Ey, F6, Ez, F8, HM, HF⟩ := hI
  refine aY ?_
  refine wp_pure HF HM rfl 1 [] ((DT g1 x cap1 og i oc) ++ [(18, .bool (decide (((i : Nat) : Int) < (((x.ps.length + 1) : Nat) : Int))))]) (by kernel_rfl) fun a HF => ?_
  refine aI ?_
  refine wp_seq ?_
  rw [show decide (((i : Nat) : Int) < (((x.ps.length + 1) : Nat) : Int)) = true from fC (by omega)] at HF
  refine bF HF rfl ?_
  refine wp_skip ?_
  repeat first | refine aQ ?_ | refine aU ?_
  refine wp_seq ?_
  refine wp_block ?_
  refine aY ?_
  obtain ⟨m2, hm2⟩ : ∃ m, (lH x)[i]? = some m := ⟨_, List.getElem?_eq_getElem (by omega)⟩
  refine eY HF (by kernel_rfl) (.pointer (Option.map (fun q : Addr => q.add (i * 10)) (some ⟨g1, 0, none⟩))) (by kernel_rfl) (ig Tryd.underlying24 (by kernel_rfl) rfl i rfl rfl (by omega) (Option.some_ne_none _)) fun a HF => ?_
  refine eY HF (by kernel_rfl) (.agg #[.string (⟨m2.name.toArray⟩), aX m2.ty, aX m2.flags, aJ m2.addr, aX m2.link, aX m2.info, aJ m2.align, aJ m2.ent, aJ m2.size, .slice m2.A m2.data.length m2.c]) (by kernel_rfl) (lT rfl rfl (lC (f := fP.cells) (k := 10) (fun _ => rfl) (HM.lI (i := 1) rfl Gp) i hm2) (Nat.zero_lt_succ _) Tryd.underlying46 rfl (by kernel_rfl)) fun a HF => ?_
  obtain ⟨z7, uM⟩ : ∃ z, w.heap.size = z := ⟨_, rfl⟩
  refine aO HF HM uM 2 [[2]] [(3, aH g1 (x.ps.length + 1) cap1), (4, aH og i oc), (6, aC z7), (15, aH g1 (x.ps.length + 1) cap1), (16, aA (x.ps.length + 1)), (17, aA i)] [(z7, .cells #[.string (⟨m2.name.toArray⟩), aX m2.ty, aX m2.flags, aJ m2.addr, aX m2.link, aX m2.info, aJ m2.align, aJ m2.ent, aJ m2.size, .slice m2.A m2.data.length m2.c] 46 (0, 0)), (og, .cells ok 9 (0, 0)), (g1, .cells qJ 46 (0, 0))] (by kernel_rfl) fun a w HF HM => ?_
  clear uM
  refine aI ?_
  refine wp_region_lit ?_
  obtain ⟨z8, hz8⟩ : ∃ z, w.heap.size = z := ⟨_, rfl⟩
  refine aO HF HM hz8 4 [[2]] [(3, aH g1 (x.ps.length + 1) cap1), (15, aH g1 (x.ps.length + 1) cap1), (16, aA (x.ps.length + 1)), (17, aA i), (21, aH og i oc), (24, aH z8 1 1)] [(z8, .cells #[.string (⟨m2.name.toArray⟩)] 9 (0, 0)), (z7, .cells #[.string (⟨m2.name.toArray⟩), aX m2.ty, aX m2.flags, aJ m2.addr, aX m2.link, aX m2.info, aJ m2.align, aJ m2.ent, aJ m2.size, .slice m2.A m2.data.length m2.c] 46 (0, 0)), (og, .cells ok 9 (0, 0)), (g1, .cells qJ 46 (0, 0))] (by kernel_rfl) fun a w HF HM => ?_
  clear hz8
  refine iG HF HM rfl _ _ 38 38 rfl rfl 9 (z := .string (⟨#[]⟩ : ByteArray)) (size := 1) (bytes := 16) Tryd.underlying38 (by kernel_rfl) rfl (by decide) 2 og i oc ok rfl rfl Ez F8 F6 (((lH x).take i).map (fun p => uO p.name)) Ey (aH z8 1 1) 1 [.string (⟨m2.name.toArray⟩)] rfl (mY Tryd.underlying38 rfl (by decide) (HM.rowAt (i := 0) rfl) (o9 rfl)) (by unfold maxLen; omega) (by omega) ?_
  intro a w2 g3 cap3 qI bU x9 hsz3 Ed Gx HF2; clear HF HM
  replace x9 : qI.toList.take ((i + 1) * 1) = ((lH x).take (i + 1)).map (fun p => uO p.name) := x9.trans (by rw [wX hm2, List.map_append]; rfl)
  have HM : Mm [] w0 w2 [(z8, .cells #[.string (⟨m2.name.toArray⟩)] 9 (0, 0)), (z7, .cells #[.string (⟨m2.name.toArray⟩), aX m2.ty, aX m2.flags, aJ m2.addr, aX m2.link, aX m2.info, aJ m2.align, aJ m2.ent, aJ m2.size, .slice m2.A m2.data.length m2.c] 46 (0, 0)), (g3, .cells qI 9 (0, 0)), (g1, .cells qJ 46 (0, 0))] := bU
  have HF := HF2.sub [(3, aH g1 (x.ps.length + 1) cap1), (15, aH g1 (x.ps.length + 1) cap1), (16, aA (x.ps.length + 1)), (17, aA i), (25, aH g3 (i + 1) cap3)] (by kernel_rfl); clear bU HF2
  refine wp_pure HF HM rfl 1 [] ((wu g1 x cap1 g3 i cap3) ++ [(17, aA i)]) (by kernel_rfl) fun a HF => ?_
  refine wpList_nil ?_
  repeat first | refine aQ ?_ | refine aU ?_
  refine wp_region_lit ?_
  refine wp_pure HF HM rfl 1 [] ((wu g1 x cap1 g3 i cap3) ++ [(26, ay (IntKind.i64.wrap (((i : Nat) : Int) + 1)))]) (by kernel_rfl) fun a HF => ?_
  rw [show IntKind.i64.wrap (((i : Nat) : Int) + 1) = (((i + 1) : Nat) : Int) from (IntWalk.i64_in _ (by omega)).trans (by omega)] at HF
  refine wp_pure HF HM rfl 1 [] ((wu g1 x cap1 g3 i cap3) ++ [(17, aA (i + 1))]) (by kernel_rfl) fun a HF => ?_
  refine wpList_nil ?_
  repeat first | refine aQ ?_ | refine aU ?_
  exact KR _ _ (⟨g3, cap3, qI, x9, hsz3, Ed, Gx, (HM.pick [2, 3] [(g3, .cells qI 9 (0, 0)), (g1, .cells qJ 46 (0, 0))] rfl (by decide)), HF.sub ((wu g1 x cap1 g3 i cap3) ++ [(17, aA (i + 1))]) (by kernel_rfl)⟩)
 ·intro a w KX hI
  obtain ⟨og, oc, ok, Ey, F6, Ez, F8, HM, HF⟩ := hI
  refine aY ?_
  refine wp_pure HF HM rfl 1 [] [(3, aH g1 (x.ps.length + 1) cap1), (4, aH og (x.ps.length + 1) oc), (15, aH g1 (x.ps.length + 1) cap1), (16, aA (x.ps.length + 1)), (17, aA (x.ps.length + 1)), (18, .bool (decide ((((x.ps.length + 1) : Nat) : Int) < (((x.ps.length + 1) : Nat) : Int))))] (by kernel_rfl) fun a HF => ?_
  refine aI ?_
  refine wp_seq ?_
  rw [show decide ((((x.ps.length + 1) : Nat) : Int) < (((x.ps.length + 1) : Nat) : Int)) = false from dI (by omega)] at HF
  refine aZ HF rfl ?_
  refine wp_exit ?_
  repeat (first | refine iW ?_ | refine kE rfl ?_)
  refine kL ?_
  repeat first | refine aQ ?_ | refine aU ?_
  refine aY ?_
  obtain ⟨z13, Gm⟩ : ∃ z, w.heap.size = z := ⟨_, rfl⟩
  refine aO HF HM Gm 2 [] [(3, aH g1 (x.ps.length + 1) cap1), (28, aH og (x.ps.length + 1) oc), (29, aH z13 1 1)] [uj z13, (og, .cells ok 9 (0, 0)), (g1, .cells qJ 46 (0, 0))] (by kernel_rfl) fun a w HF HM => ?_
  clear Gm
  refine iG HF HM rfl _ _ 38 38 rfl rfl 9 (z := .string (⟨#[]⟩ : ByteArray)) (size := 1) (bytes := 16) Tryd.underlying38 (by kernel_rfl) rfl (by decide) 1 og (x.ps.length + 1) oc ok rfl rfl Ez F8 F6 (((lH x).take (x.ps.length + 1)).map (fun p => uO p.name)) Ey (aH z13 1 1) 1 [.string (⟨#[46, 115, 104, 115, 116, 114, 116, 97, 98]⟩ : ByteArray)] rfl (mY Tryd.underlying38 rfl (by decide) (HM.rowAt (i := 0) rfl) (o9 rfl)) (by unfold maxLen; omega) (by omega) ?_
  intro a w3 g4 cap4 yh bU xZ hsz4 Gt hcm4 HF2; clear HF HM
  rw [show (x.ps.length + 1) + 1 = (x.ps.length + 2) from by omega] at HF2 xZ Gt
  replace xZ : yh.toList.take ((x.ps.length + 2) * 1) = x.img.names.map uO := xZ.trans (by rw [wI, ← yG, List.take_length, List.map_append, List.map_map]; rfl)
  have HM : Mm [] w0 w3 [uj z13, (g4, .cells yh 9 (0, 0)), (g1, .cells qJ 46 (0, 0))] := bU
  have HF := HF2.sub [(3, aH g1 (x.ps.length + 1) cap1), (30, aH g4 (x.ps.length + 2) cap4)] (by kernel_rfl); clear bU HF2
  refine bn HF (by kernel_rfl) 65 #[aH g4 (x.ps.length + 2) cap4] (by kernel_rfl) (fun w => by kernel_rfl) (Calls.mono (EC x.img.names _ _ _ (by rw [AO]) w3 (HM.lI (i := 1) rfl xZ) hnb (by omega)) ?_)
  rintro _ w4 ⟨gt, bY, iK, g3, cap3, qI, rfl, hb, ho, ho3, hne⟩
  replace HM : Mm [] w0 w4 [(gt, .cells iK 5 (0, 0)), uj z13, (g4, .cells yh 9 (0, 0)), (g1, .cells qJ 46 (0, 0))] := HM.push hb ho.new ho.obj
  refine ⟨_, rfl, ?_⟩; clear HF; intro a HF
  refine wp_pure HF HM rfl 5 [] [(3, aH g1 (x.ps.length + 1) cap1), (7, aH gt ((dA x.img.names).length) bY)] (by kernel_rfl) fun a HF => ?_
  refine dM ?_
  obtain ⟨rY, AQ⟩ : ∃ z, w4.heap.size = z := ⟨_, rfl⟩
  refine aO HF HM AQ 4 [] [(34, aH g1 (x.ps.length + 1) cap1), (37, aH rY 1 1)] [DU rY gt x bY, (gt, .cells iK 5 (0, 0)), uj z13, (g4, .cells yh 9 (0, 0)), (g1, .cells qJ 46 (0, 0))] (by kernel_rfl) fun a w HF HM => ?_
  clear AQ
  refine iG HF HM rfl _ _ 24 24 rfl rfl 46 (z := .agg #[.string (⟨#[]⟩ : ByteArray), lJ 0, lJ 0, bG 0, lJ 0, lJ 0, bG 0, bG 0, bG 0, aN]) (size := 10) (bytes := 88) Tryd.underlying24 (by kernel_rfl) rfl (by decide) 4 g1 (x.ps.length + 1) cap1 qJ rfl rfl Gu hcm1 hsz1 ((lH x).flatMap fP.cells) Gp (aH rY 1 1) 1 [.string (⟨#[46, 115, 104, 115, 116, 114, 116, 97, 98]⟩ : ByteArray), lJ 3, lJ 0, bG 0, lJ 0, lJ 0, bG 1, bG 0, bG 0, aH gt ((dA x.img.names).length) bY] rfl (mY Tryd.underlying24 rfl (by decide) (HM.rowAt (i := 0) rfl) (o9 rfl)) (by unfold maxLen; omega) (by omega) ?_
  intro a w5 g5 cap5 zO bU zN hsz5 Ec Ju HF2; clear HF HM
  rw [show (x.ps.length + 1) + 1 = (x.ps.length + 2) from by omega] at HF2 zN Ec
  replace zN : zO.toList.take ((x.ps.length + 2) * 10) = (allM x gt bY).flatMap fP.cells := zN.trans (by unfold allM; rw [List.flatMap_append]; rfl)
  have HM : Mm [] w0 w5 [DU rY gt x bY, (gt, .cells iK 5 (0, 0)), uj z13, (g4, .cells yh 9 (0, 0)), (g5, .cells zO 46 (0, 0))] := bU
  have HF := HF2.sub [(38, aH g5 (x.ps.length + 2) cap5)] (by kernel_rfl); clear bU HF2
  refine wp_pure HF HM rfl 1 [] [(2, aH g5 (x.ps.length + 2) cap5)] (by kernel_rfl) fun a HF => ?_
  refine aI ?_
  refine wp_ret ?_
  repeat first | refine bV ?_ | refine dh ?_
  exact dH HF rfl rfl ⟨g5, cap5, zO, gt, bY, iK, rfl, HM.below, ⟨HM.ge (i := 4) rfl, HM.get (i := 4) rfl, zN, hsz5, Ec, Ju⟩, ⟨HM.ge (i := 1) rfl, HM.get (i := 1) rfl, ho.tk, ho.sz, ho.nc, ho.cm⟩, HM.ne (i := 4) (j := 1) rfl rfl (by decide)⟩

end Go.Proofs.YtdgehpocmfjbiaaDoor
namespace Go.Proofs.YtdgehpocmfjbiaaDoor
open Go.RowKit

def oN (wide big : Bool) (abi aF : Nat) : List UInt8 := [127, 69, 76, 70, if wide then 2 else 1, if big then 2 else 1, 1, UInt8.ofNat abi, UInt8.ofNat aF] ++ List.replicate 7 0
theorem wW {n : Nat} (h : n < 256) : Bv (UInt8.ofNat n) = aV n := by
 rw [zQ]
 have : ((n : Nat) : Int) % 256 = (n : Int) := by omega
 rw [this]
theorem Ii (wide big : Bool) (abi aF : Nat) (h1 : abi < 256) (h2 : aF < 256) :
  (#[.int .u8 127, .int .u8 69, .int .u8 76, .int .u8 70, .int .u8 (if wide then 2 else 1), .int .u8 (if big then 2 else 1), .int .u8 1, aV abi, aV aF] : Array Value).toList ++ List.replicate 7 (.int .u8 0) = (oN wide big abi aF).map Bv := by
 unfold oN
 rw [List.map_append, List.map_replicate]
 simp only [List.map_cons, List.map_nil]
 rw [wW h1, wW h2]
 cases wide <;> cases big <;> rfl

abbrev kW := fun z1 (x : dN) => ((z1, .cells #[.bool x.wide, .bool x.big, aV x.abi, aV x.aF, .int .i64 x.ty, .int .i64 x.machine, aJ x.entry, .slice x.A x.ss.length x.c, .slice x.B x.ps.length x.d] 26 (0, 0)) : Nat × Obj)
abbrev rJ := fun (cO : Nat) (at_ : Nat) (m : Nat) (kH : Nat) z1 => ([(1, aA cO), (2, aA at_), (3, aA m), (4, aA kH), (5, aC z1)] : Slots)
abbrev dL := fun (cO : Nat) (at_ : Nat) (m : Nat) (kH : Nat) z1 (x : dN) => ((rJ cO at_ m kH z1) ++ [(11, aA (fF x.wide)), (12, aA (gQ x.wide)), (13, aA (h_ x.wide))] : Slots)
abbrev rM := fun z11 (x : dN) => ((z11, .cells #[aK 127, aK 69, aK 76, aK 70, aK (if x.wide then 2 else 1), aK (if x.big then 2 else 1), aK 1, aV x.abi, aV x.aF] 5 (0, 0)) : Nat × Obj)
abbrev pU := fun (cO : Nat) (m : Nat) (x : dN) z5 => ([(1, aA cO), (3, aA m), (11, aA (fF x.wide)), (12, aA (gQ x.wide)), (13, aA (h_ x.wide)), (14, aC z5)] : Slots)
theorem EY (x : dN) (cO at_ m kH : Nat) (hsg : cO ≤ 1000000) (hat : at_ ≤ 4000000000) (hm1 : 1 ≤ m) (hm : m ≤ 1000000) (hfr : kH ≤ 4000000000) (ht0 : 0 ≤ x.ty) (ht1 : x.ty ≤ 65535) (hm0 : 0 ≤ x.machine) (hm9 : x.machine ≤ 65535) (w0 : World) (h : x.At w0) :
  Calls Tryd.prog 66 #[x.val, aA cO, aA at_, aA m, aA kH] w0 fun e w' => ∃ g cap cur, e = .returned (aH g (headB x.wide x.big x.abi x.aF x.ty.toNat x.machine.toNat x.entry cO at_ m kH).length cap) ∧ Below w0.heap.size w0 w' ∧ Own w0.heap.size w' 5 1 g (headB x.wide x.big x.abi x.aF x.ty.toNat x.machine.toNat x.entry cO at_ m kH).length cap cur ((headB x.wide x.big x.abi x.aF x.ty.toNat x.machine.toNat x.entry cO at_ m kH).map Bv) := by
 have hty : x.ty = ((x.ty.toNat : Nat) : Int) := by omega
 have hmc : x.machine = ((x.machine.toNat : Nat) : Int) := by omega
 have hsz : fF x.wide ≤ 64 ∧ gQ x.wide ≤ 64 ∧ h_ x.wide ≤ 64 := by unfold fF gQ h_; cases x.wide <;> decide
 have hent := h.entry
 obtain ⟨w, hw⟩ : ∃ w, w0 = w := ⟨_, rfl⟩
 have HM : Mm [] w0 w [] := hw ▸ Mm.start w0
 conv => arg 4; rw [hw]
 clear hw
 refine dD Tryd.func66 rfl Tryd.ntmps66 [(0, .agg #[.bool x.wide, .bool x.big, aV x.abi, aV x.aF, .int .i64 x.ty, .int .i64 x.machine, aJ x.entry, .slice x.A x.ss.length x.c, .slice x.B x.ps.length x.d]), (1, aA cO), (2, aA at_), (3, aA m), (4, aA kH)] (by kernel_rfl) (Nat.le_of_ble_eq_true rfl) ?_
 intro a HF
 refine aY ?_
 obtain ⟨z1, hz1⟩ : ∃ z, w.heap.size = z := ⟨_, rfl⟩
 refine aO HF HM hz1 2 [] (rJ cO at_ m kH z1) [kW z1 x] (by kernel_rfl) fun a w HF HM => ?_
 clear hz1
 refine dM ?_
 obtain ⟨z2, hz2⟩ : ∃ z, w.heap.size = z := ⟨_, rfl⟩
 refine wp_pure HF HM hz2 2 [[0]] ((rJ cO at_ m kH z1) ++ [(19, .bool x.wide)]) (by kernel_rfl) fun a HF => ?_
 clear hz2
 refine bn HF (by kernel_rfl) 64 #[.bool x.wide] (by kernel_rfl) (fun w => by kernel_rfl) (Calls.mono (Ep x.wide w) ?_)
 rintro _ w1 ⟨rfl, hb⟩
 replace HM := HM.call hb
 clear hb
 refine ⟨_, rfl, ?_⟩; clear HF; intro a HF
 refine wp_pure HF HM rfl 7 [] (dL cO at_ m kH z1 x) (by kernel_rfl) fun a HF => ?_
 refine dM ?_
 obtain ⟨z4, nH⟩ : ∃ z, w1.heap.size = z := ⟨_, rfl⟩
 refine wp_pure HF HM nH 5 [[0], [0]] ((dL cO at_ m kH z1 x) ++ [(28, .agg #[.bool x.wide, .bool x.big, aN])]) (by kernel_rfl) fun a HF => ?_
 clear nH
 obtain ⟨z5, uT⟩ : ∃ z, w1.heap.size = z := ⟨_, rfl⟩
 have hzl : z1 < z5 := uT ▸ HM.lt (i := 0) rfl
 have hge : w0.heap.size ≤ z5 := uT ▸ HM.size
 refine aO HF HM uT 2 [] ((dL cO at_ m kH z1 x) ++ [(14, aC z5)]) [(z5, .cells #[.bool x.wide, .bool x.big, aN] 169 (0, 0)), kW z1 x] (by kernel_rfl) fun a w HF HM => ?_
 clear uT
 refine dM ?_
 refine wp_pure HF HM rfl 2 [] ((dL cO at_ m kH z1 x) ++ [(14, aC z5), (15, aK 1), (16, aK 1)]) (by kernel_rfl) fun a HF => ?_
 refine aI ?_
 refine wp_seq ?_
 refine aY ?_
 refine wp_pure HF HM rfl 2 [[0]] ((dL cO at_ m kH z1 x) ++ [(14, aC z5), (15, aK 1), (16, aK 1), (31, .bool x.wide)]) (by kernel_rfl) fun a HF => ?_
 refine aI ?_
 refine yI (fun a w => (Mm [] w0 w [(z5, .cells #[.bool x.wide, .bool x.big, aN] 169 (0, 0)), kW z1 x] ∧ Fr 100 a ((dL cO at_ m kH z1 x) ++ [(14, aC z5), (15, aK (if x.wide then 2 else 1)), (16, aK 1)]))) ?_ ?_
 ·rcases kY x.wide with hc1 | hc1
  ·replace HF := Fr.sub (Fr.tell HF 31 rfl (congrArg Value.bool hc1)) ((dL cO at_ m kH z1 x) ++ [(14, aC z5), (15, aK 1), (16, aK 1), (31, .bool false)]) (by kernel_rfl)
   refine aZ HF rfl ?_
   refine wp_skip ?_
   repeat first | refine aQ ?_ | refine aU ?_
   exact ⟨HM, (by rw [show (if x.wide then 2 else 1 : Int) = 1 from by rw [hc1]; rfl]; exact HF.sub ((dL cO at_ m kH z1 x) ++ [(14, aC z5), (15, aK 1), (16, aK 1)]) (by kernel_rfl))⟩
  replace HF := Fr.sub (Fr.tell HF 31 rfl (congrArg Value.bool hc1)) ((dL cO at_ m kH z1 x) ++ [(14, aC z5), (15, aK 1), (16, aK 1), (31, .bool true)]) (by kernel_rfl)
  refine bF HF rfl ?_
  refine wp_region_lit ?_
  refine wp_pure HF HM rfl 1 [] ((dL cO at_ m kH z1 x) ++ [(14, aC z5), (15, aK 2), (16, aK 1)]) (by kernel_rfl) fun a HF => ?_
  refine wpList_nil ?_
  repeat first | refine aQ ?_ | refine aU ?_
  exact ⟨HM, (by rw [show (if x.wide then 2 else 1 : Int) = 2 from by rw [hc1]; rfl]; exact HF.sub ((dL cO at_ m kH z1 x) ++ [(14, aC z5), (15, aK 2), (16, aK 1)]) (by kernel_rfl))⟩
 rintro a w ⟨HM, HF⟩
 repeat first | refine aQ ?_ | refine aU ?_
 refine wp_seq ?_
 refine aY ?_
 refine wp_pure HF HM rfl 2 [[0]] ((dL cO at_ m kH z1 x) ++ [(14, aC z5), (15, aK (if x.wide then 2 else 1)), (16, aK 1), (33, .bool x.big)]) (by kernel_rfl) fun a HF => ?_
 refine aI ?_
 refine yI (fun a w => (Mm [] w0 w [(z5, .cells #[.bool x.wide, .bool x.big, aN] 169 (0, 0)), kW z1 x] ∧ Fr 100 a ((dL cO at_ m kH z1 x) ++ [(14, aC z5), (15, aK (if x.wide then 2 else 1)), (16, aK (if x.big then 2 else 1))]))) ?_ ?_
 ·rcases kY x.big with hc2 | hc2
  ·replace HF := Fr.sub (Fr.tell HF 33 rfl (congrArg Value.bool hc2)) ((dL cO at_ m kH z1 x) ++ [(14, aC z5), (15, aK (if x.wide then 2 else 1)), (16, aK 1), (33, .bool false)]) (by kernel_rfl)
   refine aZ HF rfl ?_
   refine wp_skip ?_
   repeat first | refine aQ ?_ | refine aU ?_
   exact ⟨HM, (by rw [show (if x.big then 2 else 1 : Int) = 1 from by rw [hc2]; rfl]; exact HF.sub ((dL cO at_ m kH z1 x) ++ [(14, aC z5), (15, aK (if x.wide then 2 else 1)), (16, aK 1)]) (by kernel_rfl))⟩
  replace HF := Fr.sub (Fr.tell HF 33 rfl (congrArg Value.bool hc2)) ((dL cO at_ m kH z1 x) ++ [(14, aC z5), (15, aK (if x.wide then 2 else 1)), (16, aK 1), (33, .bool true)]) (by kernel_rfl)
  refine bF HF rfl ?_
  refine wp_region_lit ?_
  refine wp_pure HF HM rfl 1 [] ((dL cO at_ m kH z1 x) ++ [(14, aC z5), (15, aK (if x.wide then 2 else 1)), (16, aK 2)]) (by kernel_rfl) fun a HF => ?_
  refine wpList_nil ?_
  repeat first | refine aQ ?_ | refine aU ?_
  exact ⟨HM, (by rw [show (if x.big then 2 else 1 : Int) = 2 from by rw [hc2]; rfl]; exact HF.sub ((dL cO at_ m kH z1 x) ++ [(14, aC z5), (15, aK (if x.wide then 2 else 1)), (16, aK 2)]) (by kernel_rfl))⟩
 rintro a w ⟨HM, HF⟩
 repeat first | refine aQ ?_ | refine aU ?_
 refine aY ?_
 obtain ⟨z11, Gn⟩ : ∃ z, w.heap.size = z := ⟨_, rfl⟩
 refine aO HF HM Gn 8 [[0], [0]] ((dL cO at_ m kH z1 x) ++ [(14, aC z5), (34, aC z5), (41, aH z11 9 9)]) [rM z11 x, (z5, .cells #[.bool x.wide, .bool x.big, aN] 169 (0, 0)), kW z1 x] (by kernel_rfl) fun a w HF HM => ?_
 clear Gn
 have hgl := HM.lt (i := 1) rfl
 refine Dn HF HM rfl _ _ 33 3 rfl rfl 5 Tryd.underlying33 Tryd.underlying3 (by kernel_rfl) 0 z11 9 #[aK 127, aK 69, aK 76, aK 70, aK (if x.wide then 2 else 1), aK (if x.big then 2 else 1), aK 1, aV x.abi, aV x.aF] rfl rfl rfl 7 (by omega) (by omega) (by omega) rfl ?_
 intro a w2 gz L8 LZ bU hgz tkz szz ncz cmz HF2; clear HF HM
 have HM : Mm [] w0 w2 [(gz, .cells LZ 5 (0, 0)), rM z11 x, (z5, .cells #[.bool x.wide, .bool x.big, aN] 169 (0, 0)), kW z1 x] := bU
 have HF := HF2.sub ((dL cO at_ m kH z1 x) ++ [(14, aC z5), (34, aC z5), (42, aH gz 16 L8)]) (by kernel_rfl); clear bU HF2
 refine aO HF HM rfl 3 [[1]] ((dL cO at_ m kH z1 x) ++ [(14, aC z5)]) [(gz, .cells LZ 5 (0, 0)), rM z11 x, (z5, .cells #[.bool x.wide, .bool x.big, aH gz 16 L8] 169 (0, 0)), kW z1 x] (by kernel_rfl) fun a w HF HM => ?_
 have HR : nJ w z5 x.wide x.big (oN x.wide x.big x.abi x.aF) := ⟨_, HM.get (i := 2) rfl, by rw [List.length_map]; rfl, .inr ⟨gz, L8, LZ, rfl, by omega, HM.get (i := 0) rfl, ncz, cmz, szz, tkz.trans (Ii x.wide x.big x.abi x.aF h.abi h.aF)⟩⟩
 replace HM := HM.pick [3] [kW z1 x] rfl (by decide)
 refine dM ?_
 refine wp_pure HF HM rfl 4 [[0]] [(1, aA cO), (2, aA at_), (3, aA m), (4, aA kH), (5, aC z1), (11, aA (fF x.wide)), (12, aA (gQ x.wide)), (13, aA (h_ x.wide)), (14, aC z5), (45, aC z5), (48, bG (IntKind.u64.wrap x.ty))] (by kernel_rfl) fun a HF => ?_
 rw [show IntKind.u64.wrap x.ty = x.ty from IntWalk.u64_in _ (by omega)] at HF
 rw [hty] at HF
 refine bn HF (by kernel_rfl) 73 #[aC z5, aJ x.ty.toNat, ay 2] (by kernel_rfl) (fun w => by kernel_rfl) (Calls.mono (put_any z5 x.ty.toNat 2 x.big x.wide _ (by omega) (by have hz := bP x.wide 0 (by omega); have hz2 := bP x.wide 2 (by omega); have nH := bP x.wide 4 (by omega); simp only [List.length_append, bK, oN, List.length_cons, List.length_nil, List.length_replicate]; omega) w HR) ?_)
 rintro _ w3 ⟨rfl, HR2, hb⟩
 replace HM := HM.oW hb (by intro p hp; rw [List.mem_singleton] at hp; subst hp; exact hzl) hge
 clear HR; have HR := HR2; clear HR2 hb
 refine ⟨_, rfl, ?_⟩; clear HF; intro a HF
 replace HF := HF.sub ((dL cO at_ m kH z1 x) ++ [(14, aC z5)]) (by kernel_rfl)
 refine dM ?_
 refine wp_pure HF HM rfl 4 [[0]] [(1, aA cO), (2, aA at_), (3, aA m), (4, aA kH), (5, aC z1), (11, aA (fF x.wide)), (12, aA (gQ x.wide)), (13, aA (h_ x.wide)), (14, aC z5), (50, aC z5), (53, bG (IntKind.u64.wrap x.machine))] (by kernel_rfl) fun a HF => ?_
 rw [show IntKind.u64.wrap x.machine = x.machine from IntWalk.u64_in _ (by omega)] at HF
 rw [hmc] at HF
 refine bn HF (by kernel_rfl) 73 #[aC z5, aJ x.machine.toNat, ay 2] (by kernel_rfl) (fun w => by kernel_rfl) (Calls.mono (put_any z5 x.machine.toNat 2 x.big x.wide _ (by omega) (by have hz := bP x.wide 0 (by omega); have hz2 := bP x.wide 2 (by omega); have nH := bP x.wide 4 (by omega); simp only [List.length_append, bK, oN, List.length_cons, List.length_nil, List.length_replicate]; omega) w3 HR) ?_)
 rintro _ w4 ⟨rfl, HR2, hb⟩
 replace HM := HM.oW hb (by intro p hp; rw [List.mem_singleton] at hp; subst hp; exact hzl) hge
 clear HR; have HR := HR2; clear HR2 hb
 refine ⟨_, rfl, ?_⟩; clear HF; intro a HF
 replace HF := HF.sub ((dL cO at_ m kH z1 x) ++ [(14, aC z5)]) (by kernel_rfl)
 refine dM ?_
 refine wp_pure HF HM rfl 1 [] ((dL cO at_ m kH z1 x) ++ [(14, aC z5), (55, aC z5)]) (by kernel_rfl) fun a HF => ?_
 refine bn HF (by kernel_rfl) 73 #[aC z5, bG 1, ay 4] (by kernel_rfl) (fun w => by kernel_rfl) (Calls.mono (put_any z5 1 4 x.big x.wide _ (by omega) (by have hz := bP x.wide 0 (by omega); have hz2 := bP x.wide 2 (by omega); have nH := bP x.wide 4 (by omega); simp only [List.length_append, bK, oN, List.length_cons, List.length_nil, List.length_replicate]; omega) w4 HR) ?_)
 rintro _ w5 ⟨rfl, HR2, hb⟩
 replace HM := HM.oW hb (by intro p hp; rw [List.mem_singleton] at hp; subst hp; exact hzl) hge
 clear HR; have HR := HR2; clear HR2 hb
 refine ⟨_, rfl, ?_⟩; clear HF; intro a HF
 replace HF := HF.sub ((dL cO at_ m kH z1 x) ++ [(14, aC z5)]) (by kernel_rfl)
 refine dM ?_
 refine wp_pure HF HM rfl 3 [[0]] [(1, aA cO), (2, aA at_), (3, aA m), (4, aA kH), (11, aA (fF x.wide)), (12, aA (gQ x.wide)), (13, aA (h_ x.wide)), (14, aC z5), (57, aC z5), (59, aJ x.entry)] (by kernel_rfl) fun a HF => ?_
 refine bn HF (by kernel_rfl) 73 #[aC z5, aJ x.entry, ay 0] (by kernel_rfl) (fun w => by kernel_rfl) (Calls.mono (put_any z5 x.entry 0 x.big x.wide _ (by omega) (by have hz := bP x.wide 0 (by omega); have hz2 := bP x.wide 2 (by omega); have nH := bP x.wide 4 (by omega); simp only [List.length_append, bK, oN, List.length_cons, List.length_nil, List.length_replicate]; omega) w5 HR) ?_)
 rintro _ w6 ⟨rfl, HR2, hb⟩
 replace HM := HM.oW hb (by intro p hp; rw [List.mem_singleton] at hp; subst hp; exact hzl) hge
 clear HR; have HR := HR2; clear HR2 hb
 refine ⟨_, rfl, ?_⟩; clear HF; intro a HF
 replace HF := HF.sub [(1, aA cO), (2, aA at_), (3, aA m), (4, aA kH), (11, aA (fF x.wide)), (12, aA (gQ x.wide)), (13, aA (h_ x.wide)), (14, aC z5)] (by kernel_rfl)
 refine dM ?_
 refine wp_pure HF HM rfl 3 [] [(1, aA cO), (3, aA m), (4, aA kH), (11, aA (fF x.wide)), (12, aA (gQ x.wide)), (13, aA (h_ x.wide)), (14, aC z5), (61, aC z5), (63, bG (IntKind.u64.wrap ((at_ : Nat) : Int)))] (by kernel_rfl) fun a HF => ?_
 rw [show IntKind.u64.wrap ((at_ : Nat) : Int) = ((at_ : Nat) : Int) from IntWalk.u64_in _ (by omega)] at HF
 refine bn HF (by kernel_rfl) 73 #[aC z5, aJ at_, ay 0] (by kernel_rfl) (fun w => by kernel_rfl) (Calls.mono (put_any z5 at_ 0 x.big x.wide _ (by omega) (by have hz := bP x.wide 0 (by omega); have hz2 := bP x.wide 2 (by omega); have nH := bP x.wide 4 (by omega); simp only [List.length_append, bK, oN, List.length_cons, List.length_nil, List.length_replicate]; omega) w6 HR) ?_)
 rintro _ w7 ⟨rfl, HR2, hb⟩
 replace HM := HM.oW hb (by intro p hp; rw [List.mem_singleton] at hp; subst hp; exact hzl) hge
 clear HR; have HR := HR2; clear HR2 hb
 refine ⟨_, rfl, ?_⟩; clear HF; intro a HF
 replace HF := HF.sub [(1, aA cO), (3, aA m), (4, aA kH), (11, aA (fF x.wide)), (12, aA (gQ x.wide)), (13, aA (h_ x.wide)), (14, aC z5)] (by kernel_rfl)
 refine dM ?_
 refine wp_pure HF HM rfl 3 [] ((pU cO m x z5) ++ [(65, aC z5), (67, bG (IntKind.u64.wrap ((kH : Nat) : Int)))]) (by kernel_rfl) fun a HF => ?_
 rw [show IntKind.u64.wrap ((kH : Nat) : Int) = ((kH : Nat) : Int) from IntWalk.u64_in _ (by omega)] at HF
 refine bn HF (by kernel_rfl) 73 #[aC z5, aJ kH, ay 0] (by kernel_rfl) (fun w => by kernel_rfl) (Calls.mono (put_any z5 kH 0 x.big x.wide _ (by omega) (by have hz := bP x.wide 0 (by omega); have hz2 := bP x.wide 2 (by omega); have nH := bP x.wide 4 (by omega); simp only [List.length_append, bK, oN, List.length_cons, List.length_nil, List.length_replicate]; omega) w7 HR) ?_)
 rintro _ w8 ⟨rfl, HR2, hb⟩
 replace HM := HM.oW hb (by intro p hp; rw [List.mem_singleton] at hp; subst hp; exact hzl) hge
 clear HR; have HR := HR2; clear HR2 hb
 refine ⟨_, rfl, ?_⟩; clear HF; intro a HF
 replace HF := HF.sub (pU cO m x z5) (by kernel_rfl)
 refine dM ?_
 refine wp_pure HF HM rfl 1 [] ((pU cO m x z5) ++ [(69, aC z5)]) (by kernel_rfl) fun a HF => ?_
 refine bn HF (by kernel_rfl) 73 #[aC z5, bG 0, ay 4] (by kernel_rfl) (fun w => by kernel_rfl) (Calls.mono (put_any z5 0 4 x.big x.wide _ (by omega) (by have hz := bP x.wide 0 (by omega); have hz2 := bP x.wide 2 (by omega); have nH := bP x.wide 4 (by omega); simp only [List.length_append, bK, oN, List.length_cons, List.length_nil, List.length_replicate]; omega) w8 HR) ?_)
 rintro _ w9 ⟨rfl, HR2, hb⟩
 replace HM := HM.oW hb (by intro p hp; rw [List.mem_singleton] at hp; subst hp; exact hzl) hge
 clear HR; have HR := HR2; clear HR2 hb
 refine ⟨_, rfl, ?_⟩; clear HF; intro a HF
 replace HF := HF.sub (pU cO m x z5) (by kernel_rfl)
 refine dM ?_
 refine wp_pure HF HM rfl 3 [] [(1, aA cO), (3, aA m), (12, aA (gQ x.wide)), (13, aA (h_ x.wide)), (14, aC z5), (71, aC z5), (73, bG (IntKind.u64.wrap (((fF x.wide) : Nat) : Int)))] (by kernel_rfl) fun a HF => ?_
 rw [show IntKind.u64.wrap (((fF x.wide) : Nat) : Int) = (((fF x.wide) : Nat) : Int) from IntWalk.u64_in _ (by omega)] at HF
 refine bn HF (by kernel_rfl) 73 #[aC z5, aJ (fF x.wide), ay 2] (by kernel_rfl) (fun w => by kernel_rfl) (Calls.mono (put_any z5 (fF x.wide) 2 x.big x.wide _ (by omega) (by have hz := bP x.wide 0 (by omega); have hz2 := bP x.wide 2 (by omega); have nH := bP x.wide 4 (by omega); simp only [List.length_append, bK, oN, List.length_cons, List.length_nil, List.length_replicate]; omega) w9 HR) ?_)
 rintro _ w10 ⟨rfl, HR2, hb⟩
 replace HM := HM.oW hb (by intro p hp; rw [List.mem_singleton] at hp; subst hp; exact hzl) hge
 clear HR; have HR := HR2; clear HR2 hb
 refine ⟨_, rfl, ?_⟩; clear HF; intro a HF
 replace HF := HF.sub [(1, aA cO), (3, aA m), (12, aA (gQ x.wide)), (13, aA (h_ x.wide)), (14, aC z5)] (by kernel_rfl)
 refine dM ?_
 refine wp_pure HF HM rfl 3 [] [(1, aA cO), (3, aA m), (13, aA (h_ x.wide)), (14, aC z5), (75, aC z5), (77, bG (IntKind.u64.wrap (((gQ x.wide) : Nat) : Int)))] (by kernel_rfl) fun a HF => ?_
 rw [show IntKind.u64.wrap (((gQ x.wide) : Nat) : Int) = (((gQ x.wide) : Nat) : Int) from IntWalk.u64_in _ (by omega)] at HF
 refine bn HF (by kernel_rfl) 73 #[aC z5, aJ (gQ x.wide), ay 2] (by kernel_rfl) (fun w => by kernel_rfl) (Calls.mono (put_any z5 (gQ x.wide) 2 x.big x.wide _ (by omega) (by have hz := bP x.wide 0 (by omega); have hz2 := bP x.wide 2 (by omega); have nH := bP x.wide 4 (by omega); simp only [List.length_append, bK, oN, List.length_cons, List.length_nil, List.length_replicate]; omega) w10 HR) ?_)
 rintro _ rZ ⟨rfl, HR2, hb⟩
 replace HM := HM.oW hb (by intro p hp; rw [List.mem_singleton] at hp; subst hp; exact hzl) hge
 clear HR; have HR := HR2; clear HR2 hb
 refine ⟨_, rfl, ?_⟩; clear HF; intro a HF
 replace HF := HF.sub [(1, aA cO), (3, aA m), (13, aA (h_ x.wide)), (14, aC z5)] (by kernel_rfl)
 refine dM ?_
 refine wp_pure HF HM rfl 3 [] [(3, aA m), (13, aA (h_ x.wide)), (14, aC z5), (79, aC z5), (81, bG (IntKind.u64.wrap ((cO : Nat) : Int)))] (by kernel_rfl) fun a HF => ?_
 rw [show IntKind.u64.wrap ((cO : Nat) : Int) = ((cO : Nat) : Int) from IntWalk.u64_in _ (by omega)] at HF
 refine bn HF (by kernel_rfl) 73 #[aC z5, aJ cO, ay 2] (by kernel_rfl) (fun w => by kernel_rfl) (Calls.mono (put_any z5 cO 2 x.big x.wide _ (by omega) (by have hz := bP x.wide 0 (by omega); have hz2 := bP x.wide 2 (by omega); have nH := bP x.wide 4 (by omega); simp only [List.length_append, bK, oN, List.length_cons, List.length_nil, List.length_replicate]; omega) rZ HR) ?_)
 rintro _ w12 ⟨rfl, HR2, hb⟩
 replace HM := HM.oW hb (by intro p hp; rw [List.mem_singleton] at hp; subst hp; exact hzl) hge
 clear HR; have HR := HR2; clear HR2 hb
 refine ⟨_, rfl, ?_⟩; clear HF; intro a HF
 replace HF := HF.sub [(3, aA m), (13, aA (h_ x.wide)), (14, aC z5)] (by kernel_rfl)
 refine dM ?_
 refine wp_pure HF HM rfl 3 [] [(3, aA m), (14, aC z5), (83, aC z5), (85, bG (IntKind.u64.wrap (((h_ x.wide) : Nat) : Int)))] (by kernel_rfl) fun a HF => ?_
 rw [show IntKind.u64.wrap (((h_ x.wide) : Nat) : Int) = (((h_ x.wide) : Nat) : Int) from IntWalk.u64_in _ (by omega)] at HF
 refine bn HF (by kernel_rfl) 73 #[aC z5, aJ (h_ x.wide), ay 2] (by kernel_rfl) (fun w => by kernel_rfl) (Calls.mono (put_any z5 (h_ x.wide) 2 x.big x.wide _ (by omega) (by have hz := bP x.wide 0 (by omega); have hz2 := bP x.wide 2 (by omega); have nH := bP x.wide 4 (by omega); simp only [List.length_append, bK, oN, List.length_cons, List.length_nil, List.length_replicate]; omega) w12 HR) ?_)
 rintro _ wE ⟨rfl, HR2, hb⟩
 replace HM := HM.oW hb (by intro p hp; rw [List.mem_singleton] at hp; subst hp; exact hzl) hge
 clear HR; have HR := HR2; clear HR2 hb
 refine ⟨_, rfl, ?_⟩; clear HF; intro a HF
 replace HF := HF.sub [(3, aA m), (14, aC z5)] (by kernel_rfl)
 refine dM ?_
 refine wp_pure HF HM rfl 3 [] [(3, aA m), (14, aC z5), (87, aC z5), (89, bG (IntKind.u64.wrap ((m : Nat) : Int)))] (by kernel_rfl) fun a HF => ?_
 rw [show IntKind.u64.wrap ((m : Nat) : Int) = ((m : Nat) : Int) from IntWalk.u64_in _ (by omega)] at HF
 refine bn HF (by kernel_rfl) 73 #[aC z5, aJ m, ay 2] (by kernel_rfl) (fun w => by kernel_rfl) (Calls.mono (put_any z5 m 2 x.big x.wide _ (by omega) (by have hz := bP x.wide 0 (by omega); have hz2 := bP x.wide 2 (by omega); have nH := bP x.wide 4 (by omega); simp only [List.length_append, bK, oN, List.length_cons, List.length_nil, List.length_replicate]; omega) wE HR) ?_)
 rintro _ zU ⟨rfl, HR2, hb⟩
 replace HM := HM.oW hb (by intro p hp; rw [List.mem_singleton] at hp; subst hp; exact hzl) hge
 clear HR; have HR := HR2; clear HR2 hb
 refine ⟨_, rfl, ?_⟩; clear HF; intro a HF
 replace HF := HF.sub [(3, aA m), (14, aC z5)] (by kernel_rfl)
 refine dM ?_
 refine wp_pure HF HM rfl 3 [] [(14, aC z5), (91, aC z5), (93, ay (IntKind.i64.wrap (((m : Nat) : Int) - 1)))] (by kernel_rfl) fun a HF => ?_
 rw [show IntKind.i64.wrap (((m : Nat) : Int) - 1) = (((m - 1) : Nat) : Int) from (IntWalk.i64_in _ (by omega)).trans (by omega)] at HF
 refine wp_pure HF HM rfl 1 [] [(14, aC z5), (91, aC z5), (94, bG (IntKind.u64.wrap (((m - 1) : Nat) : Int)))] (by kernel_rfl) fun a HF => ?_
 rw [show IntKind.u64.wrap (((m - 1) : Nat) : Int) = (((m - 1) : Nat) : Int) from IntWalk.u64_in _ (by omega)] at HF
 refine bn HF (by kernel_rfl) 73 #[aC z5, aJ (m - 1), ay 2] (by kernel_rfl) (fun w => by kernel_rfl) (Calls.mono (put_any z5 (m - 1) 2 x.big x.wide _ (by omega) (by have hz := bP x.wide 0 (by omega); have hz2 := bP x.wide 2 (by omega); have nH := bP x.wide 4 (by omega); simp only [List.length_append, bK, oN, List.length_cons, List.length_nil, List.length_replicate]; omega) zU HR) ?_)
 rintro _ Cm ⟨rfl, HR2, hb⟩
 replace HM := HM.oW hb (by intro p hp; rw [List.mem_singleton] at hp; subst hp; exact hzl) hge
 clear HR; have HR := HR2; clear HR2 hb
 refine ⟨_, rfl, ?_⟩; clear HF; intro a HF
 replace HF := HF.sub [(14, aC z5)] (by kernel_rfl)
 refine dM ?_
 obtain ⟨v, hv, hown⟩ := HR
 have hcv : Cm.cell? ⟨z5, 2, none⟩ = some v := gV hv 2
 refine wp_pure HF HM rfl 3 [] [(98, .pointer (some ⟨z5, 2, none⟩))] (by kernel_rfl) fun a HF => ?_
 refine eY HF (by kernel_rfl) (v) (by kernel_rfl) (iE rfl rfl (by kernel_rfl) hcv) fun a HF => ?_
 refine wp_pure HF HM rfl 1 [] [(10, v)] (by kernel_rfl) fun a HF => ?_
 refine aI ?_
 refine wp_ret ?_
 repeat first | refine bV ?_ | refine dh ?_
 have hown2 : Cm.ownsRow (z5 + 1) 5 1 v (headB x.wide x.big x.abi x.aF x.ty.toNat x.machine.toNat x.entry cO at_ m kH).length ((headB x.wide x.big x.abi x.aF x.ty.toNat x.machine.toNat x.entry cO at_ m kH).map Bv) := hown
 rcases hown2.2 with ⟨_, h0⟩ | ⟨g, cap, cur, rfl, hg, hh, hnc, hcm, hcs, htk⟩
 ·rw [qF] at h0; unfold fF at h0; split at h0 <;> omega
 exact dH HF rfl rfl ⟨g, cap, cur, rfl, HM.below, ⟨by omega, hh, htk, hcs, hnc, hcm⟩⟩

end Go.Proofs.YtdgehpocmfjbiaaDoor
namespace Go.Proofs.YtdgehpocmfjbiaaDoor
open Go.RowKit

section
variable {x : dN} {g cap i : Nat}
def fdM (m : fP) : List UInt8 := lY m.part
def jc (x : dN) (i : Nat) : List UInt8 := (x.ss.take i).flatMap (·.data)
theorem CG {m : jE} (hm : x.ss[i]? = some m) : jc x (i + 1) = jc x i ++ m.data := by
 unfold jc
 rw [wX hm, List.flatMap_append]
 simp
theorem yM (x : dN) (i : Nat) : jc x i = (x.img.cO.take i).flatMap (·.data) := by
 unfold jc
 show _ = ((x.ss.map jE.seg).take i).flatMap (·.data)
 rw [← List.map_take, List.flatMap_map]
 rfl
theorem Hw (x : dN) (i : Nat) : x.img.jG i = x.img.at0 + (jc x i).length := by rw [yM]; rfl
theorem wF (x : dN) : x.img.cO.length = x.ss.length := List.length_map ..
theorem Jc (x : dN) : jc x x.ss.length = x.img.kZ := by
 rw [yM, ← wF, List.take_length]
 rfl
theorem JM (x : dN) (i : Nat) : (jc x i).length ≤ x.img.kZ.length := by rw [yM]; exact yF _ _ _
def fZ (x : dN) (g cap i : Nat) : List UInt8 := x.img.kZ ++ ((allM x g cap).take i).flatMap fdM
theorem JF (x : dN) (g cap : Nat) : fZ x g cap 0 = x.img.kZ := by simp [fZ]
theorem wo {m : fP} (hm : (allM x g cap)[i]? = some m) : fZ x g cap (i + 1) = fZ x g cap i ++ fdM m := by
 unfold fZ
 rw [wX hm, List.flatMap_append, List.append_assoc]
 simp
theorem Bc (x : dN) (g cap i : Nat) : fZ x g cap i = x.img.kZ ++ (x.img.all.take i).flatMap lY := by
 unfold fZ
 rw [← Bf x g cap, ← List.map_take, List.flatMap_map]
 rfl
theorem HY (x : dN) (g cap i : Nat) (h : i ≠ 0) : x.img.iO i = x.img.at0 + (fZ x g cap i).length := by
 rw [Bc]
 unfold dK.iO
 rw [if_neg h, List.length_append, Nat.add_assoc]
theorem Cc (x : dN) : x.img.all.length = x.ps.length + 2 := by rw [← Bf x 0 0, List.length_map, yj]
theorem Bd (x : dN) (g cap : Nat) : fZ x g cap (x.ps.length + 2) = x.img.kZ ++ x.img.lZ := by
 rw [Bc, ← Cc, List.take_length]
 rfl
theorem Dl (x : dN) (g cap i : Nat) (ok : x.img.Ok) : (fZ x g cap i).length ≤ 120953600 := by
 have h1 := ok.yN
 have h2 := ok.yO
 have h3 := yF lY x.img.all i
 have h4 : ((x.img.all.take i).flatMap lY).length ≤ x.img.lZ.length := h3
 rw [Bc, List.length_append]
 omega
theorem KZ (x : dN) (g cap : Nat) : x.img.kM = x.img.at0 + (fZ x g cap (x.ps.length + 2)).length := by
 rw [Bd]
 rfl
theorem NY (x : dN) : x.img.at0 = fF x.wide + gQ x.wide * x.ss.length := by
 unfold dK.at0
 rw [wF]
 rfl
theorem head_eq (x : dN) : headB x.wide x.big x.abi x.aF x.ty.toNat x.machine.toNat x.entry x.ss.length (fF x.wide) (x.ps.length + 2) x.img.kM = x.img.head := by
 unfold dK.head
 rw [wF, Cc]
 rfl
def jJ (x : dN) (i : Nat) : List UInt8 := x.img.head ++ dR x.img.oq 0 (x.img.cO.take i)
theorem Eu (x : dN) : jJ x 0 = x.img.head := by simp [jJ, dR]
def mZ (x : dN) (i : Nat) (m : jE) : List UInt8 := qB x.wide x.big m.ty m.flags m.bI m.bJ m.bM m.align m.data.length (x.img.jG i)
theorem Ew {m : jE} (hm : x.ss[i]? = some m) : jJ x (i + 1) = jJ x i ++ mZ x i m := by
 have h1 : x.img.cO[i]? = some m.seg := by
  show (x.ss.map jE.seg)[i]? = _
  rw [List.getElem?_map, hm]; rfl
 obtain ⟨hl, e⟩ := List.getElem?_eq_some_iff.1 h1
 have hr : mZ x i m = x.img.oq i m.seg := rfl
 unfold jJ
 rw [hr, zW _ _ _ hl, e]
 simp only [List.append_assoc]
theorem C9 (x : dN) (i : Nat) (ok : x.img.Ok) : (jJ x i).length ≤ 122000000 := by
 have h := ok.length_le
 have h2 : (dR x.img.oq 0 (x.img.cO.take i)).length ≤ (dR x.img.oq 0 x.img.cO).length := by
  rw [lF x.img.oq (gQ x.img.wide) _ _ fun j a _ => pX .., lF x.img.oq (gQ x.img.wide) _ _ fun j a _ => pX ..]
  exact Nat.mul_le_mul_right _ (by rw [List.length_take]; omega)
 unfold jJ
 unfold dK.file at h
 simp only [List.length_append] at h ⊢
 omega
def lq (x : dN) (i : Nat) : List UInt8 := jJ x x.ss.length ++ (x.img.kZ ++ x.img.lZ) ++ dR x.img.mP 0 (x.img.all.take i)
theorem EL (x : dN) : lq x 0 = jJ x x.ss.length ++ (x.img.kZ ++ x.img.lZ) := by simp [lq, dR]
def m_ (x : dN) (i : Nat) (m : fP) : List UInt8 := sD x.wide x.big (x.img.jX i) m.ty m.flags m.addr (x.img.iO i) (qp m.ty m.size m.data.length) m.link m.info m.align m.ent
theorem EM {m : fP} (hm : (allM x g cap)[i]? = some m) : lq x (i + 1) = lq x i ++ m_ x i m := by
 have h1 : x.img.all[i]? = some m.part := by rw [← Bf x g cap, List.getElem?_map, hm]; rfl
 obtain ⟨hl, e⟩ := List.getElem?_eq_some_iff.1 h1
 have hr : m_ x i m = x.img.mP i m.part := rfl
 unfold lq
 rw [hr, zW _ _ _ hl, e]
 simp only [List.append_assoc]
theorem LW (x : dN) : lq x (x.ps.length + 2) = x.img.file := by
 unfold lq jJ
 rw [← Cc, List.take_length, ← wF, List.take_length]
 rfl
theorem GU (x : dN) (i : Nat) (ok : x.img.Ok) : (lq x i).length ≤ 122000000 := by
 have h := ok.length_le
 have h2 : (dR x.img.mP 0 (x.img.all.take i)).length ≤ (dR x.img.mP 0 x.img.all).length := by
  rw [lF x.img.mP (h_ x.img.wide) _ _ fun j a _ => pY .., lF x.img.mP (h_ x.img.wide) _ _ fun j a _ => pY ..]
  exact Nat.mul_le_mul_right _ (by rw [List.length_take]; omega)
 unfold lq jJ
 rw [← wF, List.take_length]
 unfold dK.file at h
 simp only [List.length_append] at h ⊢
 omega
theorem KA (x : dN) (g cap : Nat) : (allM x g cap).map (·.name) = x.img.names := by
 rw [wI]
 simp [allM, KW]
theorem Ia (x : dN) (g cap : Nat) : ((allM x g cap).take (x.ps.length + 2)).map (fun p => uO p.name) = x.img.names.map uO := by
 rw [← yj x g cap, List.take_length, ← KA x g cap, List.map_map]
 rfl
theorem Jf (x : dN) : ((List.range x.img.names.length).map (fun j => oU (nameAt x.img.names j))).set 0 (oU 0) = (List.range x.img.names.length).map (fun j => oU (x.img.jX j)) := by
 apply List.ext_getElem
 ·simp
 ·intro j h1 h2
  rw [List.getElem_set]
  simp only [List.getElem_map, List.getElem_range]
  unfold dK.jX
  split
  ·rename_i h; rw [if_pos h.symm]
  ·rename_i h; rw [if_neg (fun e => h e.symm)]
theorem Dx {f : Nat → Value} (i : Nat) : (List.range i).map f ++ [f i] = (List.range (i + 1)).map f := by
 rw [List.range_succ, List.map_append]; rfl
theorem Ns {w0 w : World} {L : List (Nat × Obj)} {iK : Array Value} (h : x.At w0) (HM : Mm [] w0 w L) {k : Nat} {t : TypeId} {f : Nat × Nat} (e : L[k]? = some (g, .cells iK t f)) (tk : iK.toList.take ((dA x.img.names).length * 1) = (dA x.img.names).map Bv) (m : fP) (hm : m ∈ allM x g cap) :
  Row w m.A (m.data.map Bv) := by
 simp only [allM, lH, List.mem_append, List.mem_cons, List.not_mem_nil, or_false] at hm
 rcases hm with (rfl | hm) | rfl
 ·exact Row.nil _ _
 ·exact HM.row (h.part m hm).row
 ·exact HM.lI e tk
structure AllB (m : fP) : Prop where
 ty : m.ty < 4294967296
 flags : m.flags < 4294967296
 link : m.link < 4294967296
 info : m.info < 4294967296
 data : m.data.length ≤ 1100000
theorem KQ {w0 : World} (h : x.At w0) (ok : x.Ok) (m : fP) (hm : m ∈ allM x g cap) : AllB m := by
 have hnb := (dN.ok ok h).o_
 simp only [allM, lH, List.mem_append, List.mem_cons, List.not_mem_nil, or_false] at hm
 rcases hm with (rfl | hm) | rfl
 ·exact ⟨by decide, by decide, by decide, by decide, by decide⟩
 ·have o := ok.part m hm
  have b := h.part m hm
  exact ⟨b.ty, b.flags, b.link, b.info, by have := o.data; omega⟩
 ·exact ⟨by show 3 < _; omega, by show 0 < _; omega, by show 0 < _; omega, by show 0 < _; omega, by show (dA x.img.names).length ≤ 1100000; omega⟩
theorem IU {m : fP} (h : ((m.ty : Nat) : Int) ≠ 8) : fdM m = m.data := by
 have : m.ty ≠ 8 := by omega
 show (if m.ty = 8 then [] else m.data) = m.data
 rw [if_neg this]
theorem KJ {m : fP} (h : ¬ ((m.ty : Nat) : Int) ≠ 8) : fdM m = [] := by
 have : m.ty = 8 := by omega
 show (if m.ty = 8 then [] else m.data) = []
 rw [if_pos this]
end
theorem F5 {w : World} {base e size n : Nat} {v : Value} {xs : List Value} (h : w.ownsRow base e size v n xs) (hn : 0 < n) : ∃ g cap cur, v = .slice (some ⟨g, 0, none⟩) n cap ∧ Own base w e size g n cap cur xs := by
 rcases h.2 with ⟨_, h0⟩ | ⟨g, cap, cur, rfl, hg, hh, hnc, hcm, hcs, htk⟩
 ·omega
 ·exact ⟨g, cap, cur, rfl, ⟨hg, hh, htk, hcs, hnc, hcm⟩⟩
/-- spec.NZ, in either class -/
theorem Hu (wide big : Bool) (x2 x3 x4 x5 x6 x7 x8 : Value) (ty flags bI bJ bM align n c offset : Nat) (A : Option Addr) (h1 : ty ≤ 4294967295) (h2 : flags ≤ 4294967295) (h3 : offset ≤ 4294967295) (h4 : n ≤ 4294967295) (w : World) :
  Calls Tryd.prog 67 #[.agg #[.bool wide, .bool big, x2, x3, x4, x5, x6, x7, x8], .agg #[.int .u32 ty, .int .u32 flags, .int .u64 bI, .int .u64 bJ, .int .u64 bM, .int .u64 align, .slice A n c], .int .i64 offset] w
   fun e w' => ∃ g cap cur, e = .returned (.slice (some ⟨g, 0, none⟩) (qB wide big ty flags bI bJ bM align n offset).length cap) ∧ Below w.heap.size w w' ∧ Own w.heap.size w' 5 1 g (qB wide big ty flags bI bJ bM align n offset).length cap cur ((qB wide big ty flags bI bJ bM align n offset).map Bv) := by
 have hp : 0 < (qB wide big ty flags bI bJ bM align n offset).length := by rw [pX]; unfold gQ; split <;> omega
 cases wide with
 | true =>
  refine (Dt big x2 x3 x4 x5 x6 x7 x8 ty flags bI bJ bM align n c offset A h1 h2 h3 h4 w).mono ?_
  rintro e w' ⟨v, rfl, ho, hb⟩
  obtain ⟨g, cap, cur, rfl, h⟩ := F5 ho hp
  exact ⟨g, cap, cur, rfl, hb, h⟩
 | false =>
  refine (Du big x2 x3 x4 x5 x6 x7 x8 ty flags bI bJ bM align n c offset A h1 h2 h3 h4 w).mono ?_
  rintro e w' ⟨v, rfl, ho, hb⟩
  obtain ⟨g, cap, cur, rfl, h⟩ := F5 ho hp
  exact ⟨g, cap, cur, rfl, hb, h⟩
theorem Hz (wide big : Bool) (x2 x3 x4 x5 x6 x7 x8 : Value) (name : Nat) (nm : ByteArray) (ty flags addr link info align ent size n c offset : Nat) (A : Option Addr) (h0 : name ≤ 4294967295) (h1 : ty ≤ 4294967295) (h2 : flags ≤ 4294967295) (h3 : offset ≤ 4294967295) (h4 : n ≤ 4294967295) (h5 : link ≤ 4294967295) (h6 : info ≤ 4294967295) (w : World) :
  Calls Tryd.prog 68 #[.agg #[.bool wide, .bool big, x2, x3, x4, x5, x6, x7, x8], .int .i64 name, .agg #[.string nm, .int .u32 ty, .int .u32 flags, .int .u64 addr, .int .u32 link, .int .u32 info, .int .u64 align, .int .u64 ent, .int .u64 size, .slice A n c], .int .i64 offset] w
   fun e w' => ∃ g cap cur, e = .returned (.slice (some ⟨g, 0, none⟩) (sD wide big name ty flags addr offset (qp ty size n) link info align ent).length cap) ∧ Below w.heap.size w w' ∧ Own w.heap.size w' 5 1 g (sD wide big name ty flags addr offset (qp ty size n) link info align ent).length cap cur ((sD wide big name ty flags addr offset (qp ty size n) link info align ent).map Bv) := by
 have hp : 0 < (sD wide big name ty flags addr offset (qp ty size n) link info align ent).length := by rw [pY]; unfold h_; split <;> omega
 refine (D5 wide big x2 x3 x4 x5 x6 x7 x8 name nm ty flags addr link info align ent size n c offset A h0 h1 h2 h3 h4 h5 h6 w).mono ?_
 rintro e w' ⟨v, rfl, ho, hb⟩
 obtain ⟨g, cap, cur, rfl, h⟩ := F5 ho hp
 exact ⟨g, cap, cur, rfl, hb, h⟩
end Go.Proofs.YtdgehpocmfjbiaaDoor
namespace Go.Proofs.YtdgehpocmfjbiaaDoor
open Go.RowKit
end Go.Proofs.YtdgehpocmfjbiaaDoor
