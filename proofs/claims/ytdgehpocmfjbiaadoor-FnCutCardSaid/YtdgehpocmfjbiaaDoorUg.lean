/- Images as they lie in memory. · An image of which IsImage says true lays out a good file. · laws.zzFits1 to zzFits5: they return, and turn nothing. ·  -/
import Derived.Test.YtdgehpocmfjbiaaDoorUb
import Derived.Test.YtdgehpocmfjbiaaDoorUd
import Derived.Test.YtdgehpocmfjbiaaDoorUf
set_option linter.unusedVariables false
set_option linter.unusedSimpArgs false
set_option maxRecDepth 100000
set_option maxHeartbeats 2000000
namespace Go.Proofs.YtdgehpocmfjbiaaDoor
open Go.RowKit

structure jH where
 ty : Nat
 flags : Nat
 bJ : Nat
 bK : Nat
 bP : Nat
 align : Nat
 data : List UInt8
 A : Option Addr
 c : Nat
structure fK where
 name : List UInt8
 ty : Nat
 flags : Nat
 addr : Nat
 link : Nat
 info : Nat
 align : Nat
 ent : Nat
 size : Nat
 data : List UInt8
 A : Option Addr
 c : Nat
def jH.cells (m : jH) : List Value := [.int .u32 ((m.ty : Nat) : Int), .int .u32 ((m.flags : Nat) : Int), .int .u64 ((m.bJ : Nat) : Int), .int .u64 ((m.bK : Nat) : Int), .int .u64 ((m.bP : Nat) : Int), .int .u64 ((m.align : Nat) : Int), .slice m.A m.data.length m.c]
def fK.cells (m : fK) : List Value := [.string (⟨m.name.toArray⟩), .int .u32 ((m.ty : Nat) : Int), .int .u32 ((m.flags : Nat) : Int), .int .u64 ((m.addr : Nat) : Int), .int .u32 ((m.link : Nat) : Int), .int .u32 ((m.info : Nat) : Int), .int .u64 ((m.align : Nat) : Int), .int .u64 ((m.ent : Nat) : Int), .int .u64 ((m.size : Nat) : Int), .slice m.A m.data.length m.c]
structure dJ where
 wide : Bool
 big : Bool
 abi : Nat
 aC : Nat
 ty : Int
 machine : Int
 entry : Nat
 ss : List jH
 A : Option Addr
 c : Nat
 ps : List fK
 B : Option Addr
 d : Nat
def dJ.val (x : dJ) : Value := .agg #[.bool x.wide, .bool x.big, .int .u8 ((x.abi : Nat) : Int), .int .u8 ((x.aC : Nat) : Int), .int .i64 x.ty, .int .i64 x.machine, .int .u64 ((x.entry : Nat) : Int), .slice x.A x.ss.length x.c, .slice x.B x.ps.length x.d]
structure jH.At (w : World) (m : jH) : Prop where
 row : Row w m.A (m.data.map Bv)
 c1 : m.data.length ≤ m.c
 c2 : m.c ≤ maxLen
 ty : m.ty < 4294967296
 flags : m.flags < 4294967296
 bJ : m.bJ < 18446744073709551616
 bK : m.bK < 18446744073709551616
 bP : m.bP < 18446744073709551616
 align : m.align < 18446744073709551616
structure fK.At (w : World) (m : fK) : Prop where
 row : Row w m.A (m.data.map Bv)
 c1 : m.data.length ≤ m.c
 c2 : m.c ≤ maxLen
 nm : m.name.length ≤ maxLen
 ty : m.ty < 4294967296
 flags : m.flags < 4294967296
 addr : m.addr < 18446744073709551616
 link : m.link < 4294967296
 info : m.info < 4294967296
 align : m.align < 18446744073709551616
 ent : m.ent < 18446744073709551616
 size : m.size < 18446744073709551616
structure dJ.At (w : World) (x : dJ) : Prop where
 cZ : Row w x.A (x.ss.flatMap jH.cells)
 parts : Row w x.B (x.ps.flatMap fK.cells)
 seg : ∀ m ∈ x.ss, jH.At w m
 part : ∀ m ∈ x.ps, fK.At w m
 c1 : x.ss.length ≤ x.c
 c2 : x.c ≤ maxLen
 d1 : x.ps.length ≤ x.d
 d2 : x.d ≤ maxLen
 abi : x.abi < 256
 aC : x.aC < 256
 entry : x.entry < 18446744073709551616
theorem jH.At.below {w w' : World} {m : jH} (h : jH.At w m) (hb : Below w.heap.size w w') : jH.At w' m := { h with row := h.row.below hb }
theorem fK.At.below {w w' : World} {m : fK} (h : fK.At w m) (hb : Below w.heap.size w w') : fK.At w' m := { h with row := h.row.below hb }
theorem dJ.At.below {w w' : World} {x : dJ} (h : dJ.At w x) (hb : Below w.heap.size w w') : dJ.At w' x :=
 { h with cZ := h.cZ.below hb, parts := h.parts.below hb, seg := fun m hm => (h.seg m hm).below hb, part := fun m hm => (h.part m hm).below hb }
def jH.seg (m : jH) : Seg := ⟨m.ty, m.flags, m.bJ, m.bK, m.bP, m.align, m.data⟩
def fK.part (m : fK) : Part := ⟨m.name, m.ty, m.flags, m.addr, m.link, m.info, m.align, m.ent, m.size, m.data⟩
def dJ.img (x : dJ) : dG := ⟨x.wide, x.big, x.abi, x.aC, x.ty.toNat, x.machine.toNat, x.entry, x.ss.map jH.seg, x.ps.map fK.part⟩
/-- what IsImage tells of a segment -/
structure jH.Ok (wide : Bool) (m : jH) : Prop where
 fit : lV wide [m.bJ, m.bK, m.bP, m.align] = true
 ty : m.ty < 2147483648
 data : m.data.length ≤ 65536
structure fK.Ok (wide : Bool) (m : fK) : Prop where
 fit : lV wide [m.addr, m.align, m.ent, m.size] = true
 name : m.name.length ≤ 1024
 nul : 0 ∉ m.name
 data : m.data.length ≤ 1100000
 ty0 : m.ty ≠ 0
 ty1 : m.ty < 1610612736
 zip : yt ⟨m.name.toArray⟩ = false
 flags : (oC (m.flags : Int) 2048 == 0) = true
 bss : m.ty = 8 → m.data.length = 0
 size : m.size < 4611686018427387904
structure dJ.Ok (x : dJ) : Prop where
 ty0 : 0 ≤ x.ty
 ty1 : x.ty ≤ 65535
 mc0 : 0 ≤ x.machine
 mc1 : x.machine ≤ 65535
 fit : lV x.wide [x.entry] = true
 cZ : x.ss.length ≤ 100
 parts : x.ps.length ≤ 102
 seg : ∀ m ∈ x.ss, jH.Ok x.wide m
 part : ∀ m ∈ x.ps, fK.Ok x.wide m
theorem qm {wide : Bool} {l : List Nat} (h : lV wide l = true) {n : Nat} (hn : n ∈ l) (h64 : n < 18446744073709551616) : n < 256 ^ g_ wide := by
 cases wide with
 | true => exact h64
 | false =>
  simp only [lV, Bool.false_or, List.all_eq_true, decide_eq_true_eq] at h
  exact h n hn
end Go.Proofs.YtdgehpocmfjbiaaDoor
namespace Go.Proofs.YtdgehpocmfjbiaaDoor
open Go.RowKit

theorem dJ.ok {x : dJ} {w : World} (h : x.Ok) (a : x.At w) : x.img.Ok where
 abi := a.abi
 aC := a.aC
 ty := by have := h.ty0; have := h.ty1; show x.ty.toNat < _; omega
 machine := by have := h.mc0; have := h.mc1; show x.machine.toNat < _; omega
 entry := qm h.fit (n := x.entry) (by simp) a.entry
 cZ := by show (x.ss.map _).length ≤ _; rw [List.length_map]; exact h.cZ
 parts := by show (x.ps.map _).length ≤ _; rw [List.length_map]; exact h.parts
 seg := fun s hs => by
  obtain ⟨m, hm, rfl⟩ := List.mem_map.1 (show s ∈ x.ss.map jH.seg from hs)
  have o := h.seg m hm
  have b := a.seg m hm
  exact ⟨o.ty, b.flags, qm o.fit (n := m.bJ) (by simp) b.bJ, qm o.fit (n := m.bK) (by simp) b.bK, qm o.fit (n := m.bP) (by simp) b.bP, qm o.fit (n := m.align) (by simp) b.align, o.data⟩
 part := fun p hp => by
  obtain ⟨m, hm, rfl⟩ := List.mem_map.1 (show p ∈ x.ps.map fK.part from hp)
  have o := h.part m hm
  have b := a.part m hm
  exact ⟨o.name, o.nul, b.ty, b.flags, o.flags, qm o.fit (n := m.addr) (by simp) b.addr, b.link, b.info, qm o.fit (n := m.align) (by simp) b.align, qm o.fit (n := m.ent) (by simp) b.ent, qm o.fit (n := m.size) (by simp) b.size, o.size, o.data⟩
end Go.Proofs.YtdgehpocmfjbiaaDoor
namespace Go.Proofs.YtdgehpocmfjbiaaDoor
open Go.RowKit

theorem IG (m : jH) (w0 : World) : Calls Tryd.prog 76 #[.agg #[aY m.ty, aY m.flags, aJ m.bJ, aJ m.bK, aJ m.bP, aJ m.align, .slice m.A m.data.length m.c]] w0 fun e w' => ∃ b, e = .returned (.bool b) ∧ Below w0.heap.size w0 w' := by
 obtain ⟨w, hw⟩ : ∃ w, w0 = w := ⟨_, rfl⟩
 have HM : Mm [] w0 w [] := hw ▸ Mm.start w0
 conv => arg 4; rw [hw]
 clear hw
 refine bV Tryd.func76 rfl Tryd.ntmps76 [(0, .agg #[aY m.ty, aY m.flags, aJ m.bJ, aJ m.bK, aJ m.bP, aJ m.align, .slice m.A m.data.length m.c])] (by kernel_rfl) (Nat.le_of_ble_eq_true rfl) ?_
 intro a HF
 refine aW ?_
 obtain ⟨z1, hz1⟩ : ∃ z, w.heap.size = z := ⟨_, rfl⟩
 refine aO HF HM hz1 2 [] [(1, aG z1)] [(z1, .cells #[aY m.ty, aY m.flags, aJ m.bJ, aJ m.bK, aJ m.bP, aJ m.align, .slice m.A m.data.length m.c] 57 (0, 0))] (by kernel_rfl) fun a w HF HM => ?_
 clear hz1
 refine aI ?_
 refine wp_seq ?_
 refine aW ?_
 refine wp_pure HF HM rfl 4 [[0]] [(6, .bool (decide (2147483647 < ((m.data.length : Nat) : Int))))] (by kernel_rfl) fun a HF => ?_
 refine aI ?_
 by_cases hc1 : 2147483647 < ((m.data.length : Nat) : Int)
 ·rw [show decide (2147483647 < ((m.data.length : Nat) : Int)) = true from dM (hc1)] at HF
  refine bF HF rfl ?_
  refine aW ?_
  refine wp_pure HF HM rfl 1 [] [(2, .bool false)] (by kernel_rfl) fun a HF => ?_
  refine aI ?_
  refine wp_ret ?_
  repeat first | refine cu ?_ | refine dw ?_
  exact dI HF rfl rfl ⟨false, rfl, HM.below⟩
 rw [show decide (2147483647 < ((m.data.length : Nat) : Int)) = false from bZ (hc1)] at HF
 refine bf HF rfl ?_
 refine wp_skip ?_
 repeat first | refine aS ?_ | refine aU ?_
 refine aW ?_
 refine wp_pure HF HM rfl 1 [] [(2, .bool true)] (by kernel_rfl) fun a HF => ?_
 refine aI ?_
 refine wp_ret ?_
 repeat first | refine cu ?_ | refine dw ?_
 exact dI HF rfl rfl ⟨true, rfl, HM.below⟩

theorem IC (m : fK) (w0 : World) : Calls Tryd.prog 77 #[.agg #[.string (⟨m.name.toArray⟩), aY m.ty, aY m.flags, aJ m.addr, aY m.link, aY m.info, aJ m.align, aJ m.ent, aJ m.size, .slice m.A m.data.length m.c]] w0 fun e w' => ∃ b, e = .returned (.bool b) ∧ Below w0.heap.size w0 w' := by
 obtain ⟨w, hw⟩ : ∃ w, w0 = w := ⟨_, rfl⟩
 have HM : Mm [] w0 w [] := hw ▸ Mm.start w0
 conv => arg 4; rw [hw]
 clear hw
 refine bV Tryd.func77 rfl Tryd.ntmps77 [(0, .agg #[.string (⟨m.name.toArray⟩), aY m.ty, aY m.flags, aJ m.addr, aY m.link, aY m.info, aJ m.align, aJ m.ent, aJ m.size, .slice m.A m.data.length m.c])] (by kernel_rfl) (Nat.le_of_ble_eq_true rfl) ?_
 intro a HF
 refine aW ?_
 obtain ⟨z1, hz1⟩ : ∃ z, w.heap.size = z := ⟨_, rfl⟩
 refine aO HF HM hz1 2 [] [(1, aG z1)] [(z1, .cells #[.string (⟨m.name.toArray⟩), aY m.ty, aY m.flags, aJ m.addr, aY m.link, aY m.info, aJ m.align, aJ m.ent, aJ m.size, .slice m.A m.data.length m.c] 46 (0, 0))] (by kernel_rfl) fun a w HF HM => ?_
 clear hz1
 refine aI ?_
 refine wp_seq ?_
 refine aW ?_
 refine wp_pure HF HM rfl 4 [[0]] [(1, aG z1), (6, .bool (decide (2147483647 < ((m.name.length : Nat) : Int))))] (by kernel_rfl) fun a HF => ?_
 refine aI ?_
 by_cases hc1 : 2147483647 < ((m.name.length : Nat) : Int)
 ·rw [show decide (2147483647 < ((m.name.length : Nat) : Int)) = true from dM (hc1)] at HF
  refine bF HF rfl ?_
  refine aW ?_
  refine wp_pure HF HM rfl 1 [] [(2, .bool false)] (by kernel_rfl) fun a HF => ?_
  refine aI ?_
  refine wp_ret ?_
  repeat first | refine cu ?_ | refine dw ?_
  exact dI HF rfl rfl ⟨false, rfl, HM.below⟩
 rw [show decide (2147483647 < ((m.name.length : Nat) : Int)) = false from bZ (hc1)] at HF
 refine bf HF rfl ?_
 refine wp_skip ?_
 repeat first | refine aS ?_ | refine aU ?_
 refine wp_seq ?_
 refine aW ?_
 refine wp_pure HF HM rfl 4 [[0]] [(10, .bool (decide (2147483647 < ((m.data.length : Nat) : Int))))] (by kernel_rfl) fun a HF => ?_
 refine aI ?_
 by_cases hc2 : 2147483647 < ((m.data.length : Nat) : Int)
 ·rw [show decide (2147483647 < ((m.data.length : Nat) : Int)) = true from dM (hc2)] at HF
  refine bF HF rfl ?_
  refine aW ?_
  refine wp_pure HF HM rfl 1 [] [(2, .bool false)] (by kernel_rfl) fun a HF => ?_
  refine aI ?_
  refine wp_ret ?_
  repeat first | refine cu ?_ | refine dw ?_
  exact dI HF rfl rfl ⟨false, rfl, HM.below⟩
 rw [show decide (2147483647 < ((m.data.length : Nat) : Int)) = false from bZ (hc2)] at HF
 refine bf HF rfl ?_
 refine wp_skip ?_
 repeat first | refine aS ?_ | refine aU ?_
 refine aW ?_
 refine wp_pure HF HM rfl 1 [] [(2, .bool true)] (by kernel_rfl) fun a HF => ?_
 refine aI ?_
 refine wp_ret ?_
 repeat first | refine cu ?_ | refine dw ?_
 exact dI HF rfl rfl ⟨true, rfl, HM.below⟩

abbrev iP := fun (A : Option Addr) (l : List jH) (c : Nat) => ([(8, .slice A l.length c), (9, aB l.length)] : Slots)
theorem II (l : List jH) (A : Option Addr) (c : Nat) (w0 : World) (hr : Row w0 A (l.flatMap jH.cells)) : Calls Tryd.prog 49 #[.slice A l.length c] w0 fun e w' => ∃ b, e = .returned (.bool b) ∧ Below w0.heap.size w0 w' := by
 obtain ⟨w, hw⟩ : ∃ w, w0 = w := ⟨_, rfl⟩
 have HM : Mm [] w0 w [] := hw ▸ Mm.start w0
 conv => arg 4; rw [hw]
 clear hw
 refine bV Tryd.func49 rfl Tryd.ntmps49 [(0, .slice A l.length c)] (by kernel_rfl) (Nat.le_of_ble_eq_true rfl) ?_
 intro a HF
 refine aW ?_
 refine wp_pure HF HM rfl 1 [] [(0, .slice A l.length c)] (by kernel_rfl) fun a HF => ?_
 refine aI ?_
 refine wp_seq ?_
 refine aW ?_
 refine wp_pure HF HM rfl 3 [] [(0, .slice A l.length c), (7, .bool (decide (2147483647 < ((l.length : Nat) : Int))))] (by kernel_rfl) fun a HF => ?_
 refine aI ?_
 by_cases hc1 : 2147483647 < ((l.length : Nat) : Int)
 ·rw [show decide (2147483647 < ((l.length : Nat) : Int)) = true from dM (hc1)] at HF
  refine bF HF rfl ?_
  refine aW ?_
  refine wp_pure HF HM rfl 1 [] [(2, .bool false)] (by kernel_rfl) fun a HF => ?_
  refine aI ?_
  refine wp_ret ?_
  repeat first | refine cu ?_ | refine dw ?_
  exact dI HF rfl rfl ⟨false, rfl, HM.below⟩
 rw [show decide (2147483647 < ((l.length : Nat) : Int)) = false from bZ (hc1)] at HF
 refine bf HF rfl ?_
 refine wp_skip ?_
 repeat first | refine aS ?_ | refine aU ?_
 refine wp_seq ?_
 refine aW ?_
 refine wp_pure HF HM rfl 3 [] ((iP A l c) ++ [(10, aA 0)]) (by kernel_rfl) fun a HF => ?_
 refine aI ?_
 refine wp_block ?_
 refine oU (l.length) (fun i a w => (Mm [] w0 w [] ∧ Fr 18 a ((iP A l c) ++ [(10, aB i)]))) ?_ ?_ ?_
 ·exact ⟨HM, HF.sub ((iP A l c) ++ [(10, aA 0)]) (by kernel_rfl)⟩
 ·intro i a w KX hi hI KR
  obtain ⟨HM, HF⟩ := hI
  refine aW ?_
  refine wp_pure HF HM rfl 1 [] ((iP A l c) ++ [(10, aB i), (11, .bool (decide (((i : Nat) : Int) < ((l.length : Nat) : Int))))]) (by kernel_rfl) fun a HF => ?_
  refine aI ?_
  refine wp_seq ?_
  rw [show decide (((i : Nat) : Int) < ((l.length : Nat) : Int)) = true from dM (by omega)] at HF
  refine bF HF rfl ?_
  refine wp_skip ?_
  repeat first | refine aS ?_ | refine aU ?_
  refine wp_seq ?_
  refine wp_block ?_
  refine aW ?_
  obtain ⟨m2, hm2⟩ : ∃ m, l[i]? = some m := ⟨_, List.getElem?_eq_getElem (by omega)⟩
  refine dP HF (by kernel_rfl) (.pointer (Option.map (fun q : Addr => q.add (i * 7)) A)) (by kernel_rfl) (iU Tryd.underlying23 (by kernel_rfl) rfl i rfl rfl (by omega) (ny (lC (f := jH.cells) (k := 7) (fun _ => rfl) (HM.row hr) i hm2) (Nat.zero_lt_succ _))) fun a HF => ?_
  refine dP HF (by kernel_rfl) (.agg #[aY m2.ty, aY m2.flags, aJ m2.bJ, aJ m2.bK, aJ m2.bP, aJ m2.align, .slice m2.A m2.data.length m2.c]) (by kernel_rfl) (lQ rfl rfl (lC (f := jH.cells) (k := 7) (fun _ => rfl) (HM.row hr) i hm2) (Nat.zero_lt_succ _) Tryd.underlying57 rfl (by kernel_rfl)) fun a HF => ?_
  obtain ⟨z6, BD⟩ : ∃ z, w.heap.size = z := ⟨_, rfl⟩
  refine aO HF HM BD 2 [[0]] [(4, aG z6), (8, .slice A l.length c), (9, aB l.length), (10, aB i)] [(z6, .cells #[aY m2.ty, aY m2.flags, aJ m2.bJ, aJ m2.bK, aJ m2.bP, aJ m2.align, .slice m2.A m2.data.length m2.c] 57 (0, 0))] (by kernel_rfl) fun a w HF HM => ?_
  clear BD
  refine dK ?_
  refine wp_pure HF HM rfl 1 [[0]] ((iP A l c) ++ [(10, aB i), (14, .agg #[aY m2.ty, aY m2.flags, aJ m2.bJ, aJ m2.bK, aJ m2.bP, aJ m2.align, .slice m2.A m2.data.length m2.c])]) (by kernel_rfl) fun a HF => ?_
  refine bn HF (by kernel_rfl) 76 #[.agg #[aY m2.ty, aY m2.flags, aJ m2.bJ, aJ m2.bK, aJ m2.bP, aJ m2.align, .slice m2.A m2.data.length m2.c]] (by kernel_rfl) (fun w => by kernel_rfl) (Calls.mono (IG m2 w) ?_)
  rintro _ w1 ⟨b3, rfl, hb⟩
  replace HM := HM.call hb
  clear hb
  refine ⟨_, rfl, ?_⟩; clear HF; intro a HF
  replace HF := HF.sub ((iP A l c) ++ [(10, aB i), (15, .bool b3)]) (by kernel_rfl)
  rcases kX b3 with hc4 | hc4
  ·replace HF := Fr.sub (Fr.tell HF 15 rfl (congrArg Value.bool hc4)) ((iP A l c) ++ [(10, aB i), (15, .bool false)]) (by kernel_rfl)
   refine wp_pure HF HM rfl 1 [] ((iP A l c) ++ [(10, aB i), (16, .bool true)]) (by kernel_rfl) fun a HF => ?_
   refine aI ?_
   refine bF HF rfl ?_
   refine aW ?_
   refine wp_pure HF HM rfl 1 [] [(2, .bool false)] (by kernel_rfl) fun a HF => ?_
   refine aI ?_
   refine wp_ret ?_
   repeat first | refine cu ?_ | refine dw ?_
   exact dI HF rfl rfl ⟨false, rfl, HM.below⟩
  replace HF := Fr.sub (Fr.tell HF 15 rfl (congrArg Value.bool hc4)) ((iP A l c) ++ [(10, aB i), (15, .bool true)]) (by kernel_rfl)
  refine wp_pure HF HM rfl 1 [] ((iP A l c) ++ [(10, aB i), (16, .bool false)]) (by kernel_rfl) fun a HF => ?_
  refine aI ?_
  refine bf HF rfl ?_
  refine wp_skip ?_
  repeat first | refine aS ?_ | refine aU ?_
  refine wp_region_lit ?_
  refine wp_pure HF HM rfl 1 [] ((iP A l c) ++ [(17, aA (IntKind.i64.wrap (((i : Nat) : Int) + 1)))]) (by kernel_rfl) fun a HF => ?_
  rw [show IntKind.i64.wrap (((i : Nat) : Int) + 1) = (((i + 1) : Nat) : Int) from (IntWalk.i64_in _ (by omega)).trans (by omega)] at HF
  refine wp_pure HF HM rfl 1 [] ((iP A l c) ++ [(10, aB (i + 1))]) (by kernel_rfl) fun a HF => ?_
  refine wpList_nil ?_
  repeat first | refine aS ?_ | refine aU ?_
  exact KR _ _ (⟨(HM.pick [] [] rfl (by decide)), HF.sub ((iP A l c) ++ [(10, aB (i + 1))]) (by kernel_rfl)⟩)
 ·intro a w KX hI
  obtain ⟨HM, HF⟩ := hI
  refine aW ?_
  refine wp_pure HF HM rfl 1 [] ((iP A l c) ++ [(10, aB l.length), (11, .bool (decide (((l.length : Nat) : Int) < ((l.length : Nat) : Int))))]) (by kernel_rfl) fun a HF => ?_
  refine aI ?_
  refine wp_seq ?_
  rw [show decide (((l.length : Nat) : Int) < ((l.length : Nat) : Int)) = false from bZ (by omega)] at HF
  refine bf HF rfl ?_
  refine wp_exit ?_
  repeat (first | refine iW ?_ | refine ku rfl ?_)
  refine kH ?_
  repeat first | refine aS ?_ | refine aU ?_
  refine aW ?_
  refine wp_pure HF HM rfl 1 [] [(2, .bool true)] (by kernel_rfl) fun a HF => ?_
  refine aI ?_
  refine wp_ret ?_
  repeat first | refine cu ?_ | refine dw ?_
  exact dI HF rfl rfl ⟨true, rfl, HM.below⟩

abbrev iO := fun (A : Option Addr) (l : List fK) (c : Nat) => ([(8, .slice A l.length c), (9, aB l.length)] : Slots)
theorem IE (l : List fK) (A : Option Addr) (c : Nat) (w0 : World) (hr : Row w0 A (l.flatMap fK.cells)) : Calls Tryd.prog 50 #[.slice A l.length c] w0 fun e w' => ∃ b, e = .returned (.bool b) ∧ Below w0.heap.size w0 w' := by
 obtain ⟨w, hw⟩ : ∃ w, w0 = w := ⟨_, rfl⟩
 have HM : Mm [] w0 w [] := hw ▸ Mm.start w0
 conv => arg 4; rw [hw]
 clear hw
 refine bV Tryd.func50 rfl Tryd.ntmps50 [(0, .slice A l.length c)] (by kernel_rfl) (Nat.le_of_ble_eq_true rfl) ?_
 intro a HF
 refine aW ?_
 refine wp_pure HF HM rfl 1 [] [(0, .slice A l.length c)] (by kernel_rfl) fun a HF => ?_
 refine aI ?_
 refine wp_seq ?_
 refine aW ?_
 refine wp_pure HF HM rfl 3 [] [(0, .slice A l.length c), (7, .bool (decide (2147483647 < ((l.length : Nat) : Int))))] (by kernel_rfl) fun a HF => ?_
 refine aI ?_
 by_cases hc1 : 2147483647 < ((l.length : Nat) : Int)
 ·rw [show decide (2147483647 < ((l.length : Nat) : Int)) = true from dM (hc1)] at HF
  refine bF HF rfl ?_
  refine aW ?_
  refine wp_pure HF HM rfl 1 [] [(2, .bool false)] (by kernel_rfl) fun a HF => ?_
  refine aI ?_
  refine wp_ret ?_
  repeat first | refine cu ?_ | refine dw ?_
  exact dI HF rfl rfl ⟨false, rfl, HM.below⟩
 rw [show decide (2147483647 < ((l.length : Nat) : Int)) = false from bZ (hc1)] at HF
 refine bf HF rfl ?_
 refine wp_skip ?_
 repeat first | refine aS ?_ | refine aU ?_
 refine wp_seq ?_
 refine aW ?_
 refine wp_pure HF HM rfl 3 [] ((iO A l c) ++ [(10, aA 0)]) (by kernel_rfl) fun a HF => ?_
 refine aI ?_
 refine wp_block ?_
 refine oU (l.length) (fun i a w => (Mm [] w0 w [] ∧ Fr 18 a ((iO A l c) ++ [(10, aB i)]))) ?_ ?_ ?_
 ·exact ⟨HM, HF.sub ((iO A l c) ++ [(10, aA 0)]) (by kernel_rfl)⟩
 ·intro i a w KX hi hI KR
  obtain ⟨HM, HF⟩ := hI
  refine aW ?_
  refine wp_pure HF HM rfl 1 [] ((iO A l c) ++ [(10, aB i), (11, .bool (decide (((i : Nat) : Int) < ((l.length : Nat) : Int))))]) (by kernel_rfl) fun a HF => ?_
  refine aI ?_
  refine wp_seq ?_
  rw [show decide (((i : Nat) : Int) < ((l.length : Nat) : Int)) = true from dM (by omega)] at HF
  refine bF HF rfl ?_
  refine wp_skip ?_
  repeat first | refine aS ?_ | refine aU ?_
  refine wp_seq ?_
  refine wp_block ?_
  refine aW ?_
  obtain ⟨m2, hm2⟩ : ∃ m, l[i]? = some m := ⟨_, List.getElem?_eq_getElem (by omega)⟩
  refine dP HF (by kernel_rfl) (.pointer (Option.map (fun q : Addr => q.add (i * 10)) A)) (by kernel_rfl) (iU Tryd.underlying24 (by kernel_rfl) rfl i rfl rfl (by omega) (ny (lC (f := fK.cells) (k := 10) (fun _ => rfl) (HM.row hr) i hm2) (Nat.zero_lt_succ _))) fun a HF => ?_
  refine dP HF (by kernel_rfl) (.agg #[.string (⟨m2.name.toArray⟩), aY m2.ty, aY m2.flags, aJ m2.addr, aY m2.link, aY m2.info, aJ m2.align, aJ m2.ent, aJ m2.size, .slice m2.A m2.data.length m2.c]) (by kernel_rfl) (lQ rfl rfl (lC (f := fK.cells) (k := 10) (fun _ => rfl) (HM.row hr) i hm2) (Nat.zero_lt_succ _) Tryd.underlying46 rfl (by kernel_rfl)) fun a HF => ?_
  obtain ⟨z6, BD⟩ : ∃ z, w.heap.size = z := ⟨_, rfl⟩
  refine aO HF HM BD 2 [[0]] [(4, aG z6), (8, .slice A l.length c), (9, aB l.length), (10, aB i)] [(z6, .cells #[.string (⟨m2.name.toArray⟩), aY m2.ty, aY m2.flags, aJ m2.addr, aY m2.link, aY m2.info, aJ m2.align, aJ m2.ent, aJ m2.size, .slice m2.A m2.data.length m2.c] 46 (0, 0))] (by kernel_rfl) fun a w HF HM => ?_
  clear BD
  refine dK ?_
  refine wp_pure HF HM rfl 1 [[0]] ((iO A l c) ++ [(10, aB i), (14, .agg #[.string (⟨m2.name.toArray⟩), aY m2.ty, aY m2.flags, aJ m2.addr, aY m2.link, aY m2.info, aJ m2.align, aJ m2.ent, aJ m2.size, .slice m2.A m2.data.length m2.c])]) (by kernel_rfl) fun a HF => ?_
  refine bn HF (by kernel_rfl) 77 #[.agg #[.string (⟨m2.name.toArray⟩), aY m2.ty, aY m2.flags, aJ m2.addr, aY m2.link, aY m2.info, aJ m2.align, aJ m2.ent, aJ m2.size, .slice m2.A m2.data.length m2.c]] (by kernel_rfl) (fun w => by kernel_rfl) (Calls.mono (IC m2 w) ?_)
  rintro _ w1 ⟨b3, rfl, hb⟩
  replace HM := HM.call hb
  clear hb
  refine ⟨_, rfl, ?_⟩; clear HF; intro a HF
  replace HF := HF.sub ((iO A l c) ++ [(10, aB i), (15, .bool b3)]) (by kernel_rfl)
  rcases kX b3 with hc4 | hc4
  ·replace HF := Fr.sub (Fr.tell HF 15 rfl (congrArg Value.bool hc4)) ((iO A l c) ++ [(10, aB i), (15, .bool false)]) (by kernel_rfl)
   refine wp_pure HF HM rfl 1 [] ((iO A l c) ++ [(10, aB i), (16, .bool true)]) (by kernel_rfl) fun a HF => ?_
   refine aI ?_
   refine bF HF rfl ?_
   refine aW ?_
   refine wp_pure HF HM rfl 1 [] [(2, .bool false)] (by kernel_rfl) fun a HF => ?_
   refine aI ?_
   refine wp_ret ?_
   repeat first | refine cu ?_ | refine dw ?_
   exact dI HF rfl rfl ⟨false, rfl, HM.below⟩
  replace HF := Fr.sub (Fr.tell HF 15 rfl (congrArg Value.bool hc4)) ((iO A l c) ++ [(10, aB i), (15, .bool true)]) (by kernel_rfl)
  refine wp_pure HF HM rfl 1 [] ((iO A l c) ++ [(10, aB i), (16, .bool false)]) (by kernel_rfl) fun a HF => ?_
  refine aI ?_
  refine bf HF rfl ?_
  refine wp_skip ?_
  repeat first | refine aS ?_ | refine aU ?_
  refine wp_region_lit ?_
  refine wp_pure HF HM rfl 1 [] ((iO A l c) ++ [(17, aA (IntKind.i64.wrap (((i : Nat) : Int) + 1)))]) (by kernel_rfl) fun a HF => ?_
  rw [show IntKind.i64.wrap (((i : Nat) : Int) + 1) = (((i + 1) : Nat) : Int) from (IntWalk.i64_in _ (by omega)).trans (by omega)] at HF
  refine wp_pure HF HM rfl 1 [] ((iO A l c) ++ [(10, aB (i + 1))]) (by kernel_rfl) fun a HF => ?_
  refine wpList_nil ?_
  repeat first | refine aS ?_ | refine aU ?_
  exact KR _ _ (⟨(HM.pick [] [] rfl (by decide)), HF.sub ((iO A l c) ++ [(10, aB (i + 1))]) (by kernel_rfl)⟩)
 ·intro a w KX hI
  obtain ⟨HM, HF⟩ := hI
  refine aW ?_
  refine wp_pure HF HM rfl 1 [] ((iO A l c) ++ [(10, aB l.length), (11, .bool (decide (((l.length : Nat) : Int) < ((l.length : Nat) : Int))))]) (by kernel_rfl) fun a HF => ?_
  refine aI ?_
  refine wp_seq ?_
  rw [show decide (((l.length : Nat) : Int) < ((l.length : Nat) : Int)) = false from bZ (by omega)] at HF
  refine bf HF rfl ?_
  refine wp_exit ?_
  repeat (first | refine iW ?_ | refine ku rfl ?_)
  refine kH ?_
  repeat first | refine aS ?_ | refine aU ?_
  refine aW ?_
  refine wp_pure HF HM rfl 1 [] [(2, .bool true)] (by kernel_rfl) fun a HF => ?_
  refine aI ?_
  refine wp_ret ?_
  repeat first | refine cu ?_ | refine dw ?_
  exact dI HF rfl rfl ⟨true, rfl, HM.below⟩

theorem IJ (x : dJ) (w0 : World) (h : x.At w0) : Calls Tryd.prog 20 #[x.val] w0 fun e w' => ∃ b, e = .returned (.bool b) ∧ Below w0.heap.size w0 w' := by
 obtain ⟨w, hw⟩ : ∃ w, w0 = w := ⟨_, rfl⟩
 have HM : Mm [] w0 w [] := hw ▸ Mm.start w0
 conv => arg 4; rw [hw]
 clear hw
 refine bV Tryd.func20 rfl Tryd.ntmps20 [(0, .agg #[.bool x.wide, .bool x.big, aV x.abi, aV x.aC, .int .i64 x.ty, .int .i64 x.machine, aJ x.entry, .slice x.A x.ss.length x.c, .slice x.B x.ps.length x.d])] (by kernel_rfl) (Nat.le_of_ble_eq_true rfl) ?_
 intro a HF
 refine aW ?_
 obtain ⟨z1, hz1⟩ : ∃ z, w.heap.size = z := ⟨_, rfl⟩
 refine aO HF HM hz1 2 [] [(1, aG z1)] [(z1, .cells #[.bool x.wide, .bool x.big, aV x.abi, aV x.aC, .int .i64 x.ty, .int .i64 x.machine, aJ x.entry, .slice x.A x.ss.length x.c, .slice x.B x.ps.length x.d] 26 (0, 0))] (by kernel_rfl) fun a w HF HM => ?_
 clear hz1
 refine aI ?_
 refine wp_seq ?_
 refine aW ?_
 refine wp_pure HF HM rfl 2 [[0]] [(1, aG z1), (4, .slice x.A x.ss.length x.c)] (by kernel_rfl) fun a HF => ?_
 refine bn HF (by kernel_rfl) 49 #[.slice x.A x.ss.length x.c] (by kernel_rfl) (fun w => by kernel_rfl) (Calls.mono (II x.ss x.A x.c w (HM.row h.cZ)) ?_)
 rintro _ w1 ⟨b1, rfl, hb⟩
 replace HM := HM.call hb
 clear hb
 refine ⟨_, rfl, ?_⟩; clear HF; intro a HF
 replace HF := HF.sub [(1, aG z1), (5, .bool b1)] (by kernel_rfl)
 rcases kX b1 with hc2 | hc2
 ·replace HF := Fr.sub (Fr.tell HF 5 rfl (congrArg Value.bool hc2)) [(1, aG z1), (5, .bool false)] (by kernel_rfl)
  refine wp_pure HF HM rfl 1 [] [(1, aG z1), (6, .bool true)] (by kernel_rfl) fun a HF => ?_
  refine aI ?_
  refine bF HF rfl ?_
  refine aW ?_
  refine wp_pure HF HM rfl 1 [] [(2, .bool false)] (by kernel_rfl) fun a HF => ?_
  refine aI ?_
  refine wp_ret ?_
  repeat first | refine cu ?_ | refine dw ?_
  exact dI HF rfl rfl ⟨false, rfl, HM.below⟩
 replace HF := Fr.sub (Fr.tell HF 5 rfl (congrArg Value.bool hc2)) [(1, aG z1), (5, .bool true)] (by kernel_rfl)
 refine wp_pure HF HM rfl 1 [] [(1, aG z1), (6, .bool false)] (by kernel_rfl) fun a HF => ?_
 refine aI ?_
 refine bf HF rfl ?_
 refine wp_skip ?_
 repeat first | refine aS ?_ | refine aU ?_
 refine wp_seq ?_
 refine aW ?_
 refine wp_pure HF HM rfl 2 [[0]] [(8, .slice x.B x.ps.length x.d)] (by kernel_rfl) fun a HF => ?_
 refine bn HF (by kernel_rfl) 50 #[.slice x.B x.ps.length x.d] (by kernel_rfl) (fun w => by kernel_rfl) (Calls.mono (IE x.ps x.B x.d w1 (HM.row h.parts)) ?_)
 rintro _ w2 ⟨b3, rfl, hb⟩
 replace HM := HM.call hb
 clear hb
 refine ⟨_, rfl, ?_⟩; clear HF; intro a HF
 replace HF := HF.sub [(9, .bool b3)] (by kernel_rfl)
 rcases kX b3 with hc4 | hc4
 ·replace HF := Fr.sub (Fr.tell HF 9 rfl (congrArg Value.bool hc4)) [(9, .bool false)] (by kernel_rfl)
  refine wp_pure HF HM rfl 1 [] [(10, .bool true)] (by kernel_rfl) fun a HF => ?_
  refine aI ?_
  refine bF HF rfl ?_
  refine aW ?_
  refine wp_pure HF HM rfl 1 [] [(2, .bool false)] (by kernel_rfl) fun a HF => ?_
  refine aI ?_
  refine wp_ret ?_
  repeat first | refine cu ?_ | refine dw ?_
  exact dI HF rfl rfl ⟨false, rfl, HM.below⟩
 replace HF := Fr.sub (Fr.tell HF 9 rfl (congrArg Value.bool hc4)) [(9, .bool true)] (by kernel_rfl)
 refine wp_pure HF HM rfl 1 [] [(10, .bool false)] (by kernel_rfl) fun a HF => ?_
 refine aI ?_
 refine bf HF rfl ?_
 refine wp_skip ?_
 repeat first | refine aS ?_ | refine aU ?_
 refine aW ?_
 refine wp_pure HF HM rfl 1 [] [(2, .bool true)] (by kernel_rfl) fun a HF => ?_
 refine aI ?_
 refine wp_ret ?_
 repeat first | refine cu ?_ | refine dw ?_
 exact dI HF rfl rfl ⟨true, rfl, HM.below⟩

end Go.Proofs.YtdgehpocmfjbiaaDoor
namespace Go.Proofs.YtdgehpocmfjbiaaDoor
open Go.RowKit

abbrev jA := fun z1 (x : dJ) => ((z1, .cells #[.bool x.wide, .bool x.big, aV x.abi, aV x.aC, .int .i64 x.ty, .int .i64 x.machine, aJ x.entry, .slice x.A x.ss.length x.c, .slice x.B x.ps.length x.d] 26 (0, 0)) : Nat × Obj)
abbrev jP := fun z1 (x : dJ) => ([(1, aG z1), (46, .slice x.A x.ss.length x.c), (47, aB x.ss.length)] : Slots)
abbrev nY := fun z1 z24 (x : dJ) i => ([(1, aG z1), (4, aG z24), (46, .slice x.A x.ss.length x.c), (47, aB x.ss.length), (48, aB i)] : Slots)
abbrev ig := fun z1 (x : dJ) => ([(1, aG z1), (77, .slice x.B x.ps.length x.d), (78, aB x.ps.length)] : Slots)
abbrev yM := fun z38 (m12 : fK) => ((z38, .cells #[.string (⟨m12.name.toArray⟩), aY m12.ty, aY m12.flags, aJ m12.addr, aY m12.link, aY m12.info, aJ m12.align, aJ m12.ent, aJ m12.size, .slice m12.A m12.data.length m12.c] 46 (0, 0)) : Nat × Obj)
abbrev eu := fun z1 z38 (x : dJ) i => ([(1, aG z1), (6, aG z38), (77, .slice x.B x.ps.length x.d), (78, aB x.ps.length), (79, aB i)] : Slots)
theorem Jd (x : dJ) (w0 : World) (h : x.At w0) : Calls Tryd.prog 22 #[x.val] w0 fun e w' => ∃ b, e = .returned (.bool b) ∧ Below w0.heap.size w0 w' ∧ (b = true → x.Ok ∧ x.ps.length ≤ 100) := by
 obtain ⟨w, hw⟩ : ∃ w, w0 = w := ⟨_, rfl⟩
 have HM : Mm [] w0 w [] := hw ▸ Mm.start w0
 conv => arg 4; rw [hw]
 clear hw
 refine bV Tryd.func22 rfl Tryd.ntmps22 [(0, .agg #[.bool x.wide, .bool x.big, aV x.abi, aV x.aC, .int .i64 x.ty, .int .i64 x.machine, aJ x.entry, .slice x.A x.ss.length x.c, .slice x.B x.ps.length x.d])] (by kernel_rfl) (Nat.le_of_ble_eq_true rfl) ?_
 intro a HF
 refine aW ?_
 obtain ⟨z1, hz1⟩ : ∃ z, w.heap.size = z := ⟨_, rfl⟩
 refine aO HF HM hz1 2 [] [(1, aG z1)] [jA z1 x] (by kernel_rfl) fun a w HF HM => ?_
 clear hz1
 refine aI ?_
 refine wp_seq ?_
 refine aW ?_
 refine wp_pure HF HM rfl 4 [[0]] [(1, aG z1), (10, .bool (decide (x.ty < 0)))] (by kernel_rfl) fun a HF => ?_
 by_cases hc1 : x.ty < 0
 ·rw [show decide (x.ty < 0) = true from dM (hc1)] at HF
  refine wp_pure HF HM rfl 34 [] [(1, aG z1), (44, .bool true)] (by kernel_rfl) fun a HF => ?_
  refine aI ?_
  refine bF HF rfl ?_
  refine aW ?_
  refine wp_pure HF HM rfl 1 [] [(2, .bool false)] (by kernel_rfl) fun a HF => ?_
  refine aI ?_
  refine wp_ret ?_
  repeat first | refine cu ?_ | refine dw ?_
  exact dI HF rfl rfl ⟨false, rfl, HM.below, fun h => by cases h⟩
 rw [show decide (x.ty < 0) = false from bZ (hc1)] at HF
 refine wp_pure HF HM rfl 5 [[0]] [(1, aG z1), (15, .bool (decide (65535 < x.ty)))] (by kernel_rfl) fun a HF => ?_
 by_cases hc2 : 65535 < x.ty
 ·rw [show decide (65535 < x.ty) = true from dM (hc2)] at HF
  refine wp_pure HF HM rfl 29 [] [(1, aG z1), (44, .bool true)] (by kernel_rfl) fun a HF => ?_
  refine aI ?_
  refine bF HF rfl ?_
  refine aW ?_
  refine wp_pure HF HM rfl 1 [] [(2, .bool false)] (by kernel_rfl) fun a HF => ?_
  refine aI ?_
  refine wp_ret ?_
  repeat first | refine cu ?_ | refine dw ?_
  exact dI HF rfl rfl ⟨false, rfl, HM.below, fun h => by cases h⟩
 rw [show decide (65535 < x.ty) = false from bZ (hc2)] at HF
 refine wp_pure HF HM rfl 5 [[0]] [(1, aG z1), (20, .bool (decide (x.machine < 0)))] (by kernel_rfl) fun a HF => ?_
 by_cases hc3 : x.machine < 0
 ·rw [show decide (x.machine < 0) = true from dM (hc3)] at HF
  refine wp_pure HF HM rfl 24 [] [(1, aG z1), (44, .bool true)] (by kernel_rfl) fun a HF => ?_
  refine aI ?_
  refine bF HF rfl ?_
  refine aW ?_
  refine wp_pure HF HM rfl 1 [] [(2, .bool false)] (by kernel_rfl) fun a HF => ?_
  refine aI ?_
  refine wp_ret ?_
  repeat first | refine cu ?_ | refine dw ?_
  exact dI HF rfl rfl ⟨false, rfl, HM.below, fun h => by cases h⟩
 rw [show decide (x.machine < 0) = false from bZ (hc3)] at HF
 refine wp_pure HF HM rfl 5 [[0]] [(1, aG z1), (25, .bool (decide (65535 < x.machine)))] (by kernel_rfl) fun a HF => ?_
 by_cases hc4 : 65535 < x.machine
 ·rw [show decide (65535 < x.machine) = true from dM (hc4)] at HF
  refine wp_pure HF HM rfl 19 [] [(1, aG z1), (44, .bool true)] (by kernel_rfl) fun a HF => ?_
  refine aI ?_
  refine bF HF rfl ?_
  refine aW ?_
  refine wp_pure HF HM rfl 1 [] [(2, .bool false)] (by kernel_rfl) fun a HF => ?_
  refine aI ?_
  refine wp_ret ?_
  repeat first | refine cu ?_ | refine dw ?_
  exact dI HF rfl rfl ⟨false, rfl, HM.below, fun h => by cases h⟩
 rw [show decide (65535 < x.machine) = false from bZ (hc4)] at HF
 obtain ⟨z14, hz14⟩ : ∃ z, w.heap.size = z := ⟨_, rfl⟩
 refine aO HF HM hz14 4 [[0], [0]] [(1, aG z1), (25, .bool false), (26, .agg #[.bool x.wide, .bool x.big, aV x.abi, aV x.aC, .int .i64 x.ty, .int .i64 x.machine, aJ x.entry, .slice x.A x.ss.length x.c, .slice x.B x.ps.length x.d]), (29, aH z14 1 1)] [(z14, .cells #[aJ x.entry] 22 (0, 0)), jA z1 x] (by kernel_rfl) fun a w HF HM => ?_
 clear hz14
 refine bn HF (by kernel_rfl) 52 #[.agg #[.bool x.wide, .bool x.big, aV x.abi, aV x.aC, .int .i64 x.ty, .int .i64 x.machine, aJ x.entry, .slice x.A x.ss.length x.c, .slice x.B x.ps.length x.d], aH z14 1 1] (by kernel_rfl) (fun w => by kernel_rfl) (Calls.mono (fits_any x.wide _ _ _ _ _ _ _ _ [x.entry] _ _ _ rfl (by simp) w (HM.rowAt (i := 0) rfl)) ?_)
 rintro _ w1 ⟨rfl, hb⟩
 replace HM := HM.call hb
 clear hb
 refine ⟨_, rfl, ?_⟩; clear HF; intro a HF
 replace HF := HF.sub [(1, aG z1), (25, .bool false), (30, .bool (lV x.wide [x.entry]))] (by kernel_rfl)
 rcases kX (lV x.wide [x.entry]) with hc5 | hc5
 ·replace HF := Fr.sub (Fr.tell HF 30 rfl (congrArg Value.bool hc5)) [(1, aG z1), (25, .bool false), (30, .bool false)] (by kernel_rfl)
  refine wp_pure HF HM rfl 14 [] [(1, aG z1), (44, .bool true)] (by kernel_rfl) fun a HF => ?_
  refine aI ?_
  refine bF HF rfl ?_
  refine aW ?_
  refine wp_pure HF HM rfl 1 [] [(2, .bool false)] (by kernel_rfl) fun a HF => ?_
  refine aI ?_
  refine wp_ret ?_
  repeat first | refine cu ?_ | refine dw ?_
  exact dI HF rfl rfl ⟨false, rfl, HM.below, fun h => by cases h⟩
 replace HF := Fr.sub (Fr.tell HF 30 rfl (congrArg Value.bool hc5)) [(1, aG z1), (25, .bool false), (30, .bool true)] (by kernel_rfl)
 refine wp_pure HF HM rfl 9 [[0]] [(1, aG z1), (39, .bool (decide (100 < ((x.ss.length : Nat) : Int))))] (by kernel_rfl) fun a HF => ?_
 by_cases hc6 : 100 < ((x.ss.length : Nat) : Int)
 ·rw [show decide (100 < ((x.ss.length : Nat) : Int)) = true from dM (hc6)] at HF
  refine wp_pure HF HM rfl 5 [] [(1, aG z1), (44, .bool true)] (by kernel_rfl) fun a HF => ?_
  refine aI ?_
  refine bF HF rfl ?_
  refine aW ?_
  refine wp_pure HF HM rfl 1 [] [(2, .bool false)] (by kernel_rfl) fun a HF => ?_
  refine aI ?_
  refine wp_ret ?_
  repeat first | refine cu ?_ | refine dw ?_
  exact dI HF rfl rfl ⟨false, rfl, HM.below, fun h => by cases h⟩
 rw [show decide (100 < ((x.ss.length : Nat) : Int)) = false from bZ (hc6)] at HF
 refine wp_pure HF HM rfl 5 [[0]] [(1, aG z1), (44, .bool (decide (100 < ((x.ps.length : Nat) : Int))))] (by kernel_rfl) fun a HF => ?_
 refine aI ?_
 by_cases hc7 : 100 < ((x.ps.length : Nat) : Int)
 ·rw [show decide (100 < ((x.ps.length : Nat) : Int)) = true from dM (hc7)] at HF
  refine bF HF rfl ?_
  refine aW ?_
  refine wp_pure HF HM rfl 1 [] [(2, .bool false)] (by kernel_rfl) fun a HF => ?_
  refine aI ?_
  refine wp_ret ?_
  repeat first | refine cu ?_ | refine dw ?_
  exact dI HF rfl rfl ⟨false, rfl, HM.below, fun h => by cases h⟩
 rw [show decide (100 < ((x.ps.length : Nat) : Int)) = false from bZ (hc7)] at HF
 refine bf HF rfl ?_
 refine wp_skip ?_
 repeat first | refine aS ?_ | refine aU ?_
 refine wp_seq ?_
 refine aW ?_
 refine wp_pure HF HM rfl 4 [[0]] ((jP z1 x) ++ [(48, aA 0)]) (by kernel_rfl) fun a HF => ?_
 refine aI ?_
 refine wp_block ?_
 replace HM := HM.pick [1] [jA z1 x] rfl (by decide)
 refine oU (x.ss.length) (fun i a w => ((∀ j m, j < i → x.ss[j]? = some m → jH.Ok x.wide m) ∧ Mm [] w0 w [jA z1 x] ∧ Fr 149 a ((jP z1 x) ++ [(48, aB i)]))) ?_ ?_ ?_
 ·exact ⟨fun j m hj => absurd hj (Nat.not_lt_zero j), HM, HF.sub ((jP z1 x) ++ [(48, aA 0)]) (by kernel_rfl)⟩
 ·intro i a w KX hi hI KR
  obtain ⟨KA, HM, HF⟩ := hI
  refine aW ?_
  refine wp_pure HF HM rfl 1 [] ((jP z1 x) ++ [(48, aB i), (49, .bool (decide (((i : Nat) : Int) < ((x.ss.length : Nat) : Int))))]) (by kernel_rfl) fun a HF => ?_
  refine aI ?_
  refine wp_seq ?_
  rw [show decide (((i : Nat) : Int) < ((x.ss.length : Nat) : Int)) = true from dM (by omega)] at HF
  refine bF HF rfl ?_
  refine wp_skip ?_
  repeat first | refine aS ?_ | refine aU ?_
  refine wp_seq ?_
  refine wp_block ?_
  refine aW ?_
  obtain ⟨m8, hm8⟩ : ∃ m, x.ss[i]? = some m := ⟨_, List.getElem?_eq_getElem (by omega)⟩
  refine dP HF (by kernel_rfl) (.pointer (Option.map (fun q : Addr => q.add (i * 7)) x.A)) (by kernel_rfl) (iU Tryd.underlying23 (by kernel_rfl) rfl i rfl rfl (by omega) (ny (lC (f := jH.cells) (k := 7) (fun _ => rfl) (HM.row h.cZ) i hm8) (Nat.zero_lt_succ _))) fun a HF => ?_
  refine dP HF (by kernel_rfl) (.agg #[aY m8.ty, aY m8.flags, aJ m8.bJ, aJ m8.bK, aJ m8.bP, aJ m8.align, .slice m8.A m8.data.length m8.c]) (by kernel_rfl) (lQ rfl rfl (lC (f := jH.cells) (k := 7) (fun _ => rfl) (HM.row h.cZ) i hm8) (Nat.zero_lt_succ _) Tryd.underlying57 rfl (by kernel_rfl)) fun a HF => ?_
  obtain ⟨z24, hz24⟩ : ∃ z, w.heap.size = z := ⟨_, rfl⟩
  refine aO HF HM hz24 2 [[1]] (nY z1 z24 x i) [(z24, .cells #[aY m8.ty, aY m8.flags, aJ m8.bJ, aJ m8.bK, aJ m8.bP, aJ m8.align, .slice m8.A m8.data.length m8.c] 57 (0, 0)), jA z1 x] (by kernel_rfl) fun a w HF HM => ?_
  clear hz24
  refine dK ?_
  obtain ⟨z25, hz25⟩ : ∃ z, w.heap.size = z := ⟨_, rfl⟩
  refine aO HF HM hz25 10 [[0], [1], [1], [1], [1]] ((nY z1 z24 x i) ++ [(52, .agg #[.bool x.wide, .bool x.big, aV x.abi, aV x.aC, .int .i64 x.ty, .int .i64 x.machine, aJ x.entry, .slice x.A x.ss.length x.c, .slice x.B x.ps.length x.d]), (61, aH z25 4 4)]) [(z25, .cells #[aJ m8.bJ, aJ m8.bK, aJ m8.bP, aJ m8.align] 22 (0, 0)), (z24, .cells #[aY m8.ty, aY m8.flags, aJ m8.bJ, aJ m8.bK, aJ m8.bP, aJ m8.align, .slice m8.A m8.data.length m8.c] 57 (0, 0)), jA z1 x] (by kernel_rfl) fun a w HF HM => ?_
  clear hz25
  refine bn HF (by kernel_rfl) 52 #[.agg #[.bool x.wide, .bool x.big, aV x.abi, aV x.aC, .int .i64 x.ty, .int .i64 x.machine, aJ x.entry, .slice x.A x.ss.length x.c, .slice x.B x.ps.length x.d], aH z25 4 4] (by kernel_rfl) (fun w => by kernel_rfl) (Calls.mono (fits_any x.wide _ _ _ _ _ _ _ _ [m8.bJ, m8.bK, m8.bP, m8.align] _ _ _ rfl (by simp) w (HM.rowAt (i := 0) rfl)) ?_)
  rintro _ w2 ⟨rfl, hb⟩
  replace HM := HM.call hb
  clear hb
  refine ⟨_, rfl, ?_⟩; clear HF; intro a HF
  replace HF := HF.sub ((nY z1 z24 x i) ++ [(62, .bool (lV x.wide [m8.bJ, m8.bK, m8.bP, m8.align]))]) (by kernel_rfl)
  rcases kX (lV x.wide [m8.bJ, m8.bK, m8.bP, m8.align]) with hc9 | hc9
  ·replace HF := Fr.sub (Fr.tell HF 62 rfl (congrArg Value.bool hc9)) ((nY z1 z24 x i) ++ [(62, .bool false)]) (by kernel_rfl)
   refine wp_pure HF HM rfl 12 [] ((jP z1 x) ++ [(48, aB i), (74, .bool true)]) (by kernel_rfl) fun a HF => ?_
   refine aI ?_
   refine bF HF rfl ?_
   refine aW ?_
   refine wp_pure HF HM rfl 1 [] [(2, .bool false)] (by kernel_rfl) fun a HF => ?_
   refine aI ?_
   refine wp_ret ?_
   repeat first | refine cu ?_ | refine dw ?_
   exact dI HF rfl rfl ⟨false, rfl, HM.below, fun h => by cases h⟩
  replace HF := Fr.sub (Fr.tell HF 62 rfl (congrArg Value.bool hc9)) ((nY z1 z24 x i) ++ [(62, .bool true)]) (by kernel_rfl)
  refine wp_pure HF HM rfl 7 [[1]] ((nY z1 z24 x i) ++ [(69, .bool (decide (2147483648 ≤ ((m8.ty : Nat) : Int))))]) (by kernel_rfl) fun a HF => ?_
  by_cases hc10 : 2147483648 ≤ ((m8.ty : Nat) : Int)
  ·rw [show decide (2147483648 ≤ ((m8.ty : Nat) : Int)) = true from dM (hc10)] at HF
   refine wp_pure HF HM rfl 5 [] ((jP z1 x) ++ [(48, aB i), (74, .bool true)]) (by kernel_rfl) fun a HF => ?_
   refine aI ?_
   refine bF HF rfl ?_
   refine aW ?_
   refine wp_pure HF HM rfl 1 [] [(2, .bool false)] (by kernel_rfl) fun a HF => ?_
   refine aI ?_
   refine wp_ret ?_
   repeat first | refine cu ?_ | refine dw ?_
   exact dI HF rfl rfl ⟨false, rfl, HM.below, fun h => by cases h⟩
  rw [show decide (2147483648 ≤ ((m8.ty : Nat) : Int)) = false from bZ (hc10)] at HF
  refine wp_pure HF HM rfl 5 [[1]] ((jP z1 x) ++ [(48, aB i), (74, .bool (decide (65536 < ((m8.data.length : Nat) : Int))))]) (by kernel_rfl) fun a HF => ?_
  refine aI ?_
  by_cases hc11 : 65536 < ((m8.data.length : Nat) : Int)
  ·rw [show decide (65536 < ((m8.data.length : Nat) : Int)) = true from dM (hc11)] at HF
   refine bF HF rfl ?_
   refine aW ?_
   refine wp_pure HF HM rfl 1 [] [(2, .bool false)] (by kernel_rfl) fun a HF => ?_
   refine aI ?_
   refine wp_ret ?_
   repeat first | refine cu ?_ | refine dw ?_
   exact dI HF rfl rfl ⟨false, rfl, HM.below, fun h => by cases h⟩
  rw [show decide (65536 < ((m8.data.length : Nat) : Int)) = false from bZ (hc11)] at HF
  refine bf HF rfl ?_
  refine wp_skip ?_
  repeat first | refine aS ?_ | refine aU ?_
  refine wp_region_lit ?_
  refine wp_pure HF HM rfl 1 [] ((jP z1 x) ++ [(75, aA (IntKind.i64.wrap (((i : Nat) : Int) + 1)))]) (by kernel_rfl) fun a HF => ?_
  rw [show IntKind.i64.wrap (((i : Nat) : Int) + 1) = (((i + 1) : Nat) : Int) from (IntWalk.i64_in _ (by omega)).trans (by omega)] at HF
  refine wp_pure HF HM rfl 1 [] ((jP z1 x) ++ [(48, aB (i + 1))]) (by kernel_rfl) fun a HF => ?_
  refine wpList_nil ?_
  repeat first | refine aS ?_ | refine aU ?_
  exact KR _ _ (⟨fun j m hj hm => (Nat.lt_or_ge j i).elim (fun g => KA j m g hm) (fun g => by obtain rfl : j = i := (by omega); rw [hm8] at hm; obtain rfl := Option.some.inj hm; exact ⟨by assumption, by omega, by omega⟩), (HM.pick [2] [jA z1 x] rfl (by decide)), HF.sub ((jP z1 x) ++ [(48, aB (i + 1))]) (by kernel_rfl)⟩)
 ·intro a w KX hI
  obtain ⟨KA, HM, HF⟩ := hI
  refine aW ?_
  refine wp_pure HF HM rfl 1 [] ((jP z1 x) ++ [(48, aB x.ss.length), (49, .bool (decide (((x.ss.length : Nat) : Int) < ((x.ss.length : Nat) : Int))))]) (by kernel_rfl) fun a HF => ?_
  refine aI ?_
  refine wp_seq ?_
  rw [show decide (((x.ss.length : Nat) : Int) < ((x.ss.length : Nat) : Int)) = false from bZ (by omega)] at HF
  refine bf HF rfl ?_
  refine wp_exit ?_
  repeat (first | refine iW ?_ | refine ku rfl ?_)
  refine kH ?_
  repeat first | refine aS ?_ | refine aU ?_
  refine wp_seq ?_
  refine aW ?_
  refine wp_pure HF HM rfl 4 [[0]] ((ig z1 x) ++ [(79, aA 0)]) (by kernel_rfl) fun a HF => ?_
  refine aI ?_
  refine wp_block ?_
  refine oU (x.ps.length) (fun i a w => ((∀ j m, j < i → x.ps[j]? = some m → fK.Ok x.wide m) ∧ Mm [] w0 w [jA z1 x] ∧ Fr 149 a ((ig z1 x) ++ [(79, aB i)]))) ?_ ?_ ?_
  ·exact ⟨fun j m hj => absurd hj (Nat.not_lt_zero j), HM, HF.sub ((ig z1 x) ++ [(79, aA 0)]) (by kernel_rfl)⟩
  ·intro i a w KX hi hI KR
   obtain ⟨hparts, HM, HF⟩ := hI
   refine aW ?_
   refine wp_pure HF HM rfl 1 [] ((ig z1 x) ++ [(79, aB i), (80, .bool (decide (((i : Nat) : Int) < ((x.ps.length : Nat) : Int))))]) (by kernel_rfl) fun a HF => ?_
   refine aI ?_
   refine wp_seq ?_
   rw [show decide (((i : Nat) : Int) < ((x.ps.length : Nat) : Int)) = true from dM (by omega)] at HF
   refine bF HF rfl ?_
   refine wp_skip ?_
   repeat first | refine aS ?_ | refine aU ?_
   refine wp_seq ?_
   refine wp_block ?_
   refine aW ?_
   obtain ⟨m12, vk⟩ : ∃ m, x.ps[i]? = some m := ⟨_, List.getElem?_eq_getElem (by omega)⟩
   refine dP HF (by kernel_rfl) (.pointer (Option.map (fun q : Addr => q.add (i * 10)) x.B)) (by kernel_rfl) (iU Tryd.underlying24 (by kernel_rfl) rfl i rfl rfl (by omega) (ny (lC (f := fK.cells) (k := 10) (fun _ => rfl) (HM.row h.parts) i vk) (Nat.zero_lt_succ _))) fun a HF => ?_
   refine dP HF (by kernel_rfl) (.agg #[.string (⟨m12.name.toArray⟩), aY m12.ty, aY m12.flags, aJ m12.addr, aY m12.link, aY m12.info, aJ m12.align, aJ m12.ent, aJ m12.size, .slice m12.A m12.data.length m12.c]) (by kernel_rfl) (lQ rfl rfl (lC (f := fK.cells) (k := 10) (fun _ => rfl) (HM.row h.parts) i vk) (Nat.zero_lt_succ _) Tryd.underlying46 rfl (by kernel_rfl)) fun a HF => ?_
   obtain ⟨z38, hz38⟩ : ∃ z, w.heap.size = z := ⟨_, rfl⟩
   refine aO HF HM hz38 2 [[1]] (eu z1 z38 x i) [yM z38 m12, jA z1 x] (by kernel_rfl) fun a w HF HM => ?_
   clear hz38
   refine aI ?_
   refine wp_seq ?_
   refine aW ?_
   obtain ⟨z39, hz39⟩ : ∃ z, w.heap.size = z := ⟨_, rfl⟩
   refine aO HF HM hz39 10 [[0], [1], [1], [1], [1]] ((eu z1 z38 x i) ++ [(83, .agg #[.bool x.wide, .bool x.big, aV x.abi, aV x.aC, .int .i64 x.ty, .int .i64 x.machine, aJ x.entry, .slice x.A x.ss.length x.c, .slice x.B x.ps.length x.d]), (92, aH z39 4 4)]) [(z39, .cells #[aJ m12.addr, aJ m12.align, aJ m12.ent, aJ m12.size] 22 (0, 0)), yM z38 m12, jA z1 x] (by kernel_rfl) fun a w HF HM => ?_
   clear hz39
   refine bn HF (by kernel_rfl) 52 #[.agg #[.bool x.wide, .bool x.big, aV x.abi, aV x.aC, .int .i64 x.ty, .int .i64 x.machine, aJ x.entry, .slice x.A x.ss.length x.c, .slice x.B x.ps.length x.d], aH z39 4 4] (by kernel_rfl) (fun w => by kernel_rfl) (Calls.mono (fits_any x.wide _ _ _ _ _ _ _ _ [m12.addr, m12.align, m12.ent, m12.size] _ _ _ rfl (by simp) w (HM.rowAt (i := 0) rfl)) ?_)
   rintro _ w3 ⟨rfl, hb⟩
   replace HM := HM.call hb
   clear hb
   refine ⟨_, rfl, ?_⟩; clear HF; intro a HF
   replace HF := HF.sub ((eu z1 z38 x i) ++ [(93, .bool (lV x.wide [m12.addr, m12.align, m12.ent, m12.size]))]) (by kernel_rfl)
   rcases kX (lV x.wide [m12.addr, m12.align, m12.ent, m12.size]) with hc13 | hc13
   ·replace HF := Fr.sub (Fr.tell HF 93 rfl (congrArg Value.bool hc13)) ((eu z1 z38 x i) ++ [(93, .bool false)]) (by kernel_rfl)
    refine wp_pure HF HM rfl 29 [] ((eu z1 z38 x i) ++ [(122, .bool true)]) (by kernel_rfl) fun a HF => ?_
    refine aI ?_
    refine bF HF rfl ?_
    refine aW ?_
    refine wp_pure HF HM rfl 1 [] [(2, .bool false)] (by kernel_rfl) fun a HF => ?_
    refine aI ?_
    refine wp_ret ?_
    repeat first | refine cu ?_ | refine dw ?_
    exact dI HF rfl rfl ⟨false, rfl, HM.below, fun h => by cases h⟩
   replace HF := Fr.sub (Fr.tell HF 93 rfl (congrArg Value.bool hc13)) ((eu z1 z38 x i) ++ [(93, .bool true)]) (by kernel_rfl)
   refine wp_pure HF HM rfl 8 [[1]] ((eu z1 z38 x i) ++ [(101, .bool (decide (1024 < ((m12.name.length : Nat) : Int))))]) (by kernel_rfl) fun a HF => ?_
   by_cases hc14 : 1024 < ((m12.name.length : Nat) : Int)
   ·rw [show decide (1024 < ((m12.name.length : Nat) : Int)) = true from dM (hc14)] at HF
    refine wp_pure HF HM rfl 21 [] ((eu z1 z38 x i) ++ [(122, .bool true)]) (by kernel_rfl) fun a HF => ?_
    refine aI ?_
    refine bF HF rfl ?_
    refine aW ?_
    refine wp_pure HF HM rfl 1 [] [(2, .bool false)] (by kernel_rfl) fun a HF => ?_
    refine aI ?_
    refine wp_ret ?_
    repeat first | refine cu ?_ | refine dw ?_
    exact dI HF rfl rfl ⟨false, rfl, HM.below, fun h => by cases h⟩
   rw [show decide (1024 < ((m12.name.length : Nat) : Int)) = false from bZ (hc14)] at HF
   refine wp_pure HF HM rfl 2 [[1]] ((eu z1 z38 x i) ++ [(101, .bool false), (103, .string (⟨m12.name.toArray⟩))]) (by kernel_rfl) fun a HF => ?_
   have hnm := (h.part m12 (List.mem_of_getElem? vk)).nm
   refine bn HF (by kernel_rfl) 53 #[.string (⟨m12.name.toArray⟩)] (by kernel_rfl) (fun w => by kernel_rfl) (Calls.mono (Kw m12.name (by unfold maxLen at hnm; omega) w3) ?_)
   rintro _ w4 ⟨rfl, hq⟩
   replace hq := hq.symm; subst hq
   refine ⟨_, rfl, ?_⟩; clear HF; intro a HF
   replace HF := HF.sub ((eu z1 z38 x i) ++ [(101, .bool false), (104, .bool (decide (0 ∉ m12.name)))]) (by kernel_rfl)
   by_cases hc15 : 0 ∉ m12.name
   ·rw [show decide (0 ∉ m12.name) = true from dM (hc15)] at HF
    refine wp_pure HF HM rfl 9 [[1]] ((eu z1 z38 x i) ++ [(113, .bool (decide (65536 < ((m12.data.length : Nat) : Int))))]) (by kernel_rfl) fun a HF => ?_
    by_cases hc16 : 65536 < ((m12.data.length : Nat) : Int)
    ·rw [show decide (65536 < ((m12.data.length : Nat) : Int)) = true from dM (hc16)] at HF
     refine wp_pure HF HM rfl 9 [] ((eu z1 z38 x i) ++ [(122, .bool true)]) (by kernel_rfl) fun a HF => ?_
     refine aI ?_
     refine bF HF rfl ?_
     refine aW ?_
     refine wp_pure HF HM rfl 1 [] [(2, .bool false)] (by kernel_rfl) fun a HF => ?_
     refine aI ?_
     refine wp_ret ?_
     repeat first | refine cu ?_ | refine dw ?_
     exact dI HF rfl rfl ⟨false, rfl, HM.below, fun h => by cases h⟩
    rw [show decide (65536 < ((m12.data.length : Nat) : Int)) = false from bZ (hc16)] at HF
    refine wp_pure HF HM rfl 5 [[1]] ((eu z1 z38 x i) ++ [(118, .bool (((m12.ty : Nat) : Int) == 0))]) (by kernel_rfl) fun a HF => ?_
    by_cases hc17 : ((m12.ty : Nat) : Int) = 0
    ·rw [show (((m12.ty : Nat) : Int) == 0) = true from Ez (hc17)] at HF
     refine wp_pure HF HM rfl 4 [] ((eu z1 z38 x i) ++ [(122, .bool true)]) (by kernel_rfl) fun a HF => ?_
     refine aI ?_
     refine bF HF rfl ?_
     refine aW ?_
     refine wp_pure HF HM rfl 1 [] [(2, .bool false)] (by kernel_rfl) fun a HF => ?_
     refine aI ?_
     refine wp_ret ?_
     repeat first | refine cu ?_ | refine dw ?_
     exact dI HF rfl rfl ⟨false, rfl, HM.below, fun h => by cases h⟩
    rw [show (((m12.ty : Nat) : Int) == 0) = false from KU (hc17)] at HF
    refine wp_pure HF HM rfl 4 [[1]] ((eu z1 z38 x i) ++ [(122, .bool (decide (1610612736 ≤ ((m12.ty : Nat) : Int))))]) (by kernel_rfl) fun a HF => ?_
    refine aI ?_
    by_cases hc18 : 1610612736 ≤ ((m12.ty : Nat) : Int)
    ·rw [show decide (1610612736 ≤ ((m12.ty : Nat) : Int)) = true from dM (hc18)] at HF
     refine bF HF rfl ?_
     refine aW ?_
     refine wp_pure HF HM rfl 1 [] [(2, .bool false)] (by kernel_rfl) fun a HF => ?_
     refine aI ?_
     refine wp_ret ?_
     repeat first | refine cu ?_ | refine dw ?_
     exact dI HF rfl rfl ⟨false, rfl, HM.below, fun h => by cases h⟩
    rw [show decide (1610612736 ≤ ((m12.ty : Nat) : Int)) = false from bZ (hc18)] at HF
    refine bf HF rfl ?_
    refine wp_skip ?_
    repeat first | refine aS ?_ | refine aU ?_
    refine aW ?_
    refine wp_pure HF HM rfl 2 [[1]] ((eu z1 z38 x i) ++ [(124, .string (⟨m12.name.toArray⟩))]) (by kernel_rfl) fun a HF => ?_
    refine bn HF (by kernel_rfl) 54 #[.string (⟨m12.name.toArray⟩)] (by kernel_rfl) (fun w => by kernel_rfl) (Calls.mono (JK ⟨m12.name.toArray⟩ w3) ?_)
    rintro _ w5 ⟨rfl, hq⟩
    replace hq := hq.symm; subst hq
    refine ⟨_, rfl, ?_⟩; clear HF; intro a HF
    refine wp_pure HF HM rfl 1 [] ((eu z1 z38 x i) ++ [(126, .bool (yt ⟨m12.name.toArray⟩))]) (by kernel_rfl) fun a HF => ?_
    rcases kX (yt ⟨m12.name.toArray⟩) with hc19 | hc19
    ·replace HF := Fr.sub (Fr.tell HF 126 rfl (congrArg Value.bool hc19)) ((eu z1 z38 x i) ++ [(126, .bool false)]) (by kernel_rfl)
     refine wp_pure HF HM rfl 6 [[1]] ((eu z1 z38 x i) ++ [(132, .bool (((oC ((m12.flags : Nat) : Int) 2048)) != 0))]) (by kernel_rfl) fun a HF => ?_
     by_cases hc20 : ((oC ((m12.flags : Nat) : Int) 2048)) ≠ 0
     ·rw [show (((oC ((m12.flags : Nat) : Int) 2048)) != 0) = true from NM (hc20)] at HF
      refine wp_pure HF HM rfl 15 [] ((ig z1 x) ++ [(79, aB i), (147, .bool true)]) (by kernel_rfl) fun a HF => ?_
      refine aI ?_
      refine bF HF rfl ?_
      refine aW ?_
      refine wp_pure HF HM rfl 1 [] [(2, .bool false)] (by kernel_rfl) fun a HF => ?_
      refine aI ?_
      refine wp_ret ?_
      repeat first | refine cu ?_ | refine dw ?_
      exact dI HF rfl rfl ⟨false, rfl, HM.below, fun h => by cases h⟩
     rw [show (((oC ((m12.flags : Nat) : Int) 2048)) != 0) = false from Gy (hc20)] at HF
     refine wp_pure HF HM rfl 4 [[1]] ((eu z1 z38 x i) ++ [(132, .bool false), (136, .bool (((m12.ty : Nat) : Int) == 8))]) (by kernel_rfl) fun a HF => ?_
     by_cases hc21 : ((m12.ty : Nat) : Int) = 8
     ·rw [show (((m12.ty : Nat) : Int) == 8) = true from Ez (hc21)] at HF
      refine wp_pure HF HM rfl 7 [[1]] ((eu z1 z38 x i) ++ [(143, .bool (decide (0 < ((m12.data.length : Nat) : Int))))]) (by kernel_rfl) fun a HF => ?_
      by_cases hc22 : 0 < ((m12.data.length : Nat) : Int)
      ·rw [show decide (0 < ((m12.data.length : Nat) : Int)) = true from dM (hc22)] at HF
       refine wp_pure HF HM rfl 4 [] ((ig z1 x) ++ [(79, aB i), (147, .bool true)]) (by kernel_rfl) fun a HF => ?_
       refine aI ?_
       refine bF HF rfl ?_
       refine aW ?_
       refine wp_pure HF HM rfl 1 [] [(2, .bool false)] (by kernel_rfl) fun a HF => ?_
       refine aI ?_
       refine wp_ret ?_
       repeat first | refine cu ?_ | refine dw ?_
       exact dI HF rfl rfl ⟨false, rfl, HM.below, fun h => by cases h⟩
      rw [show decide (0 < ((m12.data.length : Nat) : Int)) = false from bZ (hc22)] at HF
      refine wp_pure HF HM rfl 4 [[1]] ((ig z1 x) ++ [(79, aB i), (147, .bool (decide (4611686018427387904 ≤ ((m12.size : Nat) : Int))))]) (by kernel_rfl) fun a HF => ?_
      refine aI ?_
      by_cases hc23 : 4611686018427387904 ≤ ((m12.size : Nat) : Int)
      ·rw [show decide (4611686018427387904 ≤ ((m12.size : Nat) : Int)) = true from dM (hc23)] at HF
       refine bF HF rfl ?_
       refine aW ?_
       refine wp_pure HF HM rfl 1 [] [(2, .bool false)] (by kernel_rfl) fun a HF => ?_
       refine aI ?_
       refine wp_ret ?_
       repeat first | refine cu ?_ | refine dw ?_
       exact dI HF rfl rfl ⟨false, rfl, HM.below, fun h => by cases h⟩
      rw [show decide (4611686018427387904 ≤ ((m12.size : Nat) : Int)) = false from bZ (hc23)] at HF
      refine bf HF rfl ?_
      refine wp_skip ?_
      repeat first | refine aS ?_ | refine aU ?_
      refine wp_region_lit ?_
      refine wp_pure HF HM rfl 1 [] ((ig z1 x) ++ [(148, aA (IntKind.i64.wrap (((i : Nat) : Int) + 1)))]) (by kernel_rfl) fun a HF => ?_
      rw [show IntKind.i64.wrap (((i : Nat) : Int) + 1) = (((i + 1) : Nat) : Int) from (IntWalk.i64_in _ (by omega)).trans (by omega)] at HF
      refine wp_pure HF HM rfl 1 [] ((ig z1 x) ++ [(79, aB (i + 1))]) (by kernel_rfl) fun a HF => ?_
      refine wpList_nil ?_
      repeat first | refine aS ?_ | refine aU ?_
      exact KR _ _ (⟨fun j m hj hm => (Nat.lt_or_ge j i).elim (fun g => hparts j m g hm) (fun g => by obtain rfl : j = i := (by omega); rw [vk] at hm; obtain rfl := Option.some.inj hm; exact ⟨by assumption, by omega, by assumption, by omega, by omega, by omega, by assumption, Ez (Decidable.byContradiction (by assumption)), fun h8 => by omega, by omega⟩), (HM.pick [2] [jA z1 x] rfl (by decide)), HF.sub ((ig z1 x) ++ [(79, aB (i + 1))]) (by kernel_rfl)⟩)
     rw [show (((m12.ty : Nat) : Int) == 8) = false from KU (hc21)] at HF
     refine wp_pure HF HM rfl 11 [[1]] ((ig z1 x) ++ [(79, aB i), (147, .bool (decide (4611686018427387904 ≤ ((m12.size : Nat) : Int))))]) (by kernel_rfl) fun a HF => ?_
     refine aI ?_
     by_cases hc24 : 4611686018427387904 ≤ ((m12.size : Nat) : Int)
     ·rw [show decide (4611686018427387904 ≤ ((m12.size : Nat) : Int)) = true from dM (hc24)] at HF
      refine bF HF rfl ?_
      refine aW ?_
      refine wp_pure HF HM rfl 1 [] [(2, .bool false)] (by kernel_rfl) fun a HF => ?_
      refine aI ?_
      refine wp_ret ?_
      repeat first | refine cu ?_ | refine dw ?_
      exact dI HF rfl rfl ⟨false, rfl, HM.below, fun h => by cases h⟩
     rw [show decide (4611686018427387904 ≤ ((m12.size : Nat) : Int)) = false from bZ (hc24)] at HF
     refine bf HF rfl ?_
     refine wp_skip ?_
     repeat first | refine aS ?_ | refine aU ?_
     refine wp_region_lit ?_
     refine wp_pure HF HM rfl 1 [] ((ig z1 x) ++ [(148, aA (IntKind.i64.wrap (((i : Nat) : Int) + 1)))]) (by kernel_rfl) fun a HF => ?_
     rw [show IntKind.i64.wrap (((i : Nat) : Int) + 1) = (((i + 1) : Nat) : Int) from (IntWalk.i64_in _ (by omega)).trans (by omega)] at HF
     refine wp_pure HF HM rfl 1 [] ((ig z1 x) ++ [(79, aB (i + 1))]) (by kernel_rfl) fun a HF => ?_
     refine wpList_nil ?_
     repeat first | refine aS ?_ | refine aU ?_
     exact KR _ _ (⟨fun j m hj hm => (Nat.lt_or_ge j i).elim (fun g => hparts j m g hm) (fun g => by obtain rfl : j = i := (by omega); rw [vk] at hm; obtain rfl := Option.some.inj hm; exact ⟨by assumption, by omega, by assumption, by omega, by omega, by omega, by assumption, Ez (Decidable.byContradiction (by assumption)), fun h8 => by omega, by omega⟩), (HM.pick [2] [jA z1 x] rfl (by decide)), HF.sub ((ig z1 x) ++ [(79, aB (i + 1))]) (by kernel_rfl)⟩)
    replace HF := Fr.sub (Fr.tell HF 126 rfl (congrArg Value.bool hc19)) ((eu z1 z38 x i) ++ [(126, .bool true)]) (by kernel_rfl)
    refine wp_pure HF HM rfl 21 [] ((ig z1 x) ++ [(79, aB i), (147, .bool true)]) (by kernel_rfl) fun a HF => ?_
    refine aI ?_
    refine bF HF rfl ?_
    refine aW ?_
    refine wp_pure HF HM rfl 1 [] [(2, .bool false)] (by kernel_rfl) fun a HF => ?_
    refine aI ?_
    refine wp_ret ?_
    repeat first | refine cu ?_ | refine dw ?_
    exact dI HF rfl rfl ⟨false, rfl, HM.below, fun h => by cases h⟩
   rw [show decide (0 ∉ m12.name) = false from bZ (hc15)] at HF
   refine wp_pure HF HM rfl 18 [] ((eu z1 z38 x i) ++ [(122, .bool true)]) (by kernel_rfl) fun a HF => ?_
   refine aI ?_
   refine bF HF rfl ?_
   refine aW ?_
   refine wp_pure HF HM rfl 1 [] [(2, .bool false)] (by kernel_rfl) fun a HF => ?_
   refine aI ?_
   refine wp_ret ?_
   repeat first | refine cu ?_ | refine dw ?_
   exact dI HF rfl rfl ⟨false, rfl, HM.below, fun h => by cases h⟩
  ·intro a w KX hI
   obtain ⟨hparts, HM, HF⟩ := hI
   refine aW ?_
   refine wp_pure HF HM rfl 1 [] ((ig z1 x) ++ [(79, aB x.ps.length), (80, .bool (decide (((x.ps.length : Nat) : Int) < ((x.ps.length : Nat) : Int))))]) (by kernel_rfl) fun a HF => ?_
   refine aI ?_
   refine wp_seq ?_
   rw [show decide (((x.ps.length : Nat) : Int) < ((x.ps.length : Nat) : Int)) = false from bZ (by omega)] at HF
   refine bf HF rfl ?_
   refine wp_exit ?_
   repeat (first | refine iW ?_ | refine ku rfl ?_)
   refine kH ?_
   repeat first | refine aS ?_ | refine aU ?_
   refine aW ?_
   refine wp_pure HF HM rfl 1 [] [(2, .bool true)] (by kernel_rfl) fun a HF => ?_
   refine aI ?_
   refine wp_ret ?_
   repeat first | refine cu ?_ | refine dw ?_
   exact dI HF rfl rfl ⟨true, rfl, HM.below, fun _ => ⟨⟨by omega, by omega, by omega, by omega, by assumption, by omega, by omega, fun m hm => (List.getElem?_of_mem hm).elim fun j hj => KA j m (List.getElem?_eq_some_iff.1 hj).1 hj, fun m hm => (List.getElem?_of_mem hm).elim fun j hj => hparts j m (List.getElem?_eq_some_iff.1 hj).1 hj⟩, by omega⟩⟩

end Go.Proofs.YtdgehpocmfjbiaaDoor
namespace Go.Proofs.YtdgehpocmfjbiaaDoor
open Go.RowKit

def vg (s : List UInt8) : Value := .string ⟨s.toArray⟩
def o7 (n : Nat) : Value := aB n
theorem Dk {l : List (List UInt8)} {i : Nat} {m : List UInt8} (h : l[i]? = some m) : dn (l.take (i + 1)) = dn (l.take i) ++ m ++ [0] := by
 obtain ⟨hl, e⟩ := List.getElem?_eq_some_iff.1 h
 rw [I_ l i hl, e]
theorem pI {l : List (List UInt8)} {i : Nat} {m : List UInt8} (h : l[i]? = some m) : (dn (l.take i)).length + m.length + 1 ≤ (dn l).length := by
 obtain ⟨hl, e⟩ := List.getElem?_eq_some_iff.1 h
 obtain ⟨r, e2⟩ := wX l i hl
 rw [e2, e]
 simp only [List.length_append, List.length_cons]
 omega
theorem Eu {l : List (List UInt8)} {i : Nat} {m : List UInt8} (h : l[i]? = some m) : (dn (l.take i)).length + m.length + 1 = (dn (l.take (i + 1))).length := by
 rw [Dk h]; simp; omega

abbrev BA := fun og (l : List (List UInt8)) i oc qg qc (A : Option Addr) (n : Nat) (c : Nat) => ([(4, aH og ((dn (l.take i)).length) oc), (5, aH qg i qc), (10, .slice A n c), (11, aB n), (12, aB i)] : Slots)
theorem FC (l : List (List UInt8)) (A : Option Addr) (n c : Nat) (hn : n = l.length) (w0 : World) (hr : Row w0 A (l.map vg)) (hb : (dn l).length ≤ 4000000000) (hb2 : n ≤ 4000000000) :
  Calls Tryd.prog 65 #[.slice A n c] w0 fun e w' => ∃ g cap cur g2 cap2 qE, e = .returned (.tuple #[aH g (dn l).length cap, aH g2 l.length cap2]) ∧ Below w0.heap.size w0 w' ∧ Own w0.heap.size w' 5 1 g (dn l).length cap cur ((dn l).map Bv) ∧ Own w0.heap.size w' 3 1 g2 l.length cap2 qE ((List.range l.length).map (fun j => o7 (nameAt l j))) ∧ g ≠ g2 := by
 obtain ⟨w, hw⟩ : ∃ w, w0 = w := ⟨_, rfl⟩
 have HM : Mm [] w0 w [] := hw ▸ Mm.start w0
 conv => arg 4; rw [hw]
 clear hw
 refine bV Tryd.func65 rfl Tryd.ntmps65 [(0, .slice A n c)] (by kernel_rfl) (Nat.le_of_ble_eq_true rfl) ?_
 intro a HF
 refine aW ?_
 refine wp_pure HF HM rfl 2 [] [(0, .slice A n c)] (by kernel_rfl) fun a HF => ?_
 refine dK ?_
 obtain ⟨z2, hz2⟩ : ∃ z, w.heap.size = z := ⟨_, rfl⟩
 refine aO HF HM hz2 2 [] [(0, .slice A n c), (4, aH z2 1 1)] [(z2, .cells #[aN 0] 5 (0, 0))] (by kernel_rfl) fun a w HF HM => ?_
 clear hz2
 refine dK ?_
 obtain ⟨z3, hz3⟩ : ∃ z, w.heap.size = z := ⟨_, rfl⟩
 refine aO HF HM hz3 2 [] [(0, .slice A n c), (4, aH z2 1 1), (5, aH z3 0 0)] [(z3, .cells #[] 3 (0, 0)), (z2, .cells #[aN 0] 5 (0, 0))] (by kernel_rfl) fun a w HF HM => ?_
 clear hz3
 refine aI ?_
 refine wp_seq ?_
 refine aW ?_
 refine wp_pure HF HM rfl 3 [] [(4, aH z2 1 1), (5, aH z3 0 0), (10, .slice A n c), (11, aB n), (12, aA 0)] (by kernel_rfl) fun a HF => ?_
 refine aI ?_
 refine wp_block ?_
 refine oU (n) (fun i a w => (∃ og : Nat, ∃ oc : Nat, ∃ ok : Array Value, ∃ qg : Nat, ∃ qc : Nat, ∃ qk : Array Value, (ok.toList.take (((dn (l.take i)).length) * 1) = (dn (l.take i)).map Bv) ∧ (ok.size = oc * 1) ∧ (((dn (l.take i)).length) ≤ oc) ∧ (oc ≤ maxLen) ∧ (qk.toList.take (i * 1) = (List.range i).map (fun j => o7 (nameAt l j))) ∧ (qk.size = qc * 1) ∧ (i ≤ qc) ∧ (qc ≤ maxLen) ∧ Mm [] w0 w [(qg, .cells qk 3 (0, 0)), (og, .cells ok 5 (0, 0))] ∧ Fr 29 a (BA og l i oc qg qc A n c))) ?_ ?_ ?_
 ·exact ⟨z2, 1, #[aN 0], z3, 0, #[], rfl, rfl, Nat.le_refl _, by unfold maxLen; omega, rfl, rfl, Nat.le_refl _, by unfold maxLen; omega, HM, HF.sub [(4, aH z2 ((dn (l.take 0)).length) 1), (5, aH z3 0 0), (10, .slice A n c), (11, aB n), (12, aA 0)] (by kernel_rfl)⟩
 ·intro i a w KX hi hI KR
  obtain ⟨og, oc, ok, qg, qc, qk, Fz, G_, FB, Hg, D8, G7, Fp, G8, HM, HF⟩ := hI
  refine aW ?_
  refine wp_pure HF HM rfl 1 [] ((BA og l i oc qg qc A n c) ++ [(13, .bool (decide (((i : Nat) : Int) < ((n : Nat) : Int))))]) (by kernel_rfl) fun a HF => ?_
  refine aI ?_
  refine wp_seq ?_
  rw [show decide (((i : Nat) : Int) < ((n : Nat) : Int)) = true from dM (by omega)] at HF
  refine bF HF rfl ?_
  refine wp_skip ?_
  repeat first | refine aS ?_ | refine aU ?_
  refine wp_seq ?_
  refine wp_block ?_
  refine aW ?_
  obtain ⟨m1, hm1⟩ : ∃ m, l[i]? = some m := ⟨_, List.getElem?_eq_getElem (by omega)⟩
  have hnl := pI hm1
  refine dP HF (by kernel_rfl) (.pointer (Option.map (fun q : Addr => q.add (i * 1)) A)) (by kernel_rfl) (iU Tryd.underlying38 (by kernel_rfl) rfl i rfl rfl (by omega) (ny (uV (HM.row hr) i hm1) (Nat.zero_lt_succ _))) fun a HF => ?_
  refine dP HF (by kernel_rfl) (.string (⟨m1.toArray⟩)) (by kernel_rfl) (oH rfl rfl (uV (HM.row hr) i hm1) (by kernel_rfl)) fun a HF => ?_
  refine wp_pure HF HM rfl 1 [] [(4, aH og ((dn (l.take i)).length) oc), (5, aH qg i qc), (7, .string (⟨m1.toArray⟩)), (10, .slice A n c), (11, aB n), (12, aB i)] (by kernel_rfl) fun a HF => ?_
  refine dK ?_
  obtain ⟨z7, uY⟩ : ∃ z, w.heap.size = z := ⟨_, rfl⟩
  refine aO HF HM uY 4 [] [(4, aH og ((dn (l.take i)).length) oc), (7, .string (⟨m1.toArray⟩)), (10, .slice A n c), (11, aB n), (12, aB i), (16, aH qg i qc), (19, aH z7 1 1)] [(z7, .cells #[aB ((dn (l.take i)).length)] 3 (0, 0)), (qg, .cells qk 3 (0, 0)), (og, .cells ok 5 (0, 0))] (by kernel_rfl) fun a w HF HM => ?_
  clear uY
  refine iF HF HM rfl _ _ 66 66 rfl rfl 3 (z := aA 0) (size := 1) (bytes := 8) Tryd.underlying66 (by kernel_rfl) rfl (by decide) 1 qg i qc qk rfl rfl Fp G8 G7 ((List.range i).map (fun j => o7 (nameAt l j))) D8 (aH z7 1 1) 1 [aB ((dn (l.take i)).length)] rfl (mX Tryd.underlying66 rfl (by decide) (HM.rowAt (i := 0) rfl) (pG rfl)) (by unfold maxLen; omega) (by omega) ?_
  intro a w1 g2 cap2 qE bI DC hsz2 yD hcm2 HF2; clear HF HM
  replace DC : qE.toList.take ((i + 1) * 1) = (List.range (i + 1)).map (fun j => o7 (nameAt l j)) := DC.trans (by rw [List.range_succ, List.map_append]; rfl)
  have HM : Mm [] w0 w1 [(z7, .cells #[aB ((dn (l.take i)).length)] 3 (0, 0)), (g2, .cells qE 3 (0, 0)), (og, .cells ok 5 (0, 0))] := bI
  have HF := HF2.sub [(4, aH og ((dn (l.take i)).length) oc), (7, .string (⟨m1.toArray⟩)), (10, .slice A n c), (11, aB n), (12, aB i), (20, aH g2 (i + 1) cap2)] (by kernel_rfl); clear bI HF2
  refine wp_pure HF HM rfl 1 [] [(4, aH og ((dn (l.take i)).length) oc), (5, aH g2 (i + 1) cap2), (7, .string (⟨m1.toArray⟩)), (10, .slice A n c), (11, aB n), (12, aB i)] (by kernel_rfl) fun a HF => ?_
  refine aI ?_
  refine wp_region_lit ?_
  refine wp_pure HF HM rfl 2 [] [(5, aH g2 (i + 1) cap2), (10, .slice A n c), (11, aB n), (12, aB i), (21, aH og ((dn (l.take i)).length) oc), (22, .string (⟨m1.toArray⟩))] (by kernel_rfl) fun a HF => ?_
  refine iF HF HM rfl _ _ 33 9 rfl rfl 5 (z := aN 0) (size := 1) (bytes := 1) Tryd.underlying33 (by kernel_rfl) rfl (by decide) 2 og ((dn (l.take i)).length) oc ok rfl rfl FB Hg G_ ((dn (l.take i)).map Bv) Fz (.string (⟨m1.toArray⟩)) m1.length (m1.map Bv) rfl (JV Tryd.underlying9 m1) (by unfold maxLen; omega) (by omega) ?_
  intro a w2 g3 cap3 qR bI yC hsz3 EX H_ HF2; clear HF HM
  have HM : Mm [] w0 w2 [(z7, .cells #[aB ((dn (l.take i)).length)] 3 (0, 0)), (g2, .cells qE 3 (0, 0)), (g3, .cells qR 5 (0, 0))] := bI
  have HF := HF2.sub [(5, aH g2 (i + 1) cap2), (10, .slice A n c), (11, aB n), (12, aB i), (23, aH g3 (((dn (l.take i)).length) + m1.length) cap3)] (by kernel_rfl); clear bI HF2
  obtain ⟨z10, BG⟩ : ∃ z, w2.heap.size = z := ⟨_, rfl⟩
  refine aO HF HM BG 1 [] [(5, aH g2 (i + 1) cap2), (10, .slice A n c), (11, aB n), (12, aB i), (23, aH g3 (((dn (l.take i)).length) + m1.length) cap3), (24, aH z10 1 1)] [(z10, .cells #[aN 0] 5 (0, 0)), (z7, .cells #[aB ((dn (l.take i)).length)] 3 (0, 0)), (g2, .cells qE 3 (0, 0)), (g3, .cells qR 5 (0, 0))] (by kernel_rfl) fun a w HF HM => ?_
  clear BG
  refine iF HF HM rfl _ _ 33 33 rfl rfl 5 (z := aN 0) (size := 1) (bytes := 1) Tryd.underlying33 (by kernel_rfl) rfl (by decide) 3 g3 (((dn (l.take i)).length) + m1.length) cap3 qR rfl rfl EX H_ hsz3 ((dn (l.take i)).map Bv ++ (m1.map Bv)) yC (aH z10 1 1) 1 [aN 0] rfl (mX Tryd.underlying33 rfl (by decide) (HM.rowAt (i := 0) rfl) (pG rfl)) (by unfold maxLen; omega) (by omega) ?_
  intro a w3 g4 cap4 yH bI yB hsz4 HY hcm4 HF2; clear HF HM
  rw [show (((dn (l.take i)).length) + m1.length) + 1 = (((dn (l.take i)).length) + m1.length + 1) from by omega] at HF2 yB HY
  replace yB : yH.toList.take ((((dn (l.take i)).length) + m1.length + 1) * 1) = (dn (l.take (i + 1))).map Bv := yB.trans (by rw [Dk hm1, List.map_append, List.map_append]; rfl)
  have HM : Mm [] w0 w3 [(z10, .cells #[aN 0] 5 (0, 0)), (z7, .cells #[aB ((dn (l.take i)).length)] 3 (0, 0)), (g2, .cells qE 3 (0, 0)), (g4, .cells yH 5 (0, 0))] := bI
  have HF := HF2.sub [(5, aH g2 (i + 1) cap2), (10, .slice A n c), (11, aB n), (12, aB i), (25, aH g4 (((dn (l.take i)).length) + m1.length + 1) cap4)] (by kernel_rfl); clear bI HF2
  refine wp_pure HF HM rfl 1 [] [(4, aH g4 (((dn (l.take i)).length) + m1.length + 1) cap4), (5, aH g2 (i + 1) cap2), (10, .slice A n c), (11, aB n), (12, aB i)] (by kernel_rfl) fun a HF => ?_
  refine wpList_nil ?_
  repeat first | refine aS ?_ | refine aU ?_
  refine wp_region_lit ?_
  refine wp_pure HF HM rfl 1 [] [(4, aH g4 (((dn (l.take i)).length) + m1.length + 1) cap4), (5, aH g2 (i + 1) cap2), (10, .slice A n c), (11, aB n), (26, aA (IntKind.i64.wrap (((i : Nat) : Int) + 1)))] (by kernel_rfl) fun a HF => ?_
  rw [show IntKind.i64.wrap (((i : Nat) : Int) + 1) = (((i + 1) : Nat) : Int) from (IntWalk.i64_in _ (by omega)).trans (by omega)] at HF
  refine wp_pure HF HM rfl 1 [] [(4, aH g4 (((dn (l.take i)).length) + m1.length + 1) cap4), (5, aH g2 (i + 1) cap2), (10, .slice A n c), (11, aB n), (12, aB (i + 1))] (by kernel_rfl) fun a HF => ?_
  refine wpList_nil ?_
  repeat first | refine aS ?_ | refine aU ?_
  rw [show (((dn (l.take i)).length) + m1.length + 1) = ((dn (l.take (i + 1))).length) from Eu hm1] at HF yB HY
  exact KR _ _ (⟨g4, cap4, yH, g2, cap2, qE, yB, hsz4, HY, hcm4, DC, hsz2, yD, hcm2, (HM.pick [2, 3] [(g2, .cells qE 3 (0, 0)), (g4, .cells yH 5 (0, 0))] rfl (by decide)), HF.sub [(4, aH g4 ((dn (l.take (i + 1))).length) cap4), (5, aH g2 (i + 1) cap2), (10, .slice A n c), (11, aB n), (12, aB (i + 1))] (by kernel_rfl)⟩)
 ·intro a w KX hI
  obtain ⟨og, oc, ok, qg, qc, qk, Fz, G_, FB, Hg, D8, G7, Fp, G8, HM, HF⟩ := hI
  refine aW ?_
  refine wp_pure HF HM rfl 1 [] [(4, aH og ((dn (l.take n)).length) oc), (5, aH qg n qc), (10, .slice A n c), (11, aB n), (12, aB n), (13, .bool (decide (((n : Nat) : Int) < ((n : Nat) : Int))))] (by kernel_rfl) fun a HF => ?_
  refine aI ?_
  refine wp_seq ?_
  rw [show decide (((n : Nat) : Int) < ((n : Nat) : Int)) = false from bZ (by omega)] at HF
  refine bf HF rfl ?_
  refine wp_exit ?_
  repeat (first | refine iW ?_ | refine ku rfl ?_)
  refine kH ?_
  repeat first | refine aS ?_ | refine aU ?_
  refine aW ?_
  refine wp_pure HF HM rfl 4 [] [(2, aH og ((dn (l.take n)).length) oc), (3, aH qg n qc)] (by kernel_rfl) fun a HF => ?_
  refine aI ?_
  refine wp_ret ?_
  repeat first | refine cu ?_ | refine dw ?_
  rw [hn, List.take_length] at HF Fz FB
  rw [hn] at D8 Fp
  exact h_ HF rfl rfl rfl ⟨og, oc, ok, qg, qc, qk, rfl, HM.below, ⟨HM.ge (i := 1) rfl, HM.get (i := 1) rfl, Fz, G_, FB, Hg⟩, ⟨HM.ge (i := 0) rfl, HM.get (i := 0) rfl, D8, G7, Fp, G8⟩, HM.ne (i := 1) (j := 0) rfl rfl (by decide)⟩

theorem Fg (wide : Bool) (w0 : World) : Calls Tryd.prog 64 #[.bool wide] w0 fun e w' => e = .returned (.tuple #[aB (fB wide), aB (gI wide), aB (gQ wide)]) ∧ Below w0.heap.size w0 w' := by
 cases wide with
 | true =>
  obtain ⟨w, hw⟩ : ∃ w, w0 = w := ⟨_, rfl⟩
  have HM : Mm [] w0 w [] := hw ▸ Mm.start w0
  conv => arg 4; rw [hw]
  clear hw
  refine bV Tryd.func64 rfl Tryd.ntmps64 [(0, .bool true)] (by kernel_rfl) (Nat.le_of_ble_eq_true rfl) ?_
  intro a HF
  refine aW ?_
  obtain ⟨z1, hz1⟩ : ∃ z, w.heap.size = z := ⟨_, rfl⟩
  refine wp_pure HF HM hz1 3 [] [(0, .bool true)] (by kernel_rfl) fun a HF => ?_
  clear hz1
  refine aI ?_
  refine wp_seq ?_
  refine aW ?_
  obtain ⟨z2, hz2⟩ : ∃ z, w.heap.size = z := ⟨_, rfl⟩
  refine wp_pure HF HM hz2 1 [] [(5, .bool true)] (by kernel_rfl) fun a HF => ?_
  clear hz2
  refine aI ?_
  refine bF HF rfl ?_
  refine aW ?_
  obtain ⟨z3, hz3⟩ : ∃ z, w.heap.size = z := ⟨_, rfl⟩
  refine wp_pure HF HM hz3 3 [] [(2, .int .i64 64), (3, .int .i64 56), (4, .int .i64 64)] (by kernel_rfl) fun a HF => ?_
  clear hz3
  refine aI ?_
  refine wp_ret ?_
  repeat first | refine cu ?_ | refine dw ?_
  exact AY HF rfl rfl rfl rfl ⟨rfl, HM.below⟩
 | false =>
  obtain ⟨w, hw⟩ : ∃ w, w0 = w := ⟨_, rfl⟩
  have HM : Mm [] w0 w [] := hw ▸ Mm.start w0
  conv => arg 4; rw [hw]
  clear hw
  refine bV Tryd.func64 rfl Tryd.ntmps64 [(0, .bool false)] (by kernel_rfl) (Nat.le_of_ble_eq_true rfl) ?_
  intro a HF
  refine aW ?_
  refine wp_pure HF HM rfl 3 [] [(0, .bool false)] (by kernel_rfl) fun a HF => ?_
  refine aI ?_
  refine wp_seq ?_
  refine aW ?_
  refine wp_pure HF HM rfl 1 [] [(5, .bool false)] (by kernel_rfl) fun a HF => ?_
  refine aI ?_
  refine bf HF rfl ?_
  refine wp_skip ?_
  repeat first | refine aS ?_ | refine aU ?_
  refine aW ?_
  refine wp_pure HF HM rfl 3 [] [(2, .int .i64 52), (3, .int .i64 32), (4, .int .i64 40)] (by kernel_rfl) fun a HF => ?_
  refine aI ?_
  refine wp_ret ?_
  repeat first | refine cu ?_ | refine dw ?_
  exact AY HF rfl rfl rfl rfl ⟨rfl, HM.below⟩

def Gm : fK := ⟨[], 0, 0, 0, 0, 0, 0, 0, 0, [], none, 0⟩
def lG (x : dJ) : List fK := Gm :: x.ps
theorem yR (x : dJ) : (lG x).length = x.ps.length + 1 := by simp [lG]
def MH (x : dJ) (g cap : Nat) : fK := ⟨vI, 3, 0, 0, 0, 0, 1, 0, 0, dn x.img.names, some ⟨g, 0, none⟩, cap⟩
def allM (x : dJ) (g cap : Nat) : List fK := lG x ++ [MH x g cap]
theorem wW (x : dJ) : x.img.names = (lG x).map (·.name) ++ [vI] := by
 simp [dG.names, dG.firsts, dJ.img, lG, uK, Gm, fK.part, Function.comp_def]
theorem yI (x : dJ) (g cap : Nat) : (allM x g cap).length = x.ps.length + 2 := by simp [allM, lG]
theorem BP (x : dJ) (g cap : Nat) : (allM x g cap).map fK.part = x.img.all := by
 simp [allM, lG, dG.all, dG.firsts, dJ.img, Gm, uK, fK.part, MH, dG.CJ]
theorem Bz (x : dJ) : x.img.names.length = x.ps.length + 2 := by rw [wW]; simp [lG]
theorem xB {α : Type} {l : List α} {i : Nat} {m : α} (h : l[i]? = some m) : l.take (i + 1) = l.take i ++ [m] := by
 obtain ⟨hl, e⟩ := List.getElem?_eq_some_iff.1 h
 rw [List.take_succ_eq_append_getElem hl, e]

abbrev wR := fun z1 (x : dJ) => ((z1, .cells #[.bool x.wide, .bool x.big, aV x.abi, aV x.aC, .int .i64 x.ty, .int .i64 x.machine, aJ x.entry, .slice x.A x.ss.length x.c, .slice x.B x.ps.length x.d] 26 (0, 0)) : Nat × Obj)
abbrev ED := fun g1 (x : dJ) cap1 og i oc => ([(3, aH g1 (x.ps.length + 1) cap1), (4, aH og i oc), (15, aH g1 (x.ps.length + 1) cap1), (16, aB (x.ps.length + 1)), (17, aB i)] : Slots)
abbrev wQ := fun g1 (x : dJ) cap1 g3 i cap3 => ([(3, aH g1 (x.ps.length + 1) cap1), (4, aH g3 (i + 1) cap3), (15, aH g1 (x.ps.length + 1) cap1), (16, aB (x.ps.length + 1))] : Slots)
abbrev uF := fun z13 => ((z13, .cells #[.string (⟨#[46, 115, 104, 115, 116, 114, 116, 97, 98]⟩ : ByteArray)] 9 (0, 0)) : Nat × Obj)
abbrev EF := fun sO gt (x : dJ) bW => ((sO, .cells #[.string (⟨#[46, 115, 104, 115, 116, 114, 116, 97, 98]⟩ : ByteArray), lu 3, lu 0, bD 0, lu 0, lu 0, bD 1, bD 0, bD 0, aH gt ((dn x.img.names).length) bW] 46 (0, 0)) : Nat × Obj)
theorem Oh (x : dJ) (w0 : World) (h : x.At w0) (hp : x.ps.length ≤ 1000000) (hnb : (dn x.img.names).length ≤ 4000000000) :
  Calls Tryd.prog 38 #[x.val] w0 fun e w' => ∃ g cap cur gt bW iJ, e = .returned (aH g (x.ps.length + 2) cap) ∧ Below w0.heap.size w0 w' ∧ Own w0.heap.size w' 46 10 g (x.ps.length + 2) cap cur ((allM x gt bW).flatMap fK.cells) ∧ Own w0.heap.size w' 5 1 gt (dn x.img.names).length bW iJ ((dn x.img.names).map Bv) ∧ g ≠ gt := by
 have hfl := yR x
 obtain ⟨w, hw⟩ : ∃ w, w0 = w := ⟨_, rfl⟩
 have HM : Mm [] w0 w [] := hw ▸ Mm.start w0
 conv => arg 4; rw [hw]
 clear hw
 refine bV Tryd.func38 rfl Tryd.ntmps38 [(0, .agg #[.bool x.wide, .bool x.big, aV x.abi, aV x.aC, .int .i64 x.ty, .int .i64 x.machine, aJ x.entry, .slice x.A x.ss.length x.c, .slice x.B x.ps.length x.d])] (by kernel_rfl) (Nat.le_of_ble_eq_true rfl) ?_
 intro a HF
 refine aW ?_
 obtain ⟨z1, hz1⟩ : ∃ z, w.heap.size = z := ⟨_, rfl⟩
 refine aO HF HM hz1 2 [] [(1, aG z1)] [wR z1 x] (by kernel_rfl) fun a w HF HM => ?_
 clear hz1
 refine dK ?_
 obtain ⟨z2, hz2⟩ : ∃ z, w.heap.size = z := ⟨_, rfl⟩
 refine aO HF HM hz2 4 [[0]] [(10, aH z2 1 1), (12, .slice x.B x.ps.length x.d)] [(z2, .cells #[.string (⟨#[]⟩ : ByteArray), lu 0, lu 0, bD 0, lu 0, lu 0, bD 0, bD 0, bD 0, aK] 46 (0, 0)), wR z1 x] (by kernel_rfl) fun a w HF HM => ?_
 clear hz2
 refine iF HF HM rfl _ _ 24 24 rfl rfl 46 (z := .agg #[.string (⟨#[]⟩ : ByteArray), lu 0, lu 0, bD 0, lu 0, lu 0, bD 0, bD 0, bD 0, aK]) (size := 10) (bytes := 88) Tryd.underlying24 (by kernel_rfl) rfl (by decide) 0 z2 1 1 #[.string (⟨#[]⟩ : ByteArray), lu 0, lu 0, bD 0, lu 0, lu 0, bD 0, bD 0, bD 0, aK] rfl rfl (Nat.le_refl _) (by unfold maxLen; omega) rfl ([.string (⟨#[]⟩ : ByteArray), lu 0, lu 0, bD 0, lu 0, lu 0, bD 0, bD 0, bD 0, aK]) rfl (.slice x.B x.ps.length x.d) x.ps.length (x.ps.flatMap fK.cells) rfl (mX Tryd.underlying24 (Ig (f := fK.cells) (k := 10) (fun _ => rfl) _) (by decide) (HM.row h.parts) (Nl (fun _ => rfl) _)) (by unfold maxLen; omega) (by omega) ?_
 intro a w1 g1 cap1 qU bI Hu hsz1 H6 hcm1 HF2; clear HF HM
 rw [show 1 + x.ps.length = (x.ps.length + 1) from by omega] at HF2 Hu H6
 replace Hu : qU.toList.take ((x.ps.length + 1) * 10) = (lG x).flatMap fK.cells := Hu.trans (by unfold lG; rw [List.flatMap_cons]; rfl)
 have HM : Mm [] w0 w1 [(g1, .cells qU 46 (0, 0)), wR z1 x] := bI
 have HF := HF2.sub [(13, aH g1 (x.ps.length + 1) cap1)] (by kernel_rfl); clear bI HF2
 refine wp_pure HF HM rfl 1 [] [(3, aH g1 (x.ps.length + 1) cap1)] (by kernel_rfl) fun a HF => ?_
 refine dK ?_
 obtain ⟨z4, nH⟩ : ∃ z, w1.heap.size = z := ⟨_, rfl⟩
 refine aO HF HM nH 2 [] [(3, aH g1 (x.ps.length + 1) cap1), (4, aH z4 0 0)] [(z4, .cells #[] 9 (0, 0)), (g1, .cells qU 46 (0, 0)), wR z1 x] (by kernel_rfl) fun a w HF HM => ?_
 clear nH
 refine aI ?_
 refine wp_seq ?_
 refine aW ?_
 refine wp_pure HF HM rfl 3 [] [(3, aH g1 (x.ps.length + 1) cap1), (4, aH z4 0 0), (15, aH g1 (x.ps.length + 1) cap1), (16, aB (x.ps.length + 1)), (17, aA 0)] (by kernel_rfl) fun a HF => ?_
 refine aI ?_
 refine wp_block ?_
 replace HM := HM.pick [0, 1] [(z4, .cells #[] 9 (0, 0)), (g1, .cells qU 46 (0, 0))] rfl (by decide)
 refine oU ((x.ps.length + 1)) (fun i a w => (∃ og : Nat, ∃ oc : Nat, ∃ ok : Array Value, (ok.toList.take (i * 1) = ((lG x).take i).map (fun p => vg p.name)) ∧ (ok.size = oc * 1) ∧ (i ≤ oc) ∧ (oc ≤ maxLen) ∧ Mm [] w0 w [(og, .cells ok 9 (0, 0)), (g1, .cells qU 46 (0, 0))] ∧ Fr 39 a (ED g1 x cap1 og i oc))) ?_ ?_ ?_
 ·exact ⟨z4, 0, #[], rfl, rfl, Nat.le_refl _, by unfold maxLen; omega, HM, HF.sub [(3, aH g1 (x.ps.length + 1) cap1), (4, aH z4 0 0), (15, aH g1 (x.ps.length + 1) cap1), (16, aB (x.ps.length + 1)), (17, aA 0)] (by kernel_rfl)⟩
 ·intro i a w KX hi hI KR
  obtain ⟨og, oc, ok, Fz, G_, FB, Hg, HM, HF⟩ := hI
  refine aW ?_
  refine wp_pure HF HM rfl 1 [] ((ED g1 x cap1 og i oc) ++ [(18, .bool (decide (((i : Nat) : Int) < (((x.ps.length + 1) : Nat) : Int))))]) (by kernel_rfl) fun a HF => ?_
  refine aI ?_
  refine wp_seq ?_
  rw [show decide (((i : Nat) : Int) < (((x.ps.length + 1) : Nat) : Int)) = true from dM (by omega)] at HF
  refine bF HF rfl ?_
  refine wp_skip ?_
  repeat first | refine aS ?_ | refine aU ?_
  refine wp_seq ?_
  refine wp_block ?_
  refine aW ?_
  obtain ⟨m2, hm2⟩ : ∃ m, (lG x)[i]? = some m := ⟨_, List.getElem?_eq_getElem (by omega)⟩
  refine dP HF (by kernel_rfl) (.pointer (Option.map (fun q : Addr => q.add (i * 10)) (some ⟨g1, 0, none⟩))) (by kernel_rfl) (iU Tryd.underlying24 (by kernel_rfl) rfl i rfl rfl (by omega) (Option.some_ne_none _)) fun a HF => ?_
  refine dP HF (by kernel_rfl) (.agg #[.string (⟨m2.name.toArray⟩), aY m2.ty, aY m2.flags, aJ m2.addr, aY m2.link, aY m2.info, aJ m2.align, aJ m2.ent, aJ m2.size, .slice m2.A m2.data.length m2.c]) (by kernel_rfl) (lQ rfl rfl (lC (f := fK.cells) (k := 10) (fun _ => rfl) (HM.nG (i := 1) rfl Hu) i hm2) (Nat.zero_lt_succ _) Tryd.underlying46 rfl (by kernel_rfl)) fun a HF => ?_
  obtain ⟨z7, uY⟩ : ∃ z, w.heap.size = z := ⟨_, rfl⟩
  refine aO HF HM uY 2 [[2]] [(3, aH g1 (x.ps.length + 1) cap1), (4, aH og i oc), (6, aG z7), (15, aH g1 (x.ps.length + 1) cap1), (16, aB (x.ps.length + 1)), (17, aB i)] [(z7, .cells #[.string (⟨m2.name.toArray⟩), aY m2.ty, aY m2.flags, aJ m2.addr, aY m2.link, aY m2.info, aJ m2.align, aJ m2.ent, aJ m2.size, .slice m2.A m2.data.length m2.c] 46 (0, 0)), (og, .cells ok 9 (0, 0)), (g1, .cells qU 46 (0, 0))] (by kernel_rfl) fun a w HF HM => ?_
  clear uY
  refine aI ?_
  refine wp_region_lit ?_
  obtain ⟨z8, hz8⟩ : ∃ z, w.heap.size = z := ⟨_, rfl⟩
  refine aO HF HM hz8 4 [[2]] [(3, aH g1 (x.ps.length + 1) cap1), (15, aH g1 (x.ps.length + 1) cap1), (16, aB (x.ps.length + 1)), (17, aB i), (21, aH og i oc), (24, aH z8 1 1)] [(z8, .cells #[.string (⟨m2.name.toArray⟩)] 9 (0, 0)), (z7, .cells #[.string (⟨m2.name.toArray⟩), aY m2.ty, aY m2.flags, aJ m2.addr, aY m2.link, aY m2.info, aJ m2.align, aJ m2.ent, aJ m2.size, .slice m2.A m2.data.length m2.c] 46 (0, 0)), (og, .cells ok 9 (0, 0)), (g1, .cells qU 46 (0, 0))] (by kernel_rfl) fun a w HF HM => ?_
  clear hz8
  refine iF HF HM rfl _ _ 38 38 rfl rfl 9 (z := .string (⟨#[]⟩ : ByteArray)) (size := 1) (bytes := 16) Tryd.underlying38 (by kernel_rfl) rfl (by decide) 2 og i oc ok rfl rfl FB Hg G_ (((lG x).take i).map (fun p => vg p.name)) Fz (aH z8 1 1) 1 [.string (⟨m2.name.toArray⟩)] rfl (mX Tryd.underlying38 rfl (by decide) (HM.rowAt (i := 0) rfl) (pG rfl)) (by unfold maxLen; omega) (by omega) ?_
  intro a w2 g3 cap3 qR bI yC hsz3 EX H_ HF2; clear HF HM
  replace yC : qR.toList.take ((i + 1) * 1) = ((lG x).take (i + 1)).map (fun p => vg p.name) := yC.trans (by rw [xB hm2, List.map_append]; rfl)
  have HM : Mm [] w0 w2 [(z8, .cells #[.string (⟨m2.name.toArray⟩)] 9 (0, 0)), (z7, .cells #[.string (⟨m2.name.toArray⟩), aY m2.ty, aY m2.flags, aJ m2.addr, aY m2.link, aY m2.info, aJ m2.align, aJ m2.ent, aJ m2.size, .slice m2.A m2.data.length m2.c] 46 (0, 0)), (g3, .cells qR 9 (0, 0)), (g1, .cells qU 46 (0, 0))] := bI
  have HF := HF2.sub [(3, aH g1 (x.ps.length + 1) cap1), (15, aH g1 (x.ps.length + 1) cap1), (16, aB (x.ps.length + 1)), (17, aB i), (25, aH g3 (i + 1) cap3)] (by kernel_rfl); clear bI HF2
  refine wp_pure HF HM rfl 1 [] ((wQ g1 x cap1 g3 i cap3) ++ [(17, aB i)]) (by kernel_rfl) fun a HF => ?_
  refine wpList_nil ?_
  repeat first | refine aS ?_ | refine aU ?_
  refine wp_region_lit ?_
  refine wp_pure HF HM rfl 1 [] ((wQ g1 x cap1 g3 i cap3) ++ [(26, aA (IntKind.i64.wrap (((i : Nat) : Int) + 1)))]) (by kernel_rfl) fun a HF => ?_
  rw [show IntKind.i64.wrap (((i : Nat) : Int) + 1) = (((i + 1) : Nat) : Int) from (IntWalk.i64_in _ (by omega)).trans (by omega)] at HF
  refine wp_pure HF HM rfl 1 [] ((wQ g1 x cap1 g3 i cap3) ++ [(17, aB (i + 1))]) (by kernel_rfl) fun a HF => ?_
  refine wpList_nil ?_
  repeat first | refine aS ?_ | refine aU ?_
  exact KR _ _ (⟨g3, cap3, qR, yC, hsz3, EX, H_, (HM.pick [2, 3] [(g3, .cells qR 9 (0, 0)), (g1, .cells qU 46 (0, 0))] rfl (by decide)), HF.sub ((wQ g1 x cap1 g3 i cap3) ++ [(17, aB (i + 1))]) (by kernel_rfl)⟩)
 ·intro a w KX hI
  obtain ⟨og, oc, ok, Fz, G_, FB, Hg, HM, HF⟩ := hI
  refine aW ?_
  refine wp_pure HF HM rfl 1 [] [(3, aH g1 (x.ps.length + 1) cap1), (4, aH og (x.ps.length + 1) oc), (15, aH g1 (x.ps.length + 1) cap1), (16, aB (x.ps.length + 1)), (17, aB (x.ps.length + 1)), (18, .bool (decide ((((x.ps.length + 1) : Nat) : Int) < (((x.ps.length + 1) : Nat) : Int))))] (by kernel_rfl) fun a HF => ?_
  refine aI ?_
  refine wp_seq ?_
  rw [show decide ((((x.ps.length + 1) : Nat) : Int) < (((x.ps.length + 1) : Nat) : Int)) = false from bZ (by omega)] at HF
  refine bf HF rfl ?_
  refine wp_exit ?_
  repeat (first | refine iW ?_ | refine ku rfl ?_)
  refine kH ?_
  repeat first | refine aS ?_ | refine aU ?_
  refine aW ?_
  obtain ⟨z13, Ht⟩ : ∃ z, w.heap.size = z := ⟨_, rfl⟩
  refine aO HF HM Ht 2 [] [(3, aH g1 (x.ps.length + 1) cap1), (28, aH og (x.ps.length + 1) oc), (29, aH z13 1 1)] [uF z13, (og, .cells ok 9 (0, 0)), (g1, .cells qU 46 (0, 0))] (by kernel_rfl) fun a w HF HM => ?_
  clear Ht
  refine iF HF HM rfl _ _ 38 38 rfl rfl 9 (z := .string (⟨#[]⟩ : ByteArray)) (size := 1) (bytes := 16) Tryd.underlying38 (by kernel_rfl) rfl (by decide) 1 og (x.ps.length + 1) oc ok rfl rfl FB Hg G_ (((lG x).take (x.ps.length + 1)).map (fun p => vg p.name)) Fz (aH z13 1 1) 1 [.string (⟨#[46, 115, 104, 115, 116, 114, 116, 97, 98]⟩ : ByteArray)] rfl (mX Tryd.underlying38 rfl (by decide) (HM.rowAt (i := 0) rfl) (pG rfl)) (by unfold maxLen; omega) (by omega) ?_
  intro a w3 g4 cap4 yH bI yB hsz4 HY hcm4 HF2; clear HF HM
  rw [show (x.ps.length + 1) + 1 = (x.ps.length + 2) from by omega] at HF2 yB HY
  replace yB : yH.toList.take ((x.ps.length + 2) * 1) = x.img.names.map vg := yB.trans (by rw [wW, ← yR, List.take_length, List.map_append, List.map_map]; rfl)
  have HM : Mm [] w0 w3 [uF z13, (g4, .cells yH 9 (0, 0)), (g1, .cells qU 46 (0, 0))] := bI
  have HF := HF2.sub [(3, aH g1 (x.ps.length + 1) cap1), (30, aH g4 (x.ps.length + 2) cap4)] (by kernel_rfl); clear bI HF2
  refine bn HF (by kernel_rfl) 65 #[aH g4 (x.ps.length + 2) cap4] (by kernel_rfl) (fun w => by kernel_rfl) (Calls.mono (FC x.img.names _ _ _ (by rw [Bz]) w3 (HM.nG (i := 1) rfl yB) hnb (by omega)) ?_)
  rintro _ w4 ⟨gt, bW, iJ, g3, cap3, qR, rfl, hb, ho, ho3, hne⟩
  replace HM : Mm [] w0 w4 [(gt, .cells iJ 5 (0, 0)), uF z13, (g4, .cells yH 9 (0, 0)), (g1, .cells qU 46 (0, 0))] := HM.push hb ho.new ho.obj
  refine ⟨_, rfl, ?_⟩; clear HF; intro a HF
  refine wp_pure HF HM rfl 5 [] [(3, aH g1 (x.ps.length + 1) cap1), (7, aH gt ((dn x.img.names).length) bW)] (by kernel_rfl) fun a HF => ?_
  refine dK ?_
  obtain ⟨sO, BF⟩ : ∃ z, w4.heap.size = z := ⟨_, rfl⟩
  refine aO HF HM BF 4 [] [(34, aH g1 (x.ps.length + 1) cap1), (37, aH sO 1 1)] [EF sO gt x bW, (gt, .cells iJ 5 (0, 0)), uF z13, (g4, .cells yH 9 (0, 0)), (g1, .cells qU 46 (0, 0))] (by kernel_rfl) fun a w HF HM => ?_
  clear BF
  refine iF HF HM rfl _ _ 24 24 rfl rfl 46 (z := .agg #[.string (⟨#[]⟩ : ByteArray), lu 0, lu 0, bD 0, lu 0, lu 0, bD 0, bD 0, bD 0, aK]) (size := 10) (bytes := 88) Tryd.underlying24 (by kernel_rfl) rfl (by decide) 4 g1 (x.ps.length + 1) cap1 qU rfl rfl H6 hcm1 hsz1 ((lG x).flatMap fK.cells) Hu (aH sO 1 1) 1 [.string (⟨#[46, 115, 104, 115, 116, 114, 116, 97, 98]⟩ : ByteArray), lu 3, lu 0, bD 0, lu 0, lu 0, bD 1, bD 0, bD 0, aH gt ((dn x.img.names).length) bW] rfl (mX Tryd.underlying24 rfl (by decide) (HM.rowAt (i := 0) rfl) (pG rfl)) (by unfold maxLen; omega) (by omega) ?_
  intro a w5 g5 cap5 Aj bI Ai hsz5 EW KD HF2; clear HF HM
  rw [show (x.ps.length + 1) + 1 = (x.ps.length + 2) from by omega] at HF2 Ai EW
  replace Ai : Aj.toList.take ((x.ps.length + 2) * 10) = (allM x gt bW).flatMap fK.cells := Ai.trans (by unfold allM; rw [List.flatMap_append]; rfl)
  have HM : Mm [] w0 w5 [EF sO gt x bW, (gt, .cells iJ 5 (0, 0)), uF z13, (g4, .cells yH 9 (0, 0)), (g5, .cells Aj 46 (0, 0))] := bI
  have HF := HF2.sub [(38, aH g5 (x.ps.length + 2) cap5)] (by kernel_rfl); clear bI HF2
  refine wp_pure HF HM rfl 1 [] [(2, aH g5 (x.ps.length + 2) cap5)] (by kernel_rfl) fun a HF => ?_
  refine aI ?_
  refine wp_ret ?_
  repeat first | refine cu ?_ | refine dw ?_
  exact dI HF rfl rfl ⟨g5, cap5, Aj, gt, bW, iJ, rfl, HM.below, ⟨HM.ge (i := 4) rfl, HM.get (i := 4) rfl, Ai, hsz5, EW, KD⟩, ⟨HM.ge (i := 1) rfl, HM.get (i := 1) rfl, ho.tk, ho.sz, ho.nc, ho.cm⟩, HM.ne (i := 4) (j := 1) rfl rfl (by decide)⟩

end Go.Proofs.YtdgehpocmfjbiaaDoor
namespace Go.Proofs.YtdgehpocmfjbiaaDoor
open Go.RowKit

def oV (wide big : Bool) (abi aC : Nat) : List UInt8 := [127, 69, 76, 70, if wide then 2 else 1, if big then 2 else 1, 1, UInt8.ofNat abi, UInt8.ofNat aC] ++ List.replicate 7 0
theorem IB {n : Nat} (h : n < 256) : Bv (UInt8.ofNat n) = aV n := by
 rw [Ak]
 have : ((n : Nat) : Int) % 256 = (n : Int) := by omega
 rw [this]
theorem Je (wide big : Bool) (abi aC : Nat) (h1 : abi < 256) (h2 : aC < 256) :
  (#[.int .u8 127, .int .u8 69, .int .u8 76, .int .u8 70, .int .u8 (if wide then 2 else 1), .int .u8 (if big then 2 else 1), .int .u8 1, aV abi, aV aC] : Array Value).toList ++ List.replicate 7 (.int .u8 0) = (oV wide big abi aC).map Bv := by
 unfold oV
 rw [List.map_append, List.map_replicate]
 simp only [List.map_cons, List.map_nil]
 rw [IB h1, IB h2]
 cases wide <;> cases big <;> rfl

abbrev kV := fun z1 (x : dJ) => ((z1, .cells #[.bool x.wide, .bool x.big, aV x.abi, aV x.aC, .int .i64 x.ty, .int .i64 x.machine, aJ x.entry, .slice x.A x.ss.length x.c, .slice x.B x.ps.length x.d] 26 (0, 0)) : Nat × Obj)
abbrev rZ := fun (cZ : Nat) (at_ : Nat) (m : Nat) (kE : Nat) z1 => ([(1, aB cZ), (2, aB at_), (3, aB m), (4, aB kE), (5, aG z1)] : Slots)
abbrev dH := fun (cZ : Nat) (at_ : Nat) (m : Nat) (kE : Nat) z1 (x : dJ) => ((rZ cZ at_ m kE z1) ++ [(11, aB (fB x.wide)), (12, aB (gI x.wide)), (13, aB (gQ x.wide))] : Slots)
abbrev r_ := fun z11 (x : dJ) => ((z11, .cells #[aN 127, aN 69, aN 76, aN 70, aN (if x.wide then 2 else 1), aN (if x.big then 2 else 1), aN 1, aV x.abi, aV x.aC] 5 (0, 0)) : Nat × Obj)
abbrev ql := fun (cZ : Nat) (m : Nat) (x : dJ) z5 => ([(1, aB cZ), (3, aB m), (11, aB (fB x.wide)), (12, aB (gI x.wide)), (13, aB (gQ x.wide)), (14, aG z5)] : Slots)
theorem Gh (x : dJ) (cZ at_ m kE : Nat) (hsg : cZ ≤ 1000000) (hat : at_ ≤ 4000000000) (hm1 : 1 ≤ m) (hm : m ≤ 1000000) (hfr : kE ≤ 4000000000) (ht0 : 0 ≤ x.ty) (ht1 : x.ty ≤ 65535) (hm0 : 0 ≤ x.machine) (hm9 : x.machine ≤ 65535) (w0 : World) (h : x.At w0) :
  Calls Tryd.prog 66 #[x.val, aB cZ, aB at_, aB m, aB kE] w0 fun e w' => ∃ g cap cur, e = .returned (aH g (headB x.wide x.big x.abi x.aC x.ty.toNat x.machine.toNat x.entry cZ at_ m kE).length cap) ∧ Below w0.heap.size w0 w' ∧ Own w0.heap.size w' 5 1 g (headB x.wide x.big x.abi x.aC x.ty.toNat x.machine.toNat x.entry cZ at_ m kE).length cap cur ((headB x.wide x.big x.abi x.aC x.ty.toNat x.machine.toNat x.entry cZ at_ m kE).map Bv) := by
 have hty : x.ty = ((x.ty.toNat : Nat) : Int) := by omega
 have hmc : x.machine = ((x.machine.toNat : Nat) : Int) := by omega
 have hsz : fB x.wide ≤ 64 ∧ gI x.wide ≤ 64 ∧ gQ x.wide ≤ 64 := by unfold fB gI gQ; cases x.wide <;> decide
 have hent := h.entry
 obtain ⟨w, hw⟩ : ∃ w, w0 = w := ⟨_, rfl⟩
 have HM : Mm [] w0 w [] := hw ▸ Mm.start w0
 conv => arg 4; rw [hw]
 clear hw
 refine bV Tryd.func66 rfl Tryd.ntmps66 [(0, .agg #[.bool x.wide, .bool x.big, aV x.abi, aV x.aC, .int .i64 x.ty, .int .i64 x.machine, aJ x.entry, .slice x.A x.ss.length x.c, .slice x.B x.ps.length x.d]), (1, aB cZ), (2, aB at_), (3, aB m), (4, aB kE)] (by kernel_rfl) (Nat.le_of_ble_eq_true rfl) ?_
 intro a HF
 refine aW ?_
 obtain ⟨z1, hz1⟩ : ∃ z, w.heap.size = z := ⟨_, rfl⟩
 refine aO HF HM hz1 2 [] (rZ cZ at_ m kE z1) [kV z1 x] (by kernel_rfl) fun a w HF HM => ?_
 clear hz1
 refine dK ?_
 obtain ⟨z2, hz2⟩ : ∃ z, w.heap.size = z := ⟨_, rfl⟩
 refine wp_pure HF HM hz2 2 [[0]] ((rZ cZ at_ m kE z1) ++ [(19, .bool x.wide)]) (by kernel_rfl) fun a HF => ?_
 clear hz2
 refine bn HF (by kernel_rfl) 64 #[.bool x.wide] (by kernel_rfl) (fun w => by kernel_rfl) (Calls.mono (Fg x.wide w) ?_)
 rintro _ w1 ⟨rfl, hb⟩
 replace HM := HM.call hb
 clear hb
 refine ⟨_, rfl, ?_⟩; clear HF; intro a HF
 refine wp_pure HF HM rfl 7 [] (dH cZ at_ m kE z1 x) (by kernel_rfl) fun a HF => ?_
 refine dK ?_
 obtain ⟨z4, nH⟩ : ∃ z, w1.heap.size = z := ⟨_, rfl⟩
 refine wp_pure HF HM nH 5 [[0], [0]] ((dH cZ at_ m kE z1 x) ++ [(28, .agg #[.bool x.wide, .bool x.big, aK])]) (by kernel_rfl) fun a HF => ?_
 clear nH
 obtain ⟨z5, vF⟩ : ∃ z, w1.heap.size = z := ⟨_, rfl⟩
 have hzl : z1 < z5 := vF ▸ HM.lt (i := 0) rfl
 have hge : w0.heap.size ≤ z5 := vF ▸ HM.size
 refine aO HF HM vF 2 [] ((dH cZ at_ m kE z1 x) ++ [(14, aG z5)]) [(z5, .cells #[.bool x.wide, .bool x.big, aK] 169 (0, 0)), kV z1 x] (by kernel_rfl) fun a w HF HM => ?_
 clear vF
 refine dK ?_
 refine wp_pure HF HM rfl 2 [] ((dH cZ at_ m kE z1 x) ++ [(14, aG z5), (15, aN 1), (16, aN 1)]) (by kernel_rfl) fun a HF => ?_
 refine aI ?_
 refine wp_seq ?_
 refine aW ?_
 refine wp_pure HF HM rfl 2 [[0]] ((dH cZ at_ m kE z1 x) ++ [(14, aG z5), (15, aN 1), (16, aN 1), (31, .bool x.wide)]) (by kernel_rfl) fun a HF => ?_
 refine aI ?_
 refine yV (fun a w => (Mm [] w0 w [(z5, .cells #[.bool x.wide, .bool x.big, aK] 169 (0, 0)), kV z1 x] ∧ Fr 100 a ((dH cZ at_ m kE z1 x) ++ [(14, aG z5), (15, aN (if x.wide then 2 else 1)), (16, aN 1)]))) ?_ ?_
 ·rcases kX x.wide with hc1 | hc1
  ·replace HF := Fr.sub (Fr.tell HF 31 rfl (congrArg Value.bool hc1)) ((dH cZ at_ m kE z1 x) ++ [(14, aG z5), (15, aN 1), (16, aN 1), (31, .bool false)]) (by kernel_rfl)
   refine bf HF rfl ?_
   refine wp_skip ?_
   repeat first | refine aS ?_ | refine aU ?_
   exact ⟨HM, (by rw [show (if x.wide then 2 else 1 : Int) = 1 from by rw [hc1]; rfl]; exact HF.sub ((dH cZ at_ m kE z1 x) ++ [(14, aG z5), (15, aN 1), (16, aN 1)]) (by kernel_rfl))⟩
  replace HF := Fr.sub (Fr.tell HF 31 rfl (congrArg Value.bool hc1)) ((dH cZ at_ m kE z1 x) ++ [(14, aG z5), (15, aN 1), (16, aN 1), (31, .bool true)]) (by kernel_rfl)
  refine bF HF rfl ?_
  refine wp_region_lit ?_
  refine wp_pure HF HM rfl 1 [] ((dH cZ at_ m kE z1 x) ++ [(14, aG z5), (15, aN 2), (16, aN 1)]) (by kernel_rfl) fun a HF => ?_
  refine wpList_nil ?_
  repeat first | refine aS ?_ | refine aU ?_
  exact ⟨HM, (by rw [show (if x.wide then 2 else 1 : Int) = 2 from by rw [hc1]; rfl]; exact HF.sub ((dH cZ at_ m kE z1 x) ++ [(14, aG z5), (15, aN 2), (16, aN 1)]) (by kernel_rfl))⟩
 rintro a w ⟨HM, HF⟩
 repeat first | refine aS ?_ | refine aU ?_
 refine wp_seq ?_
 refine aW ?_
 refine wp_pure HF HM rfl 2 [[0]] ((dH cZ at_ m kE z1 x) ++ [(14, aG z5), (15, aN (if x.wide then 2 else 1)), (16, aN 1), (33, .bool x.big)]) (by kernel_rfl) fun a HF => ?_
 refine aI ?_
 refine yV (fun a w => (Mm [] w0 w [(z5, .cells #[.bool x.wide, .bool x.big, aK] 169 (0, 0)), kV z1 x] ∧ Fr 100 a ((dH cZ at_ m kE z1 x) ++ [(14, aG z5), (15, aN (if x.wide then 2 else 1)), (16, aN (if x.big then 2 else 1))]))) ?_ ?_
 ·rcases kX x.big with hc2 | hc2
  ·replace HF := Fr.sub (Fr.tell HF 33 rfl (congrArg Value.bool hc2)) ((dH cZ at_ m kE z1 x) ++ [(14, aG z5), (15, aN (if x.wide then 2 else 1)), (16, aN 1), (33, .bool false)]) (by kernel_rfl)
   refine bf HF rfl ?_
   refine wp_skip ?_
   repeat first | refine aS ?_ | refine aU ?_
   exact ⟨HM, (by rw [show (if x.big then 2 else 1 : Int) = 1 from by rw [hc2]; rfl]; exact HF.sub ((dH cZ at_ m kE z1 x) ++ [(14, aG z5), (15, aN (if x.wide then 2 else 1)), (16, aN 1)]) (by kernel_rfl))⟩
  replace HF := Fr.sub (Fr.tell HF 33 rfl (congrArg Value.bool hc2)) ((dH cZ at_ m kE z1 x) ++ [(14, aG z5), (15, aN (if x.wide then 2 else 1)), (16, aN 1), (33, .bool true)]) (by kernel_rfl)
  refine bF HF rfl ?_
  refine wp_region_lit ?_
  refine wp_pure HF HM rfl 1 [] ((dH cZ at_ m kE z1 x) ++ [(14, aG z5), (15, aN (if x.wide then 2 else 1)), (16, aN 2)]) (by kernel_rfl) fun a HF => ?_
  refine wpList_nil ?_
  repeat first | refine aS ?_ | refine aU ?_
  exact ⟨HM, (by rw [show (if x.big then 2 else 1 : Int) = 2 from by rw [hc2]; rfl]; exact HF.sub ((dH cZ at_ m kE z1 x) ++ [(14, aG z5), (15, aN (if x.wide then 2 else 1)), (16, aN 2)]) (by kernel_rfl))⟩
 rintro a w ⟨HM, HF⟩
 repeat first | refine aS ?_ | refine aU ?_
 refine aW ?_
 obtain ⟨z11, hz11⟩ : ∃ z, w.heap.size = z := ⟨_, rfl⟩
 refine aO HF HM hz11 8 [[0], [0]] ((dH cZ at_ m kE z1 x) ++ [(14, aG z5), (34, aG z5), (41, aH z11 9 9)]) [r_ z11 x, (z5, .cells #[.bool x.wide, .bool x.big, aK] 169 (0, 0)), kV z1 x] (by kernel_rfl) fun a w HF HM => ?_
 clear hz11
 have hgl := HM.lt (i := 1) rfl
 refine DR HF HM rfl _ _ 33 3 rfl rfl 5 Tryd.underlying33 Tryd.underlying3 (by kernel_rfl) 0 z11 9 #[aN 127, aN 69, aN 76, aN 70, aN (if x.wide then 2 else 1), aN (if x.big then 2 else 1), aN 1, aV x.abi, aV x.aC] rfl rfl rfl 7 (by omega) (by omega) (by omega) rfl ?_
 intro a w2 gz Nz Nw bI hgz tkz szz ncz cmz HF2; clear HF HM
 have HM : Mm [] w0 w2 [(gz, .cells Nw 5 (0, 0)), r_ z11 x, (z5, .cells #[.bool x.wide, .bool x.big, aK] 169 (0, 0)), kV z1 x] := bI
 have HF := HF2.sub ((dH cZ at_ m kE z1 x) ++ [(14, aG z5), (34, aG z5), (42, aH gz 16 Nz)]) (by kernel_rfl); clear bI HF2
 refine aO HF HM rfl 3 [[1]] ((dH cZ at_ m kE z1 x) ++ [(14, aG z5)]) [(gz, .cells Nw 5 (0, 0)), r_ z11 x, (z5, .cells #[.bool x.wide, .bool x.big, aH gz 16 Nz] 169 (0, 0)), kV z1 x] (by kernel_rfl) fun a w HF HM => ?_
 have HR : nJ w z5 x.wide x.big (oV x.wide x.big x.abi x.aC) := ⟨_, HM.get (i := 2) rfl, by rw [List.length_map]; rfl, .inr ⟨gz, Nz, Nw, rfl, by omega, HM.get (i := 0) rfl, ncz, cmz, szz, tkz.trans (Je x.wide x.big x.abi x.aC h.abi h.aC)⟩⟩
 replace HM := HM.pick [3] [kV z1 x] rfl (by decide)
 refine dK ?_
 refine wp_pure HF HM rfl 4 [[0]] [(1, aB cZ), (2, aB at_), (3, aB m), (4, aB kE), (5, aG z1), (11, aB (fB x.wide)), (12, aB (gI x.wide)), (13, aB (gQ x.wide)), (14, aG z5), (45, aG z5), (48, bD (IntKind.u64.wrap x.ty))] (by kernel_rfl) fun a HF => ?_
 rw [show IntKind.u64.wrap x.ty = x.ty from IntWalk.u64_in _ (by omega)] at HF
 rw [hty] at HF
 refine bn HF (by kernel_rfl) 73 #[aG z5, aJ x.ty.toNat, aA 2] (by kernel_rfl) (fun w => by kernel_rfl) (Calls.mono (put_any z5 x.ty.toNat 2 x.big x.wide _ (by omega) (by have hz := bQ x.wide 0 (by omega); have hz2 := bQ x.wide 2 (by omega); have nH := bQ x.wide 4 (by omega); simp only [List.length_append, bM, oV, List.length_cons, List.length_nil, List.length_replicate]; omega) w HR) ?_)
 rintro _ w3 ⟨rfl, HR2, hb⟩
 replace HM := HM.o9 hb (by intro p hp; rw [List.mem_singleton] at hp; subst hp; exact hzl) hge
 clear HR; have HR := HR2; clear HR2 hb
 refine ⟨_, rfl, ?_⟩; clear HF; intro a HF
 replace HF := HF.sub ((dH cZ at_ m kE z1 x) ++ [(14, aG z5)]) (by kernel_rfl)
 refine dK ?_
 refine wp_pure HF HM rfl 4 [[0]] [(1, aB cZ), (2, aB at_), (3, aB m), (4, aB kE), (5, aG z1), (11, aB (fB x.wide)), (12, aB (gI x.wide)), (13, aB (gQ x.wide)), (14, aG z5), (50, aG z5), (53, bD (IntKind.u64.wrap x.machine))] (by kernel_rfl) fun a HF => ?_
 rw [show IntKind.u64.wrap x.machine = x.machine from IntWalk.u64_in _ (by omega)] at HF
 rw [hmc] at HF
 refine bn HF (by kernel_rfl) 73 #[aG z5, aJ x.machine.toNat, aA 2] (by kernel_rfl) (fun w => by kernel_rfl) (Calls.mono (put_any z5 x.machine.toNat 2 x.big x.wide _ (by omega) (by have hz := bQ x.wide 0 (by omega); have hz2 := bQ x.wide 2 (by omega); have nH := bQ x.wide 4 (by omega); simp only [List.length_append, bM, oV, List.length_cons, List.length_nil, List.length_replicate]; omega) w3 HR) ?_)
 rintro _ w4 ⟨rfl, HR2, hb⟩
 replace HM := HM.o9 hb (by intro p hp; rw [List.mem_singleton] at hp; subst hp; exact hzl) hge
 clear HR; have HR := HR2; clear HR2 hb
 refine ⟨_, rfl, ?_⟩; clear HF; intro a HF
 replace HF := HF.sub ((dH cZ at_ m kE z1 x) ++ [(14, aG z5)]) (by kernel_rfl)
 refine dK ?_
 refine wp_pure HF HM rfl 1 [] ((dH cZ at_ m kE z1 x) ++ [(14, aG z5), (55, aG z5)]) (by kernel_rfl) fun a HF => ?_
 refine bn HF (by kernel_rfl) 73 #[aG z5, bD 1, aA 4] (by kernel_rfl) (fun w => by kernel_rfl) (Calls.mono (put_any z5 1 4 x.big x.wide _ (by omega) (by have hz := bQ x.wide 0 (by omega); have hz2 := bQ x.wide 2 (by omega); have nH := bQ x.wide 4 (by omega); simp only [List.length_append, bM, oV, List.length_cons, List.length_nil, List.length_replicate]; omega) w4 HR) ?_)
 rintro _ w5 ⟨rfl, HR2, hb⟩
 replace HM := HM.o9 hb (by intro p hp; rw [List.mem_singleton] at hp; subst hp; exact hzl) hge
 clear HR; have HR := HR2; clear HR2 hb
 refine ⟨_, rfl, ?_⟩; clear HF; intro a HF
 replace HF := HF.sub ((dH cZ at_ m kE z1 x) ++ [(14, aG z5)]) (by kernel_rfl)
 refine dK ?_
 refine wp_pure HF HM rfl 3 [[0]] [(1, aB cZ), (2, aB at_), (3, aB m), (4, aB kE), (11, aB (fB x.wide)), (12, aB (gI x.wide)), (13, aB (gQ x.wide)), (14, aG z5), (57, aG z5), (59, aJ x.entry)] (by kernel_rfl) fun a HF => ?_
 refine bn HF (by kernel_rfl) 73 #[aG z5, aJ x.entry, aA 0] (by kernel_rfl) (fun w => by kernel_rfl) (Calls.mono (put_any z5 x.entry 0 x.big x.wide _ (by omega) (by have hz := bQ x.wide 0 (by omega); have hz2 := bQ x.wide 2 (by omega); have nH := bQ x.wide 4 (by omega); simp only [List.length_append, bM, oV, List.length_cons, List.length_nil, List.length_replicate]; omega) w5 HR) ?_)
 rintro _ w6 ⟨rfl, HR2, hb⟩
 replace HM := HM.o9 hb (by intro p hp; rw [List.mem_singleton] at hp; subst hp; exact hzl) hge
 clear HR; have HR := HR2; clear HR2 hb
 refine ⟨_, rfl, ?_⟩; clear HF; intro a HF
 replace HF := HF.sub [(1, aB cZ), (2, aB at_), (3, aB m), (4, aB kE), (11, aB (fB x.wide)), (12, aB (gI x.wide)), (13, aB (gQ x.wide)), (14, aG z5)] (by kernel_rfl)
 refine dK ?_
 refine wp_pure HF HM rfl 3 [] [(1, aB cZ), (3, aB m), (4, aB kE), (11, aB (fB x.wide)), (12, aB (gI x.wide)), (13, aB (gQ x.wide)), (14, aG z5), (61, aG z5), (63, bD (IntKind.u64.wrap ((at_ : Nat) : Int)))] (by kernel_rfl) fun a HF => ?_
 rw [show IntKind.u64.wrap ((at_ : Nat) : Int) = ((at_ : Nat) : Int) from IntWalk.u64_in _ (by omega)] at HF
 refine bn HF (by kernel_rfl) 73 #[aG z5, aJ at_, aA 0] (by kernel_rfl) (fun w => by kernel_rfl) (Calls.mono (put_any z5 at_ 0 x.big x.wide _ (by omega) (by have hz := bQ x.wide 0 (by omega); have hz2 := bQ x.wide 2 (by omega); have nH := bQ x.wide 4 (by omega); simp only [List.length_append, bM, oV, List.length_cons, List.length_nil, List.length_replicate]; omega) w6 HR) ?_)
 rintro _ w7 ⟨rfl, HR2, hb⟩
 replace HM := HM.o9 hb (by intro p hp; rw [List.mem_singleton] at hp; subst hp; exact hzl) hge
 clear HR; have HR := HR2; clear HR2 hb
 refine ⟨_, rfl, ?_⟩; clear HF; intro a HF
 replace HF := HF.sub [(1, aB cZ), (3, aB m), (4, aB kE), (11, aB (fB x.wide)), (12, aB (gI x.wide)), (13, aB (gQ x.wide)), (14, aG z5)] (by kernel_rfl)
 refine dK ?_
 refine wp_pure HF HM rfl 3 [] ((ql cZ m x z5) ++ [(65, aG z5), (67, bD (IntKind.u64.wrap ((kE : Nat) : Int)))]) (by kernel_rfl) fun a HF => ?_
 rw [show IntKind.u64.wrap ((kE : Nat) : Int) = ((kE : Nat) : Int) from IntWalk.u64_in _ (by omega)] at HF
 refine bn HF (by kernel_rfl) 73 #[aG z5, aJ kE, aA 0] (by kernel_rfl) (fun w => by kernel_rfl) (Calls.mono (put_any z5 kE 0 x.big x.wide _ (by omega) (by have hz := bQ x.wide 0 (by omega); have hz2 := bQ x.wide 2 (by omega); have nH := bQ x.wide 4 (by omega); simp only [List.length_append, bM, oV, List.length_cons, List.length_nil, List.length_replicate]; omega) w7 HR) ?_)
 rintro _ w8 ⟨rfl, HR2, hb⟩
 replace HM := HM.o9 hb (by intro p hp; rw [List.mem_singleton] at hp; subst hp; exact hzl) hge
 clear HR; have HR := HR2; clear HR2 hb
 refine ⟨_, rfl, ?_⟩; clear HF; intro a HF
 replace HF := HF.sub (ql cZ m x z5) (by kernel_rfl)
 refine dK ?_
 refine wp_pure HF HM rfl 1 [] ((ql cZ m x z5) ++ [(69, aG z5)]) (by kernel_rfl) fun a HF => ?_
 refine bn HF (by kernel_rfl) 73 #[aG z5, bD 0, aA 4] (by kernel_rfl) (fun w => by kernel_rfl) (Calls.mono (put_any z5 0 4 x.big x.wide _ (by omega) (by have hz := bQ x.wide 0 (by omega); have hz2 := bQ x.wide 2 (by omega); have nH := bQ x.wide 4 (by omega); simp only [List.length_append, bM, oV, List.length_cons, List.length_nil, List.length_replicate]; omega) w8 HR) ?_)
 rintro _ w9 ⟨rfl, HR2, hb⟩
 replace HM := HM.o9 hb (by intro p hp; rw [List.mem_singleton] at hp; subst hp; exact hzl) hge
 clear HR; have HR := HR2; clear HR2 hb
 refine ⟨_, rfl, ?_⟩; clear HF; intro a HF
 replace HF := HF.sub (ql cZ m x z5) (by kernel_rfl)
 refine dK ?_
 refine wp_pure HF HM rfl 3 [] [(1, aB cZ), (3, aB m), (12, aB (gI x.wide)), (13, aB (gQ x.wide)), (14, aG z5), (71, aG z5), (73, bD (IntKind.u64.wrap (((fB x.wide) : Nat) : Int)))] (by kernel_rfl) fun a HF => ?_
 rw [show IntKind.u64.wrap (((fB x.wide) : Nat) : Int) = (((fB x.wide) : Nat) : Int) from IntWalk.u64_in _ (by omega)] at HF
 refine bn HF (by kernel_rfl) 73 #[aG z5, aJ (fB x.wide), aA 2] (by kernel_rfl) (fun w => by kernel_rfl) (Calls.mono (put_any z5 (fB x.wide) 2 x.big x.wide _ (by omega) (by have hz := bQ x.wide 0 (by omega); have hz2 := bQ x.wide 2 (by omega); have nH := bQ x.wide 4 (by omega); simp only [List.length_append, bM, oV, List.length_cons, List.length_nil, List.length_replicate]; omega) w9 HR) ?_)
 rintro _ w10 ⟨rfl, HR2, hb⟩
 replace HM := HM.o9 hb (by intro p hp; rw [List.mem_singleton] at hp; subst hp; exact hzl) hge
 clear HR; have HR := HR2; clear HR2 hb
 refine ⟨_, rfl, ?_⟩; clear HF; intro a HF
 replace HF := HF.sub [(1, aB cZ), (3, aB m), (12, aB (gI x.wide)), (13, aB (gQ x.wide)), (14, aG z5)] (by kernel_rfl)
 refine dK ?_
 refine wp_pure HF HM rfl 3 [] [(1, aB cZ), (3, aB m), (13, aB (gQ x.wide)), (14, aG z5), (75, aG z5), (77, bD (IntKind.u64.wrap (((gI x.wide) : Nat) : Int)))] (by kernel_rfl) fun a HF => ?_
 rw [show IntKind.u64.wrap (((gI x.wide) : Nat) : Int) = (((gI x.wide) : Nat) : Int) from IntWalk.u64_in _ (by omega)] at HF
 refine bn HF (by kernel_rfl) 73 #[aG z5, aJ (gI x.wide), aA 2] (by kernel_rfl) (fun w => by kernel_rfl) (Calls.mono (put_any z5 (gI x.wide) 2 x.big x.wide _ (by omega) (by have hz := bQ x.wide 0 (by omega); have hz2 := bQ x.wide 2 (by omega); have nH := bQ x.wide 4 (by omega); simp only [List.length_append, bM, oV, List.length_cons, List.length_nil, List.length_replicate]; omega) w10 HR) ?_)
 rintro _ wS ⟨rfl, HR2, hb⟩
 replace HM := HM.o9 hb (by intro p hp; rw [List.mem_singleton] at hp; subst hp; exact hzl) hge
 clear HR; have HR := HR2; clear HR2 hb
 refine ⟨_, rfl, ?_⟩; clear HF; intro a HF
 replace HF := HF.sub [(1, aB cZ), (3, aB m), (13, aB (gQ x.wide)), (14, aG z5)] (by kernel_rfl)
 refine dK ?_
 refine wp_pure HF HM rfl 3 [] [(3, aB m), (13, aB (gQ x.wide)), (14, aG z5), (79, aG z5), (81, bD (IntKind.u64.wrap ((cZ : Nat) : Int)))] (by kernel_rfl) fun a HF => ?_
 rw [show IntKind.u64.wrap ((cZ : Nat) : Int) = ((cZ : Nat) : Int) from IntWalk.u64_in _ (by omega)] at HF
 refine bn HF (by kernel_rfl) 73 #[aG z5, aJ cZ, aA 2] (by kernel_rfl) (fun w => by kernel_rfl) (Calls.mono (put_any z5 cZ 2 x.big x.wide _ (by omega) (by have hz := bQ x.wide 0 (by omega); have hz2 := bQ x.wide 2 (by omega); have nH := bQ x.wide 4 (by omega); simp only [List.length_append, bM, oV, List.length_cons, List.length_nil, List.length_replicate]; omega) wS HR) ?_)
 rintro _ w12 ⟨rfl, HR2, hb⟩
 replace HM := HM.o9 hb (by intro p hp; rw [List.mem_singleton] at hp; subst hp; exact hzl) hge
 clear HR; have HR := HR2; clear HR2 hb
 refine ⟨_, rfl, ?_⟩; clear HF; intro a HF
 replace HF := HF.sub [(3, aB m), (13, aB (gQ x.wide)), (14, aG z5)] (by kernel_rfl)
 refine dK ?_
 refine wp_pure HF HM rfl 3 [] [(3, aB m), (14, aG z5), (83, aG z5), (85, bD (IntKind.u64.wrap (((gQ x.wide) : Nat) : Int)))] (by kernel_rfl) fun a HF => ?_
 rw [show IntKind.u64.wrap (((gQ x.wide) : Nat) : Int) = (((gQ x.wide) : Nat) : Int) from IntWalk.u64_in _ (by omega)] at HF
 refine bn HF (by kernel_rfl) 73 #[aG z5, aJ (gQ x.wide), aA 2] (by kernel_rfl) (fun w => by kernel_rfl) (Calls.mono (put_any z5 (gQ x.wide) 2 x.big x.wide _ (by omega) (by have hz := bQ x.wide 0 (by omega); have hz2 := bQ x.wide 2 (by omega); have nH := bQ x.wide 4 (by omega); simp only [List.length_append, bM, oV, List.length_cons, List.length_nil, List.length_replicate]; omega) w12 HR) ?_)
 rintro _ AP ⟨rfl, HR2, hb⟩
 replace HM := HM.o9 hb (by intro p hp; rw [List.mem_singleton] at hp; subst hp; exact hzl) hge
 clear HR; have HR := HR2; clear HR2 hb
 refine ⟨_, rfl, ?_⟩; clear HF; intro a HF
 replace HF := HF.sub [(3, aB m), (14, aG z5)] (by kernel_rfl)
 refine dK ?_
 refine wp_pure HF HM rfl 3 [] [(3, aB m), (14, aG z5), (87, aG z5), (89, bD (IntKind.u64.wrap ((m : Nat) : Int)))] (by kernel_rfl) fun a HF => ?_
 rw [show IntKind.u64.wrap ((m : Nat) : Int) = ((m : Nat) : Int) from IntWalk.u64_in _ (by omega)] at HF
 refine bn HF (by kernel_rfl) 73 #[aG z5, aJ m, aA 2] (by kernel_rfl) (fun w => by kernel_rfl) (Calls.mono (put_any z5 m 2 x.big x.wide _ (by omega) (by have hz := bQ x.wide 0 (by omega); have hz2 := bQ x.wide 2 (by omega); have nH := bQ x.wide 4 (by omega); simp only [List.length_append, bM, oV, List.length_cons, List.length_nil, List.length_replicate]; omega) AP HR) ?_)
 rintro _ GH ⟨rfl, HR2, hb⟩
 replace HM := HM.o9 hb (by intro p hp; rw [List.mem_singleton] at hp; subst hp; exact hzl) hge
 clear HR; have HR := HR2; clear HR2 hb
 refine ⟨_, rfl, ?_⟩; clear HF; intro a HF
 replace HF := HF.sub [(3, aB m), (14, aG z5)] (by kernel_rfl)
 refine dK ?_
 refine wp_pure HF HM rfl 3 [] [(14, aG z5), (91, aG z5), (93, aA (IntKind.i64.wrap (((m : Nat) : Int) - 1)))] (by kernel_rfl) fun a HF => ?_
 rw [show IntKind.i64.wrap (((m : Nat) : Int) - 1) = (((m - 1) : Nat) : Int) from (IntWalk.i64_in _ (by omega)).trans (by omega)] at HF
 refine wp_pure HF HM rfl 1 [] [(14, aG z5), (91, aG z5), (94, bD (IntKind.u64.wrap (((m - 1) : Nat) : Int)))] (by kernel_rfl) fun a HF => ?_
 rw [show IntKind.u64.wrap (((m - 1) : Nat) : Int) = (((m - 1) : Nat) : Int) from IntWalk.u64_in _ (by omega)] at HF
 refine bn HF (by kernel_rfl) 73 #[aG z5, aJ (m - 1), aA 2] (by kernel_rfl) (fun w => by kernel_rfl) (Calls.mono (put_any z5 (m - 1) 2 x.big x.wide _ (by omega) (by have hz := bQ x.wide 0 (by omega); have hz2 := bQ x.wide 2 (by omega); have nH := bQ x.wide 4 (by omega); simp only [List.length_append, bM, oV, List.length_cons, List.length_nil, List.length_replicate]; omega) GH HR) ?_)
 rintro _ Fa ⟨rfl, HR2, hb⟩
 replace HM := HM.o9 hb (by intro p hp; rw [List.mem_singleton] at hp; subst hp; exact hzl) hge
 clear HR; have HR := HR2; clear HR2 hb
 refine ⟨_, rfl, ?_⟩; clear HF; intro a HF
 replace HF := HF.sub [(14, aG z5)] (by kernel_rfl)
 refine dK ?_
 obtain ⟨v, hv, hown⟩ := HR
 have hcv : Fa.cell? ⟨z5, 2, none⟩ = some v := gU hv 2
 refine wp_pure HF HM rfl 3 [] [(98, .pointer (some ⟨z5, 2, none⟩))] (by kernel_rfl) fun a HF => ?_
 refine dP HF (by kernel_rfl) (v) (by kernel_rfl) (gJ rfl rfl (by kernel_rfl) hcv) fun a HF => ?_
 refine wp_pure HF HM rfl 1 [] [(10, v)] (by kernel_rfl) fun a HF => ?_
 refine aI ?_
 refine wp_ret ?_
 repeat first | refine cu ?_ | refine dw ?_
 have hown2 : Fa.ownsRow (z5 + 1) 5 1 v (headB x.wide x.big x.abi x.aC x.ty.toNat x.machine.toNat x.entry cZ at_ m kE).length ((headB x.wide x.big x.abi x.aC x.ty.toNat x.machine.toNat x.entry cZ at_ m kE).map Bv) := hown
 rcases hown2.2 with ⟨_, h0⟩ | ⟨g, cap, cur, rfl, hg, hh, hnc, hcm, hcs, htk⟩
 ·rw [qO] at h0; unfold fB at h0; split at h0 <;> omega
 exact dI HF rfl rfl ⟨g, cap, cur, rfl, HM.below, ⟨by omega, hh, htk, hcs, hnc, hcm⟩⟩

end Go.Proofs.YtdgehpocmfjbiaaDoor
namespace Go.Proofs.YtdgehpocmfjbiaaDoor
open Go.RowKit

section
variable {x : dJ} {g cap i : Nat}
def fdM (m : fK) : List UInt8 := lW m.part
def jc (x : dJ) (i : Nat) : List UInt8 := (x.ss.take i).flatMap (·.data)
theorem Di {m : jH} (hm : x.ss[i]? = some m) : jc x (i + 1) = jc x i ++ m.data := by
 unfold jc
 rw [xB hm, List.flatMap_append]
 simp
theorem zi (x : dJ) (i : Nat) : jc x i = (x.img.cZ.take i).flatMap (·.data) := by
 unfold jc
 show _ = ((x.ss.map jH.seg).take i).flatMap (·.data)
 rw [← List.map_take, List.flatMap_map]
 rfl
theorem IU (x : dJ) (i : Nat) : x.img.jI i = x.img.at0 + (jc x i).length := by rw [zi]; rfl
theorem wU (x : dJ) : x.img.cZ.length = x.ss.length := List.length_map ..
theorem JZ (x : dJ) : jc x x.ss.length = x.img.kY := by
 rw [zi, ← wU, List.take_length]
 rfl
theorem Ld (x : dJ) (i : Nat) : (jc x i).length ≤ x.img.kY.length := by rw [zi]; exact yQ _ _ _
def fQ (x : dJ) (g cap i : Nat) : List UInt8 := x.img.kY ++ ((allM x g cap).take i).flatMap fdM
theorem KT (x : dJ) (g cap : Nat) : fQ x g cap 0 = x.img.kY := by simp [fQ]
theorem wP {m : fK} (hm : (allM x g cap)[i]? = some m) : fQ x g cap (i + 1) = fQ x g cap i ++ fdM m := by
 unfold fQ
 rw [xB hm, List.flatMap_append, List.append_assoc]
 simp
theorem BN (x : dJ) (g cap i : Nat) : fQ x g cap i = x.img.kY ++ (x.img.all.take i).flatMap lW := by
 unfold fQ
 rw [← BP x g cap, ← List.map_take, List.flatMap_map]
 rfl
theorem IX (x : dJ) (g cap i : Nat) (h : i ≠ 0) : x.img.iL i = x.img.at0 + (fQ x g cap i).length := by
 rw [BN]
 unfold dG.iL
 rw [if_neg h, List.length_append, Nat.add_assoc]
theorem Dc (x : dJ) : x.img.all.length = x.ps.length + 2 := by rw [← BP x 0 0, List.length_map, yI]
theorem BO (x : dJ) (g cap : Nat) : fQ x g cap (x.ps.length + 2) = x.img.kY ++ x.img.lX := by
 rw [BN, ← Dc, List.take_length]
 rfl
theorem DL (x : dJ) (g cap i : Nat) (ok : x.img.Ok) : (fQ x g cap i).length ≤ 120953600 := by
 have h1 := ok.zk
 have h2 := ok.zl
 have h3 := yQ lW x.img.all i
 have h4 : ((x.img.all.take i).flatMap lW).length ≤ x.img.lX.length := h3
 rw [BN, List.length_append]
 omega
theorem MJ (x : dJ) (g cap : Nat) : x.img.kJ = x.img.at0 + (fQ x g cap (x.ps.length + 2)).length := by
 rw [BO]
 rfl
theorem OH (x : dJ) : x.img.at0 = fB x.wide + gI x.wide * x.ss.length := by
 unfold dG.at0
 rw [wU]
 rfl
theorem head_eq (x : dJ) : headB x.wide x.big x.abi x.aC x.ty.toNat x.machine.toNat x.entry x.ss.length (fB x.wide) (x.ps.length + 2) x.img.kJ = x.img.head := by
 unfold dG.head
 rw [wU, Dc]
 rfl
def jK (x : dJ) (i : Nat) : List UInt8 := x.img.head ++ dQ x.img.n_ 0 (x.img.cZ.take i)
theorem Fq (x : dJ) : jK x 0 = x.img.head := by simp [jK, dQ]
def mY (x : dJ) (i : Nat) (m : jH) : List UInt8 := qI x.wide x.big m.ty m.flags m.bJ m.bK m.bP m.align m.data.length (x.img.jI i)
theorem Fv {m : jH} (hm : x.ss[i]? = some m) : jK x (i + 1) = jK x i ++ mY x i m := by
 have h1 : x.img.cZ[i]? = some m.seg := by
  show (x.ss.map jH.seg)[i]? = _
  rw [List.getElem?_map, hm]; rfl
 obtain ⟨hl, e⟩ := List.getElem?_eq_some_iff.1 h1
 have hr : mY x i m = x.img.n_ i m.seg := rfl
 unfold jK
 rw [hr, Ar _ _ _ hl, e]
 simp only [List.append_assoc]
theorem Dx (x : dJ) (i : Nat) (ok : x.img.Ok) : (jK x i).length ≤ 122000000 := by
 have h := ok.length_le
 have h2 : (dQ x.img.n_ 0 (x.img.cZ.take i)).length ≤ (dQ x.img.n_ 0 x.img.cZ).length := by
  rw [lD x.img.n_ (gI x.img.wide) _ _ fun j a _ => qw .., lD x.img.n_ (gI x.img.wide) _ _ fun j a _ => qw ..]
  exact Nat.mul_le_mul_right _ (by rw [List.length_take]; omega)
 unfold jK
 unfold dG.file at h
 simp only [List.length_append] at h ⊢
 omega
def lg (x : dJ) (i : Nat) : List UInt8 := jK x x.ss.length ++ (x.img.kY ++ x.img.lX) ++ dQ x.img.mO 0 (x.img.all.take i)
theorem FQ (x : dJ) : lg x 0 = jK x x.ss.length ++ (x.img.kY ++ x.img.lX) := by simp [lg, dQ]
def mZ (x : dJ) (i : Nat) (m : fK) : List UInt8 := sU x.wide x.big (x.img.jS i) m.ty m.flags m.addr (x.img.iL i) (qF m.ty m.size m.data.length) m.link m.info m.align m.ent
theorem FT {m : fK} (hm : (allM x g cap)[i]? = some m) : lg x (i + 1) = lg x i ++ mZ x i m := by
 have h1 : x.img.all[i]? = some m.part := by rw [← BP x g cap, List.getElem?_map, hm]; rfl
 obtain ⟨hl, e⟩ := List.getElem?_eq_some_iff.1 h1
 have hr : mZ x i m = x.img.mO i m.part := rfl
 unfold lg
 rw [hr, Ar _ _ _ hl, e]
 simp only [List.append_assoc]
theorem Ns (x : dJ) : lg x (x.ps.length + 2) = x.img.file := by
 unfold lg jK
 rw [← Dc, List.take_length, ← wU, List.take_length]
 rfl
theorem Ij (x : dJ) (i : Nat) (ok : x.img.Ok) : (lg x i).length ≤ 122000000 := by
 have h := ok.length_le
 have h2 : (dQ x.img.mO 0 (x.img.all.take i)).length ≤ (dQ x.img.mO 0 x.img.all).length := by
  rw [lD x.img.mO (gQ x.img.wide) _ _ fun j a _ => qx .., lD x.img.mO (gQ x.img.wide) _ _ fun j a _ => qx ..]
  exact Nat.mul_le_mul_right _ (by rw [List.length_take]; omega)
 unfold lg jK
 rw [← wU, List.take_length]
 unfold dG.file at h
 simp only [List.length_append] at h ⊢
 omega
theorem LZ (x : dJ) (g cap : Nat) : (allM x g cap).map (·.name) = x.img.names := by
 rw [wW]
 simp [allM, MH]
theorem I9 (x : dJ) (g cap : Nat) : ((allM x g cap).take (x.ps.length + 2)).map (fun p => vg p.name) = x.img.names.map vg := by
 rw [← yI x g cap, List.take_length, ← LZ x g cap, List.map_map]
 rfl
theorem J4 (x : dJ) : ((List.range x.img.names.length).map (fun j => o7 (nameAt x.img.names j))).set 0 (o7 0) = (List.range x.img.names.length).map (fun j => o7 (x.img.jS j)) := by
 apply List.ext_getElem
 ·simp
 ·intro j h1 h2
  rw [List.getElem_set]
  simp only [List.getElem_map, List.getElem_range]
  unfold dG.jS
  split
  ·rename_i h; rw [if_pos h.symm]
  ·rename_i h; rw [if_neg (fun e => h e.symm)]
theorem D7 {f : Nat → Value} (i : Nat) : (List.range i).map f ++ [f i] = (List.range (i + 1)).map f := by
 rw [List.range_succ, List.map_append]; rfl
theorem Oi {w0 w : World} {L : List (Nat × Obj)} {iJ : Array Value} (h : x.At w0) (HM : Mm [] w0 w L) {k : Nat} {t : TypeId} {f : Nat × Nat} (e : L[k]? = some (g, .cells iJ t f)) (tk : iJ.toList.take ((dn x.img.names).length * 1) = (dn x.img.names).map Bv) (m : fK) (hm : m ∈ allM x g cap) :
  Row w m.A (m.data.map Bv) := by
 simp only [allM, lG, List.mem_append, List.mem_cons, List.not_mem_nil, or_false] at hm
 rcases hm with (rfl | hm) | rfl
 ·exact Row.nil _ _
 ·exact HM.row (h.part m hm).row
 ·exact HM.nG e tk
structure AllB (m : fK) : Prop where
 ty : m.ty < 4294967296
 flags : m.flags < 4294967296
 link : m.link < 4294967296
 info : m.info < 4294967296
 data : m.data.length ≤ 1100000
theorem MC {w0 : World} (h : x.At w0) (ok : x.Ok) (m : fK) (hm : m ∈ allM x g cap) : AllB m := by
 have hnb := (dJ.ok ok h).pI
 simp only [allM, lG, List.mem_append, List.mem_cons, List.not_mem_nil, or_false] at hm
 rcases hm with (rfl | hm) | rfl
 ·exact ⟨by decide, by decide, by decide, by decide, by decide⟩
 ·have o := ok.part m hm
  have b := h.part m hm
  exact ⟨b.ty, b.flags, b.link, b.info, by have := o.data; omega⟩
 ·exact ⟨by show 3 < _; omega, by show 0 < _; omega, by show 0 < _; omega, by show 0 < _; omega, by show (dn x.img.names).length ≤ 1100000; omega⟩
theorem JG {m : fK} (h : ((m.ty : Nat) : Int) ≠ 8) : fdM m = m.data := by
 have : m.ty ≠ 8 := by omega
 show (if m.ty = 8 then [] else m.data) = m.data
 rw [if_neg this]
theorem Me {m : fK} (h : ¬ ((m.ty : Nat) : Int) ≠ 8) : fdM m = [] := by
 have : m.ty = 8 := by omega
 show (if m.ty = 8 then [] else m.data) = []
 rw [if_pos this]
end
theorem G9 {w : World} {base e size n : Nat} {v : Value} {xs : List Value} (h : w.ownsRow base e size v n xs) (hn : 0 < n) : ∃ g cap cur, v = .slice (some ⟨g, 0, none⟩) n cap ∧ Own base w e size g n cap cur xs := by
 rcases h.2 with ⟨_, h0⟩ | ⟨g, cap, cur, rfl, hg, hh, hnc, hcm, hcs, htk⟩
 ·omega
 ·exact ⟨g, cap, cur, rfl, ⟨hg, hh, htk, hcs, hnc, hcm⟩⟩
/-- spec.OI, in either class -/
theorem IQ (wide big : Bool) (x2 x3 x4 x5 x6 x7 x8 : Value) (ty flags bJ bK bP align n c offset : Nat) (A : Option Addr) (h1 : ty ≤ 4294967295) (h2 : flags ≤ 4294967295) (h3 : offset ≤ 4294967295) (h4 : n ≤ 4294967295) (w : World) :
  Calls Tryd.prog 67 #[.agg #[.bool wide, .bool big, x2, x3, x4, x5, x6, x7, x8], .agg #[.int .u32 ty, .int .u32 flags, .int .u64 bJ, .int .u64 bK, .int .u64 bP, .int .u64 align, .slice A n c], .int .i64 offset] w
   fun e w' => ∃ g cap cur, e = .returned (.slice (some ⟨g, 0, none⟩) (qI wide big ty flags bJ bK bP align n offset).length cap) ∧ Below w.heap.size w w' ∧ Own w.heap.size w' 5 1 g (qI wide big ty flags bJ bK bP align n offset).length cap cur ((qI wide big ty flags bJ bK bP align n offset).map Bv) := by
 have hp : 0 < (qI wide big ty flags bJ bK bP align n offset).length := by rw [qw]; unfold gI; split <;> omega
 cases wide with
 | true =>
  refine (DX big x2 x3 x4 x5 x6 x7 x8 ty flags bJ bK bP align n c offset A h1 h2 h3 h4 w).mono ?_
  rintro e w' ⟨v, rfl, ho, hb⟩
  obtain ⟨g, cap, cur, rfl, h⟩ := G9 ho hp
  exact ⟨g, cap, cur, rfl, hb, h⟩
 | false =>
  refine (DY big x2 x3 x4 x5 x6 x7 x8 ty flags bJ bK bP align n c offset A h1 h2 h3 h4 w).mono ?_
  rintro e w' ⟨v, rfl, ho, hb⟩
  obtain ⟨g, cap, cur, rfl, h⟩ := G9 ho hp
  exact ⟨g, cap, cur, rfl, hb, h⟩
theorem IW (wide big : Bool) (x2 x3 x4 x5 x6 x7 x8 : Value) (name : Nat) (nm : ByteArray) (ty flags addr link info align ent size n c offset : Nat) (A : Option Addr) (h0 : name ≤ 4294967295) (h1 : ty ≤ 4294967295) (h2 : flags ≤ 4294967295) (h3 : offset ≤ 4294967295) (h4 : n ≤ 4294967295) (h5 : link ≤ 4294967295) (h6 : info ≤ 4294967295) (w : World) :
  Calls Tryd.prog 68 #[.agg #[.bool wide, .bool big, x2, x3, x4, x5, x6, x7, x8], .int .i64 name, .agg #[.string nm, .int .u32 ty, .int .u32 flags, .int .u64 addr, .int .u32 link, .int .u32 info, .int .u64 align, .int .u64 ent, .int .u64 size, .slice A n c], .int .i64 offset] w
   fun e w' => ∃ g cap cur, e = .returned (.slice (some ⟨g, 0, none⟩) (sU wide big name ty flags addr offset (qF ty size n) link info align ent).length cap) ∧ Below w.heap.size w w' ∧ Own w.heap.size w' 5 1 g (sU wide big name ty flags addr offset (qF ty size n) link info align ent).length cap cur ((sU wide big name ty flags addr offset (qF ty size n) link info align ent).map Bv) := by
 have hp : 0 < (sU wide big name ty flags addr offset (qF ty size n) link info align ent).length := by rw [qx]; unfold gQ; split <;> omega
 refine (EJ wide big x2 x3 x4 x5 x6 x7 x8 name nm ty flags addr link info align ent size n c offset A h0 h1 h2 h3 h4 h5 h6 w).mono ?_
 rintro e w' ⟨v, rfl, ho, hb⟩
 obtain ⟨g, cap, cur, rfl, h⟩ := G9 ho hp
 exact ⟨g, cap, cur, rfl, hb, h⟩
end Go.Proofs.YtdgehpocmfjbiaaDoor
namespace Go.Proofs.YtdgehpocmfjbiaaDoor
open Go.RowKit
end Go.Proofs.YtdgehpocmfjbiaaDoor
