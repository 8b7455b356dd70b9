/- Images as they lie in memory. · An image of which IsImage says true lays out a good file. · laws.zzFits1 to zzFits5: they return, and turn nothing. ·  -/
import Derived.Test.YtdgehpocmfjbiaaDoorRb
import Derived.Test.YtdgehpocmfjbiaaDoorRd
import Derived.Test.YtdgehpocmfjbiaaDoorRf
set_option linter.unusedVariables false
set_option linter.unusedSimpArgs false
set_option maxRecDepth 100000
set_option maxHeartbeats 2000000
namespace Go.Proofs.YtdgehpocmfjbiaaDoor
open Go.RowKit

structure kQ where
 ty : Nat
 flags : Nat
 bY : Nat
 b_ : Nat
 dw : Nat
 align : Nat
 data : List UInt8
 A : Option Addr
 c : Nat
structure dL where
 name : List UInt8
 ty : Nat
 flags : Nat
 addr : Nat
 link : Nat
 info : Nat
 align : Nat
 ent : Nat
 size : Nat
 data : List UInt8
 A : Option Addr
 c : Nat
def kQ.cells (m : kQ) : List Value := [.int .u32 ((m.ty : Nat) : Int), .int .u32 ((m.flags : Nat) : Int), .int .u64 ((m.bY : Nat) : Int), .int .u64 ((m.b_ : Nat) : Int), .int .u64 ((m.dw : Nat) : Int), .int .u64 ((m.align : Nat) : Int), .slice m.A m.data.length m.c]
def dL.cells (m : dL) : List Value := [.string (⟨m.name.toArray⟩), .int .u32 ((m.ty : Nat) : Int), .int .u32 ((m.flags : Nat) : Int), .int .u64 ((m.addr : Nat) : Int), .int .u32 ((m.link : Nat) : Int), .int .u32 ((m.info : Nat) : Int), .int .u64 ((m.align : Nat) : Int), .int .u64 ((m.ent : Nat) : Int), .int .u64 ((m.size : Nat) : Int), .slice m.A m.data.length m.c]
structure bZ where
 wide : Bool
 big : Bool
 abi : Nat
 aH : Nat
 ty : Int
 machine : Int
 entry : Nat
 ss : List kQ
 A : Option Addr
 c : Nat
 ps : List dL
 B : Option Addr
 d : Nat
def bZ.val (x : bZ) : Value := .agg #[.bool x.wide, .bool x.big, .int .u8 ((x.abi : Nat) : Int), .int .u8 ((x.aH : Nat) : Int), .int .i64 x.ty, .int .i64 x.machine, .int .u64 ((x.entry : Nat) : Int), .slice x.A x.ss.length x.c, .slice x.B x.ps.length x.d]
structure kQ.At (w : World) (m : kQ) : Prop where
 row : Row w m.A (m.data.map Bv)
 c1 : m.data.length ≤ m.c
 c2 : m.c ≤ maxLen
 ty : m.ty < 4294967296
 flags : m.flags < 4294967296
 bY : m.bY < 18446744073709551616
 b_ : m.b_ < 18446744073709551616
 dw : m.dw < 18446744073709551616
 align : m.align < 18446744073709551616
structure dL.At (w : World) (m : dL) : Prop where
 row : Row w m.A (m.data.map Bv)
 c1 : m.data.length ≤ m.c
 c2 : m.c ≤ maxLen
 nm : m.name.length ≤ maxLen
 ty : m.ty < 4294967296
 flags : m.flags < 4294967296
 addr : m.addr < 18446744073709551616
 link : m.link < 4294967296
 info : m.info < 4294967296
 align : m.align < 18446744073709551616
 ent : m.ent < 18446744073709551616
 size : m.size < 18446744073709551616
structure bZ.At (w : World) (x : bZ) : Prop where
 dJ : Row w x.A (x.ss.flatMap kQ.cells)
 parts : Row w x.B (x.ps.flatMap dL.cells)
 seg : ∀ m ∈ x.ss, kQ.At w m
 part : ∀ m ∈ x.ps, dL.At w m
 c1 : x.ss.length ≤ x.c
 c2 : x.c ≤ maxLen
 d1 : x.ps.length ≤ x.d
 d2 : x.d ≤ maxLen
 abi : x.abi < 256
 aH : x.aH < 256
 entry : x.entry < 18446744073709551616
theorem kQ.At.below {w w' : World} {m : kQ} (h : kQ.At w m) (hb : Below w.heap.size w w') : kQ.At w' m := { h with row := h.row.below hb }
theorem dL.At.below {w w' : World} {m : dL} (h : dL.At w m) (hb : Below w.heap.size w w') : dL.At w' m := { h with row := h.row.below hb }
theorem bZ.At.below {w w' : World} {x : bZ} (h : bZ.At w x) (hb : Below w.heap.size w w') : bZ.At w' x :=
 { h with dJ := h.dJ.below hb, parts := h.parts.below hb, seg := fun m hm => (h.seg m hm).below hb, part := fun m hm => (h.part m hm).below hb }
def kQ.seg (m : kQ) : Seg := ⟨m.ty, m.flags, m.bY, m.b_, m.dw, m.align, m.data⟩
def dL.part (m : dL) : Part := ⟨m.name, m.ty, m.flags, m.addr, m.link, m.info, m.align, m.ent, m.size, m.data⟩
def bZ.img (x : bZ) : eH := ⟨x.wide, x.big, x.abi, x.aH, x.ty.toNat, x.machine.toNat, x.entry, x.ss.map kQ.seg, x.ps.map dL.part⟩
/-- what IsImage tells of a segment -/
structure kQ.Ok (wide : Bool) (m : kQ) : Prop where
 fit : lZ wide [m.bY, m.b_, m.dw, m.align] = true
 ty : m.ty < 2147483648
 data : m.data.length ≤ 65536
structure dL.Ok (wide : Bool) (m : dL) : Prop where
 fit : lZ wide [m.addr, m.align, m.ent, m.size] = true
 name : m.name.length ≤ 1024
 Iq : 0 ∉ m.name
 data : m.data.length ≤ 1100000
 K_ : m.ty ≠ 0
 H_ : m.ty < 1610612736
 zip : vX ⟨m.name.toArray⟩ = false
 flags : (qP (m.flags : Int) 2048 == 0) = true
 bss : m.ty = 8 → m.data.length = 0
 size : m.size < 4611686018427387904
structure bZ.Ok (x : bZ) : Prop where
 K_ : 0 ≤ x.ty
 H_ : x.ty ≤ 65535
 mc0 : 0 ≤ x.machine
 mc1 : x.machine ≤ 65535
 fit : lZ x.wide [x.entry] = true
 dJ : x.ss.length ≤ 100
 parts : x.ps.length ≤ 102
 seg : ∀ m ∈ x.ss, kQ.Ok x.wide m
 part : ∀ m ∈ x.ps, dL.Ok x.wide m
theorem qN {wide : Bool} {l : List Nat} (h : lZ wide l = true) {n : Nat} (hn : n ∈ l) (h64 : n < 18446744073709551616) : n < 256 ^ jm wide := by
 cases wide with
 | true => exact h64
 | false =>
  simp only [lZ, Bool.false_or, List.all_eq_true, decide_eq_true_eq] at h
  exact h n hn
end Go.Proofs.YtdgehpocmfjbiaaDoor
namespace Go.Proofs.YtdgehpocmfjbiaaDoor
open Go.RowKit

theorem bZ.ok {x : bZ} {w : World} (h : x.Ok) (a : x.At w) : x.img.Ok where
 abi := a.abi
 aH := a.aH
 ty := by have := h.K_; have := h.H_; show x.ty.toNat < _; omega
 machine := by have := h.mc0; have := h.mc1; show x.machine.toNat < _; omega
 entry := qN h.fit (n := x.entry) (by simp) a.entry
 dJ := by show (x.ss.map _).length ≤ _; rw [List.length_map]; exact h.dJ
 parts := by show (x.ps.map _).length ≤ _; rw [List.length_map]; exact h.parts
 seg := fun s hs => by
  obtain ⟨m, hm, rfl⟩ := List.mem_map.1 (show s ∈ x.ss.map kQ.seg from hs)
  have o := h.seg m hm
  have b := a.seg m hm
  exact ⟨o.ty, b.flags, qN o.fit (n := m.bY) (by simp) b.bY, qN o.fit (n := m.b_) (by simp) b.b_, qN o.fit (n := m.dw) (by simp) b.dw, qN o.fit (n := m.align) (by simp) b.align, o.data⟩
 part := fun p hp => by
  obtain ⟨m, hm, rfl⟩ := List.mem_map.1 (show p ∈ x.ps.map dL.part from hp)
  have o := h.part m hm
  have b := a.part m hm
  exact ⟨o.name, o.Iq, b.ty, b.flags, o.flags, qN o.fit (n := m.addr) (by simp) b.addr, b.link, b.info, qN o.fit (n := m.align) (by simp) b.align, qN o.fit (n := m.ent) (by simp) b.ent, qN o.fit (n := m.size) (by simp) b.size, o.size, o.data⟩
end Go.Proofs.YtdgehpocmfjbiaaDoor
namespace Go.Proofs.YtdgehpocmfjbiaaDoor
open Go.RowKit

theorem NC (m : kQ) (w0 : World) : Calls Tryd.prog 76 #[.agg #[aX m.ty, aX m.flags, aI m.bY, aI m.b_, aI m.dw, aI m.align, .slice m.A m.data.length m.c]] w0 fun e w' => ∃ b, e = .returned (.bool b) ∧ Below w0.heap.size w0 w' := by
 obtain ⟨w, hw⟩ : ∃ w, w0 = w := ⟨_, rfl⟩
 have HM : Mm [] w0 w [] := hw ▸ Mm.start w0
 conv => arg 4; rw [hw]
 clear hw
 refine bI Tryd.func76 rfl Tryd.ntmps76 [(0, .agg #[aX m.ty, aX m.flags, aI m.bY, aI m.b_, aI m.dw, aI m.align, .slice m.A m.data.length m.c])] (by kernel_rfl) (Nat.le_of_ble_eq_true rfl) ?_
 intro a HF
 refine aN ?_
 obtain ⟨z1, hz1⟩ : ∃ z, w.heap.size = z := ⟨_, rfl⟩
 refine aP HF HM hz1 2 [] [(1, aA z1)] [(z1, .cells #[aX m.ty, aX m.flags, aI m.bY, aI m.b_, aI m.dw, aI m.align, .slice m.A m.data.length m.c] 57 (0, 0))] (by kernel_rfl) fun a w HF HM => ?_
 clear hz1
 refine aB ?_
 refine wp_seq ?_
 refine aN ?_
 refine wp_pure HF HM rfl 4 [[0]] [(6, .bool (decide (2147483647 < ((m.data.length : Nat) : Int))))] (by kernel_rfl) fun a HF => ?_
 refine aB ?_
 by_cases hc1 : 2147483647 < ((m.data.length : Nat) : Int)
 ·rw [show decide (2147483647 < ((m.data.length : Nat) : Int)) = true from dV (hc1)] at HF
  refine bC HF rfl ?_
  refine aN ?_
  refine wp_pure HF HM rfl 1 [] [(2, .bool false)] (by kernel_rfl) fun a HF => ?_
  refine aB ?_
  refine wp_ret ?_
  repeat first | refine bH ?_ | refine bM ?_
  exact dn HF rfl rfl ⟨false, rfl, HM.below⟩
 rw [show decide (2147483647 < ((m.data.length : Nat) : Int)) = false from dI (hc1)] at HF
 refine aZ HF rfl ?_
 refine wp_skip ?_
 repeat first | refine aK ?_ | refine aS ?_
 refine aN ?_
 refine wp_pure HF HM rfl 1 [] [(2, .bool true)] (by kernel_rfl) fun a HF => ?_
 refine aB ?_
 refine wp_ret ?_
 repeat first | refine bH ?_ | refine bM ?_
 exact dn HF rfl rfl ⟨true, rfl, HM.below⟩

theorem Ny (m : dL) (w0 : World) : Calls Tryd.prog 77 #[.agg #[.string (⟨m.name.toArray⟩), aX m.ty, aX m.flags, aI m.addr, aX m.link, aX m.info, aI m.align, aI m.ent, aI m.size, .slice m.A m.data.length m.c]] w0 fun e w' => ∃ b, e = .returned (.bool b) ∧ Below w0.heap.size w0 w' := by
 obtain ⟨w, hw⟩ : ∃ w, w0 = w := ⟨_, rfl⟩
 have HM : Mm [] w0 w [] := hw ▸ Mm.start w0
 conv => arg 4; rw [hw]
 clear hw
 refine bI Tryd.func77 rfl Tryd.ntmps77 [(0, .agg #[.string (⟨m.name.toArray⟩), aX m.ty, aX m.flags, aI m.addr, aX m.link, aX m.info, aI m.align, aI m.ent, aI m.size, .slice m.A m.data.length m.c])] (by kernel_rfl) (Nat.le_of_ble_eq_true rfl) ?_
 intro a HF
 refine aN ?_
 obtain ⟨z1, hz1⟩ : ∃ z, w.heap.size = z := ⟨_, rfl⟩
 refine aP HF HM hz1 2 [] [(1, aA z1)] [(z1, .cells #[.string (⟨m.name.toArray⟩), aX m.ty, aX m.flags, aI m.addr, aX m.link, aX m.info, aI m.align, aI m.ent, aI m.size, .slice m.A m.data.length m.c] 46 (0, 0))] (by kernel_rfl) fun a w HF HM => ?_
 clear hz1
 refine aB ?_
 refine wp_seq ?_
 refine aN ?_
 refine wp_pure HF HM rfl 4 [[0]] [(1, aA z1), (6, .bool (decide (2147483647 < ((m.name.length : Nat) : Int))))] (by kernel_rfl) fun a HF => ?_
 refine aB ?_
 by_cases hc1 : 2147483647 < ((m.name.length : Nat) : Int)
 ·rw [show decide (2147483647 < ((m.name.length : Nat) : Int)) = true from dV (hc1)] at HF
  refine bC HF rfl ?_
  refine aN ?_
  refine wp_pure HF HM rfl 1 [] [(2, .bool false)] (by kernel_rfl) fun a HF => ?_
  refine aB ?_
  refine wp_ret ?_
  repeat first | refine bH ?_ | refine bM ?_
  exact dn HF rfl rfl ⟨false, rfl, HM.below⟩
 rw [show decide (2147483647 < ((m.name.length : Nat) : Int)) = false from dI (hc1)] at HF
 refine aZ HF rfl ?_
 refine wp_skip ?_
 repeat first | refine aK ?_ | refine aS ?_
 refine wp_seq ?_
 refine aN ?_
 refine wp_pure HF HM rfl 4 [[0]] [(10, .bool (decide (2147483647 < ((m.data.length : Nat) : Int))))] (by kernel_rfl) fun a HF => ?_
 refine aB ?_
 by_cases hc2 : 2147483647 < ((m.data.length : Nat) : Int)
 ·rw [show decide (2147483647 < ((m.data.length : Nat) : Int)) = true from dV (hc2)] at HF
  refine bC HF rfl ?_
  refine aN ?_
  refine wp_pure HF HM rfl 1 [] [(2, .bool false)] (by kernel_rfl) fun a HF => ?_
  refine aB ?_
  refine wp_ret ?_
  repeat first | refine bH ?_ | refine bM ?_
  exact dn HF rfl rfl ⟨false, rfl, HM.below⟩
 rw [show decide (2147483647 < ((m.data.length : Nat) : Int)) = false from dI (hc2)] at HF
 refine aZ HF rfl ?_
 refine wp_skip ?_
 repeat first | refine aK ?_ | refine aS ?_
 refine aN ?_
 refine wp_pure HF HM rfl 1 [] [(2, .bool true)] (by kernel_rfl) fun a HF => ?_
 refine aB ?_
 refine wp_ret ?_
 repeat first | refine bH ?_ | refine bM ?_
 exact dn HF rfl rfl ⟨true, rfl, HM.below⟩

abbrev jJ := fun (A : Option Addr) (l : List kQ) (c : Nat) => ([(8, .slice A l.length c), (9, ay l.length)] : Slots)
theorem ND (l : List kQ) (A : Option Addr) (c : Nat) (w0 : World) (hr : Row w0 A (l.flatMap kQ.cells)) : Calls Tryd.prog 49 #[.slice A l.length c] w0 fun e w' => ∃ b, e = .returned (.bool b) ∧ Below w0.heap.size w0 w' := by
 obtain ⟨w, hw⟩ : ∃ w, w0 = w := ⟨_, rfl⟩
 have HM : Mm [] w0 w [] := hw ▸ Mm.start w0
 conv => arg 4; rw [hw]
 clear hw
 refine bI Tryd.func49 rfl Tryd.ntmps49 [(0, .slice A l.length c)] (by kernel_rfl) (Nat.le_of_ble_eq_true rfl) ?_
 intro a HF
 refine aN ?_
 refine wp_pure HF HM rfl 1 [] [(0, .slice A l.length c)] (by kernel_rfl) fun a HF => ?_
 refine aB ?_
 refine wp_seq ?_
 refine aN ?_
 refine wp_pure HF HM rfl 3 [] [(0, .slice A l.length c), (7, .bool (decide (2147483647 < ((l.length : Nat) : Int))))] (by kernel_rfl) fun a HF => ?_
 refine aB ?_
 by_cases hc1 : 2147483647 < ((l.length : Nat) : Int)
 ·rw [show decide (2147483647 < ((l.length : Nat) : Int)) = true from dV (hc1)] at HF
  refine bC HF rfl ?_
  refine aN ?_
  refine wp_pure HF HM rfl 1 [] [(2, .bool false)] (by kernel_rfl) fun a HF => ?_
  refine aB ?_
  refine wp_ret ?_
  repeat first | refine bH ?_ | refine bM ?_
  exact dn HF rfl rfl ⟨false, rfl, HM.below⟩
 rw [show decide (2147483647 < ((l.length : Nat) : Int)) = false from dI (hc1)] at HF
 refine aZ HF rfl ?_
 refine wp_skip ?_
 repeat first | refine aK ?_ | refine aS ?_
 refine wp_seq ?_
 refine aN ?_
 refine wp_pure HF HM rfl 3 [] ((jJ A l c) ++ [(10, aF 0)]) (by kernel_rfl) fun a HF => ?_
 refine aB ?_
 refine wp_block ?_
 refine jX (l.length) (fun i a w => (Mm [] w0 w [] ∧ Fr 18 a ((jJ A l c) ++ [(10, ay i)]))) ?_ ?_ ?_
 ·exact ⟨HM, HF.sub ((jJ A l c) ++ [(10, aF 0)]) (by kernel_rfl)⟩
 ·intro i a w KX hi hI KR
  obtain ⟨HM, HF⟩ := hI
  refine aN ?_
  refine wp_pure HF HM rfl 1 [] ((jJ A l c) ++ [(10, ay i), (11, .bool (decide (((i : Nat) : Int) < ((l.length : Nat) : Int))))]) (by kernel_rfl) fun a HF => ?_
  refine aB ?_
  refine wp_seq ?_
  rw [show decide (((i : Nat) : Int) < ((l.length : Nat) : Int)) = true from dV (by omega)] at HF
  refine bC HF rfl ?_
  refine wp_skip ?_
  repeat first | refine aK ?_ | refine aS ?_
  refine wp_seq ?_
  refine wp_block ?_
  refine aN ?_
  obtain ⟨m2, hm2⟩ : ∃ m, l[i]? = some m := ⟨_, List.getElem?_eq_getElem (by omega)⟩
  refine bU HF (by kernel_rfl) (.pointer (Option.map (fun q : Addr => q.add (i * 7)) A)) (by kernel_rfl) (dS Tryd.underlying23 (by kernel_rfl) rfl i rfl rfl (by omega) (gQ (fH (f := kQ.cells) (k := 7) (fun _ => rfl) (HM.row hr) i hm2) (Nat.zero_lt_succ _))) fun a HF => ?_
  refine bU HF (by kernel_rfl) (.agg #[aX m2.ty, aX m2.flags, aI m2.bY, aI m2.b_, aI m2.dw, aI m2.align, .slice m2.A m2.data.length m2.c]) (by kernel_rfl) (iC rfl rfl (fH (f := kQ.cells) (k := 7) (fun _ => rfl) (HM.row hr) i hm2) (Nat.zero_lt_succ _) Tryd.underlying57 rfl (by kernel_rfl)) fun a HF => ?_
  obtain ⟨z6, wO⟩ : ∃ z, w.heap.size = z := ⟨_, rfl⟩
  refine aP HF HM wO 2 [[0]] [(4, aA z6), (8, .slice A l.length c), (9, ay l.length), (10, ay i)] [(z6, .cells #[aX m2.ty, aX m2.flags, aI m2.bY, aI m2.b_, aI m2.dw, aI m2.align, .slice m2.A m2.data.length m2.c] 57 (0, 0))] (by kernel_rfl) fun a w HF HM => ?_
  clear wO
  refine bT ?_
  refine wp_pure HF HM rfl 1 [[0]] ((jJ A l c) ++ [(10, ay i), (14, .agg #[aX m2.ty, aX m2.flags, aI m2.bY, aI m2.b_, aI m2.dw, aI m2.align, .slice m2.A m2.data.length m2.c])]) (by kernel_rfl) fun a HF => ?_
  refine bf HF (by kernel_rfl) 76 #[.agg #[aX m2.ty, aX m2.flags, aI m2.bY, aI m2.b_, aI m2.dw, aI m2.align, .slice m2.A m2.data.length m2.c]] (by kernel_rfl) (fun w => by kernel_rfl) (Calls.mono (NC m2 w) ?_)
  rintro _ w1 ⟨b3, rfl, hb⟩
  replace HM := HM.call hb
  clear hb
  refine ⟨_, rfl, ?_⟩; clear HF; intro a HF
  replace HF := HF.sub ((jJ A l c) ++ [(10, ay i), (15, .bool b3)]) (by kernel_rfl)
  rcases gZ b3 with hc4 | hc4
  ·replace HF := Fr.sub (Fr.tell HF 15 rfl (congrArg Value.bool hc4)) ((jJ A l c) ++ [(10, ay i), (15, .bool false)]) (by kernel_rfl)
   refine wp_pure HF HM rfl 1 [] ((jJ A l c) ++ [(10, ay i), (16, .bool true)]) (by kernel_rfl) fun a HF => ?_
   refine aB ?_
   refine bC HF rfl ?_
   refine aN ?_
   refine wp_pure HF HM rfl 1 [] [(2, .bool false)] (by kernel_rfl) fun a HF => ?_
   refine aB ?_
   refine wp_ret ?_
   repeat first | refine bH ?_ | refine bM ?_
   exact dn HF rfl rfl ⟨false, rfl, HM.below⟩
  replace HF := Fr.sub (Fr.tell HF 15 rfl (congrArg Value.bool hc4)) ((jJ A l c) ++ [(10, ay i), (15, .bool true)]) (by kernel_rfl)
  refine wp_pure HF HM rfl 1 [] ((jJ A l c) ++ [(10, ay i), (16, .bool false)]) (by kernel_rfl) fun a HF => ?_
  refine aB ?_
  refine aZ HF rfl ?_
  refine wp_skip ?_
  repeat first | refine aK ?_ | refine aS ?_
  refine wp_region_lit ?_
  refine wp_pure HF HM rfl 1 [] ((jJ A l c) ++ [(17, aF (IntKind.i64.wrap (((i : Nat) : Int) + 1)))]) (by kernel_rfl) fun a HF => ?_
  rw [show IntKind.i64.wrap (((i : Nat) : Int) + 1) = (((i + 1) : Nat) : Int) from (IntWalk.i64_in _ (by omega)).trans (by omega)] at HF
  refine wp_pure HF HM rfl 1 [] ((jJ A l c) ++ [(10, ay (i + 1))]) (by kernel_rfl) fun a HF => ?_
  refine wpList_nil ?_
  repeat first | refine aK ?_ | refine aS ?_
  exact KR _ _ (⟨(HM.pick [] [] rfl (by decide)), HF.sub ((jJ A l c) ++ [(10, ay (i + 1))]) (by kernel_rfl)⟩)
 ·intro a w KX hI
  obtain ⟨HM, HF⟩ := hI
  refine aN ?_
  refine wp_pure HF HM rfl 1 [] ((jJ A l c) ++ [(10, ay l.length), (11, .bool (decide (((l.length : Nat) : Int) < ((l.length : Nat) : Int))))]) (by kernel_rfl) fun a HF => ?_
  refine aB ?_
  refine wp_seq ?_
  rw [show decide (((l.length : Nat) : Int) < ((l.length : Nat) : Int)) = false from dI (by omega)] at HF
  refine aZ HF rfl ?_
  refine wp_exit ?_
  repeat (first | refine fG ?_ | refine fA rfl ?_)
  refine iD ?_
  repeat first | refine aK ?_ | refine aS ?_
  refine aN ?_
  refine wp_pure HF HM rfl 1 [] [(2, .bool true)] (by kernel_rfl) fun a HF => ?_
  refine aB ?_
  refine wp_ret ?_
  repeat first | refine bH ?_ | refine bM ?_
  exact dn HF rfl rfl ⟨true, rfl, HM.below⟩

abbrev jI := fun (A : Option Addr) (l : List dL) (c : Nat) => ([(8, .slice A l.length c), (9, ay l.length)] : Slots)
theorem Nz (l : List dL) (A : Option Addr) (c : Nat) (w0 : World) (hr : Row w0 A (l.flatMap dL.cells)) : Calls Tryd.prog 50 #[.slice A l.length c] w0 fun e w' => ∃ b, e = .returned (.bool b) ∧ Below w0.heap.size w0 w' := by
 obtain ⟨w, hw⟩ : ∃ w, w0 = w := ⟨_, rfl⟩
 have HM : Mm [] w0 w [] := hw ▸ Mm.start w0
 conv => arg 4; rw [hw]
 clear hw
 refine bI Tryd.func50 rfl Tryd.ntmps50 [(0, .slice A l.length c)] (by kernel_rfl) (Nat.le_of_ble_eq_true rfl) ?_
 intro a HF
 refine aN ?_
 refine wp_pure HF HM rfl 1 [] [(0, .slice A l.length c)] (by kernel_rfl) fun a HF => ?_
 refine aB ?_
 refine wp_seq ?_
 refine aN ?_
 refine wp_pure HF HM rfl 3 [] [(0, .slice A l.length c), (7, .bool (decide (2147483647 < ((l.length : Nat) : Int))))] (by kernel_rfl) fun a HF => ?_
 refine aB ?_
 by_cases hc1 : 2147483647 < ((l.length : Nat) : Int)
 ·rw [show decide (2147483647 < ((l.length : Nat) : Int)) = true from dV (hc1)] at HF
  refine bC HF rfl ?_
  refine aN ?_
  refine wp_pure HF HM rfl 1 [] [(2, .bool false)] (by kernel_rfl) fun a HF => ?_
  refine aB ?_
  refine wp_ret ?_
  repeat first | refine bH ?_ | refine bM ?_
  exact dn HF rfl rfl ⟨false, rfl, HM.below⟩
 rw [show decide (2147483647 < ((l.length : Nat) : Int)) = false from dI (hc1)] at HF
 refine aZ HF rfl ?_
 refine wp_skip ?_
 repeat first | refine aK ?_ | refine aS ?_
 refine wp_seq ?_
 refine aN ?_
 refine wp_pure HF HM rfl 3 [] ((jI A l c) ++ [(10, aF 0)]) (by kernel_rfl) fun a HF => ?_
 refine aB ?_
 refine wp_block ?_
 refine jX (l.length) (fun i a w => (Mm [] w0 w [] ∧ Fr 18 a ((jI A l c) ++ [(10, ay i)]))) ?_ ?_ ?_
 ·exact ⟨HM, HF.sub ((jI A l c) ++ [(10, aF 0)]) (by kernel_rfl)⟩
 ·intro i a w KX hi hI KR
  obtain ⟨HM, HF⟩ := hI
  refine aN ?_
  refine wp_pure HF HM rfl 1 [] ((jI A l c) ++ [(10, ay i), (11, .bool (decide (((i : Nat) : Int) < ((l.length : Nat) : Int))))]) (by kernel_rfl) fun a HF => ?_
  refine aB ?_
  refine wp_seq ?_
  rw [show decide (((i : Nat) : Int) < ((l.length : Nat) : Int)) = true from dV (by omega)] at HF
  refine bC HF rfl ?_
  refine wp_skip ?_
  repeat first | refine aK ?_ | refine aS ?_
  refine wp_seq ?_
  refine wp_block ?_
  refine aN ?_
  obtain ⟨m2, hm2⟩ : ∃ m, l[i]? = some m := ⟨_, List.getElem?_eq_getElem (by omega)⟩
  refine bU HF (by kernel_rfl) (.pointer (Option.map (fun q : Addr => q.add (i * 10)) A)) (by kernel_rfl) (dS Tryd.underlying24 (by kernel_rfl) rfl i rfl rfl (by omega) (gQ (fH (f := dL.cells) (k := 10) (fun _ => rfl) (HM.row hr) i hm2) (Nat.zero_lt_succ _))) fun a HF => ?_
  refine bU HF (by kernel_rfl) (.agg #[.string (⟨m2.name.toArray⟩), aX m2.ty, aX m2.flags, aI m2.addr, aX m2.link, aX m2.info, aI m2.align, aI m2.ent, aI m2.size, .slice m2.A m2.data.length m2.c]) (by kernel_rfl) (iC rfl rfl (fH (f := dL.cells) (k := 10) (fun _ => rfl) (HM.row hr) i hm2) (Nat.zero_lt_succ _) Tryd.underlying46 rfl (by kernel_rfl)) fun a HF => ?_
  obtain ⟨z6, wO⟩ : ∃ z, w.heap.size = z := ⟨_, rfl⟩
  refine aP HF HM wO 2 [[0]] [(4, aA z6), (8, .slice A l.length c), (9, ay l.length), (10, ay i)] [(z6, .cells #[.string (⟨m2.name.toArray⟩), aX m2.ty, aX m2.flags, aI m2.addr, aX m2.link, aX m2.info, aI m2.align, aI m2.ent, aI m2.size, .slice m2.A m2.data.length m2.c] 46 (0, 0))] (by kernel_rfl) fun a w HF HM => ?_
  clear wO
  refine bT ?_
  refine wp_pure HF HM rfl 1 [[0]] ((jI A l c) ++ [(10, ay i), (14, .agg #[.string (⟨m2.name.toArray⟩), aX m2.ty, aX m2.flags, aI m2.addr, aX m2.link, aX m2.info, aI m2.align, aI m2.ent, aI m2.size, .slice m2.A m2.data.length m2.c])]) (by kernel_rfl) fun a HF => ?_
  refine bf HF (by kernel_rfl) 77 #[.agg #[.string (⟨m2.name.toArray⟩), aX m2.ty, aX m2.flags, aI m2.addr, aX m2.link, aX m2.info, aI m2.align, aI m2.ent, aI m2.size, .slice m2.A m2.data.length m2.c]] (by kernel_rfl) (fun w => by kernel_rfl) (Calls.mono (Ny m2 w) ?_)
  rintro _ w1 ⟨b3, rfl, hb⟩
  replace HM := HM.call hb
  clear hb
  refine ⟨_, rfl, ?_⟩; clear HF; intro a HF
  replace HF := HF.sub ((jI A l c) ++ [(10, ay i), (15, .bool b3)]) (by kernel_rfl)
  rcases gZ b3 with hc4 | hc4
  ·replace HF := Fr.sub (Fr.tell HF 15 rfl (congrArg Value.bool hc4)) ((jI A l c) ++ [(10, ay i), (15, .bool false)]) (by kernel_rfl)
   refine wp_pure HF HM rfl 1 [] ((jI A l c) ++ [(10, ay i), (16, .bool true)]) (by kernel_rfl) fun a HF => ?_
   refine aB ?_
   refine bC HF rfl ?_
   refine aN ?_
   refine wp_pure HF HM rfl 1 [] [(2, .bool false)] (by kernel_rfl) fun a HF => ?_
   refine aB ?_
   refine wp_ret ?_
   repeat first | refine bH ?_ | refine bM ?_
   exact dn HF rfl rfl ⟨false, rfl, HM.below⟩
  replace HF := Fr.sub (Fr.tell HF 15 rfl (congrArg Value.bool hc4)) ((jI A l c) ++ [(10, ay i), (15, .bool true)]) (by kernel_rfl)
  refine wp_pure HF HM rfl 1 [] ((jI A l c) ++ [(10, ay i), (16, .bool false)]) (by kernel_rfl) fun a HF => ?_
  refine aB ?_
  refine aZ HF rfl ?_
  refine wp_skip ?_
  repeat first | refine aK ?_ | refine aS ?_
  refine wp_region_lit ?_
  refine wp_pure HF HM rfl 1 [] ((jI A l c) ++ [(17, aF (IntKind.i64.wrap (((i : Nat) : Int) + 1)))]) (by kernel_rfl) fun a HF => ?_
  rw [show IntKind.i64.wrap (((i : Nat) : Int) + 1) = (((i + 1) : Nat) : Int) from (IntWalk.i64_in _ (by omega)).trans (by omega)] at HF
  refine wp_pure HF HM rfl 1 [] ((jI A l c) ++ [(10, ay (i + 1))]) (by kernel_rfl) fun a HF => ?_
  refine wpList_nil ?_
  repeat first | refine aK ?_ | refine aS ?_
  exact KR _ _ (⟨(HM.pick [] [] rfl (by decide)), HF.sub ((jI A l c) ++ [(10, ay (i + 1))]) (by kernel_rfl)⟩)
 ·intro a w KX hI
  obtain ⟨HM, HF⟩ := hI
  refine aN ?_
  refine wp_pure HF HM rfl 1 [] ((jI A l c) ++ [(10, ay l.length), (11, .bool (decide (((l.length : Nat) : Int) < ((l.length : Nat) : Int))))]) (by kernel_rfl) fun a HF => ?_
  refine aB ?_
  refine wp_seq ?_
  rw [show decide (((l.length : Nat) : Int) < ((l.length : Nat) : Int)) = false from dI (by omega)] at HF
  refine aZ HF rfl ?_
  refine wp_exit ?_
  repeat (first | refine fG ?_ | refine fA rfl ?_)
  refine iD ?_
  repeat first | refine aK ?_ | refine aS ?_
  refine aN ?_
  refine wp_pure HF HM rfl 1 [] [(2, .bool true)] (by kernel_rfl) fun a HF => ?_
  refine aB ?_
  refine wp_ret ?_
  repeat first | refine bH ?_ | refine bM ?_
  exact dn HF rfl rfl ⟨true, rfl, HM.below⟩

theorem yM (x : bZ) (w0 : World) (h : x.At w0) : Calls Tryd.prog 20 #[x.val] w0 fun e w' => ∃ b, e = .returned (.bool b) ∧ Below w0.heap.size w0 w' := by
 obtain ⟨w, hw⟩ : ∃ w, w0 = w := ⟨_, rfl⟩
 have HM : Mm [] w0 w [] := hw ▸ Mm.start w0
 conv => arg 4; rw [hw]
 clear hw
 refine bI Tryd.func20 rfl Tryd.ntmps20 [(0, .agg #[.bool x.wide, .bool x.big, aT x.abi, aT x.aH, .int .i64 x.ty, .int .i64 x.machine, aI x.entry, .slice x.A x.ss.length x.c, .slice x.B x.ps.length x.d])] (by kernel_rfl) (Nat.le_of_ble_eq_true rfl) ?_
 intro a HF
 refine aN ?_
 obtain ⟨z1, hz1⟩ : ∃ z, w.heap.size = z := ⟨_, rfl⟩
 refine aP HF HM hz1 2 [] [(1, aA z1)] [(z1, .cells #[.bool x.wide, .bool x.big, aT x.abi, aT x.aH, .int .i64 x.ty, .int .i64 x.machine, aI x.entry, .slice x.A x.ss.length x.c, .slice x.B x.ps.length x.d] 26 (0, 0))] (by kernel_rfl) fun a w HF HM => ?_
 clear hz1
 refine aB ?_
 refine wp_seq ?_
 refine aN ?_
 refine wp_pure HF HM rfl 2 [[0]] [(1, aA z1), (4, .slice x.A x.ss.length x.c)] (by kernel_rfl) fun a HF => ?_
 refine bf HF (by kernel_rfl) 49 #[.slice x.A x.ss.length x.c] (by kernel_rfl) (fun w => by kernel_rfl) (Calls.mono (ND x.ss x.A x.c w (HM.row h.dJ)) ?_)
 rintro _ w1 ⟨b1, rfl, hb⟩
 replace HM := HM.call hb
 clear hb
 refine ⟨_, rfl, ?_⟩; clear HF; intro a HF
 replace HF := HF.sub [(1, aA z1), (5, .bool b1)] (by kernel_rfl)
 rcases gZ b1 with hc2 | hc2
 ·replace HF := Fr.sub (Fr.tell HF 5 rfl (congrArg Value.bool hc2)) [(1, aA z1), (5, .bool false)] (by kernel_rfl)
  refine wp_pure HF HM rfl 1 [] [(1, aA z1), (6, .bool true)] (by kernel_rfl) fun a HF => ?_
  refine aB ?_
  refine bC HF rfl ?_
  refine aN ?_
  refine wp_pure HF HM rfl 1 [] [(2, .bool false)] (by kernel_rfl) fun a HF => ?_
  refine aB ?_
  refine wp_ret ?_
  repeat first | refine bH ?_ | refine bM ?_
  exact dn HF rfl rfl ⟨false, rfl, HM.below⟩
 replace HF := Fr.sub (Fr.tell HF 5 rfl (congrArg Value.bool hc2)) [(1, aA z1), (5, .bool true)] (by kernel_rfl)
 refine wp_pure HF HM rfl 1 [] [(1, aA z1), (6, .bool false)] (by kernel_rfl) fun a HF => ?_
 refine aB ?_
 refine aZ HF rfl ?_
 refine wp_skip ?_
 repeat first | refine aK ?_ | refine aS ?_
 refine wp_seq ?_
 refine aN ?_
 refine wp_pure HF HM rfl 2 [[0]] [(8, .slice x.B x.ps.length x.d)] (by kernel_rfl) fun a HF => ?_
 refine bf HF (by kernel_rfl) 50 #[.slice x.B x.ps.length x.d] (by kernel_rfl) (fun w => by kernel_rfl) (Calls.mono (Nz x.ps x.B x.d w1 (HM.row h.parts)) ?_)
 rintro _ w2 ⟨b3, rfl, hb⟩
 replace HM := HM.call hb
 clear hb
 refine ⟨_, rfl, ?_⟩; clear HF; intro a HF
 replace HF := HF.sub [(9, .bool b3)] (by kernel_rfl)
 rcases gZ b3 with hc4 | hc4
 ·replace HF := Fr.sub (Fr.tell HF 9 rfl (congrArg Value.bool hc4)) [(9, .bool false)] (by kernel_rfl)
  refine wp_pure HF HM rfl 1 [] [(10, .bool true)] (by kernel_rfl) fun a HF => ?_
  refine aB ?_
  refine bC HF rfl ?_
  refine aN ?_
  refine wp_pure HF HM rfl 1 [] [(2, .bool false)] (by kernel_rfl) fun a HF => ?_
  refine aB ?_
  refine wp_ret ?_
  repeat first | refine bH ?_ | refine bM ?_
  exact dn HF rfl rfl ⟨false, rfl, HM.below⟩
 replace HF := Fr.sub (Fr.tell HF 9 rfl (congrArg Value.bool hc4)) [(9, .bool true)] (by kernel_rfl)
 refine wp_pure HF HM rfl 1 [] [(10, .bool false)] (by kernel_rfl) fun a HF => ?_
 refine aB ?_
 refine aZ HF rfl ?_
 refine wp_skip ?_
 repeat first | refine aK ?_ | refine aS ?_
 refine aN ?_
 refine wp_pure HF HM rfl 1 [] [(2, .bool true)] (by kernel_rfl) fun a HF => ?_
 refine aB ?_
 refine wp_ret ?_
 repeat first | refine bH ?_ | refine bM ?_
 exact dn HF rfl rfl ⟨true, rfl, HM.below⟩

end Go.Proofs.YtdgehpocmfjbiaaDoor
namespace Go.Proofs.YtdgehpocmfjbiaaDoor
open Go.RowKit

abbrev kJ := fun z1 (x : bZ) => ((z1, .cells #[.bool x.wide, .bool x.big, aT x.abi, aT x.aH, .int .i64 x.ty, .int .i64 x.machine, aI x.entry, .slice x.A x.ss.length x.c, .slice x.B x.ps.length x.d] 26 (0, 0)) : Nat × Obj)
abbrev kZ := fun z1 (x : bZ) => ([(1, aA z1), (46, .slice x.A x.ss.length x.c), (47, ay x.ss.length)] : Slots)
abbrev qH := fun z1 z24 (x : bZ) i => ([(1, aA z1), (4, aA z24), (46, .slice x.A x.ss.length x.c), (47, ay x.ss.length), (48, ay i)] : Slots)
abbrev ji := fun z1 (x : bZ) => ([(1, aA z1), (77, .slice x.B x.ps.length x.d), (78, ay x.ps.length)] : Slots)
abbrev Di := fun z38 (m12 : dL) => ((z38, .cells #[.string (⟨m12.name.toArray⟩), aX m12.ty, aX m12.flags, aI m12.addr, aX m12.link, aX m12.info, aI m12.align, aI m12.ent, aI m12.size, .slice m12.A m12.data.length m12.c] 46 (0, 0)) : Nat × Obj)
abbrev fZ := fun z1 z38 (x : bZ) i => ([(1, aA z1), (6, aA z38), (77, .slice x.B x.ps.length x.d), (78, ay x.ps.length), (79, ay i)] : Slots)
theorem yP (x : bZ) (w0 : World) (h : x.At w0) : Calls Tryd.prog 22 #[x.val] w0 fun e w' => ∃ b, e = .returned (.bool b) ∧ Below w0.heap.size w0 w' ∧ (b = true → x.Ok ∧ x.ps.length ≤ 100) := by
 obtain ⟨w, hw⟩ : ∃ w, w0 = w := ⟨_, rfl⟩
 have HM : Mm [] w0 w [] := hw ▸ Mm.start w0
 conv => arg 4; rw [hw]
 clear hw
 refine bI Tryd.func22 rfl Tryd.ntmps22 [(0, .agg #[.bool x.wide, .bool x.big, aT x.abi, aT x.aH, .int .i64 x.ty, .int .i64 x.machine, aI x.entry, .slice x.A x.ss.length x.c, .slice x.B x.ps.length x.d])] (by kernel_rfl) (Nat.le_of_ble_eq_true rfl) ?_
 intro a HF
 refine aN ?_
 obtain ⟨z1, hz1⟩ : ∃ z, w.heap.size = z := ⟨_, rfl⟩
 refine aP HF HM hz1 2 [] [(1, aA z1)] [kJ z1 x] (by kernel_rfl) fun a w HF HM => ?_
 clear hz1
 refine aB ?_
 refine wp_seq ?_
 refine aN ?_
 refine wp_pure HF HM rfl 4 [[0]] [(1, aA z1), (10, .bool (decide (x.ty < 0)))] (by kernel_rfl) fun a HF => ?_
 by_cases hc1 : x.ty < 0
 ·rw [show decide (x.ty < 0) = true from dV (hc1)] at HF
  refine wp_pure HF HM rfl 34 [] [(1, aA z1), (44, .bool true)] (by kernel_rfl) fun a HF => ?_
  refine aB ?_
  refine bC HF rfl ?_
  refine aN ?_
  refine wp_pure HF HM rfl 1 [] [(2, .bool false)] (by kernel_rfl) fun a HF => ?_
  refine aB ?_
  refine wp_ret ?_
  repeat first | refine bH ?_ | refine bM ?_
  exact dn HF rfl rfl ⟨false, rfl, HM.below, fun h => by cases h⟩
 rw [show decide (x.ty < 0) = false from dI (hc1)] at HF
 refine wp_pure HF HM rfl 5 [[0]] [(1, aA z1), (15, .bool (decide (65535 < x.ty)))] (by kernel_rfl) fun a HF => ?_
 by_cases hc2 : 65535 < x.ty
 ·rw [show decide (65535 < x.ty) = true from dV (hc2)] at HF
  refine wp_pure HF HM rfl 29 [] [(1, aA z1), (44, .bool true)] (by kernel_rfl) fun a HF => ?_
  refine aB ?_
  refine bC HF rfl ?_
  refine aN ?_
  refine wp_pure HF HM rfl 1 [] [(2, .bool false)] (by kernel_rfl) fun a HF => ?_
  refine aB ?_
  refine wp_ret ?_
  repeat first | refine bH ?_ | refine bM ?_
  exact dn HF rfl rfl ⟨false, rfl, HM.below, fun h => by cases h⟩
 rw [show decide (65535 < x.ty) = false from dI (hc2)] at HF
 refine wp_pure HF HM rfl 5 [[0]] [(1, aA z1), (20, .bool (decide (x.machine < 0)))] (by kernel_rfl) fun a HF => ?_
 by_cases hc3 : x.machine < 0
 ·rw [show decide (x.machine < 0) = true from dV (hc3)] at HF
  refine wp_pure HF HM rfl 24 [] [(1, aA z1), (44, .bool true)] (by kernel_rfl) fun a HF => ?_
  refine aB ?_
  refine bC HF rfl ?_
  refine aN ?_
  refine wp_pure HF HM rfl 1 [] [(2, .bool false)] (by kernel_rfl) fun a HF => ?_
  refine aB ?_
  refine wp_ret ?_
  repeat first | refine bH ?_ | refine bM ?_
  exact dn HF rfl rfl ⟨false, rfl, HM.below, fun h => by cases h⟩
 rw [show decide (x.machine < 0) = false from dI (hc3)] at HF
 refine wp_pure HF HM rfl 5 [[0]] [(1, aA z1), (25, .bool (decide (65535 < x.machine)))] (by kernel_rfl) fun a HF => ?_
 by_cases hc4 : 65535 < x.machine
 ·rw [show decide (65535 < x.machine) = true from dV (hc4)] at HF
  refine wp_pure HF HM rfl 19 [] [(1, aA z1), (44, .bool true)] (by kernel_rfl) fun a HF => ?_
  refine aB ?_
  refine bC HF rfl ?_
  refine aN ?_
  refine wp_pure HF HM rfl 1 [] [(2, .bool false)] (by kernel_rfl) fun a HF => ?_
  refine aB ?_
  refine wp_ret ?_
  repeat first | refine bH ?_ | refine bM ?_
  exact dn HF rfl rfl ⟨false, rfl, HM.below, fun h => by cases h⟩
 rw [show decide (65535 < x.machine) = false from dI (hc4)] at HF
 obtain ⟨z14, hz14⟩ : ∃ z, w.heap.size = z := ⟨_, rfl⟩
 refine aP HF HM hz14 4 [[0], [0]] [(1, aA z1), (25, .bool false), (26, .agg #[.bool x.wide, .bool x.big, aT x.abi, aT x.aH, .int .i64 x.ty, .int .i64 x.machine, aI x.entry, .slice x.A x.ss.length x.c, .slice x.B x.ps.length x.d]), (29, aC z14 1 1)] [(z14, .cells #[aI x.entry] 22 (0, 0)), kJ z1 x] (by kernel_rfl) fun a w HF HM => ?_
 clear hz14
 refine bf HF (by kernel_rfl) 52 #[.agg #[.bool x.wide, .bool x.big, aT x.abi, aT x.aH, .int .i64 x.ty, .int .i64 x.machine, aI x.entry, .slice x.A x.ss.length x.c, .slice x.B x.ps.length x.d], aC z14 1 1] (by kernel_rfl) (fun w => by kernel_rfl) (Calls.mono (fits_any x.wide _ _ _ _ _ _ _ _ [x.entry] _ _ _ rfl (by simp) w (HM.rowAt (i := 0) rfl)) ?_)
 rintro _ w1 ⟨rfl, hb⟩
 replace HM := HM.call hb
 clear hb
 refine ⟨_, rfl, ?_⟩; clear HF; intro a HF
 replace HF := HF.sub [(1, aA z1), (25, .bool false), (30, .bool (lZ x.wide [x.entry]))] (by kernel_rfl)
 rcases gZ (lZ x.wide [x.entry]) with hc5 | hc5
 ·replace HF := Fr.sub (Fr.tell HF 30 rfl (congrArg Value.bool hc5)) [(1, aA z1), (25, .bool false), (30, .bool false)] (by kernel_rfl)
  refine wp_pure HF HM rfl 14 [] [(1, aA z1), (44, .bool true)] (by kernel_rfl) fun a HF => ?_
  refine aB ?_
  refine bC HF rfl ?_
  refine aN ?_
  refine wp_pure HF HM rfl 1 [] [(2, .bool false)] (by kernel_rfl) fun a HF => ?_
  refine aB ?_
  refine wp_ret ?_
  repeat first | refine bH ?_ | refine bM ?_
  exact dn HF rfl rfl ⟨false, rfl, HM.below, fun h => by cases h⟩
 replace HF := Fr.sub (Fr.tell HF 30 rfl (congrArg Value.bool hc5)) [(1, aA z1), (25, .bool false), (30, .bool true)] (by kernel_rfl)
 refine wp_pure HF HM rfl 9 [[0]] [(1, aA z1), (39, .bool (decide (100 < ((x.ss.length : Nat) : Int))))] (by kernel_rfl) fun a HF => ?_
 by_cases hc6 : 100 < ((x.ss.length : Nat) : Int)
 ·rw [show decide (100 < ((x.ss.length : Nat) : Int)) = true from dV (hc6)] at HF
  refine wp_pure HF HM rfl 5 [] [(1, aA z1), (44, .bool true)] (by kernel_rfl) fun a HF => ?_
  refine aB ?_
  refine bC HF rfl ?_
  refine aN ?_
  refine wp_pure HF HM rfl 1 [] [(2, .bool false)] (by kernel_rfl) fun a HF => ?_
  refine aB ?_
  refine wp_ret ?_
  repeat first | refine bH ?_ | refine bM ?_
  exact dn HF rfl rfl ⟨false, rfl, HM.below, fun h => by cases h⟩
 rw [show decide (100 < ((x.ss.length : Nat) : Int)) = false from dI (hc6)] at HF
 refine wp_pure HF HM rfl 5 [[0]] [(1, aA z1), (44, .bool (decide (100 < ((x.ps.length : Nat) : Int))))] (by kernel_rfl) fun a HF => ?_
 refine aB ?_
 by_cases uX : 100 < ((x.ps.length : Nat) : Int)
 ·rw [show decide (100 < ((x.ps.length : Nat) : Int)) = true from dV (uX)] at HF
  refine bC HF rfl ?_
  refine aN ?_
  refine wp_pure HF HM rfl 1 [] [(2, .bool false)] (by kernel_rfl) fun a HF => ?_
  refine aB ?_
  refine wp_ret ?_
  repeat first | refine bH ?_ | refine bM ?_
  exact dn HF rfl rfl ⟨false, rfl, HM.below, fun h => by cases h⟩
 rw [show decide (100 < ((x.ps.length : Nat) : Int)) = false from dI (uX)] at HF
 refine aZ HF rfl ?_
 refine wp_skip ?_
 repeat first | refine aK ?_ | refine aS ?_
 refine wp_seq ?_
 refine aN ?_
 refine wp_pure HF HM rfl 4 [[0]] ((kZ z1 x) ++ [(48, aF 0)]) (by kernel_rfl) fun a HF => ?_
 refine aB ?_
 refine wp_block ?_
 replace HM := HM.pick [1] [kJ z1 x] rfl (by decide)
 refine jX (x.ss.length) (fun i a w => ((∀ j m, j < i → x.ss[j]? = some m → kQ.Ok x.wide m) ∧ Mm [] w0 w [kJ z1 x] ∧ Fr 149 a ((kZ z1 x) ++ [(48, ay i)]))) ?_ ?_ ?_
 ·exact ⟨fun j m hj => absurd hj (Nat.not_lt_zero j), HM, HF.sub ((kZ z1 x) ++ [(48, aF 0)]) (by kernel_rfl)⟩
 ·intro i a w KX hi hI KR
  obtain ⟨PW, HM, HF⟩ := hI
  refine aN ?_
  refine wp_pure HF HM rfl 1 [] ((kZ z1 x) ++ [(48, ay i), (49, .bool (decide (((i : Nat) : Int) < ((x.ss.length : Nat) : Int))))]) (by kernel_rfl) fun a HF => ?_
  refine aB ?_
  refine wp_seq ?_
  rw [show decide (((i : Nat) : Int) < ((x.ss.length : Nat) : Int)) = true from dV (by omega)] at HF
  refine bC HF rfl ?_
  refine wp_skip ?_
  repeat first | refine aK ?_ | refine aS ?_
  refine wp_seq ?_
  refine wp_block ?_
  refine aN ?_
  obtain ⟨m8, hm8⟩ : ∃ m, x.ss[i]? = some m := ⟨_, List.getElem?_eq_getElem (by omega)⟩
  refine bU HF (by kernel_rfl) (.pointer (Option.map (fun q : Addr => q.add (i * 7)) x.A)) (by kernel_rfl) (dS Tryd.underlying23 (by kernel_rfl) rfl i rfl rfl (by omega) (gQ (fH (f := kQ.cells) (k := 7) (fun _ => rfl) (HM.row h.dJ) i hm8) (Nat.zero_lt_succ _))) fun a HF => ?_
  refine bU HF (by kernel_rfl) (.agg #[aX m8.ty, aX m8.flags, aI m8.bY, aI m8.b_, aI m8.dw, aI m8.align, .slice m8.A m8.data.length m8.c]) (by kernel_rfl) (iC rfl rfl (fH (f := kQ.cells) (k := 7) (fun _ => rfl) (HM.row h.dJ) i hm8) (Nat.zero_lt_succ _) Tryd.underlying57 rfl (by kernel_rfl)) fun a HF => ?_
  obtain ⟨z24, hz24⟩ : ∃ z, w.heap.size = z := ⟨_, rfl⟩
  refine aP HF HM hz24 2 [[1]] (qH z1 z24 x i) [(z24, .cells #[aX m8.ty, aX m8.flags, aI m8.bY, aI m8.b_, aI m8.dw, aI m8.align, .slice m8.A m8.data.length m8.c] 57 (0, 0)), kJ z1 x] (by kernel_rfl) fun a w HF HM => ?_
  clear hz24
  refine bT ?_
  obtain ⟨z25, hz25⟩ : ∃ z, w.heap.size = z := ⟨_, rfl⟩
  refine aP HF HM hz25 10 [[0], [1], [1], [1], [1]] ((qH z1 z24 x i) ++ [(52, .agg #[.bool x.wide, .bool x.big, aT x.abi, aT x.aH, .int .i64 x.ty, .int .i64 x.machine, aI x.entry, .slice x.A x.ss.length x.c, .slice x.B x.ps.length x.d]), (61, aC z25 4 4)]) [(z25, .cells #[aI m8.bY, aI m8.b_, aI m8.dw, aI m8.align] 22 (0, 0)), (z24, .cells #[aX m8.ty, aX m8.flags, aI m8.bY, aI m8.b_, aI m8.dw, aI m8.align, .slice m8.A m8.data.length m8.c] 57 (0, 0)), kJ z1 x] (by kernel_rfl) fun a w HF HM => ?_
  clear hz25
  refine bf HF (by kernel_rfl) 52 #[.agg #[.bool x.wide, .bool x.big, aT x.abi, aT x.aH, .int .i64 x.ty, .int .i64 x.machine, aI x.entry, .slice x.A x.ss.length x.c, .slice x.B x.ps.length x.d], aC z25 4 4] (by kernel_rfl) (fun w => by kernel_rfl) (Calls.mono (fits_any x.wide _ _ _ _ _ _ _ _ [m8.bY, m8.b_, m8.dw, m8.align] _ _ _ rfl (by simp) w (HM.rowAt (i := 0) rfl)) ?_)
  rintro _ w2 ⟨rfl, hb⟩
  replace HM := HM.call hb
  clear hb
  refine ⟨_, rfl, ?_⟩; clear HF; intro a HF
  replace HF := HF.sub ((qH z1 z24 x i) ++ [(62, .bool (lZ x.wide [m8.bY, m8.b_, m8.dw, m8.align]))]) (by kernel_rfl)
  rcases gZ (lZ x.wide [m8.bY, m8.b_, m8.dw, m8.align]) with sQ | sQ
  ·replace HF := Fr.sub (Fr.tell HF 62 rfl (congrArg Value.bool sQ)) ((qH z1 z24 x i) ++ [(62, .bool false)]) (by kernel_rfl)
   refine wp_pure HF HM rfl 12 [] ((kZ z1 x) ++ [(48, ay i), (74, .bool true)]) (by kernel_rfl) fun a HF => ?_
   refine aB ?_
   refine bC HF rfl ?_
   refine aN ?_
   refine wp_pure HF HM rfl 1 [] [(2, .bool false)] (by kernel_rfl) fun a HF => ?_
   refine aB ?_
   refine wp_ret ?_
   repeat first | refine bH ?_ | refine bM ?_
   exact dn HF rfl rfl ⟨false, rfl, HM.below, fun h => by cases h⟩
  replace HF := Fr.sub (Fr.tell HF 62 rfl (congrArg Value.bool sQ)) ((qH z1 z24 x i) ++ [(62, .bool true)]) (by kernel_rfl)
  refine wp_pure HF HM rfl 7 [[1]] ((qH z1 z24 x i) ++ [(69, .bool (decide (2147483648 ≤ ((m8.ty : Nat) : Int))))]) (by kernel_rfl) fun a HF => ?_
  by_cases hc10 : 2147483648 ≤ ((m8.ty : Nat) : Int)
  ·rw [show decide (2147483648 ≤ ((m8.ty : Nat) : Int)) = true from dV (hc10)] at HF
   refine wp_pure HF HM rfl 5 [] ((kZ z1 x) ++ [(48, ay i), (74, .bool true)]) (by kernel_rfl) fun a HF => ?_
   refine aB ?_
   refine bC HF rfl ?_
   refine aN ?_
   refine wp_pure HF HM rfl 1 [] [(2, .bool false)] (by kernel_rfl) fun a HF => ?_
   refine aB ?_
   refine wp_ret ?_
   repeat first | refine bH ?_ | refine bM ?_
   exact dn HF rfl rfl ⟨false, rfl, HM.below, fun h => by cases h⟩
  rw [show decide (2147483648 ≤ ((m8.ty : Nat) : Int)) = false from dI (hc10)] at HF
  refine wp_pure HF HM rfl 5 [[1]] ((kZ z1 x) ++ [(48, ay i), (74, .bool (decide (65536 < ((m8.data.length : Nat) : Int))))]) (by kernel_rfl) fun a HF => ?_
  refine aB ?_
  by_cases yI : 65536 < ((m8.data.length : Nat) : Int)
  ·rw [show decide (65536 < ((m8.data.length : Nat) : Int)) = true from dV (yI)] at HF
   refine bC HF rfl ?_
   refine aN ?_
   refine wp_pure HF HM rfl 1 [] [(2, .bool false)] (by kernel_rfl) fun a HF => ?_
   refine aB ?_
   refine wp_ret ?_
   repeat first | refine bH ?_ | refine bM ?_
   exact dn HF rfl rfl ⟨false, rfl, HM.below, fun h => by cases h⟩
  rw [show decide (65536 < ((m8.data.length : Nat) : Int)) = false from dI (yI)] at HF
  refine aZ HF rfl ?_
  refine wp_skip ?_
  repeat first | refine aK ?_ | refine aS ?_
  refine wp_region_lit ?_
  refine wp_pure HF HM rfl 1 [] ((kZ z1 x) ++ [(75, aF (IntKind.i64.wrap (((i : Nat) : Int) + 1)))]) (by kernel_rfl) fun a HF => ?_
  rw [show IntKind.i64.wrap (((i : Nat) : Int) + 1) = (((i + 1) : Nat) : Int) from (IntWalk.i64_in _ (by omega)).trans (by omega)] at HF
  refine wp_pure HF HM rfl 1 [] ((kZ z1 x) ++ [(48, ay (i + 1))]) (by kernel_rfl) fun a HF => ?_
  refine wpList_nil ?_
  repeat first | refine aK ?_ | refine aS ?_
  exact KR _ _ (⟨fun j m hj hm => (Nat.lt_or_ge j i).elim (fun g => PW j m g hm) (fun g => by obtain rfl : j = i := (by omega); rw [hm8] at hm; obtain rfl := Option.some.inj hm; exact ⟨by assumption, by omega, by omega⟩), (HM.pick [2] [kJ z1 x] rfl (by decide)), HF.sub ((kZ z1 x) ++ [(48, ay (i + 1))]) (by kernel_rfl)⟩)
 ·intro a w KX hI
  obtain ⟨PW, HM, HF⟩ := hI
  refine aN ?_
  refine wp_pure HF HM rfl 1 [] ((kZ z1 x) ++ [(48, ay x.ss.length), (49, .bool (decide (((x.ss.length : Nat) : Int) < ((x.ss.length : Nat) : Int))))]) (by kernel_rfl) fun a HF => ?_
  refine aB ?_
  refine wp_seq ?_
  rw [show decide (((x.ss.length : Nat) : Int) < ((x.ss.length : Nat) : Int)) = false from dI (by omega)] at HF
  refine aZ HF rfl ?_
  refine wp_exit ?_
  repeat (first | refine fG ?_ | refine fA rfl ?_)
  refine iD ?_
  repeat first | refine aK ?_ | refine aS ?_
  refine wp_seq ?_
  refine aN ?_
  refine wp_pure HF HM rfl 4 [[0]] ((ji z1 x) ++ [(79, aF 0)]) (by kernel_rfl) fun a HF => ?_
  refine aB ?_
  refine wp_block ?_
  refine jX (x.ps.length) (fun i a w => ((∀ j m, j < i → x.ps[j]? = some m → dL.Ok x.wide m) ∧ Mm [] w0 w [kJ z1 x] ∧ Fr 149 a ((ji z1 x) ++ [(79, ay i)]))) ?_ ?_ ?_
  ·exact ⟨fun j m hj => absurd hj (Nat.not_lt_zero j), HM, HF.sub ((ji z1 x) ++ [(79, aF 0)]) (by kernel_rfl)⟩
  ·intro i a w KX hi hI KR
   obtain ⟨hparts, HM, HF⟩ := hI
   refine aN ?_
   refine wp_pure HF HM rfl 1 [] ((ji z1 x) ++ [(79, ay i), (80, .bool (decide (((i : Nat) : Int) < ((x.ps.length : Nat) : Int))))]) (by kernel_rfl) fun a HF => ?_
   refine aB ?_
   refine wp_seq ?_
   rw [show decide (((i : Nat) : Int) < ((x.ps.length : Nat) : Int)) = true from dV (by omega)] at HF
   refine bC HF rfl ?_
   refine wp_skip ?_
   repeat first | refine aK ?_ | refine aS ?_
   refine wp_seq ?_
   refine wp_block ?_
   refine aN ?_
   obtain ⟨m12, zx⟩ : ∃ m, x.ps[i]? = some m := ⟨_, List.getElem?_eq_getElem (by omega)⟩
   refine bU HF (by kernel_rfl) (.pointer (Option.map (fun q : Addr => q.add (i * 10)) x.B)) (by kernel_rfl) (dS Tryd.underlying24 (by kernel_rfl) rfl i rfl rfl (by omega) (gQ (fH (f := dL.cells) (k := 10) (fun _ => rfl) (HM.row h.parts) i zx) (Nat.zero_lt_succ _))) fun a HF => ?_
   refine bU HF (by kernel_rfl) (.agg #[.string (⟨m12.name.toArray⟩), aX m12.ty, aX m12.flags, aI m12.addr, aX m12.link, aX m12.info, aI m12.align, aI m12.ent, aI m12.size, .slice m12.A m12.data.length m12.c]) (by kernel_rfl) (iC rfl rfl (fH (f := dL.cells) (k := 10) (fun _ => rfl) (HM.row h.parts) i zx) (Nat.zero_lt_succ _) Tryd.underlying46 rfl (by kernel_rfl)) fun a HF => ?_
   obtain ⟨z38, hz38⟩ : ∃ z, w.heap.size = z := ⟨_, rfl⟩
   refine aP HF HM hz38 2 [[1]] (fZ z1 z38 x i) [Di z38 m12, kJ z1 x] (by kernel_rfl) fun a w HF HM => ?_
   clear hz38
   refine aB ?_
   refine wp_seq ?_
   refine aN ?_
   obtain ⟨z39, hz39⟩ : ∃ z, w.heap.size = z := ⟨_, rfl⟩
   refine aP HF HM hz39 10 [[0], [1], [1], [1], [1]] ((fZ z1 z38 x i) ++ [(83, .agg #[.bool x.wide, .bool x.big, aT x.abi, aT x.aH, .int .i64 x.ty, .int .i64 x.machine, aI x.entry, .slice x.A x.ss.length x.c, .slice x.B x.ps.length x.d]), (92, aC z39 4 4)]) [(z39, .cells #[aI m12.addr, aI m12.align, aI m12.ent, aI m12.size] 22 (0, 0)), Di z38 m12, kJ z1 x] (by kernel_rfl) fun a w HF HM => ?_
   clear hz39
   refine bf HF (by kernel_rfl) 52 #[.agg #[.bool x.wide, .bool x.big, aT x.abi, aT x.aH, .int .i64 x.ty, .int .i64 x.machine, aI x.entry, .slice x.A x.ss.length x.c, .slice x.B x.ps.length x.d], aC z39 4 4] (by kernel_rfl) (fun w => by kernel_rfl) (Calls.mono (fits_any x.wide _ _ _ _ _ _ _ _ [m12.addr, m12.align, m12.ent, m12.size] _ _ _ rfl (by simp) w (HM.rowAt (i := 0) rfl)) ?_)
   rintro _ w3 ⟨rfl, hb⟩
   replace HM := HM.call hb
   clear hb
   refine ⟨_, rfl, ?_⟩; clear HF; intro a HF
   replace HF := HF.sub ((fZ z1 z38 x i) ++ [(93, .bool (lZ x.wide [m12.addr, m12.align, m12.ent, m12.size]))]) (by kernel_rfl)
   rcases gZ (lZ x.wide [m12.addr, m12.align, m12.ent, m12.size]) with hc13 | hc13
   ·replace HF := Fr.sub (Fr.tell HF 93 rfl (congrArg Value.bool hc13)) ((fZ z1 z38 x i) ++ [(93, .bool false)]) (by kernel_rfl)
    refine wp_pure HF HM rfl 29 [] ((fZ z1 z38 x i) ++ [(122, .bool true)]) (by kernel_rfl) fun a HF => ?_
    refine aB ?_
    refine bC HF rfl ?_
    refine aN ?_
    refine wp_pure HF HM rfl 1 [] [(2, .bool false)] (by kernel_rfl) fun a HF => ?_
    refine aB ?_
    refine wp_ret ?_
    repeat first | refine bH ?_ | refine bM ?_
    exact dn HF rfl rfl ⟨false, rfl, HM.below, fun h => by cases h⟩
   replace HF := Fr.sub (Fr.tell HF 93 rfl (congrArg Value.bool hc13)) ((fZ z1 z38 x i) ++ [(93, .bool true)]) (by kernel_rfl)
   refine wp_pure HF HM rfl 8 [[1]] ((fZ z1 z38 x i) ++ [(101, .bool (decide (1024 < ((m12.name.length : Nat) : Int))))]) (by kernel_rfl) fun a HF => ?_
   by_cases hc14 : 1024 < ((m12.name.length : Nat) : Int)
   ·rw [show decide (1024 < ((m12.name.length : Nat) : Int)) = true from dV (hc14)] at HF
    refine wp_pure HF HM rfl 21 [] ((fZ z1 z38 x i) ++ [(122, .bool true)]) (by kernel_rfl) fun a HF => ?_
    refine aB ?_
    refine bC HF rfl ?_
    refine aN ?_
    refine wp_pure HF HM rfl 1 [] [(2, .bool false)] (by kernel_rfl) fun a HF => ?_
    refine aB ?_
    refine wp_ret ?_
    repeat first | refine bH ?_ | refine bM ?_
    exact dn HF rfl rfl ⟨false, rfl, HM.below, fun h => by cases h⟩
   rw [show decide (1024 < ((m12.name.length : Nat) : Int)) = false from dI (hc14)] at HF
   refine wp_pure HF HM rfl 2 [[1]] ((fZ z1 z38 x i) ++ [(101, .bool false), (103, .string (⟨m12.name.toArray⟩))]) (by kernel_rfl) fun a HF => ?_
   have hnm := (h.part m12 (List.mem_of_getElem? zx)).nm
   refine bf HF (by kernel_rfl) 53 #[.string (⟨m12.name.toArray⟩)] (by kernel_rfl) (fun w => by kernel_rfl) (Calls.mono (IC m12.name (by unfold maxLen at hnm; omega) w3) ?_)
   rintro _ w4 ⟨rfl, hq⟩
   replace hq := hq.symm; subst hq
   refine ⟨_, rfl, ?_⟩; clear HF; intro a HF
   replace HF := HF.sub ((fZ z1 z38 x i) ++ [(101, .bool false), (104, .bool (decide (0 ∉ m12.name)))]) (by kernel_rfl)
   by_cases hc15 : 0 ∉ m12.name
   ·rw [show decide (0 ∉ m12.name) = true from dV (hc15)] at HF
    refine wp_pure HF HM rfl 9 [[1]] ((fZ z1 z38 x i) ++ [(113, .bool (decide (65536 < ((m12.data.length : Nat) : Int))))]) (by kernel_rfl) fun a HF => ?_
    by_cases hc16 : 65536 < ((m12.data.length : Nat) : Int)
    ·rw [show decide (65536 < ((m12.data.length : Nat) : Int)) = true from dV (hc16)] at HF
     refine wp_pure HF HM rfl 9 [] ((fZ z1 z38 x i) ++ [(122, .bool true)]) (by kernel_rfl) fun a HF => ?_
     refine aB ?_
     refine bC HF rfl ?_
     refine aN ?_
     refine wp_pure HF HM rfl 1 [] [(2, .bool false)] (by kernel_rfl) fun a HF => ?_
     refine aB ?_
     refine wp_ret ?_
     repeat first | refine bH ?_ | refine bM ?_
     exact dn HF rfl rfl ⟨false, rfl, HM.below, fun h => by cases h⟩
    rw [show decide (65536 < ((m12.data.length : Nat) : Int)) = false from dI (hc16)] at HF
    refine wp_pure HF HM rfl 5 [[1]] ((fZ z1 z38 x i) ++ [(118, .bool (((m12.ty : Nat) : Int) == 0))]) (by kernel_rfl) fun a HF => ?_
    by_cases hc17 : ((m12.ty : Nat) : Int) = 0
    ·rw [show (((m12.ty : Nat) : Int) == 0) = true from uK (hc17)] at HF
     refine wp_pure HF HM rfl 4 [] ((fZ z1 z38 x i) ++ [(122, .bool true)]) (by kernel_rfl) fun a HF => ?_
     refine aB ?_
     refine bC HF rfl ?_
     refine aN ?_
     refine wp_pure HF HM rfl 1 [] [(2, .bool false)] (by kernel_rfl) fun a HF => ?_
     refine aB ?_
     refine wp_ret ?_
     repeat first | refine bH ?_ | refine bM ?_
     exact dn HF rfl rfl ⟨false, rfl, HM.below, fun h => by cases h⟩
    rw [show (((m12.ty : Nat) : Int) == 0) = false from rW (hc17)] at HF
    refine wp_pure HF HM rfl 4 [[1]] ((fZ z1 z38 x i) ++ [(122, .bool (decide (1610612736 ≤ ((m12.ty : Nat) : Int))))]) (by kernel_rfl) fun a HF => ?_
    refine aB ?_
    by_cases hc18 : 1610612736 ≤ ((m12.ty : Nat) : Int)
    ·rw [show decide (1610612736 ≤ ((m12.ty : Nat) : Int)) = true from dV (hc18)] at HF
     refine bC HF rfl ?_
     refine aN ?_
     refine wp_pure HF HM rfl 1 [] [(2, .bool false)] (by kernel_rfl) fun a HF => ?_
     refine aB ?_
     refine wp_ret ?_
     repeat first | refine bH ?_ | refine bM ?_
     exact dn HF rfl rfl ⟨false, rfl, HM.below, fun h => by cases h⟩
    rw [show decide (1610612736 ≤ ((m12.ty : Nat) : Int)) = false from dI (hc18)] at HF
    refine aZ HF rfl ?_
    refine wp_skip ?_
    repeat first | refine aK ?_ | refine aS ?_
    refine aN ?_
    refine wp_pure HF HM rfl 2 [[1]] ((fZ z1 z38 x i) ++ [(124, .string (⟨m12.name.toArray⟩))]) (by kernel_rfl) fun a HF => ?_
    refine bf HF (by kernel_rfl) 54 #[.string (⟨m12.name.toArray⟩)] (by kernel_rfl) (fun w => by kernel_rfl) (Calls.mono (O8 ⟨m12.name.toArray⟩ w3) ?_)
    rintro _ w5 ⟨rfl, hq⟩
    replace hq := hq.symm; subst hq
    refine ⟨_, rfl, ?_⟩; clear HF; intro a HF
    refine wp_pure HF HM rfl 1 [] ((fZ z1 z38 x i) ++ [(126, .bool (vX ⟨m12.name.toArray⟩))]) (by kernel_rfl) fun a HF => ?_
    rcases gZ (vX ⟨m12.name.toArray⟩) with hc19 | hc19
    ·replace HF := Fr.sub (Fr.tell HF 126 rfl (congrArg Value.bool hc19)) ((fZ z1 z38 x i) ++ [(126, .bool false)]) (by kernel_rfl)
     refine wp_pure HF HM rfl 6 [[1]] ((fZ z1 z38 x i) ++ [(132, .bool (((qP ((m12.flags : Nat) : Int) 2048)) != 0))]) (by kernel_rfl) fun a HF => ?_
     by_cases hc20 : ((qP ((m12.flags : Nat) : Int) 2048)) ≠ 0
     ·rw [show (((qP ((m12.flags : Nat) : Int) 2048)) != 0) = true from TB (hc20)] at HF
      refine wp_pure HF HM rfl 15 [] ((ji z1 x) ++ [(79, ay i), (147, .bool true)]) (by kernel_rfl) fun a HF => ?_
      refine aB ?_
      refine bC HF rfl ?_
      refine aN ?_
      refine wp_pure HF HM rfl 1 [] [(2, .bool false)] (by kernel_rfl) fun a HF => ?_
      refine aB ?_
      refine wp_ret ?_
      repeat first | refine bH ?_ | refine bM ?_
      exact dn HF rfl rfl ⟨false, rfl, HM.below, fun h => by cases h⟩
     rw [show (((qP ((m12.flags : Nat) : Int) 2048)) != 0) = false from I4 (hc20)] at HF
     refine wp_pure HF HM rfl 4 [[1]] ((fZ z1 z38 x i) ++ [(132, .bool false), (136, .bool (((m12.ty : Nat) : Int) == 8))]) (by kernel_rfl) fun a HF => ?_
     by_cases hc21 : ((m12.ty : Nat) : Int) = 8
     ·rw [show (((m12.ty : Nat) : Int) == 8) = true from uK (hc21)] at HF
      refine wp_pure HF HM rfl 7 [[1]] ((fZ z1 z38 x i) ++ [(143, .bool (decide (0 < ((m12.data.length : Nat) : Int))))]) (by kernel_rfl) fun a HF => ?_
      by_cases hc22 : 0 < ((m12.data.length : Nat) : Int)
      ·rw [show decide (0 < ((m12.data.length : Nat) : Int)) = true from dV (hc22)] at HF
       refine wp_pure HF HM rfl 4 [] ((ji z1 x) ++ [(79, ay i), (147, .bool true)]) (by kernel_rfl) fun a HF => ?_
       refine aB ?_
       refine bC HF rfl ?_
       refine aN ?_
       refine wp_pure HF HM rfl 1 [] [(2, .bool false)] (by kernel_rfl) fun a HF => ?_
       refine aB ?_
       refine wp_ret ?_
       repeat first | refine bH ?_ | refine bM ?_
       exact dn HF rfl rfl ⟨false, rfl, HM.below, fun h => by cases h⟩
      rw [show decide (0 < ((m12.data.length : Nat) : Int)) = false from dI (hc22)] at HF
      refine wp_pure HF HM rfl 4 [[1]] ((ji z1 x) ++ [(79, ay i), (147, .bool (decide (4611686018427387904 ≤ ((m12.size : Nat) : Int))))]) (by kernel_rfl) fun a HF => ?_
      refine aB ?_
      by_cases hc23 : 4611686018427387904 ≤ ((m12.size : Nat) : Int)
      ·rw [show decide (4611686018427387904 ≤ ((m12.size : Nat) : Int)) = true from dV (hc23)] at HF
       refine bC HF rfl ?_
       refine aN ?_
       refine wp_pure HF HM rfl 1 [] [(2, .bool false)] (by kernel_rfl) fun a HF => ?_
       refine aB ?_
       refine wp_ret ?_
       repeat first | refine bH ?_ | refine bM ?_
       exact dn HF rfl rfl ⟨false, rfl, HM.below, fun h => by cases h⟩
      rw [show decide (4611686018427387904 ≤ ((m12.size : Nat) : Int)) = false from dI (hc23)] at HF
      refine aZ HF rfl ?_
      refine wp_skip ?_
      repeat first | refine aK ?_ | refine aS ?_
      refine wp_region_lit ?_
      refine wp_pure HF HM rfl 1 [] ((ji z1 x) ++ [(148, aF (IntKind.i64.wrap (((i : Nat) : Int) + 1)))]) (by kernel_rfl) fun a HF => ?_
      rw [show IntKind.i64.wrap (((i : Nat) : Int) + 1) = (((i + 1) : Nat) : Int) from (IntWalk.i64_in _ (by omega)).trans (by omega)] at HF
      refine wp_pure HF HM rfl 1 [] ((ji z1 x) ++ [(79, ay (i + 1))]) (by kernel_rfl) fun a HF => ?_
      refine wpList_nil ?_
      repeat first | refine aK ?_ | refine aS ?_
      exact KR _ _ (⟨fun j m hj hm => (Nat.lt_or_ge j i).elim (fun g => hparts j m g hm) (fun g => by obtain rfl : j = i := (by omega); rw [zx] at hm; obtain rfl := Option.some.inj hm; exact ⟨by assumption, by omega, by assumption, by omega, by omega, by omega, by assumption, uK (Decidable.byContradiction (by assumption)), fun h8 => by omega, by omega⟩), (HM.pick [2] [kJ z1 x] rfl (by decide)), HF.sub ((ji z1 x) ++ [(79, ay (i + 1))]) (by kernel_rfl)⟩)
     rw [show (((m12.ty : Nat) : Int) == 8) = false from rW (hc21)] at HF
     refine wp_pure HF HM rfl 11 [[1]] ((ji z1 x) ++ [(79, ay i), (147, .bool (decide (4611686018427387904 ≤ ((m12.size : Nat) : Int))))]) (by kernel_rfl) fun a HF => ?_
     refine aB ?_
     by_cases hc24 : 4611686018427387904 ≤ ((m12.size : Nat) : Int)
     ·rw [show decide (4611686018427387904 ≤ ((m12.size : Nat) : Int)) = true from dV (hc24)] at HF
      refine bC HF rfl ?_
      refine aN ?_
      refine wp_pure HF HM rfl 1 [] [(2, .bool false)] (by kernel_rfl) fun a HF => ?_
      refine aB ?_
      refine wp_ret ?_
      repeat first | refine bH ?_ | refine bM ?_
      exact dn HF rfl rfl ⟨false, rfl, HM.below, fun h => by cases h⟩
     rw [show decide (4611686018427387904 ≤ ((m12.size : Nat) : Int)) = false from dI (hc24)] at HF
     refine aZ HF rfl ?_
     refine wp_skip ?_
     repeat first | refine aK ?_ | refine aS ?_
     refine wp_region_lit ?_
     refine wp_pure HF HM rfl 1 [] ((ji z1 x) ++ [(148, aF (IntKind.i64.wrap (((i : Nat) : Int) + 1)))]) (by kernel_rfl) fun a HF => ?_
     rw [show IntKind.i64.wrap (((i : Nat) : Int) + 1) = (((i + 1) : Nat) : Int) from (IntWalk.i64_in _ (by omega)).trans (by omega)] at HF
     refine wp_pure HF HM rfl 1 [] ((ji z1 x) ++ [(79, ay (i + 1))]) (by kernel_rfl) fun a HF => ?_
     refine wpList_nil ?_
     repeat first | refine aK ?_ | refine aS ?_
     exact KR _ _ (⟨fun j m hj hm => (Nat.lt_or_ge j i).elim (fun g => hparts j m g hm) (fun g => by obtain rfl : j = i := (by omega); rw [zx] at hm; obtain rfl := Option.some.inj hm; exact ⟨by assumption, by omega, by assumption, by omega, by omega, by omega, by assumption, uK (Decidable.byContradiction (by assumption)), fun h8 => by omega, by omega⟩), (HM.pick [2] [kJ z1 x] rfl (by decide)), HF.sub ((ji z1 x) ++ [(79, ay (i + 1))]) (by kernel_rfl)⟩)
    replace HF := Fr.sub (Fr.tell HF 126 rfl (congrArg Value.bool hc19)) ((fZ z1 z38 x i) ++ [(126, .bool true)]) (by kernel_rfl)
    refine wp_pure HF HM rfl 21 [] ((ji z1 x) ++ [(79, ay i), (147, .bool true)]) (by kernel_rfl) fun a HF => ?_
    refine aB ?_
    refine bC HF rfl ?_
    refine aN ?_
    refine wp_pure HF HM rfl 1 [] [(2, .bool false)] (by kernel_rfl) fun a HF => ?_
    refine aB ?_
    refine wp_ret ?_
    repeat first | refine bH ?_ | refine bM ?_
    exact dn HF rfl rfl ⟨false, rfl, HM.below, fun h => by cases h⟩
   rw [show decide (0 ∉ m12.name) = false from dI (hc15)] at HF
   refine wp_pure HF HM rfl 18 [] ((fZ z1 z38 x i) ++ [(122, .bool true)]) (by kernel_rfl) fun a HF => ?_
   refine aB ?_
   refine bC HF rfl ?_
   refine aN ?_
   refine wp_pure HF HM rfl 1 [] [(2, .bool false)] (by kernel_rfl) fun a HF => ?_
   refine aB ?_
   refine wp_ret ?_
   repeat first | refine bH ?_ | refine bM ?_
   exact dn HF rfl rfl ⟨false, rfl, HM.below, fun h => by cases h⟩
  ·intro a w KX hI
   obtain ⟨hparts, HM, HF⟩ := hI
   refine aN ?_
   refine wp_pure HF HM rfl 1 [] ((ji z1 x) ++ [(79, ay x.ps.length), (80, .bool (decide (((x.ps.length : Nat) : Int) < ((x.ps.length : Nat) : Int))))]) (by kernel_rfl) fun a HF => ?_
   refine aB ?_
   refine wp_seq ?_
   rw [show decide (((x.ps.length : Nat) : Int) < ((x.ps.length : Nat) : Int)) = false from dI (by omega)] at HF
   refine aZ HF rfl ?_
   refine wp_exit ?_
   repeat (first | refine fG ?_ | refine fA rfl ?_)
   refine iD ?_
   repeat first | refine aK ?_ | refine aS ?_
   refine aN ?_
   refine wp_pure HF HM rfl 1 [] [(2, .bool true)] (by kernel_rfl) fun a HF => ?_
   refine aB ?_
   refine wp_ret ?_
   repeat first | refine bH ?_ | refine bM ?_
   exact dn HF rfl rfl ⟨true, rfl, HM.below, fun _ => ⟨⟨by omega, by omega, by omega, by omega, by assumption, by omega, by omega, fun m hm => (List.getElem?_of_mem hm).elim fun j hj => PW j m (List.getElem?_eq_some_iff.1 hj).1 hj, fun m hm => (List.getElem?_of_mem hm).elim fun j hj => hparts j m (List.getElem?_eq_some_iff.1 hj).1 hj⟩, by omega⟩⟩

end Go.Proofs.YtdgehpocmfjbiaaDoor
namespace Go.Proofs.YtdgehpocmfjbiaaDoor
open Go.RowKit

def nT (s : List UInt8) : Value := .string ⟨s.toArray⟩
def r_ (n : Nat) : Value := ay n
theorem GN {l : List (List UInt8)} {i : Nat} {m : List UInt8} (h : l[i]? = some m) : dB (l.take (i + 1)) = dB (l.take i) ++ m ++ [0] := by
 obtain ⟨hl, e⟩ := List.getElem?_eq_some_iff.1 h
 rw [N_ l i hl, e]
theorem sO {l : List (List UInt8)} {i : Nat} {m : List UInt8} (h : l[i]? = some m) : (dB (l.take i)).length + m.length + 1 ≤ (dB l).length := by
 obtain ⟨hl, e⟩ := List.getElem?_eq_some_iff.1 h
 obtain ⟨r, e2⟩ := AV l i hl
 rw [e2, e]
 simp only [List.length_append, List.length_cons]
 omega
theorem IB {l : List (List UInt8)} {i : Nat} {m : List UInt8} (h : l[i]? = some m) : (dB (l.take i)).length + m.length + 1 = (dB (l.take (i + 1))).length := by
 rw [GN h]; simp; omega

abbrev Fv := fun og (l : List (List UInt8)) i oc qg qc (A : Option Addr) (n : Nat) (c : Nat) => ([(4, aC og ((dB (l.take i)).length) oc), (5, aC qg i qc), (10, .slice A n c), (11, ay n), (12, ay i)] : Slots)
theorem Fz (l : List (List UInt8)) (A : Option Addr) (n c : Nat) (hn : n = l.length) (w0 : World) (hr : Row w0 A (l.map nT)) (hb : (dB l).length ≤ 4000000000) (hb2 : n ≤ 4000000000) :
  Calls Tryd.prog 65 #[.slice A n c] w0 fun e w' => ∃ g cap cur g2 cap2 jY, e = .returned (.tuple #[aC g (dB l).length cap, aC g2 l.length cap2]) ∧ Below w0.heap.size w0 w' ∧ Own w0.heap.size w' 5 1 g (dB l).length cap cur ((dB l).map Bv) ∧ Own w0.heap.size w' 3 1 g2 l.length cap2 jY ((List.range l.length).map (fun j => r_ (nameAt l j))) ∧ g ≠ g2 := by
 obtain ⟨w, hw⟩ : ∃ w, w0 = w := ⟨_, rfl⟩
 have HM : Mm [] w0 w [] := hw ▸ Mm.start w0
 conv => arg 4; rw [hw]
 clear hw
 refine bI Tryd.func65 rfl Tryd.ntmps65 [(0, .slice A n c)] (by kernel_rfl) (Nat.le_of_ble_eq_true rfl) ?_
 intro a HF
 refine aN ?_
 refine wp_pure HF HM rfl 2 [] [(0, .slice A n c)] (by kernel_rfl) fun a HF => ?_
 refine bT ?_
 obtain ⟨z2, hz2⟩ : ∃ z, w.heap.size = z := ⟨_, rfl⟩
 refine aP HF HM hz2 2 [] [(0, .slice A n c), (4, aC z2 1 1)] [(z2, .cells #[aO 0] 5 (0, 0))] (by kernel_rfl) fun a w HF HM => ?_
 clear hz2
 refine bT ?_
 obtain ⟨z3, hz3⟩ : ∃ z, w.heap.size = z := ⟨_, rfl⟩
 refine aP HF HM hz3 2 [] [(0, .slice A n c), (4, aC z2 1 1), (5, aC z3 0 0)] [(z3, .cells #[] 3 (0, 0)), (z2, .cells #[aO 0] 5 (0, 0))] (by kernel_rfl) fun a w HF HM => ?_
 clear hz3
 refine aB ?_
 refine wp_seq ?_
 refine aN ?_
 refine wp_pure HF HM rfl 3 [] [(4, aC z2 1 1), (5, aC z3 0 0), (10, .slice A n c), (11, ay n), (12, aF 0)] (by kernel_rfl) fun a HF => ?_
 refine aB ?_
 refine wp_block ?_
 refine jX (n) (fun i a w => (∃ og : Nat, ∃ oc : Nat, ∃ ok : Array Value, ∃ qg : Nat, ∃ qc : Nat, ∃ qk : Array Value, (ok.toList.take (((dB (l.take i)).length) * 1) = (dB (l.take i)).map Bv) ∧ (ok.size = oc * 1) ∧ (((dB (l.take i)).length) ≤ oc) ∧ (oc ≤ maxLen) ∧ (qk.toList.take (i * 1) = (List.range i).map (fun j => r_ (nameAt l j))) ∧ (qk.size = qc * 1) ∧ (i ≤ qc) ∧ (qc ≤ maxLen) ∧ Mm [] w0 w [(qg, .cells qk 3 (0, 0)), (og, .cells ok 5 (0, 0))] ∧ Fr 29 a (Fv og l i oc qg qc A n c))) ?_ ?_ ?_
 ·exact ⟨z2, 1, #[aO 0], z3, 0, #[], rfl, rfl, Nat.le_refl _, by unfold maxLen; omega, rfl, rfl, Nat.le_refl _, by unfold maxLen; omega, HM, HF.sub [(4, aC z2 ((dB (l.take 0)).length) 1), (5, aC z3 0 0), (10, .slice A n c), (11, ay n), (12, aF 0)] (by kernel_rfl)⟩
 ·intro i a w KX hi hI KR
  obtain ⟨og, oc, ok, qg, qc, qk, jV, oQ, lu, pV, Il, LY, JF, LZ, HM, HF⟩ := hI
  refine aN ?_
  refine wp_pure HF HM rfl 1 [] ((Fv og l i oc qg qc A n c) ++ [(13, .bool (decide (((i : Nat) : Int) < ((n : Nat) : Int))))]) (by kernel_rfl) fun a HF => ?_
  refine aB ?_
  refine wp_seq ?_
  rw [show decide (((i : Nat) : Int) < ((n : Nat) : Int)) = true from dV (by omega)] at HF
  refine bC HF rfl ?_
  refine wp_skip ?_
  repeat first | refine aK ?_ | refine aS ?_
  refine wp_seq ?_
  refine wp_block ?_
  refine aN ?_
  obtain ⟨m1, hm1⟩ : ∃ m, l[i]? = some m := ⟨_, List.getElem?_eq_getElem (by omega)⟩
  have hnl := sO hm1
  refine bU HF (by kernel_rfl) (.pointer (Option.map (fun q : Addr => q.add (i * 1)) A)) (by kernel_rfl) (dS Tryd.underlying38 (by kernel_rfl) rfl i rfl rfl (by omega) (gQ (qB (HM.row hr) i hm1) (Nat.zero_lt_succ _))) fun a HF => ?_
  refine bU HF (by kernel_rfl) (.string (⟨m1.toArray⟩)) (by kernel_rfl) (mX rfl rfl (qB (HM.row hr) i hm1) (by kernel_rfl)) fun a HF => ?_
  refine wp_pure HF HM rfl 1 [] [(4, aC og ((dB (l.take i)).length) oc), (5, aC qg i qc), (7, .string (⟨m1.toArray⟩)), (10, .slice A n c), (11, ay n), (12, ay i)] (by kernel_rfl) fun a HF => ?_
  refine bT ?_
  obtain ⟨z7, wM⟩ : ∃ z, w.heap.size = z := ⟨_, rfl⟩
  refine aP HF HM wM 4 [] [(4, aC og ((dB (l.take i)).length) oc), (7, .string (⟨m1.toArray⟩)), (10, .slice A n c), (11, ay n), (12, ay i), (16, aC qg i qc), (19, aC z7 1 1)] [(z7, .cells #[ay ((dB (l.take i)).length)] 3 (0, 0)), (qg, .cells qk 3 (0, 0)), (og, .cells ok 5 (0, 0))] (by kernel_rfl) fun a w HF HM => ?_
  clear wM
  refine fU HF HM rfl _ _ 66 66 rfl rfl 3 (z := aF 0) (size := 1) (bytes := 8) Tryd.underlying66 (by kernel_rfl) rfl (by decide) 1 qg i qc qk rfl rfl JF LZ LY ((List.range i).map (fun j => r_ (nameAt l j))) Il (aC z7 1 1) 1 [ay ((dB (l.take i)).length)] rfl (lF Tryd.underlying66 rfl (by decide) (HM.rowAt (i := 0) rfl) (lM rfl)) (by unfold maxLen; omega) (by omega) ?_
  intro a w1 g2 cap2 jY bJ tY hsz2 uU hcm2 HF2; clear HF HM
  replace tY : jY.toList.take ((i + 1) * 1) = (List.range (i + 1)).map (fun j => r_ (nameAt l j)) := tY.trans (by rw [List.range_succ, List.map_append]; rfl)
  have HM : Mm [] w0 w1 [(z7, .cells #[ay ((dB (l.take i)).length)] 3 (0, 0)), (g2, .cells jY 3 (0, 0)), (og, .cells ok 5 (0, 0))] := bJ
  have HF := HF2.sub [(4, aC og ((dB (l.take i)).length) oc), (7, .string (⟨m1.toArray⟩)), (10, .slice A n c), (11, ay n), (12, ay i), (20, aC g2 (i + 1) cap2)] (by kernel_rfl); clear bJ HF2
  refine wp_pure HF HM rfl 1 [] [(4, aC og ((dB (l.take i)).length) oc), (5, aC g2 (i + 1) cap2), (7, .string (⟨m1.toArray⟩)), (10, .slice A n c), (11, ay n), (12, ay i)] (by kernel_rfl) fun a HF => ?_
  refine aB ?_
  refine wp_region_lit ?_
  refine wp_pure HF HM rfl 2 [] [(5, aC g2 (i + 1) cap2), (10, .slice A n c), (11, ay n), (12, ay i), (21, aC og ((dB (l.take i)).length) oc), (22, .string (⟨m1.toArray⟩))] (by kernel_rfl) fun a HF => ?_
  refine fU HF HM rfl _ _ 33 9 rfl rfl 5 (z := aO 0) (size := 1) (bytes := 1) Tryd.underlying33 (by kernel_rfl) rfl (by decide) 2 og ((dB (l.take i)).length) oc ok rfl rfl lu pV oQ ((dB (l.take i)).map Bv) jV (.string (⟨m1.toArray⟩)) m1.length (m1.map Bv) rfl (Po Tryd.underlying9 m1) (by unfold maxLen; omega) (by omega) ?_
  intro a w2 g3 cap3 oG bJ CO hsz3 Jo MN HF2; clear HF HM
  have HM : Mm [] w0 w2 [(z7, .cells #[ay ((dB (l.take i)).length)] 3 (0, 0)), (g2, .cells jY 3 (0, 0)), (g3, .cells oG 5 (0, 0))] := bJ
  have HF := HF2.sub [(5, aC g2 (i + 1) cap2), (10, .slice A n c), (11, ay n), (12, ay i), (23, aC g3 (((dB (l.take i)).length) + m1.length) cap3)] (by kernel_rfl); clear bJ HF2
  obtain ⟨z10, xO⟩ : ∃ z, w2.heap.size = z := ⟨_, rfl⟩
  refine aP HF HM xO 1 [] [(5, aC g2 (i + 1) cap2), (10, .slice A n c), (11, ay n), (12, ay i), (23, aC g3 (((dB (l.take i)).length) + m1.length) cap3), (24, aC z10 1 1)] [(z10, .cells #[aO 0] 5 (0, 0)), (z7, .cells #[ay ((dB (l.take i)).length)] 3 (0, 0)), (g2, .cells jY 3 (0, 0)), (g3, .cells oG 5 (0, 0))] (by kernel_rfl) fun a w HF HM => ?_
  clear xO
  refine fU HF HM rfl _ _ 33 33 rfl rfl 5 (z := aO 0) (size := 1) (bytes := 1) Tryd.underlying33 (by kernel_rfl) rfl (by decide) 3 g3 (((dB (l.take i)).length) + m1.length) cap3 oG rfl rfl Jo MN hsz3 ((dB (l.take i)).map Bv ++ (m1.map Bv)) CO (aC z10 1 1) 1 [aO 0] rfl (lF Tryd.underlying33 rfl (by decide) (HM.rowAt (i := 0) rfl) (lM rfl)) (by unfold maxLen; omega) (by omega) ?_
  intro a w3 g4 cap4 lg bJ pX Bf uD CQ HF2; clear HF HM
  rw [show (((dB (l.take i)).length) + m1.length) + 1 = (((dB (l.take i)).length) + m1.length + 1) from by omega] at HF2 pX uD
  replace pX : lg.toList.take ((((dB (l.take i)).length) + m1.length + 1) * 1) = (dB (l.take (i + 1))).map Bv := pX.trans (by rw [GN hm1, List.map_append, List.map_append]; rfl)
  have HM : Mm [] w0 w3 [(z10, .cells #[aO 0] 5 (0, 0)), (z7, .cells #[ay ((dB (l.take i)).length)] 3 (0, 0)), (g2, .cells jY 3 (0, 0)), (g4, .cells lg 5 (0, 0))] := bJ
  have HF := HF2.sub [(5, aC g2 (i + 1) cap2), (10, .slice A n c), (11, ay n), (12, ay i), (25, aC g4 (((dB (l.take i)).length) + m1.length + 1) cap4)] (by kernel_rfl); clear bJ HF2
  refine wp_pure HF HM rfl 1 [] [(4, aC g4 (((dB (l.take i)).length) + m1.length + 1) cap4), (5, aC g2 (i + 1) cap2), (10, .slice A n c), (11, ay n), (12, ay i)] (by kernel_rfl) fun a HF => ?_
  refine wpList_nil ?_
  repeat first | refine aK ?_ | refine aS ?_
  refine wp_region_lit ?_
  refine wp_pure HF HM rfl 1 [] [(4, aC g4 (((dB (l.take i)).length) + m1.length + 1) cap4), (5, aC g2 (i + 1) cap2), (10, .slice A n c), (11, ay n), (26, aF (IntKind.i64.wrap (((i : Nat) : Int) + 1)))] (by kernel_rfl) fun a HF => ?_
  rw [show IntKind.i64.wrap (((i : Nat) : Int) + 1) = (((i + 1) : Nat) : Int) from (IntWalk.i64_in _ (by omega)).trans (by omega)] at HF
  refine wp_pure HF HM rfl 1 [] [(4, aC g4 (((dB (l.take i)).length) + m1.length + 1) cap4), (5, aC g2 (i + 1) cap2), (10, .slice A n c), (11, ay n), (12, ay (i + 1))] (by kernel_rfl) fun a HF => ?_
  refine wpList_nil ?_
  repeat first | refine aK ?_ | refine aS ?_
  rw [show (((dB (l.take i)).length) + m1.length + 1) = ((dB (l.take (i + 1))).length) from IB hm1] at HF pX uD
  exact KR _ _ (⟨g4, cap4, lg, g2, cap2, jY, pX, Bf, uD, CQ, tY, hsz2, uU, hcm2, (HM.pick [2, 3] [(g2, .cells jY 3 (0, 0)), (g4, .cells lg 5 (0, 0))] rfl (by decide)), HF.sub [(4, aC g4 ((dB (l.take (i + 1))).length) cap4), (5, aC g2 (i + 1) cap2), (10, .slice A n c), (11, ay n), (12, ay (i + 1))] (by kernel_rfl)⟩)
 ·intro a w KX hI
  obtain ⟨og, oc, ok, qg, qc, qk, jV, oQ, lu, pV, Il, LY, JF, LZ, HM, HF⟩ := hI
  refine aN ?_
  refine wp_pure HF HM rfl 1 [] [(4, aC og ((dB (l.take n)).length) oc), (5, aC qg n qc), (10, .slice A n c), (11, ay n), (12, ay n), (13, .bool (decide (((n : Nat) : Int) < ((n : Nat) : Int))))] (by kernel_rfl) fun a HF => ?_
  refine aB ?_
  refine wp_seq ?_
  rw [show decide (((n : Nat) : Int) < ((n : Nat) : Int)) = false from dI (by omega)] at HF
  refine aZ HF rfl ?_
  refine wp_exit ?_
  repeat (first | refine fG ?_ | refine fA rfl ?_)
  refine iD ?_
  repeat first | refine aK ?_ | refine aS ?_
  refine aN ?_
  refine wp_pure HF HM rfl 4 [] [(2, aC og ((dB (l.take n)).length) oc), (3, aC qg n qc)] (by kernel_rfl) fun a HF => ?_
  refine aB ?_
  refine wp_ret ?_
  repeat first | refine bH ?_ | refine bM ?_
  rw [hn, List.take_length] at HF jV lu
  rw [hn] at Il JF
  exact jK HF rfl rfl rfl ⟨og, oc, ok, qg, qc, qk, rfl, HM.below, ⟨HM.ge (i := 1) rfl, HM.get (i := 1) rfl, jV, oQ, lu, pV⟩, ⟨HM.ge (i := 0) rfl, HM.get (i := 0) rfl, Il, LY, JF, LZ⟩, HM.ne (i := 1) (j := 0) rfl rfl (by decide)⟩

theorem JD (wide : Bool) (w0 : World) : Calls Tryd.prog 64 #[.bool wide] w0 fun e w' => e = .returned (.tuple #[ay (iw wide), ay (iU wide), ay (jk wide)]) ∧ Below w0.heap.size w0 w' := by
 cases wide with
 | true =>
  obtain ⟨w, hw⟩ : ∃ w, w0 = w := ⟨_, rfl⟩
  have HM : Mm [] w0 w [] := hw ▸ Mm.start w0
  conv => arg 4; rw [hw]
  clear hw
  refine bI Tryd.func64 rfl Tryd.ntmps64 [(0, .bool true)] (by kernel_rfl) (Nat.le_of_ble_eq_true rfl) ?_
  intro a HF
  refine aN ?_
  obtain ⟨z1, hz1⟩ : ∃ z, w.heap.size = z := ⟨_, rfl⟩
  refine wp_pure HF HM hz1 3 [] [(0, .bool true)] (by kernel_rfl) fun a HF => ?_
  clear hz1
  refine aB ?_
  refine wp_seq ?_
  refine aN ?_
  obtain ⟨z2, hz2⟩ : ∃ z, w.heap.size = z := ⟨_, rfl⟩
  refine wp_pure HF HM hz2 1 [] [(5, .bool true)] (by kernel_rfl) fun a HF => ?_
  clear hz2
  refine aB ?_
  refine bC HF rfl ?_
  refine aN ?_
  obtain ⟨z3, hz3⟩ : ∃ z, w.heap.size = z := ⟨_, rfl⟩
  refine wp_pure HF HM hz3 3 [] [(2, .int .i64 64), (3, .int .i64 56), (4, .int .i64 64)] (by kernel_rfl) fun a HF => ?_
  clear hz3
  refine aB ?_
  refine wp_ret ?_
  repeat first | refine bH ?_ | refine bM ?_
  exact pz HF rfl rfl rfl rfl ⟨rfl, HM.below⟩
 | false =>
  obtain ⟨w, hw⟩ : ∃ w, w0 = w := ⟨_, rfl⟩
  have HM : Mm [] w0 w [] := hw ▸ Mm.start w0
  conv => arg 4; rw [hw]
  clear hw
  refine bI Tryd.func64 rfl Tryd.ntmps64 [(0, .bool false)] (by kernel_rfl) (Nat.le_of_ble_eq_true rfl) ?_
  intro a HF
  refine aN ?_
  refine wp_pure HF HM rfl 3 [] [(0, .bool false)] (by kernel_rfl) fun a HF => ?_
  refine aB ?_
  refine wp_seq ?_
  refine aN ?_
  refine wp_pure HF HM rfl 1 [] [(5, .bool false)] (by kernel_rfl) fun a HF => ?_
  refine aB ?_
  refine aZ HF rfl ?_
  refine wp_skip ?_
  repeat first | refine aK ?_ | refine aS ?_
  refine aN ?_
  refine wp_pure HF HM rfl 3 [] [(2, .int .i64 52), (3, .int .i64 32), (4, .int .i64 40)] (by kernel_rfl) fun a HF => ?_
  refine aB ?_
  refine wp_ret ?_
  repeat first | refine bH ?_ | refine bM ?_
  exact pz HF rfl rfl rfl rfl ⟨rfl, HM.below⟩

def KD : dL := ⟨[], 0, 0, 0, 0, 0, 0, 0, 0, [], none, 0⟩
def nN (x : bZ) : List dL := KD :: x.ps
theorem Dq (x : bZ) : (nN x).length = x.ps.length + 1 := by simp [nN]
def RF (x : bZ) (g cap : Nat) : dL := ⟨zJ, 3, 0, 0, 0, 0, 1, 0, 0, dB x.img.names, some ⟨g, 0, none⟩, cap⟩
def allM (x : bZ) (g cap : Nat) : List dL := nN x ++ [RF x g cap]
theorem AU (x : bZ) : x.img.names = (nN x).map (·.name) ++ [zJ] := by
 simp [eH.names, eH.firsts, bZ.img, nN, sW, KD, dL.part, Function.comp_def]
theorem CV (x : bZ) (g cap : Nat) : (allM x g cap).length = x.ps.length + 2 := by simp [allM, nN]
theorem FX (x : bZ) (g cap : Nat) : (allM x g cap).map dL.part = x.img.all := by
 simp [allM, nN, eH.all, eH.firsts, bZ.img, KD, sW, dL.part, RF, eH.yD]
theorem Fq (x : bZ) : x.img.names.length = x.ps.length + 2 := by rw [AU]; simp [nN]
theorem oW {α : Type} {l : List α} {i : Nat} {m : α} (h : l[i]? = some m) : l.take (i + 1) = l.take i ++ [m] := by
 obtain ⟨hl, e⟩ := List.getElem?_eq_some_iff.1 h
 rw [List.take_succ_eq_append_getElem hl, e]

abbrev Aw := fun z1 (x : bZ) => ((z1, .cells #[.bool x.wide, .bool x.big, aT x.abi, aT x.aH, .int .i64 x.ty, .int .i64 x.machine, aI x.entry, .slice x.A x.ss.length x.c, .slice x.B x.ps.length x.d] 26 (0, 0)) : Nat × Obj)
abbrev I5 := fun g1 (x : bZ) cap1 og i oc => ([(3, aC g1 (x.ps.length + 1) cap1), (4, aC og i oc), (15, aC g1 (x.ps.length + 1) cap1), (16, ay (x.ps.length + 1)), (17, ay i)] : Slots)
abbrev Au := fun g1 (x : bZ) cap1 g3 i cap3 => ([(3, aC g1 (x.ps.length + 1) cap1), (4, aC g3 (i + 1) cap3), (15, aC g1 (x.ps.length + 1) cap1), (16, ay (x.ps.length + 1))] : Slots)
abbrev yg := fun z13 => ((z13, .cells #[.string (⟨#[46, 115, 104, 115, 116, 114, 116, 97, 98]⟩ : ByteArray)] 9 (0, 0)) : Nat × Obj)
abbrev I7 := fun uH gt (x : bZ) cu => ((uH, .cells #[.string (⟨#[46, 115, 104, 115, 116, 114, 116, 97, 98]⟩ : ByteArray), gV 3, gV 0, bF 0, gV 0, gV 0, bF 1, bF 0, bF 0, aC gt ((dB x.img.names).length) cu] 46 (0, 0)) : Nat × Obj)
theorem Un (x : bZ) (w0 : World) (h : x.At w0) (hp : x.ps.length ≤ 1000000) (hnb : (dB x.img.names).length ≤ 4000000000) :
  Calls Tryd.prog 38 #[x.val] w0 fun e w' => ∃ g cap cur gt cu iT, e = .returned (aC g (x.ps.length + 2) cap) ∧ Below w0.heap.size w0 w' ∧ Own w0.heap.size w' 46 10 g (x.ps.length + 2) cap cur ((allM x gt cu).flatMap dL.cells) ∧ Own w0.heap.size w' 5 1 gt (dB x.img.names).length cu iT ((dB x.img.names).map Bv) ∧ g ≠ gt := by
 have hfl := Dq x
 obtain ⟨w, hw⟩ : ∃ w, w0 = w := ⟨_, rfl⟩
 have HM : Mm [] w0 w [] := hw ▸ Mm.start w0
 conv => arg 4; rw [hw]
 clear hw
 refine bI Tryd.func38 rfl Tryd.ntmps38 [(0, .agg #[.bool x.wide, .bool x.big, aT x.abi, aT x.aH, .int .i64 x.ty, .int .i64 x.machine, aI x.entry, .slice x.A x.ss.length x.c, .slice x.B x.ps.length x.d])] (by kernel_rfl) (Nat.le_of_ble_eq_true rfl) ?_
 intro a HF
 refine aN ?_
 obtain ⟨z1, hz1⟩ : ∃ z, w.heap.size = z := ⟨_, rfl⟩
 refine aP HF HM hz1 2 [] [(1, aA z1)] [Aw z1 x] (by kernel_rfl) fun a w HF HM => ?_
 clear hz1
 refine bT ?_
 obtain ⟨z2, hz2⟩ : ∃ z, w.heap.size = z := ⟨_, rfl⟩
 refine aP HF HM hz2 4 [[0]] [(10, aC z2 1 1), (12, .slice x.B x.ps.length x.d)] [(z2, .cells #[.string (⟨#[]⟩ : ByteArray), gV 0, gV 0, bF 0, gV 0, gV 0, bF 0, bF 0, bF 0, aQ] 46 (0, 0)), Aw z1 x] (by kernel_rfl) fun a w HF HM => ?_
 clear hz2
 refine fU HF HM rfl _ _ 24 24 rfl rfl 46 (z := .agg #[.string (⟨#[]⟩ : ByteArray), gV 0, gV 0, bF 0, gV 0, gV 0, bF 0, bF 0, bF 0, aQ]) (size := 10) (bytes := 88) Tryd.underlying24 (by kernel_rfl) rfl (by decide) 0 z2 1 1 #[.string (⟨#[]⟩ : ByteArray), gV 0, gV 0, bF 0, gV 0, gV 0, bF 0, bF 0, bF 0, aQ] rfl rfl (Nat.le_refl _) (by unfold maxLen; omega) rfl ([.string (⟨#[]⟩ : ByteArray), gV 0, gV 0, bF 0, gV 0, gV 0, bF 0, bF 0, bF 0, aQ]) rfl (.slice x.B x.ps.length x.d) x.ps.length (x.ps.flatMap dL.cells) rfl (lF Tryd.underlying24 (yJ (f := dL.cells) (k := 10) (fun _ => rfl) _) (by decide) (HM.row h.parts) (MX (fun _ => rfl) _)) (by unfold maxLen; omega) (by omega) ?_
 intro a w1 g1 cap1 nC bJ CP hsz1 Hw hcm1 HF2; clear HF HM
 rw [show 1 + x.ps.length = (x.ps.length + 1) from by omega] at HF2 CP Hw
 replace CP : nC.toList.take ((x.ps.length + 1) * 10) = (nN x).flatMap dL.cells := CP.trans (by unfold nN; rw [List.flatMap_cons]; rfl)
 have HM : Mm [] w0 w1 [(g1, .cells nC 46 (0, 0)), Aw z1 x] := bJ
 have HF := HF2.sub [(13, aC g1 (x.ps.length + 1) cap1)] (by kernel_rfl); clear bJ HF2
 refine wp_pure HF HM rfl 1 [] [(3, aC g1 (x.ps.length + 1) cap1)] (by kernel_rfl) fun a HF => ?_
 refine bT ?_
 obtain ⟨z4, pY⟩ : ∃ z, w1.heap.size = z := ⟨_, rfl⟩
 refine aP HF HM pY 2 [] [(3, aC g1 (x.ps.length + 1) cap1), (4, aC z4 0 0)] [(z4, .cells #[] 9 (0, 0)), (g1, .cells nC 46 (0, 0)), Aw z1 x] (by kernel_rfl) fun a w HF HM => ?_
 clear pY
 refine aB ?_
 refine wp_seq ?_
 refine aN ?_
 refine wp_pure HF HM rfl 3 [] [(3, aC g1 (x.ps.length + 1) cap1), (4, aC z4 0 0), (15, aC g1 (x.ps.length + 1) cap1), (16, ay (x.ps.length + 1)), (17, aF 0)] (by kernel_rfl) fun a HF => ?_
 refine aB ?_
 refine wp_block ?_
 replace HM := HM.pick [0, 1] [(z4, .cells #[] 9 (0, 0)), (g1, .cells nC 46 (0, 0))] rfl (by decide)
 refine jX ((x.ps.length + 1)) (fun i a w => (∃ og : Nat, ∃ oc : Nat, ∃ ok : Array Value, (ok.toList.take (i * 1) = ((nN x).take i).map (fun p => nT p.name)) ∧ (ok.size = oc * 1) ∧ (i ≤ oc) ∧ (oc ≤ maxLen) ∧ Mm [] w0 w [(og, .cells ok 9 (0, 0)), (g1, .cells nC 46 (0, 0))] ∧ Fr 39 a (I5 g1 x cap1 og i oc))) ?_ ?_ ?_
 ·exact ⟨z4, 0, #[], rfl, rfl, Nat.le_refl _, by unfold maxLen; omega, HM, HF.sub [(3, aC g1 (x.ps.length + 1) cap1), (4, aC z4 0 0), (15, aC g1 (x.ps.length + 1) cap1), (16, ay (x.ps.length + 1)), (17, aF 0)] (by kernel_rfl)⟩
 ·intro i a w KX hi hI KR
  obtain ⟨og, oc, ok, jV, oQ, lu, pV, HM, HF⟩ := hI
  refine aN ?_
  refine wp_pure HF HM rfl 1 [] ((I5 g1 x cap1 og i oc) ++ [(18, .bool (decide (((i : Nat) : Int) < (((x.ps.length + 1) : Nat) : Int))))]) (by kernel_rfl) fun a HF => ?_
  refine aB ?_
  refine wp_seq ?_
  rw [show decide (((i : Nat) : Int) < (((x.ps.length + 1) : Nat) : Int)) = true from dV (by omega)] at HF
  refine bC HF rfl ?_
  refine wp_skip ?_
  repeat first | refine aK ?_ | refine aS ?_
  refine wp_seq ?_
  refine wp_block ?_
  refine aN ?_
  obtain ⟨m2, hm2⟩ : ∃ m, (nN x)[i]? = some m := ⟨_, List.getElem?_eq_getElem (by omega)⟩
  refine bU HF (by kernel_rfl) (.pointer (Option.map (fun q : Addr => q.add (i * 10)) (some ⟨g1, 0, none⟩))) (by kernel_rfl) (dS Tryd.underlying24 (by kernel_rfl) rfl i rfl rfl (by omega) (Option.some_ne_none _)) fun a HF => ?_
  refine bU HF (by kernel_rfl) (.agg #[.string (⟨m2.name.toArray⟩), aX m2.ty, aX m2.flags, aI m2.addr, aX m2.link, aX m2.info, aI m2.align, aI m2.ent, aI m2.size, .slice m2.A m2.data.length m2.c]) (by kernel_rfl) (iC rfl rfl (fH (f := dL.cells) (k := 10) (fun _ => rfl) (HM.nH (i := 1) rfl CP) i hm2) (Nat.zero_lt_succ _) Tryd.underlying46 rfl (by kernel_rfl)) fun a HF => ?_
  obtain ⟨z7, wM⟩ : ∃ z, w.heap.size = z := ⟨_, rfl⟩
  refine aP HF HM wM 2 [[2]] [(3, aC g1 (x.ps.length + 1) cap1), (4, aC og i oc), (6, aA z7), (15, aC g1 (x.ps.length + 1) cap1), (16, ay (x.ps.length + 1)), (17, ay i)] [(z7, .cells #[.string (⟨m2.name.toArray⟩), aX m2.ty, aX m2.flags, aI m2.addr, aX m2.link, aX m2.info, aI m2.align, aI m2.ent, aI m2.size, .slice m2.A m2.data.length m2.c] 46 (0, 0)), (og, .cells ok 9 (0, 0)), (g1, .cells nC 46 (0, 0))] (by kernel_rfl) fun a w HF HM => ?_
  clear wM
  refine aB ?_
  refine wp_region_lit ?_
  obtain ⟨z8, hz8⟩ : ∃ z, w.heap.size = z := ⟨_, rfl⟩
  refine aP HF HM hz8 4 [[2]] [(3, aC g1 (x.ps.length + 1) cap1), (15, aC g1 (x.ps.length + 1) cap1), (16, ay (x.ps.length + 1)), (17, ay i), (21, aC og i oc), (24, aC z8 1 1)] [(z8, .cells #[.string (⟨m2.name.toArray⟩)] 9 (0, 0)), (z7, .cells #[.string (⟨m2.name.toArray⟩), aX m2.ty, aX m2.flags, aI m2.addr, aX m2.link, aX m2.info, aI m2.align, aI m2.ent, aI m2.size, .slice m2.A m2.data.length m2.c] 46 (0, 0)), (og, .cells ok 9 (0, 0)), (g1, .cells nC 46 (0, 0))] (by kernel_rfl) fun a w HF HM => ?_
  clear hz8
  refine fU HF HM rfl _ _ 38 38 rfl rfl 9 (z := .string (⟨#[]⟩ : ByteArray)) (size := 1) (bytes := 16) Tryd.underlying38 (by kernel_rfl) rfl (by decide) 2 og i oc ok rfl rfl lu pV oQ (((nN x).take i).map (fun p => nT p.name)) jV (aC z8 1 1) 1 [.string (⟨m2.name.toArray⟩)] rfl (lF Tryd.underlying38 rfl (by decide) (HM.rowAt (i := 0) rfl) (lM rfl)) (by unfold maxLen; omega) (by omega) ?_
  intro a w2 g3 cap3 oG bJ CO hsz3 Jo MN HF2; clear HF HM
  replace CO : oG.toList.take ((i + 1) * 1) = ((nN x).take (i + 1)).map (fun p => nT p.name) := CO.trans (by rw [oW hm2, List.map_append]; rfl)
  have HM : Mm [] w0 w2 [(z8, .cells #[.string (⟨m2.name.toArray⟩)] 9 (0, 0)), (z7, .cells #[.string (⟨m2.name.toArray⟩), aX m2.ty, aX m2.flags, aI m2.addr, aX m2.link, aX m2.info, aI m2.align, aI m2.ent, aI m2.size, .slice m2.A m2.data.length m2.c] 46 (0, 0)), (g3, .cells oG 9 (0, 0)), (g1, .cells nC 46 (0, 0))] := bJ
  have HF := HF2.sub [(3, aC g1 (x.ps.length + 1) cap1), (15, aC g1 (x.ps.length + 1) cap1), (16, ay (x.ps.length + 1)), (17, ay i), (25, aC g3 (i + 1) cap3)] (by kernel_rfl); clear bJ HF2
  refine wp_pure HF HM rfl 1 [] ((Au g1 x cap1 g3 i cap3) ++ [(17, ay i)]) (by kernel_rfl) fun a HF => ?_
  refine wpList_nil ?_
  repeat first | refine aK ?_ | refine aS ?_
  refine wp_region_lit ?_
  refine wp_pure HF HM rfl 1 [] ((Au g1 x cap1 g3 i cap3) ++ [(26, aF (IntKind.i64.wrap (((i : Nat) : Int) + 1)))]) (by kernel_rfl) fun a HF => ?_
  rw [show IntKind.i64.wrap (((i : Nat) : Int) + 1) = (((i + 1) : Nat) : Int) from (IntWalk.i64_in _ (by omega)).trans (by omega)] at HF
  refine wp_pure HF HM rfl 1 [] ((Au g1 x cap1 g3 i cap3) ++ [(17, ay (i + 1))]) (by kernel_rfl) fun a HF => ?_
  refine wpList_nil ?_
  repeat first | refine aK ?_ | refine aS ?_
  exact KR _ _ (⟨g3, cap3, oG, CO, hsz3, Jo, MN, (HM.pick [2, 3] [(g3, .cells oG 9 (0, 0)), (g1, .cells nC 46 (0, 0))] rfl (by decide)), HF.sub ((Au g1 x cap1 g3 i cap3) ++ [(17, ay (i + 1))]) (by kernel_rfl)⟩)
 ·intro a w KX hI
  obtain ⟨og, oc, ok, jV, oQ, lu, pV, HM, HF⟩ := hI
  refine aN ?_
  refine wp_pure HF HM rfl 1 [] [(3, aC g1 (x.ps.length + 1) cap1), (4, aC og (x.ps.length + 1) oc), (15, aC g1 (x.ps.length + 1) cap1), (16, ay (x.ps.length + 1)), (17, ay (x.ps.length + 1)), (18, .bool (decide ((((x.ps.length + 1) : Nat) : Int) < (((x.ps.length + 1) : Nat) : Int))))] (by kernel_rfl) fun a HF => ?_
  refine aB ?_
  refine wp_seq ?_
  rw [show decide ((((x.ps.length + 1) : Nat) : Int) < (((x.ps.length + 1) : Nat) : Int)) = false from dI (by omega)] at HF
  refine aZ HF rfl ?_
  refine wp_exit ?_
  repeat (first | refine fG ?_ | refine fA rfl ?_)
  refine iD ?_
  repeat first | refine aK ?_ | refine aS ?_
  refine aN ?_
  obtain ⟨z13, FD⟩ : ∃ z, w.heap.size = z := ⟨_, rfl⟩
  refine aP HF HM FD 2 [] [(3, aC g1 (x.ps.length + 1) cap1), (28, aC og (x.ps.length + 1) oc), (29, aC z13 1 1)] [yg z13, (og, .cells ok 9 (0, 0)), (g1, .cells nC 46 (0, 0))] (by kernel_rfl) fun a w HF HM => ?_
  clear FD
  refine fU HF HM rfl _ _ 38 38 rfl rfl 9 (z := .string (⟨#[]⟩ : ByteArray)) (size := 1) (bytes := 16) Tryd.underlying38 (by kernel_rfl) rfl (by decide) 1 og (x.ps.length + 1) oc ok rfl rfl lu pV oQ (((nN x).take (x.ps.length + 1)).map (fun p => nT p.name)) jV (aC z13 1 1) 1 [.string (⟨#[46, 115, 104, 115, 116, 114, 116, 97, 98]⟩ : ByteArray)] rfl (lF Tryd.underlying38 rfl (by decide) (HM.rowAt (i := 0) rfl) (lM rfl)) (by unfold maxLen; omega) (by omega) ?_
  intro a w3 g4 cap4 lg bJ pX Bf uD CQ HF2; clear HF HM
  rw [show (x.ps.length + 1) + 1 = (x.ps.length + 2) from by omega] at HF2 pX uD
  replace pX : lg.toList.take ((x.ps.length + 2) * 1) = x.img.names.map nT := pX.trans (by rw [AU, ← Dq, List.take_length, List.map_append, List.map_map]; rfl)
  have HM : Mm [] w0 w3 [yg z13, (g4, .cells lg 9 (0, 0)), (g1, .cells nC 46 (0, 0))] := bJ
  have HF := HF2.sub [(3, aC g1 (x.ps.length + 1) cap1), (30, aC g4 (x.ps.length + 2) cap4)] (by kernel_rfl); clear bJ HF2
  refine bf HF (by kernel_rfl) 65 #[aC g4 (x.ps.length + 2) cap4] (by kernel_rfl) (fun w => by kernel_rfl) (Calls.mono (Fz x.img.names _ _ _ (by rw [Fq]) w3 (HM.nH (i := 1) rfl pX) hnb (by omega)) ?_)
  rintro _ w4 ⟨gt, cu, iT, g3, cap3, oG, rfl, hb, ho, ho3, hne⟩
  replace HM : Mm [] w0 w4 [(gt, .cells iT 5 (0, 0)), yg z13, (g4, .cells lg 9 (0, 0)), (g1, .cells nC 46 (0, 0))] := HM.push hb ho.new ho.obj
  refine ⟨_, rfl, ?_⟩; clear HF; intro a HF
  refine wp_pure HF HM rfl 5 [] [(3, aC g1 (x.ps.length + 1) cap1), (7, aC gt ((dB x.img.names).length) cu)] (by kernel_rfl) fun a HF => ?_
  refine bT ?_
  obtain ⟨uH, Bd⟩ : ∃ z, w4.heap.size = z := ⟨_, rfl⟩
  refine aP HF HM Bd 4 [] [(34, aC g1 (x.ps.length + 1) cap1), (37, aC uH 1 1)] [I7 uH gt x cu, (gt, .cells iT 5 (0, 0)), yg z13, (g4, .cells lg 9 (0, 0)), (g1, .cells nC 46 (0, 0))] (by kernel_rfl) fun a w HF HM => ?_
  clear Bd
  refine fU HF HM rfl _ _ 24 24 rfl rfl 46 (z := .agg #[.string (⟨#[]⟩ : ByteArray), gV 0, gV 0, bF 0, gV 0, gV 0, bF 0, bF 0, bF 0, aQ]) (size := 10) (bytes := 88) Tryd.underlying24 (by kernel_rfl) rfl (by decide) 4 g1 (x.ps.length + 1) cap1 nC rfl rfl Hw hcm1 hsz1 ((nN x).flatMap dL.cells) CP (aC uH 1 1) 1 [.string (⟨#[46, 115, 104, 115, 116, 114, 116, 97, 98]⟩ : ByteArray), gV 3, gV 0, bF 0, gV 0, gV 0, bF 1, bF 0, bF 0, aC gt ((dB x.img.names).length) cu] rfl (lF Tryd.underlying24 rfl (by decide) (HM.rowAt (i := 0) rfl) (lM rfl)) (by unfold maxLen; omega) (by omega) ?_
  intro a w5 g5 cap5 nJ bJ xQ hsz5 Ey Jp HF2; clear HF HM
  rw [show (x.ps.length + 1) + 1 = (x.ps.length + 2) from by omega] at HF2 xQ Ey
  replace xQ : nJ.toList.take ((x.ps.length + 2) * 10) = (allM x gt cu).flatMap dL.cells := xQ.trans (by unfold allM; rw [List.flatMap_append]; rfl)
  have HM : Mm [] w0 w5 [I7 uH gt x cu, (gt, .cells iT 5 (0, 0)), yg z13, (g4, .cells lg 9 (0, 0)), (g5, .cells nJ 46 (0, 0))] := bJ
  have HF := HF2.sub [(38, aC g5 (x.ps.length + 2) cap5)] (by kernel_rfl); clear bJ HF2
  refine wp_pure HF HM rfl 1 [] [(2, aC g5 (x.ps.length + 2) cap5)] (by kernel_rfl) fun a HF => ?_
  refine aB ?_
  refine wp_ret ?_
  repeat first | refine bH ?_ | refine bM ?_
  exact dn HF rfl rfl ⟨g5, cap5, nJ, gt, cu, iT, rfl, HM.below, ⟨HM.ge (i := 4) rfl, HM.get (i := 4) rfl, xQ, hsz5, Ey, Jp⟩, ⟨HM.ge (i := 1) rfl, HM.get (i := 1) rfl, ho.tk, ho.sz, ho.nc, ho.cm⟩, HM.ne (i := 4) (j := 1) rfl rfl (by decide)⟩

end Go.Proofs.YtdgehpocmfjbiaaDoor
namespace Go.Proofs.YtdgehpocmfjbiaaDoor
open Go.RowKit

def rV (wide big : Bool) (abi aH : Nat) : List UInt8 := [127, 69, 76, 70, if wide then 2 else 1, if big then 2 else 1, 1, UInt8.ofNat abi, UInt8.ofNat aH] ++ List.replicate 7 0
theorem Nv {n : Nat} (h : n < 256) : Bv (UInt8.ofNat n) = aT n := by
 rw [yL]
 have : ((n : Nat) : Int) % 256 = (n : Int) := by omega
 rw [this]
theorem Og (wide big : Bool) (abi aH : Nat) (h1 : abi < 256) (h2 : aH < 256) :
  (#[.int .u8 127, .int .u8 69, .int .u8 76, .int .u8 70, .int .u8 (if wide then 2 else 1), .int .u8 (if big then 2 else 1), .int .u8 1, aT abi, aT aH] : Array Value).toList ++ List.replicate 7 (.int .u8 0) = (rV wide big abi aH).map Bv := by
 unfold rV
 rw [List.map_append, List.map_replicate]
 simp only [List.map_cons, List.map_nil]
 rw [Nv h1, Nv h2]
 cases wide <;> cases big <;> rfl

abbrev mV := fun z1 (x : bZ) => ((z1, .cells #[.bool x.wide, .bool x.big, aT x.abi, aT x.aH, .int .i64 x.ty, .int .i64 x.machine, aI x.entry, .slice x.A x.ss.length x.c, .slice x.B x.ps.length x.d] 26 (0, 0)) : Nat × Obj)
abbrev wB := fun (dJ : Nat) (at_ : Nat) (m : Nat) (lQ : Nat) z1 => ([(1, ay dJ), (2, ay at_), (3, ay m), (4, ay lQ), (5, aA z1)] : Slots)
abbrev eF := fun (dJ : Nat) (at_ : Nat) (m : Nat) (lQ : Nat) z1 (x : bZ) => ((wB dJ at_ m lQ z1) ++ [(11, ay (iw x.wide)), (12, ay (iU x.wide)), (13, ay (jk x.wide))] : Slots)
abbrev wC := fun z11 (x : bZ) => ((z11, .cells #[aO 127, aO 69, aO 76, aO 70, aO (if x.wide then 2 else 1), aO (if x.big then 2 else 1), aO 1, aT x.abi, aT x.aH] 5 (0, 0)) : Nat × Obj)
abbrev tZ := fun (dJ : Nat) (m : Nat) (x : bZ) z5 => ([(1, ay dJ), (3, ay m), (11, ay (iw x.wide)), (12, ay (iU x.wide)), (13, ay (jk x.wide)), (14, aA z5)] : Slots)
theorem Kv (x : bZ) (dJ at_ m lQ : Nat) (hsg : dJ ≤ 1000000) (hat : at_ ≤ 4000000000) (hm1 : 1 ≤ m) (hm : m ≤ 1000000) (hfr : lQ ≤ 4000000000) (ht0 : 0 ≤ x.ty) (ht1 : x.ty ≤ 65535) (hm0 : 0 ≤ x.machine) (hm9 : x.machine ≤ 65535) (w0 : World) (h : x.At w0) :
  Calls Tryd.prog 66 #[x.val, ay dJ, ay at_, ay m, ay lQ] w0 fun e w' => ∃ g cap cur, e = .returned (aC g (headB x.wide x.big x.abi x.aH x.ty.toNat x.machine.toNat x.entry dJ at_ m lQ).length cap) ∧ Below w0.heap.size w0 w' ∧ Own w0.heap.size w' 5 1 g (headB x.wide x.big x.abi x.aH x.ty.toNat x.machine.toNat x.entry dJ at_ m lQ).length cap cur ((headB x.wide x.big x.abi x.aH x.ty.toNat x.machine.toNat x.entry dJ at_ m lQ).map Bv) := by
 have hty : x.ty = ((x.ty.toNat : Nat) : Int) := by omega
 have hmc : x.machine = ((x.machine.toNat : Nat) : Int) := by omega
 have hsz : iw x.wide ≤ 64 ∧ iU x.wide ≤ 64 ∧ jk x.wide ≤ 64 := by unfold iw iU jk; cases x.wide <;> decide
 have hent := h.entry
 obtain ⟨w, hw⟩ : ∃ w, w0 = w := ⟨_, rfl⟩
 have HM : Mm [] w0 w [] := hw ▸ Mm.start w0
 conv => arg 4; rw [hw]
 clear hw
 refine bI Tryd.func66 rfl Tryd.ntmps66 [(0, .agg #[.bool x.wide, .bool x.big, aT x.abi, aT x.aH, .int .i64 x.ty, .int .i64 x.machine, aI x.entry, .slice x.A x.ss.length x.c, .slice x.B x.ps.length x.d]), (1, ay dJ), (2, ay at_), (3, ay m), (4, ay lQ)] (by kernel_rfl) (Nat.le_of_ble_eq_true rfl) ?_
 intro a HF
 refine aN ?_
 obtain ⟨z1, hz1⟩ : ∃ z, w.heap.size = z := ⟨_, rfl⟩
 refine aP HF HM hz1 2 [] (wB dJ at_ m lQ z1) [mV z1 x] (by kernel_rfl) fun a w HF HM => ?_
 clear hz1
 refine bT ?_
 obtain ⟨z2, hz2⟩ : ∃ z, w.heap.size = z := ⟨_, rfl⟩
 refine wp_pure HF HM hz2 2 [[0]] ((wB dJ at_ m lQ z1) ++ [(19, .bool x.wide)]) (by kernel_rfl) fun a HF => ?_
 clear hz2
 refine bf HF (by kernel_rfl) 64 #[.bool x.wide] (by kernel_rfl) (fun w => by kernel_rfl) (Calls.mono (JD x.wide w) ?_)
 rintro _ w1 ⟨rfl, hb⟩
 replace HM := HM.call hb
 clear hb
 refine ⟨_, rfl, ?_⟩; clear HF; intro a HF
 refine wp_pure HF HM rfl 7 [] (eF dJ at_ m lQ z1 x) (by kernel_rfl) fun a HF => ?_
 refine bT ?_
 obtain ⟨z4, pY⟩ : ∃ z, w1.heap.size = z := ⟨_, rfl⟩
 refine wp_pure HF HM pY 5 [[0], [0]] ((eF dJ at_ m lQ z1 x) ++ [(28, .agg #[.bool x.wide, .bool x.big, aQ])]) (by kernel_rfl) fun a HF => ?_
 clear pY
 obtain ⟨z5, uj⟩ : ∃ z, w1.heap.size = z := ⟨_, rfl⟩
 have hzl : z1 < z5 := uj ▸ HM.lt (i := 0) rfl
 have hge : w0.heap.size ≤ z5 := uj ▸ HM.size
 refine aP HF HM uj 2 [] ((eF dJ at_ m lQ z1 x) ++ [(14, aA z5)]) [(z5, .cells #[.bool x.wide, .bool x.big, aQ] 169 (0, 0)), mV z1 x] (by kernel_rfl) fun a w HF HM => ?_
 clear uj
 refine bT ?_
 refine wp_pure HF HM rfl 2 [] ((eF dJ at_ m lQ z1 x) ++ [(14, aA z5), (15, aO 1), (16, aO 1)]) (by kernel_rfl) fun a HF => ?_
 refine aB ?_
 refine wp_seq ?_
 refine aN ?_
 refine wp_pure HF HM rfl 2 [[0]] ((eF dJ at_ m lQ z1 x) ++ [(14, aA z5), (15, aO 1), (16, aO 1), (31, .bool x.wide)]) (by kernel_rfl) fun a HF => ?_
 refine aB ?_
 refine Dx (fun a w => (Mm [] w0 w [(z5, .cells #[.bool x.wide, .bool x.big, aQ] 169 (0, 0)), mV z1 x] ∧ Fr 100 a ((eF dJ at_ m lQ z1 x) ++ [(14, aA z5), (15, aO (if x.wide then 2 else 1)), (16, aO 1)]))) ?_ ?_
 ·rcases gZ x.wide with hc1 | hc1
  ·replace HF := Fr.sub (Fr.tell HF 31 rfl (congrArg Value.bool hc1)) ((eF dJ at_ m lQ z1 x) ++ [(14, aA z5), (15, aO 1), (16, aO 1), (31, .bool false)]) (by kernel_rfl)
   refine aZ HF rfl ?_
   refine wp_skip ?_
   repeat first | refine aK ?_ | refine aS ?_
   exact ⟨HM, (by rw [show (if x.wide then 2 else 1 : Int) = 1 from by rw [hc1]; rfl]; exact HF.sub ((eF dJ at_ m lQ z1 x) ++ [(14, aA z5), (15, aO 1), (16, aO 1)]) (by kernel_rfl))⟩
  replace HF := Fr.sub (Fr.tell HF 31 rfl (congrArg Value.bool hc1)) ((eF dJ at_ m lQ z1 x) ++ [(14, aA z5), (15, aO 1), (16, aO 1), (31, .bool true)]) (by kernel_rfl)
  refine bC HF rfl ?_
  refine wp_region_lit ?_
  refine wp_pure HF HM rfl 1 [] ((eF dJ at_ m lQ z1 x) ++ [(14, aA z5), (15, aO 2), (16, aO 1)]) (by kernel_rfl) fun a HF => ?_
  refine wpList_nil ?_
  repeat first | refine aK ?_ | refine aS ?_
  exact ⟨HM, (by rw [show (if x.wide then 2 else 1 : Int) = 2 from by rw [hc1]; rfl]; exact HF.sub ((eF dJ at_ m lQ z1 x) ++ [(14, aA z5), (15, aO 2), (16, aO 1)]) (by kernel_rfl))⟩
 rintro a w ⟨HM, HF⟩
 repeat first | refine aK ?_ | refine aS ?_
 refine wp_seq ?_
 refine aN ?_
 refine wp_pure HF HM rfl 2 [[0]] ((eF dJ at_ m lQ z1 x) ++ [(14, aA z5), (15, aO (if x.wide then 2 else 1)), (16, aO 1), (33, .bool x.big)]) (by kernel_rfl) fun a HF => ?_
 refine aB ?_
 refine Dx (fun a w => (Mm [] w0 w [(z5, .cells #[.bool x.wide, .bool x.big, aQ] 169 (0, 0)), mV z1 x] ∧ Fr 100 a ((eF dJ at_ m lQ z1 x) ++ [(14, aA z5), (15, aO (if x.wide then 2 else 1)), (16, aO (if x.big then 2 else 1))]))) ?_ ?_
 ·rcases gZ x.big with hc2 | hc2
  ·replace HF := Fr.sub (Fr.tell HF 33 rfl (congrArg Value.bool hc2)) ((eF dJ at_ m lQ z1 x) ++ [(14, aA z5), (15, aO (if x.wide then 2 else 1)), (16, aO 1), (33, .bool false)]) (by kernel_rfl)
   refine aZ HF rfl ?_
   refine wp_skip ?_
   repeat first | refine aK ?_ | refine aS ?_
   exact ⟨HM, (by rw [show (if x.big then 2 else 1 : Int) = 1 from by rw [hc2]; rfl]; exact HF.sub ((eF dJ at_ m lQ z1 x) ++ [(14, aA z5), (15, aO (if x.wide then 2 else 1)), (16, aO 1)]) (by kernel_rfl))⟩
  replace HF := Fr.sub (Fr.tell HF 33 rfl (congrArg Value.bool hc2)) ((eF dJ at_ m lQ z1 x) ++ [(14, aA z5), (15, aO (if x.wide then 2 else 1)), (16, aO 1), (33, .bool true)]) (by kernel_rfl)
  refine bC HF rfl ?_
  refine wp_region_lit ?_
  refine wp_pure HF HM rfl 1 [] ((eF dJ at_ m lQ z1 x) ++ [(14, aA z5), (15, aO (if x.wide then 2 else 1)), (16, aO 2)]) (by kernel_rfl) fun a HF => ?_
  refine wpList_nil ?_
  repeat first | refine aK ?_ | refine aS ?_
  exact ⟨HM, (by rw [show (if x.big then 2 else 1 : Int) = 2 from by rw [hc2]; rfl]; exact HF.sub ((eF dJ at_ m lQ z1 x) ++ [(14, aA z5), (15, aO (if x.wide then 2 else 1)), (16, aO 2)]) (by kernel_rfl))⟩
 rintro a w ⟨HM, HF⟩
 repeat first | refine aK ?_ | refine aS ?_
 refine aN ?_
 obtain ⟨z11, FH⟩ : ∃ z, w.heap.size = z := ⟨_, rfl⟩
 refine aP HF HM FH 8 [[0], [0]] ((eF dJ at_ m lQ z1 x) ++ [(14, aA z5), (34, aA z5), (41, aC z11 9 9)]) [wC z11 x, (z5, .cells #[.bool x.wide, .bool x.big, aQ] 169 (0, 0)), mV z1 x] (by kernel_rfl) fun a w HF HM => ?_
 clear FH
 have hgl := HM.lt (i := 1) rfl
 refine H7 HF HM rfl _ _ 33 3 rfl rfl 5 Tryd.underlying33 Tryd.underlying3 (by kernel_rfl) 0 z11 9 #[aO 127, aO 69, aO 76, aO 70, aO (if x.wide then 2 else 1), aO (if x.big then 2 else 1), aO 1, aT x.abi, aT x.aH] rfl rfl rfl 7 (by omega) (by omega) (by omega) rfl ?_
 intro a w2 gz SY SV bJ hgz tkz szz ncz cmz HF2; clear HF HM
 have HM : Mm [] w0 w2 [(gz, .cells SV 5 (0, 0)), wC z11 x, (z5, .cells #[.bool x.wide, .bool x.big, aQ] 169 (0, 0)), mV z1 x] := bJ
 have HF := HF2.sub ((eF dJ at_ m lQ z1 x) ++ [(14, aA z5), (34, aA z5), (42, aC gz 16 SY)]) (by kernel_rfl); clear bJ HF2
 refine aP HF HM rfl 3 [[1]] ((eF dJ at_ m lQ z1 x) ++ [(14, aA z5)]) [(gz, .cells SV 5 (0, 0)), wC z11 x, (z5, .cells #[.bool x.wide, .bool x.big, aC gz 16 SY] 169 (0, 0)), mV z1 x] (by kernel_rfl) fun a w HF HM => ?_
 have HR : oO w z5 x.wide x.big (rV x.wide x.big x.abi x.aH) := ⟨_, HM.get (i := 2) rfl, by rw [List.length_map]; rfl, .inr ⟨gz, SY, SV, rfl, by omega, HM.get (i := 0) rfl, ncz, cmz, szz, tkz.trans (Og x.wide x.big x.abi x.aH h.abi h.aH)⟩⟩
 replace HM := HM.pick [3] [mV z1 x] rfl (by decide)
 refine bT ?_
 refine wp_pure HF HM rfl 4 [[0]] [(1, ay dJ), (2, ay at_), (3, ay m), (4, ay lQ), (5, aA z1), (11, ay (iw x.wide)), (12, ay (iU x.wide)), (13, ay (jk x.wide)), (14, aA z5), (45, aA z5), (48, bF (IntKind.u64.wrap x.ty))] (by kernel_rfl) fun a HF => ?_
 rw [show IntKind.u64.wrap x.ty = x.ty from IntWalk.u64_in _ (by omega)] at HF
 rw [hty] at HF
 refine bf HF (by kernel_rfl) 73 #[aA z5, aI x.ty.toNat, aF 2] (by kernel_rfl) (fun w => by kernel_rfl) (Calls.mono (put_any z5 x.ty.toNat 2 x.big x.wide _ (by omega) (by have hz := dA x.wide 0 (by omega); have hz2 := dA x.wide 2 (by omega); have pY := dA x.wide 4 (by omega); simp only [List.length_append, bD, rV, List.length_cons, List.length_nil, List.length_replicate]; omega) w HR) ?_)
 rintro _ w3 ⟨rfl, HR2, hb⟩
 replace HM := HM.sG hb (by intro p hp; rw [List.mem_singleton] at hp; subst hp; exact hzl) hge
 clear HR; have HR := HR2; clear HR2 hb
 refine ⟨_, rfl, ?_⟩; clear HF; intro a HF
 replace HF := HF.sub ((eF dJ at_ m lQ z1 x) ++ [(14, aA z5)]) (by kernel_rfl)
 refine bT ?_
 refine wp_pure HF HM rfl 4 [[0]] [(1, ay dJ), (2, ay at_), (3, ay m), (4, ay lQ), (5, aA z1), (11, ay (iw x.wide)), (12, ay (iU x.wide)), (13, ay (jk x.wide)), (14, aA z5), (50, aA z5), (53, bF (IntKind.u64.wrap x.machine))] (by kernel_rfl) fun a HF => ?_
 rw [show IntKind.u64.wrap x.machine = x.machine from IntWalk.u64_in _ (by omega)] at HF
 rw [hmc] at HF
 refine bf HF (by kernel_rfl) 73 #[aA z5, aI x.machine.toNat, aF 2] (by kernel_rfl) (fun w => by kernel_rfl) (Calls.mono (put_any z5 x.machine.toNat 2 x.big x.wide _ (by omega) (by have hz := dA x.wide 0 (by omega); have hz2 := dA x.wide 2 (by omega); have pY := dA x.wide 4 (by omega); simp only [List.length_append, bD, rV, List.length_cons, List.length_nil, List.length_replicate]; omega) w3 HR) ?_)
 rintro _ w4 ⟨rfl, HR2, hb⟩
 replace HM := HM.sG hb (by intro p hp; rw [List.mem_singleton] at hp; subst hp; exact hzl) hge
 clear HR; have HR := HR2; clear HR2 hb
 refine ⟨_, rfl, ?_⟩; clear HF; intro a HF
 replace HF := HF.sub ((eF dJ at_ m lQ z1 x) ++ [(14, aA z5)]) (by kernel_rfl)
 refine bT ?_
 refine wp_pure HF HM rfl 1 [] ((eF dJ at_ m lQ z1 x) ++ [(14, aA z5), (55, aA z5)]) (by kernel_rfl) fun a HF => ?_
 refine bf HF (by kernel_rfl) 73 #[aA z5, bF 1, aF 4] (by kernel_rfl) (fun w => by kernel_rfl) (Calls.mono (put_any z5 1 4 x.big x.wide _ (by omega) (by have hz := dA x.wide 0 (by omega); have hz2 := dA x.wide 2 (by omega); have pY := dA x.wide 4 (by omega); simp only [List.length_append, bD, rV, List.length_cons, List.length_nil, List.length_replicate]; omega) w4 HR) ?_)
 rintro _ w5 ⟨rfl, HR2, hb⟩
 replace HM := HM.sG hb (by intro p hp; rw [List.mem_singleton] at hp; subst hp; exact hzl) hge
 clear HR; have HR := HR2; clear HR2 hb
 refine ⟨_, rfl, ?_⟩; clear HF; intro a HF
 replace HF := HF.sub ((eF dJ at_ m lQ z1 x) ++ [(14, aA z5)]) (by kernel_rfl)
 refine bT ?_
 refine wp_pure HF HM rfl 3 [[0]] [(1, ay dJ), (2, ay at_), (3, ay m), (4, ay lQ), (11, ay (iw x.wide)), (12, ay (iU x.wide)), (13, ay (jk x.wide)), (14, aA z5), (57, aA z5), (59, aI x.entry)] (by kernel_rfl) fun a HF => ?_
 refine bf HF (by kernel_rfl) 73 #[aA z5, aI x.entry, aF 0] (by kernel_rfl) (fun w => by kernel_rfl) (Calls.mono (put_any z5 x.entry 0 x.big x.wide _ (by omega) (by have hz := dA x.wide 0 (by omega); have hz2 := dA x.wide 2 (by omega); have pY := dA x.wide 4 (by omega); simp only [List.length_append, bD, rV, List.length_cons, List.length_nil, List.length_replicate]; omega) w5 HR) ?_)
 rintro _ w6 ⟨rfl, HR2, hb⟩
 replace HM := HM.sG hb (by intro p hp; rw [List.mem_singleton] at hp; subst hp; exact hzl) hge
 clear HR; have HR := HR2; clear HR2 hb
 refine ⟨_, rfl, ?_⟩; clear HF; intro a HF
 replace HF := HF.sub [(1, ay dJ), (2, ay at_), (3, ay m), (4, ay lQ), (11, ay (iw x.wide)), (12, ay (iU x.wide)), (13, ay (jk x.wide)), (14, aA z5)] (by kernel_rfl)
 refine bT ?_
 refine wp_pure HF HM rfl 3 [] [(1, ay dJ), (3, ay m), (4, ay lQ), (11, ay (iw x.wide)), (12, ay (iU x.wide)), (13, ay (jk x.wide)), (14, aA z5), (61, aA z5), (63, bF (IntKind.u64.wrap ((at_ : Nat) : Int)))] (by kernel_rfl) fun a HF => ?_
 rw [show IntKind.u64.wrap ((at_ : Nat) : Int) = ((at_ : Nat) : Int) from IntWalk.u64_in _ (by omega)] at HF
 refine bf HF (by kernel_rfl) 73 #[aA z5, aI at_, aF 0] (by kernel_rfl) (fun w => by kernel_rfl) (Calls.mono (put_any z5 at_ 0 x.big x.wide _ (by omega) (by have hz := dA x.wide 0 (by omega); have hz2 := dA x.wide 2 (by omega); have pY := dA x.wide 4 (by omega); simp only [List.length_append, bD, rV, List.length_cons, List.length_nil, List.length_replicate]; omega) w6 HR) ?_)
 rintro _ w7 ⟨rfl, HR2, hb⟩
 replace HM := HM.sG hb (by intro p hp; rw [List.mem_singleton] at hp; subst hp; exact hzl) hge
 clear HR; have HR := HR2; clear HR2 hb
 refine ⟨_, rfl, ?_⟩; clear HF; intro a HF
 replace HF := HF.sub [(1, ay dJ), (3, ay m), (4, ay lQ), (11, ay (iw x.wide)), (12, ay (iU x.wide)), (13, ay (jk x.wide)), (14, aA z5)] (by kernel_rfl)
 refine bT ?_
 refine wp_pure HF HM rfl 3 [] ((tZ dJ m x z5) ++ [(65, aA z5), (67, bF (IntKind.u64.wrap ((lQ : Nat) : Int)))]) (by kernel_rfl) fun a HF => ?_
 rw [show IntKind.u64.wrap ((lQ : Nat) : Int) = ((lQ : Nat) : Int) from IntWalk.u64_in _ (by omega)] at HF
 refine bf HF (by kernel_rfl) 73 #[aA z5, aI lQ, aF 0] (by kernel_rfl) (fun w => by kernel_rfl) (Calls.mono (put_any z5 lQ 0 x.big x.wide _ (by omega) (by have hz := dA x.wide 0 (by omega); have hz2 := dA x.wide 2 (by omega); have pY := dA x.wide 4 (by omega); simp only [List.length_append, bD, rV, List.length_cons, List.length_nil, List.length_replicate]; omega) w7 HR) ?_)
 rintro _ w8 ⟨rfl, HR2, hb⟩
 replace HM := HM.sG hb (by intro p hp; rw [List.mem_singleton] at hp; subst hp; exact hzl) hge
 clear HR; have HR := HR2; clear HR2 hb
 refine ⟨_, rfl, ?_⟩; clear HF; intro a HF
 replace HF := HF.sub (tZ dJ m x z5) (by kernel_rfl)
 refine bT ?_
 refine wp_pure HF HM rfl 1 [] ((tZ dJ m x z5) ++ [(69, aA z5)]) (by kernel_rfl) fun a HF => ?_
 refine bf HF (by kernel_rfl) 73 #[aA z5, bF 0, aF 4] (by kernel_rfl) (fun w => by kernel_rfl) (Calls.mono (put_any z5 0 4 x.big x.wide _ (by omega) (by have hz := dA x.wide 0 (by omega); have hz2 := dA x.wide 2 (by omega); have pY := dA x.wide 4 (by omega); simp only [List.length_append, bD, rV, List.length_cons, List.length_nil, List.length_replicate]; omega) w8 HR) ?_)
 rintro _ w9 ⟨rfl, HR2, hb⟩
 replace HM := HM.sG hb (by intro p hp; rw [List.mem_singleton] at hp; subst hp; exact hzl) hge
 clear HR; have HR := HR2; clear HR2 hb
 refine ⟨_, rfl, ?_⟩; clear HF; intro a HF
 replace HF := HF.sub (tZ dJ m x z5) (by kernel_rfl)
 refine bT ?_
 refine wp_pure HF HM rfl 3 [] [(1, ay dJ), (3, ay m), (12, ay (iU x.wide)), (13, ay (jk x.wide)), (14, aA z5), (71, aA z5), (73, bF (IntKind.u64.wrap (((iw x.wide) : Nat) : Int)))] (by kernel_rfl) fun a HF => ?_
 rw [show IntKind.u64.wrap (((iw x.wide) : Nat) : Int) = (((iw x.wide) : Nat) : Int) from IntWalk.u64_in _ (by omega)] at HF
 refine bf HF (by kernel_rfl) 73 #[aA z5, aI (iw x.wide), aF 2] (by kernel_rfl) (fun w => by kernel_rfl) (Calls.mono (put_any z5 (iw x.wide) 2 x.big x.wide _ (by omega) (by have hz := dA x.wide 0 (by omega); have hz2 := dA x.wide 2 (by omega); have pY := dA x.wide 4 (by omega); simp only [List.length_append, bD, rV, List.length_cons, List.length_nil, List.length_replicate]; omega) w9 HR) ?_)
 rintro _ w10 ⟨rfl, HR2, hb⟩
 replace HM := HM.sG hb (by intro p hp; rw [List.mem_singleton] at hp; subst hp; exact hzl) hge
 clear HR; have HR := HR2; clear HR2 hb
 refine ⟨_, rfl, ?_⟩; clear HF; intro a HF
 replace HF := HF.sub [(1, ay dJ), (3, ay m), (12, ay (iU x.wide)), (13, ay (jk x.wide)), (14, aA z5)] (by kernel_rfl)
 refine bT ?_
 refine wp_pure HF HM rfl 3 [] [(1, ay dJ), (3, ay m), (13, ay (jk x.wide)), (14, aA z5), (75, aA z5), (77, bF (IntKind.u64.wrap (((iU x.wide) : Nat) : Int)))] (by kernel_rfl) fun a HF => ?_
 rw [show IntKind.u64.wrap (((iU x.wide) : Nat) : Int) = (((iU x.wide) : Nat) : Int) from IntWalk.u64_in _ (by omega)] at HF
 refine bf HF (by kernel_rfl) 73 #[aA z5, aI (iU x.wide), aF 2] (by kernel_rfl) (fun w => by kernel_rfl) (Calls.mono (put_any z5 (iU x.wide) 2 x.big x.wide _ (by omega) (by have hz := dA x.wide 0 (by omega); have hz2 := dA x.wide 2 (by omega); have pY := dA x.wide 4 (by omega); simp only [List.length_append, bD, rV, List.length_cons, List.length_nil, List.length_replicate]; omega) w10 HR) ?_)
 rintro _ wQ ⟨rfl, HR2, hb⟩
 replace HM := HM.sG hb (by intro p hp; rw [List.mem_singleton] at hp; subst hp; exact hzl) hge
 clear HR; have HR := HR2; clear HR2 hb
 refine ⟨_, rfl, ?_⟩; clear HF; intro a HF
 replace HF := HF.sub [(1, ay dJ), (3, ay m), (13, ay (jk x.wide)), (14, aA z5)] (by kernel_rfl)
 refine bT ?_
 refine wp_pure HF HM rfl 3 [] [(3, ay m), (13, ay (jk x.wide)), (14, aA z5), (79, aA z5), (81, bF (IntKind.u64.wrap ((dJ : Nat) : Int)))] (by kernel_rfl) fun a HF => ?_
 rw [show IntKind.u64.wrap ((dJ : Nat) : Int) = ((dJ : Nat) : Int) from IntWalk.u64_in _ (by omega)] at HF
 refine bf HF (by kernel_rfl) 73 #[aA z5, aI dJ, aF 2] (by kernel_rfl) (fun w => by kernel_rfl) (Calls.mono (put_any z5 dJ 2 x.big x.wide _ (by omega) (by have hz := dA x.wide 0 (by omega); have hz2 := dA x.wide 2 (by omega); have pY := dA x.wide 4 (by omega); simp only [List.length_append, bD, rV, List.length_cons, List.length_nil, List.length_replicate]; omega) wQ HR) ?_)
 rintro _ w12 ⟨rfl, HR2, hb⟩
 replace HM := HM.sG hb (by intro p hp; rw [List.mem_singleton] at hp; subst hp; exact hzl) hge
 clear HR; have HR := HR2; clear HR2 hb
 refine ⟨_, rfl, ?_⟩; clear HF; intro a HF
 replace HF := HF.sub [(3, ay m), (13, ay (jk x.wide)), (14, aA z5)] (by kernel_rfl)
 refine bT ?_
 refine wp_pure HF HM rfl 3 [] [(3, ay m), (14, aA z5), (83, aA z5), (85, bF (IntKind.u64.wrap (((jk x.wide) : Nat) : Int)))] (by kernel_rfl) fun a HF => ?_
 rw [show IntKind.u64.wrap (((jk x.wide) : Nat) : Int) = (((jk x.wide) : Nat) : Int) from IntWalk.u64_in _ (by omega)] at HF
 refine bf HF (by kernel_rfl) 73 #[aA z5, aI (jk x.wide), aF 2] (by kernel_rfl) (fun w => by kernel_rfl) (Calls.mono (put_any z5 (jk x.wide) 2 x.big x.wide _ (by omega) (by have hz := dA x.wide 0 (by omega); have hz2 := dA x.wide 2 (by omega); have pY := dA x.wide 4 (by omega); simp only [List.length_append, bD, rV, List.length_cons, List.length_nil, List.length_replicate]; omega) w12 HR) ?_)
 rintro _ CW ⟨rfl, HR2, hb⟩
 replace HM := HM.sG hb (by intro p hp; rw [List.mem_singleton] at hp; subst hp; exact hzl) hge
 clear HR; have HR := HR2; clear HR2 hb
 refine ⟨_, rfl, ?_⟩; clear HF; intro a HF
 replace HF := HF.sub [(3, ay m), (14, aA z5)] (by kernel_rfl)
 refine bT ?_
 refine wp_pure HF HM rfl 3 [] [(3, ay m), (14, aA z5), (87, aA z5), (89, bF (IntKind.u64.wrap ((m : Nat) : Int)))] (by kernel_rfl) fun a HF => ?_
 rw [show IntKind.u64.wrap ((m : Nat) : Int) = ((m : Nat) : Int) from IntWalk.u64_in _ (by omega)] at HF
 refine bf HF (by kernel_rfl) 73 #[aA z5, aI m, aF 2] (by kernel_rfl) (fun w => by kernel_rfl) (Calls.mono (put_any z5 m 2 x.big x.wide _ (by omega) (by have hz := dA x.wide 0 (by omega); have hz2 := dA x.wide 2 (by omega); have pY := dA x.wide 4 (by omega); simp only [List.length_append, bD, rV, List.length_cons, List.length_nil, List.length_replicate]; omega) CW HR) ?_)
 rintro _ EN ⟨rfl, HR2, hb⟩
 replace HM := HM.sG hb (by intro p hp; rw [List.mem_singleton] at hp; subst hp; exact hzl) hge
 clear HR; have HR := HR2; clear HR2 hb
 refine ⟨_, rfl, ?_⟩; clear HF; intro a HF
 replace HF := HF.sub [(3, ay m), (14, aA z5)] (by kernel_rfl)
 refine bT ?_
 refine wp_pure HF HM rfl 3 [] [(14, aA z5), (91, aA z5), (93, aF (IntKind.i64.wrap (((m : Nat) : Int) - 1)))] (by kernel_rfl) fun a HF => ?_
 rw [show IntKind.i64.wrap (((m : Nat) : Int) - 1) = (((m - 1) : Nat) : Int) from (IntWalk.i64_in _ (by omega)).trans (by omega)] at HF
 refine wp_pure HF HM rfl 1 [] [(14, aA z5), (91, aA z5), (94, bF (IntKind.u64.wrap (((m - 1) : Nat) : Int)))] (by kernel_rfl) fun a HF => ?_
 rw [show IntKind.u64.wrap (((m - 1) : Nat) : Int) = (((m - 1) : Nat) : Int) from IntWalk.u64_in _ (by omega)] at HF
 refine bf HF (by kernel_rfl) 73 #[aA z5, aI (m - 1), aF 2] (by kernel_rfl) (fun w => by kernel_rfl) (Calls.mono (put_any z5 (m - 1) 2 x.big x.wide _ (by omega) (by have hz := dA x.wide 0 (by omega); have hz2 := dA x.wide 2 (by omega); have pY := dA x.wide 4 (by omega); simp only [List.length_append, bD, rV, List.length_cons, List.length_nil, List.length_replicate]; omega) EN HR) ?_)
 rintro _ EH ⟨rfl, HR2, hb⟩
 replace HM := HM.sG hb (by intro p hp; rw [List.mem_singleton] at hp; subst hp; exact hzl) hge
 clear HR; have HR := HR2; clear HR2 hb
 refine ⟨_, rfl, ?_⟩; clear HF; intro a HF
 replace HF := HF.sub [(14, aA z5)] (by kernel_rfl)
 refine bT ?_
 obtain ⟨v, hv, hown⟩ := HR
 have hcv : EH.cell? ⟨z5, 2, none⟩ = some v := fV hv 2
 refine wp_pure HF HM rfl 3 [] [(98, .pointer (some ⟨z5, 2, none⟩))] (by kernel_rfl) fun a HF => ?_
 refine bU HF (by kernel_rfl) (v) (by kernel_rfl) (dP rfl rfl (by kernel_rfl) hcv) fun a HF => ?_
 refine wp_pure HF HM rfl 1 [] [(10, v)] (by kernel_rfl) fun a HF => ?_
 refine aB ?_
 refine wp_ret ?_
 repeat first | refine bH ?_ | refine bM ?_
 have hown2 : EH.ownsRow (z5 + 1) 5 1 v (headB x.wide x.big x.abi x.aH x.ty.toNat x.machine.toNat x.entry dJ at_ m lQ).length ((headB x.wide x.big x.abi x.aH x.ty.toNat x.machine.toNat x.entry dJ at_ m lQ).map Bv) := hown
 rcases hown2.2 with ⟨_, h0⟩ | ⟨g, cap, cur, rfl, hg, hh, hnc, hcm, hcs, htk⟩
 ·rw [uV] at h0; unfold iw at h0; split at h0 <;> omega
 exact dn HF rfl rfl ⟨g, cap, cur, rfl, HM.below, ⟨by omega, hh, htk, hcs, hnc, hcm⟩⟩

end Go.Proofs.YtdgehpocmfjbiaaDoor
namespace Go.Proofs.YtdgehpocmfjbiaaDoor
open Go.RowKit

section
variable {x : bZ} {g cap i : Nat}
def fdM (m : dL) : List UInt8 := mW m.part
def jU (x : bZ) (i : Nat) : List UInt8 := (x.ss.take i).flatMap (·.data)
theorem GK {m : kQ} (hm : x.ss[i]? = some m) : jU x (i + 1) = jU x i ++ m.data := by
 unfold jU
 rw [oW hm, List.flatMap_append]
 simp
theorem DJ (x : bZ) (i : Nat) : jU x i = (x.img.dJ.take i).flatMap (·.data) := by
 unfold jU
 show _ = ((x.ss.map kQ.seg).take i).flatMap (·.data)
 rw [← List.map_take, List.flatMap_map]
 rfl
theorem NT (x : bZ) (i : Nat) : x.img.kT i = x.img.at0 + (jU x i).length := by rw [DJ]; rfl
theorem AL (x : bZ) : x.img.dJ.length = x.ss.length := List.length_map ..
theorem Px (x : bZ) : jU x x.ss.length = x.img.m_ := by
 rw [DJ, ← AL, List.take_length]
 rfl
theorem Qs (x : bZ) (i : Nat) : (jU x i).length ≤ x.img.m_.length := by rw [DJ]; exact Dp _ _ _
def iH (x : bZ) (g cap i : Nat) : List UInt8 := x.img.m_ ++ ((allM x g cap).take i).flatMap fdM
theorem Qh (x : bZ) (g cap : Nat) : iH x g cap 0 = x.img.m_ := by simp [iH]
theorem Aq {m : dL} (hm : (allM x g cap)[i]? = some m) : iH x g cap (i + 1) = iH x g cap i ++ fdM m := by
 unfold iH
 rw [oW hm, List.flatMap_append, List.append_assoc]
 simp
theorem FU (x : bZ) (g cap i : Nat) : iH x g cap i = x.img.m_ ++ (x.img.all.take i).flatMap mW := by
 unfold iH
 rw [← FX x g cap, ← List.map_take, List.flatMap_map]
 rfl
theorem NW (x : bZ) (g cap i : Nat) (h : i ≠ 0) : x.img.jc i = x.img.at0 + (iH x g cap i).length := by
 rw [FU]
 unfold eH.jc
 rw [if_neg h, List.length_append, Nat.add_assoc]
theorem oI (x : bZ) : x.img.all.length = x.ps.length + 2 := by rw [← FX x 0 0, List.length_map, CV]
theorem FV (x : bZ) (g cap : Nat) : iH x g cap (x.ps.length + 2) = x.img.m_ ++ x.img.oH := by
 rw [FU, ← oI, List.take_length]
 rfl
theorem HY (x : bZ) (g cap i : Nat) (ok : x.img.Ok) : (iH x g cap i).length ≤ 120953600 := by
 have h1 := ok.DK
 have h2 := ok.DL
 have h3 := Dp mW x.img.all i
 have h4 : ((x.img.all.take i).flatMap mW).length ≤ x.img.oH.length := h3
 rw [FU, List.length_append]
 omega
theorem RH (x : bZ) (g cap : Nat) : x.img.mZ = x.img.at0 + (iH x g cap (x.ps.length + 2)).length := by
 rw [FV]
 rfl
theorem UM (x : bZ) : x.img.at0 = iw x.wide + iU x.wide * x.ss.length := by
 unfold eH.at0
 rw [AL]
 rfl
theorem head_eq (x : bZ) : headB x.wide x.big x.abi x.aH x.ty.toNat x.machine.toNat x.entry x.ss.length (iw x.wide) (x.ps.length + 2) x.img.mZ = x.img.head := by
 unfold eH.head
 rw [AL, oI]
 rfl
def kW (x : bZ) (i : Nat) : List UInt8 := x.img.head ++ fF x.img.qK 0 (x.img.dJ.take i)
theorem JI (x : bZ) : kW x 0 = x.img.head := by simp [kW, fF]
def pO (x : bZ) (i : Nat) (m : kQ) : List UInt8 := uO x.wide x.big m.ty m.flags m.bY m.b_ m.dw m.align m.data.length (x.img.kT i)
theorem JJ {m : kQ} (hm : x.ss[i]? = some m) : kW x (i + 1) = kW x i ++ pO x i m := by
 have h1 : x.img.dJ[i]? = some m.seg := by
  show (x.ss.map kQ.seg)[i]? = _
  rw [List.getElem?_map, hm]; rfl
 obtain ⟨hl, e⟩ := List.getElem?_eq_some_iff.1 h1
 have hr : pO x i m = x.img.qK i m.seg := rfl
 unfold kW
 rw [hr, zo _ _ _ hl, e]
 simp only [List.append_assoc]
theorem Ho (x : bZ) (i : Nat) (ok : x.img.Ok) : (kW x i).length ≤ 122000000 := by
 have h := ok.length_le
 have h2 : (fF x.img.qK 0 (x.img.dJ.take i)).length ≤ (fF x.img.qK 0 x.img.dJ).length := by
  rw [lX x.img.qK (iU x.img.wide) _ _ fun j a _ => um .., lX x.img.qK (iU x.img.wide) _ _ fun j a _ => um ..]
  exact Nat.mul_le_mul_right _ (by rw [List.length_take]; omega)
 unfold kW
 unfold eH.file at h
 simp only [List.length_append] at h ⊢
 omega
def ny (x : bZ) (i : Nat) : List UInt8 := kW x x.ss.length ++ (x.img.m_ ++ x.img.oH) ++ fF x.img.o9 0 (x.img.all.take i)
theorem JV (x : bZ) : ny x 0 = kW x x.ss.length ++ (x.img.m_ ++ x.img.oH) := by simp [ny, fF]
def pR (x : bZ) (i : Nat) (m : dL) : List UInt8 := wU x.wide x.big (x.img.lD i) m.ty m.flags m.addr (x.img.jc i) (rU m.ty m.size m.data.length) m.link m.info m.align m.ent
theorem JW {m : dL} (hm : (allM x g cap)[i]? = some m) : ny x (i + 1) = ny x i ++ pR x i m := by
 have h1 : x.img.all[i]? = some m.part := by rw [← FX x g cap, List.getElem?_map, hm]; rfl
 obtain ⟨hl, e⟩ := List.getElem?_eq_some_iff.1 h1
 have hr : pR x i m = x.img.o9 i m.part := rfl
 unfold ny
 rw [hr, zo _ _ _ hl, e]
 simp only [List.append_assoc]
theorem SK (x : bZ) : ny x (x.ps.length + 2) = x.img.file := by
 unfold ny kW
 rw [← oI, List.take_length, ← AL, List.take_length]
 rfl
theorem Na (x : bZ) (i : Nat) (ok : x.img.Ok) : (ny x i).length ≤ 122000000 := by
 have h := ok.length_le
 have h2 : (fF x.img.o9 0 (x.img.all.take i)).length ≤ (fF x.img.o9 0 x.img.all).length := by
  rw [lX x.img.o9 (jk x.img.wide) _ _ fun j a _ => uo .., lX x.img.o9 (jk x.img.wide) _ _ fun j a _ => uo ..]
  exact Nat.mul_le_mul_right _ (by rw [List.length_take]; omega)
 unfold ny kW
 rw [← AL, List.take_length]
 unfold eH.file at h
 simp only [List.length_append] at h ⊢
 omega
theorem Q7 (x : bZ) (g cap : Nat) : (allM x g cap).map (·.name) = x.img.names := by
 rw [AU]
 simp [allM, RF]
theorem N9 (x : bZ) (g cap : Nat) : ((allM x g cap).take (x.ps.length + 2)).map (fun p => nT p.name) = x.img.names.map nT := by
 rw [← CV x g cap, List.take_length, ← Q7 x g cap, List.map_map]
 rfl
theorem PE (x : bZ) : ((List.range x.img.names.length).map (fun j => r_ (nameAt x.img.names j))).set 0 (r_ 0) = (List.range x.img.names.length).map (fun j => r_ (x.img.lD j)) := by
 apply List.ext_getElem
 ·simp
 ·intro j h1 h2
  rw [List.getElem_set]
  simp only [List.getElem_map, List.getElem_range]
  unfold eH.lD
  split
  ·rename_i h; rw [if_pos h.symm]
  ·rename_i h; rw [if_neg (fun e => h e.symm)]
theorem Ik {f : Nat → Value} (i : Nat) : (List.range i).map f ++ [f i] = (List.range (i + 1)).map f := by
 rw [List.range_succ, List.map_append]; rfl
theorem Uo {w0 w : World} {L : List (Nat × Obj)} {iT : Array Value} (h : x.At w0) (HM : Mm [] w0 w L) {k : Nat} {t : TypeId} {f : Nat × Nat} (e : L[k]? = some (g, .cells iT t f)) (tk : iT.toList.take ((dB x.img.names).length * 1) = (dB x.img.names).map Bv) (m : dL) (hm : m ∈ allM x g cap) :
  Row w m.A (m.data.map Bv) := by
 simp only [allM, nN, List.mem_append, List.mem_cons, List.not_mem_nil, or_false] at hm
 rcases hm with (rfl | hm) | rfl
 ·exact Row.nil _ _
 ·exact HM.row (h.part m hm).row
 ·exact HM.nH e tk
structure AllB (m : dL) : Prop where
 ty : m.ty < 4294967296
 flags : m.flags < 4294967296
 link : m.link < 4294967296
 info : m.info < 4294967296
 data : m.data.length ≤ 1100000
theorem Rx {w0 : World} (h : x.At w0) (ok : x.Ok) (m : dL) (hm : m ∈ allM x g cap) : AllB m := by
 have hnb := (bZ.ok ok h).sO
 simp only [allM, nN, List.mem_append, List.mem_cons, List.not_mem_nil, or_false] at hm
 rcases hm with (rfl | hm) | rfl
 ·exact ⟨by decide, by decide, by decide, by decide, by decide⟩
 ·have o := ok.part m hm
  have b := h.part m hm
  exact ⟨b.ty, b.flags, b.link, b.info, by have := o.data; omega⟩
 ·exact ⟨by show 3 < _; omega, by show 0 < _; omega, by show 0 < _; omega, by show 0 < _; omega, by show (dB x.img.names).length ≤ 1100000; omega⟩
theorem OZ {m : dL} (h : ((m.ty : Nat) : Int) ≠ 8) : fdM m = m.data := by
 have : m.ty ≠ 8 := by omega
 show (if m.ty = 8 then [] else m.data) = m.data
 rw [if_neg this]
theorem Ru {m : dL} (h : ¬ ((m.ty : Nat) : Int) ≠ 8) : fdM m = [] := by
 have : m.ty = 8 := by omega
 show (if m.ty = 8 then [] else m.data) = []
 rw [if_pos this]
end
theorem Fa {w : World} {base e size n : Nat} {v : Value} {xs : List Value} (h : w.ownsRow base e size v n xs) (hn : 0 < n) : ∃ g cap cur, v = .slice (some ⟨g, 0, none⟩) n cap ∧ Own base w e size g n cap cur xs := by
 rcases h.2 with ⟨_, h0⟩ | ⟨g, cap, cur, rfl, hg, hh, hnc, hcm, hcs, htk⟩
 ·omega
 ·exact ⟨g, cap, cur, rfl, ⟨hg, hh, htk, hcs, hnc, hcm⟩⟩
/-- spec.UN, in either class -/
theorem NS (wide big : Bool) (x2 x3 x4 x5 x6 x7 x8 : Value) (ty flags bY b_ dw align n c offset : Nat) (A : Option Addr) (h1 : ty ≤ 4294967295) (h2 : flags ≤ 4294967295) (h3 : offset ≤ 4294967295) (h4 : n ≤ 4294967295) (w : World) :
  Calls Tryd.prog 67 #[.agg #[.bool wide, .bool big, x2, x3, x4, x5, x6, x7, x8], .agg #[.int .u32 ty, .int .u32 flags, .int .u64 bY, .int .u64 b_, .int .u64 dw, .int .u64 align, .slice A n c], .int .i64 offset] w
   fun e w' => ∃ g cap cur, e = .returned (.slice (some ⟨g, 0, none⟩) (uO wide big ty flags bY b_ dw align n offset).length cap) ∧ Below w.heap.size w w' ∧ Own w.heap.size w' 5 1 g (uO wide big ty flags bY b_ dw align n offset).length cap cur ((uO wide big ty flags bY b_ dw align n offset).map Bv) := by
 have hp : 0 < (uO wide big ty flags bY b_ dw align n offset).length := by rw [um]; unfold iU; split <;> omega
 cases wide with
 | true =>
  refine (Ig big x2 x3 x4 x5 x6 x7 x8 ty flags bY b_ dw align n c offset A h1 h2 h3 h4 w).mono ?_
  rintro e w' ⟨v, rfl, ho, hb⟩
  obtain ⟨g, cap, cur, rfl, h⟩ := Fa ho hp
  exact ⟨g, cap, cur, rfl, hb, h⟩
 | false =>
  refine (Ih big x2 x3 x4 x5 x6 x7 x8 ty flags bY b_ dw align n c offset A h1 h2 h3 h4 w).mono ?_
  rintro e w' ⟨v, rfl, ho, hb⟩
  obtain ⟨g, cap, cur, rfl, h⟩ := Fa ho hp
  exact ⟨g, cap, cur, rfl, hb, h⟩
theorem NV (wide big : Bool) (x2 x3 x4 x5 x6 x7 x8 : Value) (name : Nat) (nm : ByteArray) (ty flags addr link info align ent size n c offset : Nat) (A : Option Addr) (h0 : name ≤ 4294967295) (h1 : ty ≤ 4294967295) (h2 : flags ≤ 4294967295) (h3 : offset ≤ 4294967295) (h4 : n ≤ 4294967295) (h5 : link ≤ 4294967295) (h6 : info ≤ 4294967295) (w : World) :
  Calls Tryd.prog 68 #[.agg #[.bool wide, .bool big, x2, x3, x4, x5, x6, x7, x8], .int .i64 name, .agg #[.string nm, .int .u32 ty, .int .u32 flags, .int .u64 addr, .int .u32 link, .int .u32 info, .int .u64 align, .int .u64 ent, .int .u64 size, .slice A n c], .int .i64 offset] w
   fun e w' => ∃ g cap cur, e = .returned (.slice (some ⟨g, 0, none⟩) (wU wide big name ty flags addr offset (rU ty size n) link info align ent).length cap) ∧ Below w.heap.size w w' ∧ Own w.heap.size w' 5 1 g (wU wide big name ty flags addr offset (rU ty size n) link info align ent).length cap cur ((wU wide big name ty flags addr offset (rU ty size n) link info align ent).map Bv) := by
 have hp : 0 < (wU wide big name ty flags addr offset (rU ty size n) link info align ent).length := by rw [uo]; unfold jk; split <;> omega
 refine (Jd wide big x2 x3 x4 x5 x6 x7 x8 name nm ty flags addr link info align ent size n c offset A h0 h1 h2 h3 h4 h5 h6 w).mono ?_
 rintro e w' ⟨v, rfl, ho, hb⟩
 obtain ⟨g, cap, cur, rfl, h⟩ := Fa ho hp
 exact ⟨g, cap, cur, rfl, hb, h⟩
end Go.Proofs.YtdgehpocmfjbiaaDoor
namespace Go.Proofs.YtdgehpocmfjbiaaDoor
open Go.RowKit
theorem Df {P : Program} {w : World} {ρ : Operand → Value} {o : Oper} {b : BinOp} {T U : TypeId} {x y : Operand} {u v r : Value} (ho : o.op = .binOp b T x y U) (hx : ρ x = u) (hy : ρ y = v) (hg : (eqGuard b T x y u v).run P w = .ok () w) (hr : (binOp b T u v).run P w = .ok r w) : (execOp ρ o).run P w = .ok (.value r) w := by
 unfold execOp
 simp only [ho, hx, hy, Sem.run_bind, hg, hr, Result.andThen_ok, Sem.run_pure]
theorem Ko (x y : Operand) (xs ys : Array Value) (w : World) : (eqGuard .neq 40 x y (.agg xs) (.agg ys)).run Tryd.prog w = .ok () w := run_eqGuard_agg _ _ _ _ _ _ _ (by kernel_rfl)
theorem Si (s0 : ByteArray) (a1 : Int) (a2 : Int) (a3 : Int) (a4 : Int) (a5 : Int) (w : World) : (binOp .neq 40 (.agg #[.string s0, .int .u8 a1, .int .u8 a2, .int .i64 a3, .int .u64 a4, .int .u64 a5]) (.agg #[.string s0, .int .u8 a1, .int .u8 a2, .int .i64 a3, .int .u64 a4, .int .u64 a5])).run Tryd.prog w = .ok (.bool false) w := by
 have u40 := Tryd.underlying40
 have u3 := Tryd.underlying3
 have u5 := Tryd.underlying5
 have u9 := Tryd.underlying9
 have u22 := Tryd.underlying22
 go_simp

end Go.Proofs.YtdgehpocmfjbiaaDoor
