/- Images as they lie in memory. · An image of which IsImage says true lays out a good file. · laws.zzFits1 to zzFits5: they return, and turn nothing. · spec.IsImage: it says true of right images alone. · spec.Names, spec.sizes, spec.All. · spec.headerRow. · Words for spec.File: what its loops have gathered. · Equality of two structs that are one. -/
import Derived.Test.YtdgehpocmfjbiaaDoorPb
import Derived.Test.YtdgehpocmfjbiaaDoorPd
import Derived.Test.YtdgehpocmfjbiaaDoorPf
set_option linter.unusedVariables false
set_option linter.unusedSimpArgs false
namespace Go.Proofs.YtdgehpocmfjbiaaDoor
open Go.RowKit

structure SegM where
  ty : Nat
  flags : Nat
  vaddr : Nat
  paddr : Nat
  memsz : Nat
  align : Nat
  data : List UInt8
  A : Option Addr
  c : Nat
structure PartM where
  name : List UInt8
  ty : Nat
  flags : Nat
  addr : Nat
  link : Nat
  info : Nat
  align : Nat
  ent : Nat
  size : Nat
  data : List UInt8
  A : Option Addr
  c : Nat
def SegM.cells (m : SegM) : List Value := [.int .u32 ((m.ty : Nat) : Int), .int .u32 ((m.flags : Nat) : Int), .int .u64 ((m.vaddr : Nat) : Int), .int .u64 ((m.paddr : Nat) : Int), .int .u64 ((m.memsz : Nat) : Int), .int .u64 ((m.align : Nat) : Int), .slice m.A m.data.length m.c]
def PartM.cells (m : PartM) : List Value := [.string (⟨m.name.toArray⟩), .int .u32 ((m.ty : Nat) : Int), .int .u32 ((m.flags : Nat) : Int), .int .u64 ((m.addr : Nat) : Int), .int .u32 ((m.link : Nat) : Int), .int .u32 ((m.info : Nat) : Int), .int .u64 ((m.align : Nat) : Int), .int .u64 ((m.ent : Nat) : Int), .int .u64 ((m.size : Nat) : Int), .slice m.A m.data.length m.c]
structure ImgM where
  wide : Bool
  big : Bool
  abi : Nat
  abiv : Nat
  ty : Int
  machine : Int
  entry : Nat
  ss : List SegM
  A : Option Addr
  c : Nat
  ps : List PartM
  B : Option Addr
  d : Nat
def ImgM.val (x : ImgM) : Value := .agg #[.bool x.wide, .bool x.big, .int .u8 ((x.abi : Nat) : Int), .int .u8 ((x.abiv : Nat) : Int), .int .i64 x.ty, .int .i64 x.machine, .int .u64 ((x.entry : Nat) : Int), .slice x.A x.ss.length x.c, .slice x.B x.ps.length x.d]
structure SegM.At (w : World) (m : SegM) : Prop where
  row : Row w m.A (m.data.map Bv)
  c1 : m.data.length ≤ m.c
  c2 : m.c ≤ maxLen
  ty : m.ty < 4294967296
  flags : m.flags < 4294967296
  vaddr : m.vaddr < 18446744073709551616
  paddr : m.paddr < 18446744073709551616
  memsz : m.memsz < 18446744073709551616
  align : m.align < 18446744073709551616
structure PartM.At (w : World) (m : PartM) : Prop where
  row : Row w m.A (m.data.map Bv)
  c1 : m.data.length ≤ m.c
  c2 : m.c ≤ maxLen
  nm : m.name.length ≤ maxLen
  ty : m.ty < 4294967296
  flags : m.flags < 4294967296
  addr : m.addr < 18446744073709551616
  link : m.link < 4294967296
  info : m.info < 4294967296
  align : m.align < 18446744073709551616
  ent : m.ent < 18446744073709551616
  size : m.size < 18446744073709551616
structure ImgM.At (w : World) (x : ImgM) : Prop where
  segs : Row w x.A (x.ss.flatMap SegM.cells)
  parts : Row w x.B (x.ps.flatMap PartM.cells)
  seg : ∀ m ∈ x.ss, SegM.At w m
  part : ∀ m ∈ x.ps, PartM.At w m
  c1 : x.ss.length ≤ x.c
  c2 : x.c ≤ maxLen
  d1 : x.ps.length ≤ x.d
  d2 : x.d ≤ maxLen
  abi : x.abi < 256
  abiv : x.abiv < 256
  entry : x.entry < 18446744073709551616
theorem SegM.At.below {w w' : World} {m : SegM} (h : SegM.At w m) (hb : Below w.heap.size w w') : SegM.At w' m := { h with row := h.row.below hb }
theorem PartM.At.below {w w' : World} {m : PartM} (h : PartM.At w m) (hb : Below w.heap.size w w') : PartM.At w' m := { h with row := h.row.below hb }
theorem ImgM.At.below {w w' : World} {x : ImgM} (h : ImgM.At w x) (hb : Below w.heap.size w w') : ImgM.At w' x :=
  { h with segs := h.segs.below hb, parts := h.parts.below hb, seg := fun m hm => (h.seg m hm).below hb, part := fun m hm => (h.part m hm).below hb }
def SegM.seg (m : SegM) : Seg := ⟨m.ty, m.flags, m.vaddr, m.paddr, m.memsz, m.align, m.data⟩
def PartM.part (m : PartM) : Part := ⟨m.name, m.ty, m.flags, m.addr, m.link, m.info, m.align, m.ent, m.size, m.data⟩
def ImgM.img (x : ImgM) : Img := ⟨x.wide, x.big, x.abi, x.abiv, x.ty.toNat, x.machine.toNat, x.entry, x.ss.map SegM.seg, x.ps.map PartM.part⟩
/-- what IsImage tells of a segment -/
structure SegM.Ok (wide : Bool) (m : SegM) : Prop where
  fit : fitsB wide [m.vaddr, m.paddr, m.memsz, m.align] = true
  ty : m.ty < 2147483648
  data : m.data.length ≤ 65536
structure PartM.Ok (wide : Bool) (m : PartM) : Prop where
  fit : fitsB wide [m.addr, m.align, m.ent, m.size] = true
  name : m.name.length ≤ 1024
  nul : 0 ∉ m.name
  data : m.data.length ≤ 1100000
  ty0 : m.ty ≠ 0
  ty1 : m.ty < 1610612736
  zip : zipB ⟨m.name.toArray⟩ = false
  flags : (and32 (m.flags : Int) 2048 == 0) = true
  bss : m.ty = 8 → m.data.length = 0
  size : m.size < 4611686018427387904
structure ImgM.Ok (x : ImgM) : Prop where
  ty0 : 0 ≤ x.ty
  ty1 : x.ty ≤ 65535
  mc0 : 0 ≤ x.machine
  mc1 : x.machine ≤ 65535
  fit : fitsB x.wide [x.entry] = true
  segs : x.ss.length ≤ 100
  parts : x.ps.length ≤ 102
  seg : ∀ m ∈ x.ss, SegM.Ok x.wide m
  part : ∀ m ∈ x.ps, PartM.Ok x.wide m
theorem fits_one {wide : Bool} {l : List Nat} (h : fitsB wide l = true) {n : Nat} (hn : n ∈ l) (h64 : n < 18446744073709551616) : n < 256 ^ aSz wide := by
  cases wide with
  | true => exact h64
  | false =>
    simp only [fitsB, Bool.false_or, List.all_eq_true, decide_eq_true_eq] at h
    exact h n hn
end Go.Proofs.YtdgehpocmfjbiaaDoor
namespace Go.Proofs.YtdgehpocmfjbiaaDoor
open Go.RowKit

theorem ImgM.ok {x : ImgM} {w : World} (h : x.Ok) (a : x.At w) : x.img.Ok where
  abi := a.abi
  abiv := a.abiv
  ty := by have := h.ty0; have := h.ty1; show x.ty.toNat < _; omega
  machine := by have := h.mc0; have := h.mc1; show x.machine.toNat < _; omega
  entry := fits_one h.fit (n := x.entry) (by simp) a.entry
  segs := by show (x.ss.map _).length ≤ _; rw [List.length_map]; exact h.segs
  parts := by show (x.ps.map _).length ≤ _; rw [List.length_map]; exact h.parts
  seg := fun s hs => by
    obtain ⟨m, hm, rfl⟩ := List.mem_map.1 (show s ∈ x.ss.map SegM.seg from hs)
    have o := h.seg m hm
    have b := a.seg m hm
    exact ⟨o.ty, b.flags, fits_one o.fit (n := m.vaddr) (by simp) b.vaddr, fits_one o.fit (n := m.paddr) (by simp) b.paddr, fits_one o.fit (n := m.memsz) (by simp) b.memsz, fits_one o.fit (n := m.align) (by simp) b.align, o.data⟩
  part := fun p hp => by
    obtain ⟨m, hm, rfl⟩ := List.mem_map.1 (show p ∈ x.ps.map PartM.part from hp)
    have o := h.part m hm
    have b := a.part m hm
    exact ⟨o.name, o.nul, b.ty, b.flags, o.flags, fits_one o.fit (n := m.addr) (by simp) b.addr, b.link, b.info, fits_one o.fit (n := m.align) (by simp) b.align, fits_one o.fit (n := m.ent) (by simp) b.ent, fits_one o.fit (n := m.size) (by simp) b.size, o.size, o.data⟩
end Go.Proofs.YtdgehpocmfjbiaaDoor
namespace Go.Proofs.YtdgehpocmfjbiaaDoor
open Go.RowKit

set_option maxRecDepth 100000 in
set_option maxHeartbeats 1000000 in
theorem zzFits3_any (m : SegM) (w0 : World) : Calls Tryd.prog 76 #[.agg #[u3_ m.ty, u3_ m.flags, u6_ m.vaddr, u6_ m.paddr, u6_ m.memsz, u6_ m.align, .slice m.A m.data.length m.c]] w0 fun e w' => ∃ b, e = .returned (.bool b) ∧ Below w0.heap.size w0 w' := by
  obtain ⟨w, hw⟩ : ∃ w, w0 = w := ⟨_, rfl⟩
  have HM : Mm [] w0 w [] := hw ▸ Mm.start w0
  conv => arg 4; rw [hw]
  clear hw
  refine calls_start Tryd.func76 rfl Tryd.ntmps76 [(0, .agg #[u3_ m.ty, u3_ m.flags, u6_ m.vaddr, u6_ m.paddr, u6_ m.memsz, u6_ m.align, .slice m.A m.data.length m.c])] (by kernel_rfl) (Nat.le_of_ble_eq_true rfl) ?_
  intro a HF
  refine wp_seq (wp_region_lit ?_)
  obtain ⟨z1, hz1⟩ : ∃ z, w.heap.size = z := ⟨_, rfl⟩
  refine wp_sym HF HM hz1 2 [] [(1, pt_ z1)] [(z1, .cells #[u3_ m.ty, u3_ m.flags, u6_ m.vaddr, u6_ m.paddr, u6_ m.memsz, u6_ m.align, .slice m.A m.data.length m.c] 57 (0, 0))] (by kernel_rfl) ?_
  clear HF HM hz1; intro a w HF HM
  refine nil_then ?_
  refine wp_seq ?_
  refine wp_seq (wp_region_lit ?_)
  refine wp_pure HF HM rfl 4 [[0]] [(6, .bool (decide (2147483647 < ((m.data.length : Nat) : Int))))] (by kernel_rfl) ?_
  clear HF; intro a HF
  refine nil_then ?_
  by_cases hc1 : 2147483647 < ((m.data.length : Nat) : Int)
  · rw [show decide (2147483647 < ((m.data.length : Nat) : Int)) = true from dec_t (hc1)] at HF
    refine wp_condT HF rfl ?_
    refine wp_seq (wp_region_lit ?_)
    refine wp_pure HF HM rfl 1 [] [(2, .bool false)] (by kernel_rfl) ?_
    clear HF; intro a HF
    refine nil_then ?_
    refine wp_ret ?_
    repeat (first | refine then_ret ?_ | refine inb_ret ?_)
    exact ret_one HF rfl rfl ⟨false, rfl, HM.below⟩
  rw [show decide (2147483647 < ((m.data.length : Nat) : Int)) = false from dec_f (hc1)] at HF
  refine wp_condF HF rfl ?_
  refine wp_skip ?_
  repeat (first | refine then_norm ?_ | refine inb_norm ?_)
  refine wp_seq (wp_region_lit ?_)
  refine wp_pure HF HM rfl 1 [] [(2, .bool true)] (by kernel_rfl) ?_
  clear HF; intro a HF
  refine nil_then ?_
  refine wp_ret ?_
  repeat (first | refine then_ret ?_ | refine inb_ret ?_)
  exact ret_one HF rfl rfl ⟨true, rfl, HM.below⟩

set_option maxRecDepth 100000 in
set_option maxHeartbeats 1000000 in
theorem zzFits5_any (m : PartM) (w0 : World) : Calls Tryd.prog 77 #[.agg #[.string (⟨m.name.toArray⟩), u3_ m.ty, u3_ m.flags, u6_ m.addr, u3_ m.link, u3_ m.info, u6_ m.align, u6_ m.ent, u6_ m.size, .slice m.A m.data.length m.c]] w0 fun e w' => ∃ b, e = .returned (.bool b) ∧ Below w0.heap.size w0 w' := by
  obtain ⟨w, hw⟩ : ∃ w, w0 = w := ⟨_, rfl⟩
  have HM : Mm [] w0 w [] := hw ▸ Mm.start w0
  conv => arg 4; rw [hw]
  clear hw
  refine calls_start Tryd.func77 rfl Tryd.ntmps77 [(0, .agg #[.string (⟨m.name.toArray⟩), u3_ m.ty, u3_ m.flags, u6_ m.addr, u3_ m.link, u3_ m.info, u6_ m.align, u6_ m.ent, u6_ m.size, .slice m.A m.data.length m.c])] (by kernel_rfl) (Nat.le_of_ble_eq_true rfl) ?_
  intro a HF
  refine wp_seq (wp_region_lit ?_)
  obtain ⟨z1, hz1⟩ : ∃ z, w.heap.size = z := ⟨_, rfl⟩
  refine wp_sym HF HM hz1 2 [] [(1, pt_ z1)] [(z1, .cells #[.string (⟨m.name.toArray⟩), u3_ m.ty, u3_ m.flags, u6_ m.addr, u3_ m.link, u3_ m.info, u6_ m.align, u6_ m.ent, u6_ m.size, .slice m.A m.data.length m.c] 46 (0, 0))] (by kernel_rfl) ?_
  clear HF HM hz1; intro a w HF HM
  refine nil_then ?_
  refine wp_seq ?_
  refine wp_seq (wp_region_lit ?_)
  refine wp_pure HF HM rfl 4 [[0]] [(1, pt_ z1), (6, .bool (decide (2147483647 < ((m.name.length : Nat) : Int))))] (by kernel_rfl) ?_
  clear HF; intro a HF
  refine nil_then ?_
  by_cases hc1 : 2147483647 < ((m.name.length : Nat) : Int)
  · rw [show decide (2147483647 < ((m.name.length : Nat) : Int)) = true from dec_t (hc1)] at HF
    refine wp_condT HF rfl ?_
    refine wp_seq (wp_region_lit ?_)
    refine wp_pure HF HM rfl 1 [] [(2, .bool false)] (by kernel_rfl) ?_
    clear HF; intro a HF
    refine nil_then ?_
    refine wp_ret ?_
    repeat (first | refine then_ret ?_ | refine inb_ret ?_)
    exact ret_one HF rfl rfl ⟨false, rfl, HM.below⟩
  rw [show decide (2147483647 < ((m.name.length : Nat) : Int)) = false from dec_f (hc1)] at HF
  refine wp_condF HF rfl ?_
  refine wp_skip ?_
  repeat (first | refine then_norm ?_ | refine inb_norm ?_)
  refine wp_seq ?_
  refine wp_seq (wp_region_lit ?_)
  refine wp_pure HF HM rfl 4 [[0]] [(10, .bool (decide (2147483647 < ((m.data.length : Nat) : Int))))] (by kernel_rfl) ?_
  clear HF; intro a HF
  refine nil_then ?_
  by_cases hc2 : 2147483647 < ((m.data.length : Nat) : Int)
  · rw [show decide (2147483647 < ((m.data.length : Nat) : Int)) = true from dec_t (hc2)] at HF
    refine wp_condT HF rfl ?_
    refine wp_seq (wp_region_lit ?_)
    refine wp_pure HF HM rfl 1 [] [(2, .bool false)] (by kernel_rfl) ?_
    clear HF; intro a HF
    refine nil_then ?_
    refine wp_ret ?_
    repeat (first | refine then_ret ?_ | refine inb_ret ?_)
    exact ret_one HF rfl rfl ⟨false, rfl, HM.below⟩
  rw [show decide (2147483647 < ((m.data.length : Nat) : Int)) = false from dec_f (hc2)] at HF
  refine wp_condF HF rfl ?_
  refine wp_skip ?_
  repeat (first | refine then_norm ?_ | refine inb_norm ?_)
  refine wp_seq (wp_region_lit ?_)
  refine wp_pure HF HM rfl 1 [] [(2, .bool true)] (by kernel_rfl) ?_
  clear HF; intro a HF
  refine nil_then ?_
  refine wp_ret ?_
  repeat (first | refine then_ret ?_ | refine inb_ret ?_)
  exact ret_one HF rfl rfl ⟨true, rfl, HM.below⟩

abbrev zzFits2_any_S0 := fun (A : Option Addr) (l : List SegM) (c : Nat) => ([(8, .slice A l.length c), (9, i6_ l.length)] : Slots)
set_option maxRecDepth 100000 in
set_option maxHeartbeats 1000000 in
theorem zzFits2_any (l : List SegM) (A : Option Addr) (c : Nat) (w0 : World) (hr : Row w0 A (l.flatMap SegM.cells)) : Calls Tryd.prog 49 #[.slice A l.length c] w0 fun e w' => ∃ b, e = .returned (.bool b) ∧ Below w0.heap.size w0 w' := by
  obtain ⟨w, hw⟩ : ∃ w, w0 = w := ⟨_, rfl⟩
  have HM : Mm [] w0 w [] := hw ▸ Mm.start w0
  conv => arg 4; rw [hw]
  clear hw
  refine calls_start Tryd.func49 rfl Tryd.ntmps49 [(0, .slice A l.length c)] (by kernel_rfl) (Nat.le_of_ble_eq_true rfl) ?_
  intro a HF
  refine wp_seq (wp_region_lit ?_)
  refine wp_pure HF HM rfl 1 [] [(0, .slice A l.length c)] (by kernel_rfl) ?_
  clear HF; intro a HF
  refine nil_then ?_
  refine wp_seq ?_
  refine wp_seq (wp_region_lit ?_)
  refine wp_pure HF HM rfl 3 [] [(0, .slice A l.length c), (7, .bool (decide (2147483647 < ((l.length : Nat) : Int))))] (by kernel_rfl) ?_
  clear HF; intro a HF
  refine nil_then ?_
  by_cases hc1 : 2147483647 < ((l.length : Nat) : Int)
  · rw [show decide (2147483647 < ((l.length : Nat) : Int)) = true from dec_t (hc1)] at HF
    refine wp_condT HF rfl ?_
    refine wp_seq (wp_region_lit ?_)
    refine wp_pure HF HM rfl 1 [] [(2, .bool false)] (by kernel_rfl) ?_
    clear HF; intro a HF
    refine nil_then ?_
    refine wp_ret ?_
    repeat (first | refine then_ret ?_ | refine inb_ret ?_)
    exact ret_one HF rfl rfl ⟨false, rfl, HM.below⟩
  rw [show decide (2147483647 < ((l.length : Nat) : Int)) = false from dec_f (hc1)] at HF
  refine wp_condF HF rfl ?_
  refine wp_skip ?_
  repeat (first | refine then_norm ?_ | refine inb_norm ?_)
  refine wp_seq ?_
  refine wp_seq (wp_region_lit ?_)
  refine wp_pure HF HM rfl 3 [] ((zzFits2_any_S0 A l c) ++ [(10, iI_ 0)]) (by kernel_rfl) ?_
  clear HF; intro a HF
  refine nil_then ?_
  refine wp_block ?_
  refine loop_ind (l.length) (fun i a w => (Mm [] w0 w [] ∧ Fr 18 a ((zzFits2_any_S0 A l c) ++ [(10, i6_ i)]))) ?_ ?_ ?_
  · exact ⟨HM, HF.sub ((zzFits2_any_S0 A l c) ++ [(10, iI_ 0)]) (by kernel_rfl)⟩
  · intro i a w KX hi hI KR
    obtain ⟨HM, HF⟩ := hI
    refine wp_seq (wp_region_lit ?_)
    refine wp_pure HF HM rfl 1 [] ((zzFits2_any_S0 A l c) ++ [(10, i6_ i), (11, .bool (decide (((i : Nat) : Int) < ((l.length : Nat) : Int))))]) (by kernel_rfl) ?_
    clear HF; intro a HF
    refine nil_then ?_
    refine wp_seq ?_
    rw [show decide (((i : Nat) : Int) < ((l.length : Nat) : Int)) = true from dec_t (by omega)] at HF
    refine wp_condT HF rfl ?_
    refine wp_skip ?_
    repeat (first | refine then_norm ?_ | refine inb_norm ?_)
    refine wp_seq ?_
    refine wp_block ?_
    refine wp_seq (wp_region_lit ?_)
    obtain ⟨m2, hm2⟩ : ∃ m, l[i]? = some m := ⟨_, List.getElem?_eq_getElem (by omega)⟩
    refine wp_run HF (by kernel_rfl) (.pointer (Option.map (fun q : Addr => q.add (i * 7)) A)) (by kernel_rfl) (run_index_row Tryd.underlying23 (by kernel_rfl) rfl i rfl rfl (by omega) (row_some_elem (row_elem (f := SegM.cells) (k := 7) (fun _ => rfl) (HM.row hr) i hm2) (Nat.zero_lt_succ _))) ?_
    clear HF; intro a HF; replace HF := HF.sub ((zzFits2_any_S0 A l c) ++ [(10, i6_ i), (12, .pointer (Option.map (fun q : Addr => q.add (i * 7)) A))]) (by kernel_rfl)
    refine wp_run HF (by kernel_rfl) (.agg #[u3_ m2.ty, u3_ m2.flags, u6_ m2.vaddr, u6_ m2.paddr, u6_ m2.memsz, u6_ m2.align, .slice m2.A m2.data.length m2.c]) (by kernel_rfl) (run_load_row rfl rfl (row_elem (f := SegM.cells) (k := 7) (fun _ => rfl) (HM.row hr) i hm2) (Nat.zero_lt_succ _) Tryd.underlying57 rfl (by kernel_rfl)) ?_
    clear HF; intro a HF; replace HF := HF.sub ((zzFits2_any_S0 A l c) ++ [(10, i6_ i), (13, .agg #[u3_ m2.ty, u3_ m2.flags, u6_ m2.vaddr, u6_ m2.paddr, u6_ m2.memsz, u6_ m2.align, .slice m2.A m2.data.length m2.c])]) (by kernel_rfl)
    obtain ⟨z6, hz6⟩ : ∃ z, w.heap.size = z := ⟨_, rfl⟩
    refine wp_sym HF HM hz6 2 [[0]] [(4, pt_ z6), (8, .slice A l.length c), (9, i6_ l.length), (10, i6_ i)] [(z6, .cells #[u3_ m2.ty, u3_ m2.flags, u6_ m2.vaddr, u6_ m2.paddr, u6_ m2.memsz, u6_ m2.align, .slice m2.A m2.data.length m2.c] 57 (0, 0))] (by kernel_rfl) ?_
    clear HF HM hz6; intro a w HF HM
    refine nil_then ?_
    refine wp_seq (wp_region_lit ?_)
    refine wp_pure HF HM rfl 1 [[0]] ((zzFits2_any_S0 A l c) ++ [(10, i6_ i), (14, .agg #[u3_ m2.ty, u3_ m2.flags, u6_ m2.vaddr, u6_ m2.paddr, u6_ m2.memsz, u6_ m2.align, .slice m2.A m2.data.length m2.c])]) (by kernel_rfl) ?_
    clear HF; intro a HF
    refine wp_call HF (by kernel_rfl) 76 #[.agg #[u3_ m2.ty, u3_ m2.flags, u6_ m2.vaddr, u6_ m2.paddr, u6_ m2.memsz, u6_ m2.align, .slice m2.A m2.data.length m2.c]] (by kernel_rfl) (fun w => by kernel_rfl) (Calls.mono (zzFits3_any m2 w) ?_)
    rintro _ w1 ⟨b3, rfl, hb⟩
    replace HM := HM.call hb
    clear hb
    refine ⟨_, rfl, ?_⟩; clear HF; intro a HF
    replace HF := HF.sub ((zzFits2_any_S0 A l c) ++ [(10, i6_ i), (15, .bool b3)]) (by kernel_rfl)
    rcases bool_cases2 b3 with hc4 | hc4
    · replace HF := Fr.sub (Fr.tell HF 15 rfl (congrArg Value.bool hc4)) ((zzFits2_any_S0 A l c) ++ [(10, i6_ i), (15, .bool false)]) (by kernel_rfl)
      refine wp_pure HF HM rfl 1 [] ((zzFits2_any_S0 A l c) ++ [(10, i6_ i), (16, .bool true)]) (by kernel_rfl) ?_
      clear HF; intro a HF
      refine nil_then ?_
      refine wp_condT HF rfl ?_
      refine wp_seq (wp_region_lit ?_)
      refine wp_pure HF HM rfl 1 [] [(2, .bool false)] (by kernel_rfl) ?_
      clear HF; intro a HF
      refine nil_then ?_
      refine wp_ret ?_
      repeat (first | refine then_ret ?_ | refine inb_ret ?_)
      exact ret_one HF rfl rfl ⟨false, rfl, HM.below⟩
    replace HF := Fr.sub (Fr.tell HF 15 rfl (congrArg Value.bool hc4)) ((zzFits2_any_S0 A l c) ++ [(10, i6_ i), (15, .bool true)]) (by kernel_rfl)
    refine wp_pure HF HM rfl 1 [] ((zzFits2_any_S0 A l c) ++ [(10, i6_ i), (16, .bool false)]) (by kernel_rfl) ?_
    clear HF; intro a HF
    refine nil_then ?_
    refine wp_condF HF rfl ?_
    refine wp_skip ?_
    repeat (first | refine then_norm ?_ | refine inb_norm ?_)
    refine wp_region_lit ?_
    refine wp_pure HF HM rfl 1 [] ((zzFits2_any_S0 A l c) ++ [(17, iI_ (IntKind.i64.wrap (((i : Nat) : Int) + 1)))]) (by kernel_rfl) ?_
    clear HF; intro a HF
    rw [show IntKind.i64.wrap (((i : Nat) : Int) + 1) = (((i + 1) : Nat) : Int) from (IntWalk.i64_in _ (by omega)).trans (by omega)] at HF
    refine wp_pure HF HM rfl 1 [] ((zzFits2_any_S0 A l c) ++ [(10, i6_ (i + 1))]) (by kernel_rfl) ?_
    clear HF; intro a HF
    refine wpList_nil ?_
    repeat (first | refine then_norm ?_ | refine inb_norm ?_)
    exact KR _ _ (⟨(HM.pick [] [] rfl (by decide)), HF.sub ((zzFits2_any_S0 A l c) ++ [(10, i6_ (i + 1))]) (by kernel_rfl)⟩)
  · intro a w KX hI
    obtain ⟨HM, HF⟩ := hI
    refine wp_seq (wp_region_lit ?_)
    refine wp_pure HF HM rfl 1 [] ((zzFits2_any_S0 A l c) ++ [(10, i6_ l.length), (11, .bool (decide (((l.length : Nat) : Int) < ((l.length : Nat) : Int))))]) (by kernel_rfl) ?_
    clear HF; intro a HF
    refine nil_then ?_
    refine wp_seq ?_
    rw [show decide (((l.length : Nat) : Int) < ((l.length : Nat) : Int)) = false from dec_f (by omega)] at HF
    refine wp_condF HF rfl ?_
    refine wp_exit ?_
    repeat (first | refine then_exit ?_ | refine inb_exit_other rfl ?_)
    refine inb_exit ?_
    repeat (first | refine then_norm ?_ | refine inb_norm ?_)
    refine wp_seq (wp_region_lit ?_)
    refine wp_pure HF HM rfl 1 [] [(2, .bool true)] (by kernel_rfl) ?_
    clear HF; intro a HF
    refine nil_then ?_
    refine wp_ret ?_
    repeat (first | refine then_ret ?_ | refine inb_ret ?_)
    exact ret_one HF rfl rfl ⟨true, rfl, HM.below⟩

abbrev zzFits4_any_S0 := fun (A : Option Addr) (l : List PartM) (c : Nat) => ([(8, .slice A l.length c), (9, i6_ l.length)] : Slots)
set_option maxRecDepth 100000 in
set_option maxHeartbeats 1000000 in
theorem zzFits4_any (l : List PartM) (A : Option Addr) (c : Nat) (w0 : World) (hr : Row w0 A (l.flatMap PartM.cells)) : Calls Tryd.prog 50 #[.slice A l.length c] w0 fun e w' => ∃ b, e = .returned (.bool b) ∧ Below w0.heap.size w0 w' := by
  obtain ⟨w, hw⟩ : ∃ w, w0 = w := ⟨_, rfl⟩
  have HM : Mm [] w0 w [] := hw ▸ Mm.start w0
  conv => arg 4; rw [hw]
  clear hw
  refine calls_start Tryd.func50 rfl Tryd.ntmps50 [(0, .slice A l.length c)] (by kernel_rfl) (Nat.le_of_ble_eq_true rfl) ?_
  intro a HF
  refine wp_seq (wp_region_lit ?_)
  refine wp_pure HF HM rfl 1 [] [(0, .slice A l.length c)] (by kernel_rfl) ?_
  clear HF; intro a HF
  refine nil_then ?_
  refine wp_seq ?_
  refine wp_seq (wp_region_lit ?_)
  refine wp_pure HF HM rfl 3 [] [(0, .slice A l.length c), (7, .bool (decide (2147483647 < ((l.length : Nat) : Int))))] (by kernel_rfl) ?_
  clear HF; intro a HF
  refine nil_then ?_
  by_cases hc1 : 2147483647 < ((l.length : Nat) : Int)
  · rw [show decide (2147483647 < ((l.length : Nat) : Int)) = true from dec_t (hc1)] at HF
    refine wp_condT HF rfl ?_
    refine wp_seq (wp_region_lit ?_)
    refine wp_pure HF HM rfl 1 [] [(2, .bool false)] (by kernel_rfl) ?_
    clear HF; intro a HF
    refine nil_then ?_
    refine wp_ret ?_
    repeat (first | refine then_ret ?_ | refine inb_ret ?_)
    exact ret_one HF rfl rfl ⟨false, rfl, HM.below⟩
  rw [show decide (2147483647 < ((l.length : Nat) : Int)) = false from dec_f (hc1)] at HF
  refine wp_condF HF rfl ?_
  refine wp_skip ?_
  repeat (first | refine then_norm ?_ | refine inb_norm ?_)
  refine wp_seq ?_
  refine wp_seq (wp_region_lit ?_)
  refine wp_pure HF HM rfl 3 [] ((zzFits4_any_S0 A l c) ++ [(10, iI_ 0)]) (by kernel_rfl) ?_
  clear HF; intro a HF
  refine nil_then ?_
  refine wp_block ?_
  refine loop_ind (l.length) (fun i a w => (Mm [] w0 w [] ∧ Fr 18 a ((zzFits4_any_S0 A l c) ++ [(10, i6_ i)]))) ?_ ?_ ?_
  · exact ⟨HM, HF.sub ((zzFits4_any_S0 A l c) ++ [(10, iI_ 0)]) (by kernel_rfl)⟩
  · intro i a w KX hi hI KR
    obtain ⟨HM, HF⟩ := hI
    refine wp_seq (wp_region_lit ?_)
    refine wp_pure HF HM rfl 1 [] ((zzFits4_any_S0 A l c) ++ [(10, i6_ i), (11, .bool (decide (((i : Nat) : Int) < ((l.length : Nat) : Int))))]) (by kernel_rfl) ?_
    clear HF; intro a HF
    refine nil_then ?_
    refine wp_seq ?_
    rw [show decide (((i : Nat) : Int) < ((l.length : Nat) : Int)) = true from dec_t (by omega)] at HF
    refine wp_condT HF rfl ?_
    refine wp_skip ?_
    repeat (first | refine then_norm ?_ | refine inb_norm ?_)
    refine wp_seq ?_
    refine wp_block ?_
    refine wp_seq (wp_region_lit ?_)
    obtain ⟨m2, hm2⟩ : ∃ m, l[i]? = some m := ⟨_, List.getElem?_eq_getElem (by omega)⟩
    refine wp_run HF (by kernel_rfl) (.pointer (Option.map (fun q : Addr => q.add (i * 10)) A)) (by kernel_rfl) (run_index_row Tryd.underlying24 (by kernel_rfl) rfl i rfl rfl (by omega) (row_some_elem (row_elem (f := PartM.cells) (k := 10) (fun _ => rfl) (HM.row hr) i hm2) (Nat.zero_lt_succ _))) ?_
    clear HF; intro a HF; replace HF := HF.sub ((zzFits4_any_S0 A l c) ++ [(10, i6_ i), (12, .pointer (Option.map (fun q : Addr => q.add (i * 10)) A))]) (by kernel_rfl)
    refine wp_run HF (by kernel_rfl) (.agg #[.string (⟨m2.name.toArray⟩), u3_ m2.ty, u3_ m2.flags, u6_ m2.addr, u3_ m2.link, u3_ m2.info, u6_ m2.align, u6_ m2.ent, u6_ m2.size, .slice m2.A m2.data.length m2.c]) (by kernel_rfl) (run_load_row rfl rfl (row_elem (f := PartM.cells) (k := 10) (fun _ => rfl) (HM.row hr) i hm2) (Nat.zero_lt_succ _) Tryd.underlying46 rfl (by kernel_rfl)) ?_
    clear HF; intro a HF; replace HF := HF.sub ((zzFits4_any_S0 A l c) ++ [(10, i6_ i), (13, .agg #[.string (⟨m2.name.toArray⟩), u3_ m2.ty, u3_ m2.flags, u6_ m2.addr, u3_ m2.link, u3_ m2.info, u6_ m2.align, u6_ m2.ent, u6_ m2.size, .slice m2.A m2.data.length m2.c])]) (by kernel_rfl)
    obtain ⟨z6, hz6⟩ : ∃ z, w.heap.size = z := ⟨_, rfl⟩
    refine wp_sym HF HM hz6 2 [[0]] [(4, pt_ z6), (8, .slice A l.length c), (9, i6_ l.length), (10, i6_ i)] [(z6, .cells #[.string (⟨m2.name.toArray⟩), u3_ m2.ty, u3_ m2.flags, u6_ m2.addr, u3_ m2.link, u3_ m2.info, u6_ m2.align, u6_ m2.ent, u6_ m2.size, .slice m2.A m2.data.length m2.c] 46 (0, 0))] (by kernel_rfl) ?_
    clear HF HM hz6; intro a w HF HM
    refine nil_then ?_
    refine wp_seq (wp_region_lit ?_)
    refine wp_pure HF HM rfl 1 [[0]] ((zzFits4_any_S0 A l c) ++ [(10, i6_ i), (14, .agg #[.string (⟨m2.name.toArray⟩), u3_ m2.ty, u3_ m2.flags, u6_ m2.addr, u3_ m2.link, u3_ m2.info, u6_ m2.align, u6_ m2.ent, u6_ m2.size, .slice m2.A m2.data.length m2.c])]) (by kernel_rfl) ?_
    clear HF; intro a HF
    refine wp_call HF (by kernel_rfl) 77 #[.agg #[.string (⟨m2.name.toArray⟩), u3_ m2.ty, u3_ m2.flags, u6_ m2.addr, u3_ m2.link, u3_ m2.info, u6_ m2.align, u6_ m2.ent, u6_ m2.size, .slice m2.A m2.data.length m2.c]] (by kernel_rfl) (fun w => by kernel_rfl) (Calls.mono (zzFits5_any m2 w) ?_)
    rintro _ w1 ⟨b3, rfl, hb⟩
    replace HM := HM.call hb
    clear hb
    refine ⟨_, rfl, ?_⟩; clear HF; intro a HF
    replace HF := HF.sub ((zzFits4_any_S0 A l c) ++ [(10, i6_ i), (15, .bool b3)]) (by kernel_rfl)
    rcases bool_cases2 b3 with hc4 | hc4
    · replace HF := Fr.sub (Fr.tell HF 15 rfl (congrArg Value.bool hc4)) ((zzFits4_any_S0 A l c) ++ [(10, i6_ i), (15, .bool false)]) (by kernel_rfl)
      refine wp_pure HF HM rfl 1 [] ((zzFits4_any_S0 A l c) ++ [(10, i6_ i), (16, .bool true)]) (by kernel_rfl) ?_
      clear HF; intro a HF
      refine nil_then ?_
      refine wp_condT HF rfl ?_
      refine wp_seq (wp_region_lit ?_)
      refine wp_pure HF HM rfl 1 [] [(2, .bool false)] (by kernel_rfl) ?_
      clear HF; intro a HF
      refine nil_then ?_
      refine wp_ret ?_
      repeat (first | refine then_ret ?_ | refine inb_ret ?_)
      exact ret_one HF rfl rfl ⟨false, rfl, HM.below⟩
    replace HF := Fr.sub (Fr.tell HF 15 rfl (congrArg Value.bool hc4)) ((zzFits4_any_S0 A l c) ++ [(10, i6_ i), (15, .bool true)]) (by kernel_rfl)
    refine wp_pure HF HM rfl 1 [] ((zzFits4_any_S0 A l c) ++ [(10, i6_ i), (16, .bool false)]) (by kernel_rfl) ?_
    clear HF; intro a HF
    refine nil_then ?_
    refine wp_condF HF rfl ?_
    refine wp_skip ?_
    repeat (first | refine then_norm ?_ | refine inb_norm ?_)
    refine wp_region_lit ?_
    refine wp_pure HF HM rfl 1 [] ((zzFits4_any_S0 A l c) ++ [(17, iI_ (IntKind.i64.wrap (((i : Nat) : Int) + 1)))]) (by kernel_rfl) ?_
    clear HF; intro a HF
    rw [show IntKind.i64.wrap (((i : Nat) : Int) + 1) = (((i + 1) : Nat) : Int) from (IntWalk.i64_in _ (by omega)).trans (by omega)] at HF
    refine wp_pure HF HM rfl 1 [] ((zzFits4_any_S0 A l c) ++ [(10, i6_ (i + 1))]) (by kernel_rfl) ?_
    clear HF; intro a HF
    refine wpList_nil ?_
    repeat (first | refine then_norm ?_ | refine inb_norm ?_)
    exact KR _ _ (⟨(HM.pick [] [] rfl (by decide)), HF.sub ((zzFits4_any_S0 A l c) ++ [(10, i6_ (i + 1))]) (by kernel_rfl)⟩)
  · intro a w KX hI
    obtain ⟨HM, HF⟩ := hI
    refine wp_seq (wp_region_lit ?_)
    refine wp_pure HF HM rfl 1 [] ((zzFits4_any_S0 A l c) ++ [(10, i6_ l.length), (11, .bool (decide (((l.length : Nat) : Int) < ((l.length : Nat) : Int))))]) (by kernel_rfl) ?_
    clear HF; intro a HF
    refine nil_then ?_
    refine wp_seq ?_
    rw [show decide (((l.length : Nat) : Int) < ((l.length : Nat) : Int)) = false from dec_f (by omega)] at HF
    refine wp_condF HF rfl ?_
    refine wp_exit ?_
    repeat (first | refine then_exit ?_ | refine inb_exit_other rfl ?_)
    refine inb_exit ?_
    repeat (first | refine then_norm ?_ | refine inb_norm ?_)
    refine wp_seq (wp_region_lit ?_)
    refine wp_pure HF HM rfl 1 [] [(2, .bool true)] (by kernel_rfl) ?_
    clear HF; intro a HF
    refine nil_then ?_
    refine wp_ret ?_
    repeat (first | refine then_ret ?_ | refine inb_ret ?_)
    exact ret_one HF rfl rfl ⟨true, rfl, HM.below⟩

set_option maxRecDepth 100000 in
set_option maxHeartbeats 1000000 in
theorem zzFits1_any (x : ImgM) (w0 : World) (h : x.At w0) : Calls Tryd.prog 20 #[x.val] w0 fun e w' => ∃ b, e = .returned (.bool b) ∧ Below w0.heap.size w0 w' := by
  obtain ⟨w, hw⟩ : ∃ w, w0 = w := ⟨_, rfl⟩
  have HM : Mm [] w0 w [] := hw ▸ Mm.start w0
  conv => arg 4; rw [hw]
  clear hw
  refine calls_start Tryd.func20 rfl Tryd.ntmps20 [(0, .agg #[.bool x.wide, .bool x.big, u8_ x.abi, u8_ x.abiv, .int .i64 x.ty, .int .i64 x.machine, u6_ x.entry, .slice x.A x.ss.length x.c, .slice x.B x.ps.length x.d])] (by kernel_rfl) (Nat.le_of_ble_eq_true rfl) ?_
  intro a HF
  refine wp_seq (wp_region_lit ?_)
  obtain ⟨z1, hz1⟩ : ∃ z, w.heap.size = z := ⟨_, rfl⟩
  refine wp_sym HF HM hz1 2 [] [(1, pt_ z1)] [(z1, .cells #[.bool x.wide, .bool x.big, u8_ x.abi, u8_ x.abiv, .int .i64 x.ty, .int .i64 x.machine, u6_ x.entry, .slice x.A x.ss.length x.c, .slice x.B x.ps.length x.d] 26 (0, 0))] (by kernel_rfl) ?_
  clear HF HM hz1; intro a w HF HM
  refine nil_then ?_
  refine wp_seq ?_
  refine wp_seq (wp_region_lit ?_)
  refine wp_pure HF HM rfl 2 [[0]] [(1, pt_ z1), (4, .slice x.A x.ss.length x.c)] (by kernel_rfl) ?_
  clear HF; intro a HF
  refine wp_call HF (by kernel_rfl) 49 #[.slice x.A x.ss.length x.c] (by kernel_rfl) (fun w => by kernel_rfl) (Calls.mono (zzFits2_any x.ss x.A x.c w (HM.row h.segs)) ?_)
  rintro _ w1 ⟨b1, rfl, hb⟩
  replace HM := HM.call hb
  clear hb
  refine ⟨_, rfl, ?_⟩; clear HF; intro a HF
  replace HF := HF.sub [(1, pt_ z1), (5, .bool b1)] (by kernel_rfl)
  rcases bool_cases2 b1 with hc2 | hc2
  · replace HF := Fr.sub (Fr.tell HF 5 rfl (congrArg Value.bool hc2)) [(1, pt_ z1), (5, .bool false)] (by kernel_rfl)
    refine wp_pure HF HM rfl 1 [] [(1, pt_ z1), (6, .bool true)] (by kernel_rfl) ?_
    clear HF; intro a HF
    refine nil_then ?_
    refine wp_condT HF rfl ?_
    refine wp_seq (wp_region_lit ?_)
    refine wp_pure HF HM rfl 1 [] [(2, .bool false)] (by kernel_rfl) ?_
    clear HF; intro a HF
    refine nil_then ?_
    refine wp_ret ?_
    repeat (first | refine then_ret ?_ | refine inb_ret ?_)
    exact ret_one HF rfl rfl ⟨false, rfl, HM.below⟩
  replace HF := Fr.sub (Fr.tell HF 5 rfl (congrArg Value.bool hc2)) [(1, pt_ z1), (5, .bool true)] (by kernel_rfl)
  refine wp_pure HF HM rfl 1 [] [(1, pt_ z1), (6, .bool false)] (by kernel_rfl) ?_
  clear HF; intro a HF
  refine nil_then ?_
  refine wp_condF HF rfl ?_
  refine wp_skip ?_
  repeat (first | refine then_norm ?_ | refine inb_norm ?_)
  refine wp_seq ?_
  refine wp_seq (wp_region_lit ?_)
  refine wp_pure HF HM rfl 2 [[0]] [(8, .slice x.B x.ps.length x.d)] (by kernel_rfl) ?_
  clear HF; intro a HF
  refine wp_call HF (by kernel_rfl) 50 #[.slice x.B x.ps.length x.d] (by kernel_rfl) (fun w => by kernel_rfl) (Calls.mono (zzFits4_any x.ps x.B x.d w1 (HM.row h.parts)) ?_)
  rintro _ w2 ⟨b3, rfl, hb⟩
  replace HM := HM.call hb
  clear hb
  refine ⟨_, rfl, ?_⟩; clear HF; intro a HF
  replace HF := HF.sub [(9, .bool b3)] (by kernel_rfl)
  rcases bool_cases2 b3 with hc4 | hc4
  · replace HF := Fr.sub (Fr.tell HF 9 rfl (congrArg Value.bool hc4)) [(9, .bool false)] (by kernel_rfl)
    refine wp_pure HF HM rfl 1 [] [(10, .bool true)] (by kernel_rfl) ?_
    clear HF; intro a HF
    refine nil_then ?_
    refine wp_condT HF rfl ?_
    refine wp_seq (wp_region_lit ?_)
    refine wp_pure HF HM rfl 1 [] [(2, .bool false)] (by kernel_rfl) ?_
    clear HF; intro a HF
    refine nil_then ?_
    refine wp_ret ?_
    repeat (first | refine then_ret ?_ | refine inb_ret ?_)
    exact ret_one HF rfl rfl ⟨false, rfl, HM.below⟩
  replace HF := Fr.sub (Fr.tell HF 9 rfl (congrArg Value.bool hc4)) [(9, .bool true)] (by kernel_rfl)
  refine wp_pure HF HM rfl 1 [] [(10, .bool false)] (by kernel_rfl) ?_
  clear HF; intro a HF
  refine nil_then ?_
  refine wp_condF HF rfl ?_
  refine wp_skip ?_
  repeat (first | refine then_norm ?_ | refine inb_norm ?_)
  refine wp_seq (wp_region_lit ?_)
  refine wp_pure HF HM rfl 1 [] [(2, .bool true)] (by kernel_rfl) ?_
  clear HF; intro a HF
  refine nil_then ?_
  refine wp_ret ?_
  repeat (first | refine then_ret ?_ | refine inb_ret ?_)
  exact ret_one HF rfl rfl ⟨true, rfl, HM.below⟩

end Go.Proofs.YtdgehpocmfjbiaaDoor
namespace Go.Proofs.YtdgehpocmfjbiaaDoor
open Go.RowKit

abbrev isImage_any_B0 := fun z1 (x : ImgM) => ((z1, .cells #[.bool x.wide, .bool x.big, u8_ x.abi, u8_ x.abiv, .int .i64 x.ty, .int .i64 x.machine, u6_ x.entry, .slice x.A x.ss.length x.c, .slice x.B x.ps.length x.d] 26 (0, 0)) : Nat × Obj)
abbrev isImage_any_S1 := fun z1 (x : ImgM) => ([(1, pt_ z1), (46, .slice x.A x.ss.length x.c), (47, i6_ x.ss.length)] : Slots)
abbrev isImage_any_S2 := fun z1 z24 (x : ImgM) i => ([(1, pt_ z1), (4, pt_ z24), (46, .slice x.A x.ss.length x.c), (47, i6_ x.ss.length), (48, i6_ i)] : Slots)
abbrev isImage_any_S3 := fun z1 (x : ImgM) => ([(1, pt_ z1), (77, .slice x.B x.ps.length x.d), (78, i6_ x.ps.length)] : Slots)
abbrev isImage_any_B4 := fun z38 (m12 : PartM) => ((z38, .cells #[.string (⟨m12.name.toArray⟩), u3_ m12.ty, u3_ m12.flags, u6_ m12.addr, u3_ m12.link, u3_ m12.info, u6_ m12.align, u6_ m12.ent, u6_ m12.size, .slice m12.A m12.data.length m12.c] 46 (0, 0)) : Nat × Obj)
abbrev isImage_any_S5 := fun z1 z38 (x : ImgM) i => ([(1, pt_ z1), (6, pt_ z38), (77, .slice x.B x.ps.length x.d), (78, i6_ x.ps.length), (79, i6_ i)] : Slots)
set_option maxRecDepth 100000 in
set_option maxHeartbeats 1000000 in
theorem isImage_any (x : ImgM) (w0 : World) (h : x.At w0) : Calls Tryd.prog 22 #[x.val] w0 fun e w' => ∃ b, e = .returned (.bool b) ∧ Below w0.heap.size w0 w' ∧ (b = true → x.Ok ∧ x.ps.length ≤ 100) := by
  obtain ⟨w, hw⟩ : ∃ w, w0 = w := ⟨_, rfl⟩
  have HM : Mm [] w0 w [] := hw ▸ Mm.start w0
  conv => arg 4; rw [hw]
  clear hw
  refine calls_start Tryd.func22 rfl Tryd.ntmps22 [(0, .agg #[.bool x.wide, .bool x.big, u8_ x.abi, u8_ x.abiv, .int .i64 x.ty, .int .i64 x.machine, u6_ x.entry, .slice x.A x.ss.length x.c, .slice x.B x.ps.length x.d])] (by kernel_rfl) (Nat.le_of_ble_eq_true rfl) ?_
  intro a HF
  refine wp_seq (wp_region_lit ?_)
  obtain ⟨z1, hz1⟩ : ∃ z, w.heap.size = z := ⟨_, rfl⟩
  refine wp_sym HF HM hz1 2 [] [(1, pt_ z1)] [isImage_any_B0 z1 x] (by kernel_rfl) ?_
  clear HF HM hz1; intro a w HF HM
  refine nil_then ?_
  refine wp_seq ?_
  refine wp_seq (wp_region_lit ?_)
  refine wp_pure HF HM rfl 4 [[0]] [(1, pt_ z1), (10, .bool (decide (x.ty < 0)))] (by kernel_rfl) ?_
  clear HF; intro a HF
  by_cases hc1 : x.ty < 0
  · rw [show decide (x.ty < 0) = true from dec_t (hc1)] at HF
    refine wp_pure HF HM rfl 34 [] [(1, pt_ z1), (44, .bool true)] (by kernel_rfl) ?_
    clear HF; intro a HF
    refine nil_then ?_
    refine wp_condT HF rfl ?_
    refine wp_seq (wp_region_lit ?_)
    refine wp_pure HF HM rfl 1 [] [(2, .bool false)] (by kernel_rfl) ?_
    clear HF; intro a HF
    refine nil_then ?_
    refine wp_ret ?_
    repeat (first | refine then_ret ?_ | refine inb_ret ?_)
    exact ret_one HF rfl rfl ⟨false, rfl, HM.below, fun h => by cases h⟩
  rw [show decide (x.ty < 0) = false from dec_f (hc1)] at HF
  refine wp_pure HF HM rfl 5 [[0]] [(1, pt_ z1), (15, .bool (decide (65535 < x.ty)))] (by kernel_rfl) ?_
  clear HF; intro a HF
  by_cases hc2 : 65535 < x.ty
  · rw [show decide (65535 < x.ty) = true from dec_t (hc2)] at HF
    refine wp_pure HF HM rfl 29 [] [(1, pt_ z1), (44, .bool true)] (by kernel_rfl) ?_
    clear HF; intro a HF
    refine nil_then ?_
    refine wp_condT HF rfl ?_
    refine wp_seq (wp_region_lit ?_)
    refine wp_pure HF HM rfl 1 [] [(2, .bool false)] (by kernel_rfl) ?_
    clear HF; intro a HF
    refine nil_then ?_
    refine wp_ret ?_
    repeat (first | refine then_ret ?_ | refine inb_ret ?_)
    exact ret_one HF rfl rfl ⟨false, rfl, HM.below, fun h => by cases h⟩
  rw [show decide (65535 < x.ty) = false from dec_f (hc2)] at HF
  refine wp_pure HF HM rfl 5 [[0]] [(1, pt_ z1), (20, .bool (decide (x.machine < 0)))] (by kernel_rfl) ?_
  clear HF; intro a HF
  by_cases hc3 : x.machine < 0
  · rw [show decide (x.machine < 0) = true from dec_t (hc3)] at HF
    refine wp_pure HF HM rfl 24 [] [(1, pt_ z1), (44, .bool true)] (by kernel_rfl) ?_
    clear HF; intro a HF
    refine nil_then ?_
    refine wp_condT HF rfl ?_
    refine wp_seq (wp_region_lit ?_)
    refine wp_pure HF HM rfl 1 [] [(2, .bool false)] (by kernel_rfl) ?_
    clear HF; intro a HF
    refine nil_then ?_
    refine wp_ret ?_
    repeat (first | refine then_ret ?_ | refine inb_ret ?_)
    exact ret_one HF rfl rfl ⟨false, rfl, HM.below, fun h => by cases h⟩
  rw [show decide (x.machine < 0) = false from dec_f (hc3)] at HF
  refine wp_pure HF HM rfl 5 [[0]] [(1, pt_ z1), (25, .bool (decide (65535 < x.machine)))] (by kernel_rfl) ?_
  clear HF; intro a HF
  by_cases hc4 : 65535 < x.machine
  · rw [show decide (65535 < x.machine) = true from dec_t (hc4)] at HF
    refine wp_pure HF HM rfl 19 [] [(1, pt_ z1), (44, .bool true)] (by kernel_rfl) ?_
    clear HF; intro a HF
    refine nil_then ?_
    refine wp_condT HF rfl ?_
    refine wp_seq (wp_region_lit ?_)
    refine wp_pure HF HM rfl 1 [] [(2, .bool false)] (by kernel_rfl) ?_
    clear HF; intro a HF
    refine nil_then ?_
    refine wp_ret ?_
    repeat (first | refine then_ret ?_ | refine inb_ret ?_)
    exact ret_one HF rfl rfl ⟨false, rfl, HM.below, fun h => by cases h⟩
  rw [show decide (65535 < x.machine) = false from dec_f (hc4)] at HF
  obtain ⟨z14, hz14⟩ : ∃ z, w.heap.size = z := ⟨_, rfl⟩
  refine wp_sym HF HM hz14 4 [[0], [0]] [(1, pt_ z1), (25, .bool false), (26, .agg #[.bool x.wide, .bool x.big, u8_ x.abi, u8_ x.abiv, .int .i64 x.ty, .int .i64 x.machine, u6_ x.entry, .slice x.A x.ss.length x.c, .slice x.B x.ps.length x.d]), (29, sl_ z14 1 1)] [(z14, .cells #[u6_ x.entry] 22 (0, 0)), isImage_any_B0 z1 x] (by kernel_rfl) ?_
  clear HF HM hz14; intro a w HF HM
  refine wp_call HF (by kernel_rfl) 52 #[.agg #[.bool x.wide, .bool x.big, u8_ x.abi, u8_ x.abiv, .int .i64 x.ty, .int .i64 x.machine, u6_ x.entry, .slice x.A x.ss.length x.c, .slice x.B x.ps.length x.d], sl_ z14 1 1] (by kernel_rfl) (fun w => by kernel_rfl) (Calls.mono (fits_any x.wide _ _ _ _ _ _ _ _ [x.entry] _ _ _ rfl (by simp) w (HM.rowAt (i := 0) rfl)) ?_)
  rintro _ w1 ⟨rfl, hb⟩
  replace HM := HM.call hb
  clear hb
  refine ⟨_, rfl, ?_⟩; clear HF; intro a HF
  replace HF := HF.sub [(1, pt_ z1), (25, .bool false), (30, .bool (fitsB x.wide [x.entry]))] (by kernel_rfl)
  rcases bool_cases2 (fitsB x.wide [x.entry]) with hc5 | hc5
  · replace HF := Fr.sub (Fr.tell HF 30 rfl (congrArg Value.bool hc5)) [(1, pt_ z1), (25, .bool false), (30, .bool false)] (by kernel_rfl)
    refine wp_pure HF HM rfl 14 [] [(1, pt_ z1), (44, .bool true)] (by kernel_rfl) ?_
    clear HF; intro a HF
    refine nil_then ?_
    refine wp_condT HF rfl ?_
    refine wp_seq (wp_region_lit ?_)
    refine wp_pure HF HM rfl 1 [] [(2, .bool false)] (by kernel_rfl) ?_
    clear HF; intro a HF
    refine nil_then ?_
    refine wp_ret ?_
    repeat (first | refine then_ret ?_ | refine inb_ret ?_)
    exact ret_one HF rfl rfl ⟨false, rfl, HM.below, fun h => by cases h⟩
  replace HF := Fr.sub (Fr.tell HF 30 rfl (congrArg Value.bool hc5)) [(1, pt_ z1), (25, .bool false), (30, .bool true)] (by kernel_rfl)
  refine wp_pure HF HM rfl 9 [[0]] [(1, pt_ z1), (39, .bool (decide (100 < ((x.ss.length : Nat) : Int))))] (by kernel_rfl) ?_
  clear HF; intro a HF
  by_cases hc6 : 100 < ((x.ss.length : Nat) : Int)
  · rw [show decide (100 < ((x.ss.length : Nat) : Int)) = true from dec_t (hc6)] at HF
    refine wp_pure HF HM rfl 5 [] [(1, pt_ z1), (44, .bool true)] (by kernel_rfl) ?_
    clear HF; intro a HF
    refine nil_then ?_
    refine wp_condT HF rfl ?_
    refine wp_seq (wp_region_lit ?_)
    refine wp_pure HF HM rfl 1 [] [(2, .bool false)] (by kernel_rfl) ?_
    clear HF; intro a HF
    refine nil_then ?_
    refine wp_ret ?_
    repeat (first | refine then_ret ?_ | refine inb_ret ?_)
    exact ret_one HF rfl rfl ⟨false, rfl, HM.below, fun h => by cases h⟩
  rw [show decide (100 < ((x.ss.length : Nat) : Int)) = false from dec_f (hc6)] at HF
  refine wp_pure HF HM rfl 5 [[0]] [(1, pt_ z1), (44, .bool (decide (100 < ((x.ps.length : Nat) : Int))))] (by kernel_rfl) ?_
  clear HF; intro a HF
  refine nil_then ?_
  by_cases hc7 : 100 < ((x.ps.length : Nat) : Int)
  · rw [show decide (100 < ((x.ps.length : Nat) : Int)) = true from dec_t (hc7)] at HF
    refine wp_condT HF rfl ?_
    refine wp_seq (wp_region_lit ?_)
    refine wp_pure HF HM rfl 1 [] [(2, .bool false)] (by kernel_rfl) ?_
    clear HF; intro a HF
    refine nil_then ?_
    refine wp_ret ?_
    repeat (first | refine then_ret ?_ | refine inb_ret ?_)
    exact ret_one HF rfl rfl ⟨false, rfl, HM.below, fun h => by cases h⟩
  rw [show decide (100 < ((x.ps.length : Nat) : Int)) = false from dec_f (hc7)] at HF
  refine wp_condF HF rfl ?_
  refine wp_skip ?_
  repeat (first | refine then_norm ?_ | refine inb_norm ?_)
  refine wp_seq ?_
  refine wp_seq (wp_region_lit ?_)
  refine wp_pure HF HM rfl 4 [[0]] ((isImage_any_S1 z1 x) ++ [(48, iI_ 0)]) (by kernel_rfl) ?_
  clear HF; intro a HF
  refine nil_then ?_
  refine wp_block ?_
  replace HM := HM.pick [1] [isImage_any_B0 z1 x] rfl (by decide)
  refine loop_ind (x.ss.length) (fun i a w => ((∀ j m, j < i → x.ss[j]? = some m → SegM.Ok x.wide m) ∧ Mm [] w0 w [isImage_any_B0 z1 x] ∧ Fr 149 a ((isImage_any_S1 z1 x) ++ [(48, i6_ i)]))) ?_ ?_ ?_
  · exact ⟨fun j m hj => absurd hj (Nat.not_lt_zero j), HM, HF.sub ((isImage_any_S1 z1 x) ++ [(48, iI_ 0)]) (by kernel_rfl)⟩
  · intro i a w KX hi hI KR
    obtain ⟨hsegs, HM, HF⟩ := hI
    refine wp_seq (wp_region_lit ?_)
    refine wp_pure HF HM rfl 1 [] ((isImage_any_S1 z1 x) ++ [(48, i6_ i), (49, .bool (decide (((i : Nat) : Int) < ((x.ss.length : Nat) : Int))))]) (by kernel_rfl) ?_
    clear HF; intro a HF
    refine nil_then ?_
    refine wp_seq ?_
    rw [show decide (((i : Nat) : Int) < ((x.ss.length : Nat) : Int)) = true from dec_t (by omega)] at HF
    refine wp_condT HF rfl ?_
    refine wp_skip ?_
    repeat (first | refine then_norm ?_ | refine inb_norm ?_)
    refine wp_seq ?_
    refine wp_block ?_
    refine wp_seq (wp_region_lit ?_)
    obtain ⟨m8, hm8⟩ : ∃ m, x.ss[i]? = some m := ⟨_, List.getElem?_eq_getElem (by omega)⟩
    refine wp_run HF (by kernel_rfl) (.pointer (Option.map (fun q : Addr => q.add (i * 7)) x.A)) (by kernel_rfl) (run_index_row Tryd.underlying23 (by kernel_rfl) rfl i rfl rfl (by omega) (row_some_elem (row_elem (f := SegM.cells) (k := 7) (fun _ => rfl) (HM.row h.segs) i hm8) (Nat.zero_lt_succ _))) ?_
    clear HF; intro a HF; replace HF := HF.sub ((isImage_any_S1 z1 x) ++ [(48, i6_ i), (50, .pointer (Option.map (fun q : Addr => q.add (i * 7)) x.A))]) (by kernel_rfl)
    refine wp_run HF (by kernel_rfl) (.agg #[u3_ m8.ty, u3_ m8.flags, u6_ m8.vaddr, u6_ m8.paddr, u6_ m8.memsz, u6_ m8.align, .slice m8.A m8.data.length m8.c]) (by kernel_rfl) (run_load_row rfl rfl (row_elem (f := SegM.cells) (k := 7) (fun _ => rfl) (HM.row h.segs) i hm8) (Nat.zero_lt_succ _) Tryd.underlying57 rfl (by kernel_rfl)) ?_
    clear HF; intro a HF; replace HF := HF.sub ((isImage_any_S1 z1 x) ++ [(48, i6_ i), (51, .agg #[u3_ m8.ty, u3_ m8.flags, u6_ m8.vaddr, u6_ m8.paddr, u6_ m8.memsz, u6_ m8.align, .slice m8.A m8.data.length m8.c])]) (by kernel_rfl)
    obtain ⟨z24, hz24⟩ : ∃ z, w.heap.size = z := ⟨_, rfl⟩
    refine wp_sym HF HM hz24 2 [[1]] (isImage_any_S2 z1 z24 x i) [(z24, .cells #[u3_ m8.ty, u3_ m8.flags, u6_ m8.vaddr, u6_ m8.paddr, u6_ m8.memsz, u6_ m8.align, .slice m8.A m8.data.length m8.c] 57 (0, 0)), isImage_any_B0 z1 x] (by kernel_rfl) ?_
    clear HF HM hz24; intro a w HF HM
    refine nil_then ?_
    refine wp_seq (wp_region_lit ?_)
    obtain ⟨z25, hz25⟩ : ∃ z, w.heap.size = z := ⟨_, rfl⟩
    refine wp_sym HF HM hz25 10 [[0], [1], [1], [1], [1]] ((isImage_any_S2 z1 z24 x i) ++ [(52, .agg #[.bool x.wide, .bool x.big, u8_ x.abi, u8_ x.abiv, .int .i64 x.ty, .int .i64 x.machine, u6_ x.entry, .slice x.A x.ss.length x.c, .slice x.B x.ps.length x.d]), (61, sl_ z25 4 4)]) [(z25, .cells #[u6_ m8.vaddr, u6_ m8.paddr, u6_ m8.memsz, u6_ m8.align] 22 (0, 0)), (z24, .cells #[u3_ m8.ty, u3_ m8.flags, u6_ m8.vaddr, u6_ m8.paddr, u6_ m8.memsz, u6_ m8.align, .slice m8.A m8.data.length m8.c] 57 (0, 0)), isImage_any_B0 z1 x] (by kernel_rfl) ?_
    clear HF HM hz25; intro a w HF HM
    refine wp_call HF (by kernel_rfl) 52 #[.agg #[.bool x.wide, .bool x.big, u8_ x.abi, u8_ x.abiv, .int .i64 x.ty, .int .i64 x.machine, u6_ x.entry, .slice x.A x.ss.length x.c, .slice x.B x.ps.length x.d], sl_ z25 4 4] (by kernel_rfl) (fun w => by kernel_rfl) (Calls.mono (fits_any x.wide _ _ _ _ _ _ _ _ [m8.vaddr, m8.paddr, m8.memsz, m8.align] _ _ _ rfl (by simp) w (HM.rowAt (i := 0) rfl)) ?_)
    rintro _ w2 ⟨rfl, hb⟩
    replace HM := HM.call hb
    clear hb
    refine ⟨_, rfl, ?_⟩; clear HF; intro a HF
    replace HF := HF.sub ((isImage_any_S2 z1 z24 x i) ++ [(62, .bool (fitsB x.wide [m8.vaddr, m8.paddr, m8.memsz, m8.align]))]) (by kernel_rfl)
    rcases bool_cases2 (fitsB x.wide [m8.vaddr, m8.paddr, m8.memsz, m8.align]) with hc9 | hc9
    · replace HF := Fr.sub (Fr.tell HF 62 rfl (congrArg Value.bool hc9)) ((isImage_any_S2 z1 z24 x i) ++ [(62, .bool false)]) (by kernel_rfl)
      refine wp_pure HF HM rfl 12 [] ((isImage_any_S1 z1 x) ++ [(48, i6_ i), (74, .bool true)]) (by kernel_rfl) ?_
      clear HF; intro a HF
      refine nil_then ?_
      refine wp_condT HF rfl ?_
      refine wp_seq (wp_region_lit ?_)
      refine wp_pure HF HM rfl 1 [] [(2, .bool false)] (by kernel_rfl) ?_
      clear HF; intro a HF
      refine nil_then ?_
      refine wp_ret ?_
      repeat (first | refine then_ret ?_ | refine inb_ret ?_)
      exact ret_one HF rfl rfl ⟨false, rfl, HM.below, fun h => by cases h⟩
    replace HF := Fr.sub (Fr.tell HF 62 rfl (congrArg Value.bool hc9)) ((isImage_any_S2 z1 z24 x i) ++ [(62, .bool true)]) (by kernel_rfl)
    refine wp_pure HF HM rfl 7 [[1]] ((isImage_any_S2 z1 z24 x i) ++ [(69, .bool (decide (2147483648 ≤ ((m8.ty : Nat) : Int))))]) (by kernel_rfl) ?_
    clear HF; intro a HF
    by_cases hc10 : 2147483648 ≤ ((m8.ty : Nat) : Int)
    · rw [show decide (2147483648 ≤ ((m8.ty : Nat) : Int)) = true from dec_t (hc10)] at HF
      refine wp_pure HF HM rfl 5 [] ((isImage_any_S1 z1 x) ++ [(48, i6_ i), (74, .bool true)]) (by kernel_rfl) ?_
      clear HF; intro a HF
      refine nil_then ?_
      refine wp_condT HF rfl ?_
      refine wp_seq (wp_region_lit ?_)
      refine wp_pure HF HM rfl 1 [] [(2, .bool false)] (by kernel_rfl) ?_
      clear HF; intro a HF
      refine nil_then ?_
      refine wp_ret ?_
      repeat (first | refine then_ret ?_ | refine inb_ret ?_)
      exact ret_one HF rfl rfl ⟨false, rfl, HM.below, fun h => by cases h⟩
    rw [show decide (2147483648 ≤ ((m8.ty : Nat) : Int)) = false from dec_f (hc10)] at HF
    refine wp_pure HF HM rfl 5 [[1]] ((isImage_any_S1 z1 x) ++ [(48, i6_ i), (74, .bool (decide (65536 < ((m8.data.length : Nat) : Int))))]) (by kernel_rfl) ?_
    clear HF; intro a HF
    refine nil_then ?_
    by_cases hc11 : 65536 < ((m8.data.length : Nat) : Int)
    · rw [show decide (65536 < ((m8.data.length : Nat) : Int)) = true from dec_t (hc11)] at HF
      refine wp_condT HF rfl ?_
      refine wp_seq (wp_region_lit ?_)
      refine wp_pure HF HM rfl 1 [] [(2, .bool false)] (by kernel_rfl) ?_
      clear HF; intro a HF
      refine nil_then ?_
      refine wp_ret ?_
      repeat (first | refine then_ret ?_ | refine inb_ret ?_)
      exact ret_one HF rfl rfl ⟨false, rfl, HM.below, fun h => by cases h⟩
    rw [show decide (65536 < ((m8.data.length : Nat) : Int)) = false from dec_f (hc11)] at HF
    refine wp_condF HF rfl ?_
    refine wp_skip ?_
    repeat (first | refine then_norm ?_ | refine inb_norm ?_)
    refine wp_region_lit ?_
    refine wp_pure HF HM rfl 1 [] ((isImage_any_S1 z1 x) ++ [(75, iI_ (IntKind.i64.wrap (((i : Nat) : Int) + 1)))]) (by kernel_rfl) ?_
    clear HF; intro a HF
    rw [show IntKind.i64.wrap (((i : Nat) : Int) + 1) = (((i + 1) : Nat) : Int) from (IntWalk.i64_in _ (by omega)).trans (by omega)] at HF
    refine wp_pure HF HM rfl 1 [] ((isImage_any_S1 z1 x) ++ [(48, i6_ (i + 1))]) (by kernel_rfl) ?_
    clear HF; intro a HF
    refine wpList_nil ?_
    repeat (first | refine then_norm ?_ | refine inb_norm ?_)
    exact KR _ _ (⟨fun j m hj hm => (Nat.lt_or_ge j i).elim (fun g => hsegs j m g hm) (fun g => by obtain rfl : j = i := (by omega); rw [hm8] at hm; obtain rfl := Option.some.inj hm; exact ⟨by assumption, by omega, by omega⟩), (HM.pick [2] [isImage_any_B0 z1 x] rfl (by decide)), HF.sub ((isImage_any_S1 z1 x) ++ [(48, i6_ (i + 1))]) (by kernel_rfl)⟩)
  · intro a w KX hI
    obtain ⟨hsegs, HM, HF⟩ := hI
    refine wp_seq (wp_region_lit ?_)
    refine wp_pure HF HM rfl 1 [] ((isImage_any_S1 z1 x) ++ [(48, i6_ x.ss.length), (49, .bool (decide (((x.ss.length : Nat) : Int) < ((x.ss.length : Nat) : Int))))]) (by kernel_rfl) ?_
    clear HF; intro a HF
    refine nil_then ?_
    refine wp_seq ?_
    rw [show decide (((x.ss.length : Nat) : Int) < ((x.ss.length : Nat) : Int)) = false from dec_f (by omega)] at HF
    refine wp_condF HF rfl ?_
    refine wp_exit ?_
    repeat (first | refine then_exit ?_ | refine inb_exit_other rfl ?_)
    refine inb_exit ?_
    repeat (first | refine then_norm ?_ | refine inb_norm ?_)
    refine wp_seq ?_
    refine wp_seq (wp_region_lit ?_)
    refine wp_pure HF HM rfl 4 [[0]] ((isImage_any_S3 z1 x) ++ [(79, iI_ 0)]) (by kernel_rfl) ?_
    clear HF; intro a HF
    refine nil_then ?_
    refine wp_block ?_
    refine loop_ind (x.ps.length) (fun i a w => ((∀ j m, j < i → x.ps[j]? = some m → PartM.Ok x.wide m) ∧ Mm [] w0 w [isImage_any_B0 z1 x] ∧ Fr 149 a ((isImage_any_S3 z1 x) ++ [(79, i6_ i)]))) ?_ ?_ ?_
    · exact ⟨fun j m hj => absurd hj (Nat.not_lt_zero j), HM, HF.sub ((isImage_any_S3 z1 x) ++ [(79, iI_ 0)]) (by kernel_rfl)⟩
    · intro i a w KX hi hI KR
      obtain ⟨hparts, HM, HF⟩ := hI
      refine wp_seq (wp_region_lit ?_)
      refine wp_pure HF HM rfl 1 [] ((isImage_any_S3 z1 x) ++ [(79, i6_ i), (80, .bool (decide (((i : Nat) : Int) < ((x.ps.length : Nat) : Int))))]) (by kernel_rfl) ?_
      clear HF; intro a HF
      refine nil_then ?_
      refine wp_seq ?_
      rw [show decide (((i : Nat) : Int) < ((x.ps.length : Nat) : Int)) = true from dec_t (by omega)] at HF
      refine wp_condT HF rfl ?_
      refine wp_skip ?_
      repeat (first | refine then_norm ?_ | refine inb_norm ?_)
      refine wp_seq ?_
      refine wp_block ?_
      refine wp_seq (wp_region_lit ?_)
      obtain ⟨m12, hm12⟩ : ∃ m, x.ps[i]? = some m := ⟨_, List.getElem?_eq_getElem (by omega)⟩
      refine wp_run HF (by kernel_rfl) (.pointer (Option.map (fun q : Addr => q.add (i * 10)) x.B)) (by kernel_rfl) (run_index_row Tryd.underlying24 (by kernel_rfl) rfl i rfl rfl (by omega) (row_some_elem (row_elem (f := PartM.cells) (k := 10) (fun _ => rfl) (HM.row h.parts) i hm12) (Nat.zero_lt_succ _))) ?_
      clear HF; intro a HF; replace HF := HF.sub ((isImage_any_S3 z1 x) ++ [(79, i6_ i), (81, .pointer (Option.map (fun q : Addr => q.add (i * 10)) x.B))]) (by kernel_rfl)
      refine wp_run HF (by kernel_rfl) (.agg #[.string (⟨m12.name.toArray⟩), u3_ m12.ty, u3_ m12.flags, u6_ m12.addr, u3_ m12.link, u3_ m12.info, u6_ m12.align, u6_ m12.ent, u6_ m12.size, .slice m12.A m12.data.length m12.c]) (by kernel_rfl) (run_load_row rfl rfl (row_elem (f := PartM.cells) (k := 10) (fun _ => rfl) (HM.row h.parts) i hm12) (Nat.zero_lt_succ _) Tryd.underlying46 rfl (by kernel_rfl)) ?_
      clear HF; intro a HF; replace HF := HF.sub ((isImage_any_S3 z1 x) ++ [(79, i6_ i), (82, .agg #[.string (⟨m12.name.toArray⟩), u3_ m12.ty, u3_ m12.flags, u6_ m12.addr, u3_ m12.link, u3_ m12.info, u6_ m12.align, u6_ m12.ent, u6_ m12.size, .slice m12.A m12.data.length m12.c])]) (by kernel_rfl)
      obtain ⟨z38, hz38⟩ : ∃ z, w.heap.size = z := ⟨_, rfl⟩
      refine wp_sym HF HM hz38 2 [[1]] (isImage_any_S5 z1 z38 x i) [isImage_any_B4 z38 m12, isImage_any_B0 z1 x] (by kernel_rfl) ?_
      clear HF HM hz38; intro a w HF HM
      refine nil_then ?_
      refine wp_seq ?_
      refine wp_seq (wp_region_lit ?_)
      obtain ⟨z39, hz39⟩ : ∃ z, w.heap.size = z := ⟨_, rfl⟩
      refine wp_sym HF HM hz39 10 [[0], [1], [1], [1], [1]] ((isImage_any_S5 z1 z38 x i) ++ [(83, .agg #[.bool x.wide, .bool x.big, u8_ x.abi, u8_ x.abiv, .int .i64 x.ty, .int .i64 x.machine, u6_ x.entry, .slice x.A x.ss.length x.c, .slice x.B x.ps.length x.d]), (92, sl_ z39 4 4)]) [(z39, .cells #[u6_ m12.addr, u6_ m12.align, u6_ m12.ent, u6_ m12.size] 22 (0, 0)), isImage_any_B4 z38 m12, isImage_any_B0 z1 x] (by kernel_rfl) ?_
      clear HF HM hz39; intro a w HF HM
      refine wp_call HF (by kernel_rfl) 52 #[.agg #[.bool x.wide, .bool x.big, u8_ x.abi, u8_ x.abiv, .int .i64 x.ty, .int .i64 x.machine, u6_ x.entry, .slice x.A x.ss.length x.c, .slice x.B x.ps.length x.d], sl_ z39 4 4] (by kernel_rfl) (fun w => by kernel_rfl) (Calls.mono (fits_any x.wide _ _ _ _ _ _ _ _ [m12.addr, m12.align, m12.ent, m12.size] _ _ _ rfl (by simp) w (HM.rowAt (i := 0) rfl)) ?_)
      rintro _ w3 ⟨rfl, hb⟩
      replace HM := HM.call hb
      clear hb
      refine ⟨_, rfl, ?_⟩; clear HF; intro a HF
      replace HF := HF.sub ((isImage_any_S5 z1 z38 x i) ++ [(93, .bool (fitsB x.wide [m12.addr, m12.align, m12.ent, m12.size]))]) (by kernel_rfl)
      rcases bool_cases2 (fitsB x.wide [m12.addr, m12.align, m12.ent, m12.size]) with hc13 | hc13
      · replace HF := Fr.sub (Fr.tell HF 93 rfl (congrArg Value.bool hc13)) ((isImage_any_S5 z1 z38 x i) ++ [(93, .bool false)]) (by kernel_rfl)
        refine wp_pure HF HM rfl 29 [] ((isImage_any_S5 z1 z38 x i) ++ [(122, .bool true)]) (by kernel_rfl) ?_
        clear HF; intro a HF
        refine nil_then ?_
        refine wp_condT HF rfl ?_
        refine wp_seq (wp_region_lit ?_)
        refine wp_pure HF HM rfl 1 [] [(2, .bool false)] (by kernel_rfl) ?_
        clear HF; intro a HF
        refine nil_then ?_
        refine wp_ret ?_
        repeat (first | refine then_ret ?_ | refine inb_ret ?_)
        exact ret_one HF rfl rfl ⟨false, rfl, HM.below, fun h => by cases h⟩
      replace HF := Fr.sub (Fr.tell HF 93 rfl (congrArg Value.bool hc13)) ((isImage_any_S5 z1 z38 x i) ++ [(93, .bool true)]) (by kernel_rfl)
      refine wp_pure HF HM rfl 8 [[1]] ((isImage_any_S5 z1 z38 x i) ++ [(101, .bool (decide (1024 < ((m12.name.length : Nat) : Int))))]) (by kernel_rfl) ?_
      clear HF; intro a HF
      by_cases hc14 : 1024 < ((m12.name.length : Nat) : Int)
      · rw [show decide (1024 < ((m12.name.length : Nat) : Int)) = true from dec_t (hc14)] at HF
        refine wp_pure HF HM rfl 21 [] ((isImage_any_S5 z1 z38 x i) ++ [(122, .bool true)]) (by kernel_rfl) ?_
        clear HF; intro a HF
        refine nil_then ?_
        refine wp_condT HF rfl ?_
        refine wp_seq (wp_region_lit ?_)
        refine wp_pure HF HM rfl 1 [] [(2, .bool false)] (by kernel_rfl) ?_
        clear HF; intro a HF
        refine nil_then ?_
        refine wp_ret ?_
        repeat (first | refine then_ret ?_ | refine inb_ret ?_)
        exact ret_one HF rfl rfl ⟨false, rfl, HM.below, fun h => by cases h⟩
      rw [show decide (1024 < ((m12.name.length : Nat) : Int)) = false from dec_f (hc14)] at HF
      refine wp_pure HF HM rfl 2 [[1]] ((isImage_any_S5 z1 z38 x i) ++ [(101, .bool false), (103, .string (⟨m12.name.toArray⟩))]) (by kernel_rfl) ?_
      clear HF; intro a HF
      have hnm := (h.part m12 (List.mem_of_getElem? hm12)).nm
      refine wp_call HF (by kernel_rfl) 53 #[.string (⟨m12.name.toArray⟩)] (by kernel_rfl) (fun w => by kernel_rfl) (Calls.mono (isText_any m12.name (by unfold maxLen at hnm; omega) w3) ?_)
      rintro _ w4 ⟨rfl, hq⟩
      replace hq := hq.symm; subst hq
      refine ⟨_, rfl, ?_⟩; clear HF; intro a HF
      replace HF := HF.sub ((isImage_any_S5 z1 z38 x i) ++ [(101, .bool false), (104, .bool (decide (0 ∉ m12.name)))]) (by kernel_rfl)
      by_cases hc15 : 0 ∉ m12.name
      · rw [show decide (0 ∉ m12.name) = true from dec_t (hc15)] at HF
        refine wp_pure HF HM rfl 9 [[1]] ((isImage_any_S5 z1 z38 x i) ++ [(113, .bool (decide (65536 < ((m12.data.length : Nat) : Int))))]) (by kernel_rfl) ?_
        clear HF; intro a HF
        by_cases hc16 : 65536 < ((m12.data.length : Nat) : Int)
        · rw [show decide (65536 < ((m12.data.length : Nat) : Int)) = true from dec_t (hc16)] at HF
          refine wp_pure HF HM rfl 9 [] ((isImage_any_S5 z1 z38 x i) ++ [(122, .bool true)]) (by kernel_rfl) ?_
          clear HF; intro a HF
          refine nil_then ?_
          refine wp_condT HF rfl ?_
          refine wp_seq (wp_region_lit ?_)
          refine wp_pure HF HM rfl 1 [] [(2, .bool false)] (by kernel_rfl) ?_
          clear HF; intro a HF
          refine nil_then ?_
          refine wp_ret ?_
          repeat (first | refine then_ret ?_ | refine inb_ret ?_)
          exact ret_one HF rfl rfl ⟨false, rfl, HM.below, fun h => by cases h⟩
        rw [show decide (65536 < ((m12.data.length : Nat) : Int)) = false from dec_f (hc16)] at HF
        refine wp_pure HF HM rfl 5 [[1]] ((isImage_any_S5 z1 z38 x i) ++ [(118, .bool (((m12.ty : Nat) : Int) == 0))]) (by kernel_rfl) ?_
        clear HF; intro a HF
        by_cases hc17 : ((m12.ty : Nat) : Int) = 0
        · rw [show (((m12.ty : Nat) : Int) == 0) = true from beq_t (hc17)] at HF
          refine wp_pure HF HM rfl 4 [] ((isImage_any_S5 z1 z38 x i) ++ [(122, .bool true)]) (by kernel_rfl) ?_
          clear HF; intro a HF
          refine nil_then ?_
          refine wp_condT HF rfl ?_
          refine wp_seq (wp_region_lit ?_)
          refine wp_pure HF HM rfl 1 [] [(2, .bool false)] (by kernel_rfl) ?_
          clear HF; intro a HF
          refine nil_then ?_
          refine wp_ret ?_
          repeat (first | refine then_ret ?_ | refine inb_ret ?_)
          exact ret_one HF rfl rfl ⟨false, rfl, HM.below, fun h => by cases h⟩
        rw [show (((m12.ty : Nat) : Int) == 0) = false from beq_f (hc17)] at HF
        refine wp_pure HF HM rfl 4 [[1]] ((isImage_any_S5 z1 z38 x i) ++ [(122, .bool (decide (1610612736 ≤ ((m12.ty : Nat) : Int))))]) (by kernel_rfl) ?_
        clear HF; intro a HF
        refine nil_then ?_
        by_cases hc18 : 1610612736 ≤ ((m12.ty : Nat) : Int)
        · rw [show decide (1610612736 ≤ ((m12.ty : Nat) : Int)) = true from dec_t (hc18)] at HF
          refine wp_condT HF rfl ?_
          refine wp_seq (wp_region_lit ?_)
          refine wp_pure HF HM rfl 1 [] [(2, .bool false)] (by kernel_rfl) ?_
          clear HF; intro a HF
          refine nil_then ?_
          refine wp_ret ?_
          repeat (first | refine then_ret ?_ | refine inb_ret ?_)
          exact ret_one HF rfl rfl ⟨false, rfl, HM.below, fun h => by cases h⟩
        rw [show decide (1610612736 ≤ ((m12.ty : Nat) : Int)) = false from dec_f (hc18)] at HF
        refine wp_condF HF rfl ?_
        refine wp_skip ?_
        repeat (first | refine then_norm ?_ | refine inb_norm ?_)
        refine wp_seq (wp_region_lit ?_)
        refine wp_pure HF HM rfl 2 [[1]] ((isImage_any_S5 z1 z38 x i) ++ [(124, .string (⟨m12.name.toArray⟩))]) (by kernel_rfl) ?_
        clear HF; intro a HF
        refine wp_call HF (by kernel_rfl) 54 #[.string (⟨m12.name.toArray⟩)] (by kernel_rfl) (fun w => by kernel_rfl) (Calls.mono (zipped_any ⟨m12.name.toArray⟩ w3) ?_)
        rintro _ w5 ⟨rfl, hq⟩
        replace hq := hq.symm; subst hq
        refine ⟨_, rfl, ?_⟩; clear HF; intro a HF
        replace HF := HF.sub ((isImage_any_S5 z1 z38 x i) ++ [(125, .bool (zipB ⟨m12.name.toArray⟩))]) (by kernel_rfl)
        refine wp_pure HF HM rfl 1 [] ((isImage_any_S5 z1 z38 x i) ++ [(126, .bool (zipB ⟨m12.name.toArray⟩))]) (by kernel_rfl) ?_
        clear HF; intro a HF
        rcases bool_cases2 (zipB ⟨m12.name.toArray⟩) with hc19 | hc19
        · replace HF := Fr.sub (Fr.tell HF 126 rfl (congrArg Value.bool hc19)) ((isImage_any_S5 z1 z38 x i) ++ [(126, .bool false)]) (by kernel_rfl)
          refine wp_pure HF HM rfl 6 [[1]] ((isImage_any_S5 z1 z38 x i) ++ [(132, .bool (((and32 ((m12.flags : Nat) : Int) 2048)) != 0))]) (by kernel_rfl) ?_
          clear HF; intro a HF
          by_cases hc20 : ((and32 ((m12.flags : Nat) : Int) 2048)) ≠ 0
          · rw [show (((and32 ((m12.flags : Nat) : Int) 2048)) != 0) = true from bne_t (hc20)] at HF
            refine wp_pure HF HM rfl 15 [] ((isImage_any_S3 z1 x) ++ [(79, i6_ i), (147, .bool true)]) (by kernel_rfl) ?_
            clear HF; intro a HF
            refine nil_then ?_
            refine wp_condT HF rfl ?_
            refine wp_seq (wp_region_lit ?_)
            refine wp_pure HF HM rfl 1 [] [(2, .bool false)] (by kernel_rfl) ?_
            clear HF; intro a HF
            refine nil_then ?_
            refine wp_ret ?_
            repeat (first | refine then_ret ?_ | refine inb_ret ?_)
            exact ret_one HF rfl rfl ⟨false, rfl, HM.below, fun h => by cases h⟩
          rw [show (((and32 ((m12.flags : Nat) : Int) 2048)) != 0) = false from bne_f (hc20)] at HF
          refine wp_pure HF HM rfl 4 [[1]] ((isImage_any_S5 z1 z38 x i) ++ [(132, .bool false), (136, .bool (((m12.ty : Nat) : Int) == 8))]) (by kernel_rfl) ?_
          clear HF; intro a HF
          by_cases hc21 : ((m12.ty : Nat) : Int) = 8
          · rw [show (((m12.ty : Nat) : Int) == 8) = true from beq_t (hc21)] at HF
            refine wp_pure HF HM rfl 7 [[1]] ((isImage_any_S5 z1 z38 x i) ++ [(143, .bool (decide (0 < ((m12.data.length : Nat) : Int))))]) (by kernel_rfl) ?_
            clear HF; intro a HF
            by_cases hc22 : 0 < ((m12.data.length : Nat) : Int)
            · rw [show decide (0 < ((m12.data.length : Nat) : Int)) = true from dec_t (hc22)] at HF
              refine wp_pure HF HM rfl 4 [] ((isImage_any_S3 z1 x) ++ [(79, i6_ i), (147, .bool true)]) (by kernel_rfl) ?_
              clear HF; intro a HF
              refine nil_then ?_
              refine wp_condT HF rfl ?_
              refine wp_seq (wp_region_lit ?_)
              refine wp_pure HF HM rfl 1 [] [(2, .bool false)] (by kernel_rfl) ?_
              clear HF; intro a HF
              refine nil_then ?_
              refine wp_ret ?_
              repeat (first | refine then_ret ?_ | refine inb_ret ?_)
              exact ret_one HF rfl rfl ⟨false, rfl, HM.below, fun h => by cases h⟩
            rw [show decide (0 < ((m12.data.length : Nat) : Int)) = false from dec_f (hc22)] at HF
            refine wp_pure HF HM rfl 4 [[1]] ((isImage_any_S3 z1 x) ++ [(79, i6_ i), (147, .bool (decide (4611686018427387904 ≤ ((m12.size : Nat) : Int))))]) (by kernel_rfl) ?_
            clear HF; intro a HF
            refine nil_then ?_
            by_cases hc23 : 4611686018427387904 ≤ ((m12.size : Nat) : Int)
            · rw [show decide (4611686018427387904 ≤ ((m12.size : Nat) : Int)) = true from dec_t (hc23)] at HF
              refine wp_condT HF rfl ?_
              refine wp_seq (wp_region_lit ?_)
              refine wp_pure HF HM rfl 1 [] [(2, .bool false)] (by kernel_rfl) ?_
              clear HF; intro a HF
              refine nil_then ?_
              refine wp_ret ?_
              repeat (first | refine then_ret ?_ | refine inb_ret ?_)
              exact ret_one HF rfl rfl ⟨false, rfl, HM.below, fun h => by cases h⟩
            rw [show decide (4611686018427387904 ≤ ((m12.size : Nat) : Int)) = false from dec_f (hc23)] at HF
            refine wp_condF HF rfl ?_
            refine wp_skip ?_
            repeat (first | refine then_norm ?_ | refine inb_norm ?_)
            refine wp_region_lit ?_
            refine wp_pure HF HM rfl 1 [] ((isImage_any_S3 z1 x) ++ [(148, iI_ (IntKind.i64.wrap (((i : Nat) : Int) + 1)))]) (by kernel_rfl) ?_
            clear HF; intro a HF
            rw [show IntKind.i64.wrap (((i : Nat) : Int) + 1) = (((i + 1) : Nat) : Int) from (IntWalk.i64_in _ (by omega)).trans (by omega)] at HF
            refine wp_pure HF HM rfl 1 [] ((isImage_any_S3 z1 x) ++ [(79, i6_ (i + 1))]) (by kernel_rfl) ?_
            clear HF; intro a HF
            refine wpList_nil ?_
            repeat (first | refine then_norm ?_ | refine inb_norm ?_)
            exact KR _ _ (⟨fun j m hj hm => (Nat.lt_or_ge j i).elim (fun g => hparts j m g hm) (fun g => by obtain rfl : j = i := (by omega); rw [hm12] at hm; obtain rfl := Option.some.inj hm; exact ⟨by assumption, by omega, by assumption, by omega, by omega, by omega, by assumption, beq_t (Decidable.byContradiction (by assumption)), fun h8 => by omega, by omega⟩), (HM.pick [2] [isImage_any_B0 z1 x] rfl (by decide)), HF.sub ((isImage_any_S3 z1 x) ++ [(79, i6_ (i + 1))]) (by kernel_rfl)⟩)
          rw [show (((m12.ty : Nat) : Int) == 8) = false from beq_f (hc21)] at HF
          refine wp_pure HF HM rfl 11 [[1]] ((isImage_any_S3 z1 x) ++ [(79, i6_ i), (147, .bool (decide (4611686018427387904 ≤ ((m12.size : Nat) : Int))))]) (by kernel_rfl) ?_
          clear HF; intro a HF
          refine nil_then ?_
          by_cases hc24 : 4611686018427387904 ≤ ((m12.size : Nat) : Int)
          · rw [show decide (4611686018427387904 ≤ ((m12.size : Nat) : Int)) = true from dec_t (hc24)] at HF
            refine wp_condT HF rfl ?_
            refine wp_seq (wp_region_lit ?_)
            refine wp_pure HF HM rfl 1 [] [(2, .bool false)] (by kernel_rfl) ?_
            clear HF; intro a HF
            refine nil_then ?_
            refine wp_ret ?_
            repeat (first | refine then_ret ?_ | refine inb_ret ?_)
            exact ret_one HF rfl rfl ⟨false, rfl, HM.below, fun h => by cases h⟩
          rw [show decide (4611686018427387904 ≤ ((m12.size : Nat) : Int)) = false from dec_f (hc24)] at HF
          refine wp_condF HF rfl ?_
          refine wp_skip ?_
          repeat (first | refine then_norm ?_ | refine inb_norm ?_)
          refine wp_region_lit ?_
          refine wp_pure HF HM rfl 1 [] ((isImage_any_S3 z1 x) ++ [(148, iI_ (IntKind.i64.wrap (((i : Nat) : Int) + 1)))]) (by kernel_rfl) ?_
          clear HF; intro a HF
          rw [show IntKind.i64.wrap (((i : Nat) : Int) + 1) = (((i + 1) : Nat) : Int) from (IntWalk.i64_in _ (by omega)).trans (by omega)] at HF
          refine wp_pure HF HM rfl 1 [] ((isImage_any_S3 z1 x) ++ [(79, i6_ (i + 1))]) (by kernel_rfl) ?_
          clear HF; intro a HF
          refine wpList_nil ?_
          repeat (first | refine then_norm ?_ | refine inb_norm ?_)
          exact KR _ _ (⟨fun j m hj hm => (Nat.lt_or_ge j i).elim (fun g => hparts j m g hm) (fun g => by obtain rfl : j = i := (by omega); rw [hm12] at hm; obtain rfl := Option.some.inj hm; exact ⟨by assumption, by omega, by assumption, by omega, by omega, by omega, by assumption, beq_t (Decidable.byContradiction (by assumption)), fun h8 => by omega, by omega⟩), (HM.pick [2] [isImage_any_B0 z1 x] rfl (by decide)), HF.sub ((isImage_any_S3 z1 x) ++ [(79, i6_ (i + 1))]) (by kernel_rfl)⟩)
        replace HF := Fr.sub (Fr.tell HF 126 rfl (congrArg Value.bool hc19)) ((isImage_any_S5 z1 z38 x i) ++ [(126, .bool true)]) (by kernel_rfl)
        refine wp_pure HF HM rfl 21 [] ((isImage_any_S3 z1 x) ++ [(79, i6_ i), (147, .bool true)]) (by kernel_rfl) ?_
        clear HF; intro a HF
        refine nil_then ?_
        refine wp_condT HF rfl ?_
        refine wp_seq (wp_region_lit ?_)
        refine wp_pure HF HM rfl 1 [] [(2, .bool false)] (by kernel_rfl) ?_
        clear HF; intro a HF
        refine nil_then ?_
        refine wp_ret ?_
        repeat (first | refine then_ret ?_ | refine inb_ret ?_)
        exact ret_one HF rfl rfl ⟨false, rfl, HM.below, fun h => by cases h⟩
      rw [show decide (0 ∉ m12.name) = false from dec_f (hc15)] at HF
      refine wp_pure HF HM rfl 18 [] ((isImage_any_S5 z1 z38 x i) ++ [(122, .bool true)]) (by kernel_rfl) ?_
      clear HF; intro a HF
      refine nil_then ?_
      refine wp_condT HF rfl ?_
      refine wp_seq (wp_region_lit ?_)
      refine wp_pure HF HM rfl 1 [] [(2, .bool false)] (by kernel_rfl) ?_
      clear HF; intro a HF
      refine nil_then ?_
      refine wp_ret ?_
      repeat (first | refine then_ret ?_ | refine inb_ret ?_)
      exact ret_one HF rfl rfl ⟨false, rfl, HM.below, fun h => by cases h⟩
    · intro a w KX hI
      obtain ⟨hparts, HM, HF⟩ := hI
      refine wp_seq (wp_region_lit ?_)
      refine wp_pure HF HM rfl 1 [] ((isImage_any_S3 z1 x) ++ [(79, i6_ x.ps.length), (80, .bool (decide (((x.ps.length : Nat) : Int) < ((x.ps.length : Nat) : Int))))]) (by kernel_rfl) ?_
      clear HF; intro a HF
      refine nil_then ?_
      refine wp_seq ?_
      rw [show decide (((x.ps.length : Nat) : Int) < ((x.ps.length : Nat) : Int)) = false from dec_f (by omega)] at HF
      refine wp_condF HF rfl ?_
      refine wp_exit ?_
      repeat (first | refine then_exit ?_ | refine inb_exit_other rfl ?_)
      refine inb_exit ?_
      repeat (first | refine then_norm ?_ | refine inb_norm ?_)
      refine wp_seq (wp_region_lit ?_)
      refine wp_pure HF HM rfl 1 [] [(2, .bool true)] (by kernel_rfl) ?_
      clear HF; intro a HF
      refine nil_then ?_
      refine wp_ret ?_
      repeat (first | refine then_ret ?_ | refine inb_ret ?_)
      exact ret_one HF rfl rfl ⟨true, rfl, HM.below, fun _ => ⟨⟨by omega, by omega, by omega, by omega, by assumption, by omega, by omega, fun m hm => (List.getElem?_of_mem hm).elim fun j hj => hsegs j m (List.getElem?_eq_some_iff.1 hj).1 hj, fun m hm => (List.getElem?_of_mem hm).elim fun j hj => hparts j m (List.getElem?_eq_some_iff.1 hj).1 hj⟩, by omega⟩⟩

end Go.Proofs.YtdgehpocmfjbiaaDoor
namespace Go.Proofs.YtdgehpocmfjbiaaDoor
open Go.RowKit

def strV (s : List UInt8) : Value := .string ⟨s.toArray⟩
def numV (n : Nat) : Value := i6_ n
theorem namesB_next {l : List (List UInt8)} {i : Nat} {m : List UInt8} (h : l[i]? = some m) : namesB (l.take (i + 1)) = namesB (l.take i) ++ m ++ [0] := by
  obtain ⟨hl, e⟩ := List.getElem?_eq_some_iff.1 h
  rw [namesB_take l i hl, e]
theorem namesB_le {l : List (List UInt8)} {i : Nat} {m : List UInt8} (h : l[i]? = some m) : (namesB (l.take i)).length + m.length + 1 ≤ (namesB l).length := by
  obtain ⟨hl, e⟩ := List.getElem?_eq_some_iff.1 h
  obtain ⟨r, e2⟩ := namesB_split l i hl
  rw [e2, e]
  simp only [List.length_append, List.length_cons]
  omega
theorem namesB_next_len {l : List (List UInt8)} {i : Nat} {m : List UInt8} (h : l[i]? = some m) : (namesB (l.take i)).length + m.length + 1 = (namesB (l.take (i + 1))).length := by
  rw [namesB_next h]; simp; omega

abbrev names_any_S0 := fun og (l : List (List UInt8)) i oc qg qc (A : Option Addr) (n : Nat) (c : Nat) => ([(4, sl_ og ((namesB (l.take i)).length) oc), (5, sl_ qg i qc), (10, .slice A n c), (11, i6_ n), (12, i6_ i)] : Slots)
set_option maxRecDepth 100000 in
set_option maxHeartbeats 1000000 in
theorem names_any (l : List (List UInt8)) (A : Option Addr) (n c : Nat) (hn : n = l.length) (w0 : World) (hr : Row w0 A (l.map strV)) (hb : (namesB l).length ≤ 4000000000) (hb2 : n ≤ 4000000000) :
    Calls Tryd.prog 65 #[.slice A n c] w0 fun e w' => ∃ g cap cur g2 cap2 cur2, e = .returned (.tuple #[sl_ g (namesB l).length cap, sl_ g2 l.length cap2]) ∧ Below w0.heap.size w0 w' ∧ Own w0.heap.size w' 5 1 g (namesB l).length cap cur ((namesB l).map Bv) ∧ Own w0.heap.size w' 3 1 g2 l.length cap2 cur2 ((List.range l.length).map (fun j => numV (nameAt l j))) ∧ g ≠ g2 := by
  obtain ⟨w, hw⟩ : ∃ w, w0 = w := ⟨_, rfl⟩
  have HM : Mm [] w0 w [] := hw ▸ Mm.start w0
  conv => arg 4; rw [hw]
  clear hw
  refine calls_start Tryd.func65 rfl Tryd.ntmps65 [(0, .slice A n c)] (by kernel_rfl) (Nat.le_of_ble_eq_true rfl) ?_
  intro a HF
  refine wp_seq (wp_region_lit ?_)
  refine wp_pure HF HM rfl 2 [] [(0, .slice A n c)] (by kernel_rfl) ?_
  clear HF; intro a HF
  refine nil_then ?_
  refine wp_seq (wp_region_lit ?_)
  obtain ⟨z2, hz2⟩ : ∃ z, w.heap.size = z := ⟨_, rfl⟩
  refine wp_sym HF HM hz2 2 [] [(0, .slice A n c), (4, sl_ z2 1 1)] [(z2, .cells #[iB_ 0] 5 (0, 0))] (by kernel_rfl) ?_
  clear HF HM hz2; intro a w HF HM
  refine nil_then ?_
  refine wp_seq (wp_region_lit ?_)
  obtain ⟨z3, hz3⟩ : ∃ z, w.heap.size = z := ⟨_, rfl⟩
  refine wp_sym HF HM hz3 2 [] [(0, .slice A n c), (4, sl_ z2 1 1), (5, sl_ z3 0 0)] [(z3, .cells #[] 3 (0, 0)), (z2, .cells #[iB_ 0] 5 (0, 0))] (by kernel_rfl) ?_
  clear HF HM hz3; intro a w HF HM
  refine nil_then ?_
  refine wp_seq ?_
  refine wp_seq (wp_region_lit ?_)
  refine wp_pure HF HM rfl 3 [] [(4, sl_ z2 1 1), (5, sl_ z3 0 0), (10, .slice A n c), (11, i6_ n), (12, iI_ 0)] (by kernel_rfl) ?_
  clear HF; intro a HF
  refine nil_then ?_
  refine wp_block ?_
  refine loop_ind (n) (fun i a w => (∃ og : Nat, ∃ oc : Nat, ∃ ok : Array Value, ∃ qg : Nat, ∃ qc : Nat, ∃ qk : Array Value, (ok.toList.take (((namesB (l.take i)).length) * 1) = (namesB (l.take i)).map Bv) ∧ (ok.size = oc * 1) ∧ (((namesB (l.take i)).length) ≤ oc) ∧ (oc ≤ maxLen) ∧ (qk.toList.take (i * 1) = (List.range i).map (fun j => numV (nameAt l j))) ∧ (qk.size = qc * 1) ∧ (i ≤ qc) ∧ (qc ≤ maxLen) ∧ Mm [] w0 w [(qg, .cells qk 3 (0, 0)), (og, .cells ok 5 (0, 0))] ∧ Fr 29 a (names_any_S0 og l i oc qg qc A n c))) ?_ ?_ ?_
  · exact ⟨z2, 1, #[iB_ 0], z3, 0, #[], rfl, rfl, Nat.le_refl _, by unfold maxLen; omega, rfl, rfl, Nat.le_refl _, by unfold maxLen; omega, HM, HF.sub [(4, sl_ z2 ((namesB (l.take 0)).length) 1), (5, sl_ z3 0 0), (10, .slice A n c), (11, i6_ n), (12, iI_ 0)] (by kernel_rfl)⟩
  · intro i a w KX hi hI KR
    obtain ⟨og, oc, ok, qg, qc, qk, otk, osz, onc, ocm, qtk, qsz, qnc, qcm, HM, HF⟩ := hI
    refine wp_seq (wp_region_lit ?_)
    refine wp_pure HF HM rfl 1 [] ((names_any_S0 og l i oc qg qc A n c) ++ [(13, .bool (decide (((i : Nat) : Int) < ((n : Nat) : Int))))]) (by kernel_rfl) ?_
    clear HF; intro a HF
    refine nil_then ?_
    refine wp_seq ?_
    rw [show decide (((i : Nat) : Int) < ((n : Nat) : Int)) = true from dec_t (by omega)] at HF
    refine wp_condT HF rfl ?_
    refine wp_skip ?_
    repeat (first | refine then_norm ?_ | refine inb_norm ?_)
    refine wp_seq ?_
    refine wp_block ?_
    refine wp_seq (wp_region_lit ?_)
    obtain ⟨m1, hm1⟩ : ∃ m, l[i]? = some m := ⟨_, List.getElem?_eq_getElem (by omega)⟩
    have hnl := namesB_le hm1
    refine wp_run HF (by kernel_rfl) (.pointer (Option.map (fun q : Addr => q.add (i * 1)) A)) (by kernel_rfl) (run_index_row Tryd.underlying38 (by kernel_rfl) rfl i rfl rfl (by omega) (row_some_elem (row_elem1 (HM.row hr) i hm1) (Nat.zero_lt_succ _))) ?_
    clear HF; intro a HF; replace HF := HF.sub ((names_any_S0 og l i oc qg qc A n c) ++ [(14, .pointer (Option.map (fun q : Addr => q.add (i * 1)) A))]) (by kernel_rfl)
    refine wp_run HF (by kernel_rfl) (.string (⟨m1.toArray⟩)) (by kernel_rfl) (run_load_row1 rfl rfl (row_elem1 (HM.row hr) i hm1) (by kernel_rfl)) ?_
    clear HF; intro a HF; replace HF := HF.sub ((names_any_S0 og l i oc qg qc A n c) ++ [(15, .string (⟨m1.toArray⟩))]) (by kernel_rfl)
    refine wp_pure HF HM rfl 1 [] [(4, sl_ og ((namesB (l.take i)).length) oc), (5, sl_ qg i qc), (7, .string (⟨m1.toArray⟩)), (10, .slice A n c), (11, i6_ n), (12, i6_ i)] (by kernel_rfl) ?_
    clear HF; intro a HF
    refine nil_then ?_
    refine wp_seq (wp_region_lit ?_)
    obtain ⟨z7, hz7⟩ : ∃ z, w.heap.size = z := ⟨_, rfl⟩
    refine wp_sym HF HM hz7 4 [] [(4, sl_ og ((namesB (l.take i)).length) oc), (7, .string (⟨m1.toArray⟩)), (10, .slice A n c), (11, i6_ n), (12, i6_ i), (16, sl_ qg i qc), (19, sl_ z7 1 1)] [(z7, .cells #[i6_ ((namesB (l.take i)).length)] 3 (0, 0)), (qg, .cells qk 3 (0, 0)), (og, .cells ok 5 (0, 0))] (by kernel_rfl) ?_
    clear HF HM hz7; intro a w HF HM
    refine wp_append_told HF HM rfl _ _ 66 66 rfl rfl 3 (z := iI_ 0) (size := 1) (bytes := 8) Tryd.underlying66 (by kernel_rfl) rfl (by decide) 1 qg i qc qk rfl rfl qnc qcm qsz ((List.range i).map (fun j => numV (nameAt l j))) qtk (sl_ z7 1 1) 1 [i6_ ((namesB (l.take i)).length)] rfl (src_row Tryd.underlying66 rfl (by decide) (HM.rowAt (i := 0) rfl) (one_cells rfl)) (by unfold maxLen; omega) (by omega) ?_
    intro a w1 g2 cap2 cur2 HM2 htk2 hsz2 hnc2 hcm2 HF2; clear HF HM
    replace htk2 : cur2.toList.take ((i + 1) * 1) = (List.range (i + 1)).map (fun j => numV (nameAt l j)) := htk2.trans (by rw [List.range_succ, List.map_append]; rfl)
    have HM : Mm [] w0 w1 [(z7, .cells #[i6_ ((namesB (l.take i)).length)] 3 (0, 0)), (g2, .cells cur2 3 (0, 0)), (og, .cells ok 5 (0, 0))] := HM2
    have HF := HF2.sub [(4, sl_ og ((namesB (l.take i)).length) oc), (7, .string (⟨m1.toArray⟩)), (10, .slice A n c), (11, i6_ n), (12, i6_ i), (20, sl_ g2 (i + 1) cap2)] (by kernel_rfl); clear HM2 HF2
    refine wp_pure HF HM rfl 1 [] [(4, sl_ og ((namesB (l.take i)).length) oc), (5, sl_ g2 (i + 1) cap2), (7, .string (⟨m1.toArray⟩)), (10, .slice A n c), (11, i6_ n), (12, i6_ i)] (by kernel_rfl) ?_
    clear HF; intro a HF
    refine nil_then ?_
    refine wp_region_lit ?_
    refine wp_pure HF HM rfl 2 [] [(5, sl_ g2 (i + 1) cap2), (10, .slice A n c), (11, i6_ n), (12, i6_ i), (21, sl_ og ((namesB (l.take i)).length) oc), (22, .string (⟨m1.toArray⟩))] (by kernel_rfl) ?_
    clear HF; intro a HF
    refine wp_append_told HF HM rfl _ _ 33 9 rfl rfl 5 (z := iB_ 0) (size := 1) (bytes := 1) Tryd.underlying33 (by kernel_rfl) rfl (by decide) 2 og ((namesB (l.take i)).length) oc ok rfl rfl onc ocm osz ((namesB (l.take i)).map Bv) otk (.string (⟨m1.toArray⟩)) m1.length (m1.map Bv) rfl (src_string Tryd.underlying9 m1) (by unfold maxLen; omega) (by omega) ?_
    intro a w2 g3 cap3 cur3 HM2 htk3 hsz3 hnc3 hcm3 HF2; clear HF HM
    have HM : Mm [] w0 w2 [(z7, .cells #[i6_ ((namesB (l.take i)).length)] 3 (0, 0)), (g2, .cells cur2 3 (0, 0)), (g3, .cells cur3 5 (0, 0))] := HM2
    have HF := HF2.sub [(5, sl_ g2 (i + 1) cap2), (10, .slice A n c), (11, i6_ n), (12, i6_ i), (23, sl_ g3 (((namesB (l.take i)).length) + m1.length) cap3)] (by kernel_rfl); clear HM2 HF2
    obtain ⟨z10, hz10⟩ : ∃ z, w2.heap.size = z := ⟨_, rfl⟩
    refine wp_sym HF HM hz10 1 [] [(5, sl_ g2 (i + 1) cap2), (10, .slice A n c), (11, i6_ n), (12, i6_ i), (23, sl_ g3 (((namesB (l.take i)).length) + m1.length) cap3), (24, sl_ z10 1 1)] [(z10, .cells #[iB_ 0] 5 (0, 0)), (z7, .cells #[i6_ ((namesB (l.take i)).length)] 3 (0, 0)), (g2, .cells cur2 3 (0, 0)), (g3, .cells cur3 5 (0, 0))] (by kernel_rfl) ?_
    clear HF HM hz10; intro a w HF HM
    refine wp_append_told HF HM rfl _ _ 33 33 rfl rfl 5 (z := iB_ 0) (size := 1) (bytes := 1) Tryd.underlying33 (by kernel_rfl) rfl (by decide) 3 g3 (((namesB (l.take i)).length) + m1.length) cap3 cur3 rfl rfl hnc3 hcm3 hsz3 ((namesB (l.take i)).map Bv ++ (m1.map Bv)) htk3 (sl_ z10 1 1) 1 [iB_ 0] rfl (src_row Tryd.underlying33 rfl (by decide) (HM.rowAt (i := 0) rfl) (one_cells rfl)) (by unfold maxLen; omega) (by omega) ?_
    intro a w3 g4 cap4 cur4 HM2 htk4 hsz4 hnc4 hcm4 HF2; clear HF HM
    rw [show (((namesB (l.take i)).length) + m1.length) + 1 = (((namesB (l.take i)).length) + m1.length + 1) from by omega] at HF2 htk4 hnc4
    replace htk4 : cur4.toList.take ((((namesB (l.take i)).length) + m1.length + 1) * 1) = (namesB (l.take (i + 1))).map Bv := htk4.trans (by rw [namesB_next hm1, List.map_append, List.map_append]; rfl)
    have HM : Mm [] w0 w3 [(z10, .cells #[iB_ 0] 5 (0, 0)), (z7, .cells #[i6_ ((namesB (l.take i)).length)] 3 (0, 0)), (g2, .cells cur2 3 (0, 0)), (g4, .cells cur4 5 (0, 0))] := HM2
    have HF := HF2.sub [(5, sl_ g2 (i + 1) cap2), (10, .slice A n c), (11, i6_ n), (12, i6_ i), (25, sl_ g4 (((namesB (l.take i)).length) + m1.length + 1) cap4)] (by kernel_rfl); clear HM2 HF2
    refine wp_pure HF HM rfl 1 [] [(4, sl_ g4 (((namesB (l.take i)).length) + m1.length + 1) cap4), (5, sl_ g2 (i + 1) cap2), (10, .slice A n c), (11, i6_ n), (12, i6_ i)] (by kernel_rfl) ?_
    clear HF; intro a HF
    refine wpList_nil ?_
    repeat (first | refine then_norm ?_ | refine inb_norm ?_)
    refine wp_region_lit ?_
    refine wp_pure HF HM rfl 1 [] [(4, sl_ g4 (((namesB (l.take i)).length) + m1.length + 1) cap4), (5, sl_ g2 (i + 1) cap2), (10, .slice A n c), (11, i6_ n), (26, iI_ (IntKind.i64.wrap (((i : Nat) : Int) + 1)))] (by kernel_rfl) ?_
    clear HF; intro a HF
    rw [show IntKind.i64.wrap (((i : Nat) : Int) + 1) = (((i + 1) : Nat) : Int) from (IntWalk.i64_in _ (by omega)).trans (by omega)] at HF
    refine wp_pure HF HM rfl 1 [] [(4, sl_ g4 (((namesB (l.take i)).length) + m1.length + 1) cap4), (5, sl_ g2 (i + 1) cap2), (10, .slice A n c), (11, i6_ n), (12, i6_ (i + 1))] (by kernel_rfl) ?_
    clear HF; intro a HF
    refine wpList_nil ?_
    repeat (first | refine then_norm ?_ | refine inb_norm ?_)
    rw [show (((namesB (l.take i)).length) + m1.length + 1) = ((namesB (l.take (i + 1))).length) from namesB_next_len hm1] at HF htk4 hnc4
    exact KR _ _ (⟨g4, cap4, cur4, g2, cap2, cur2, htk4, hsz4, hnc4, hcm4, htk2, hsz2, hnc2, hcm2, (HM.pick [2, 3] [(g2, .cells cur2 3 (0, 0)), (g4, .cells cur4 5 (0, 0))] rfl (by decide)), HF.sub [(4, sl_ g4 ((namesB (l.take (i + 1))).length) cap4), (5, sl_ g2 (i + 1) cap2), (10, .slice A n c), (11, i6_ n), (12, i6_ (i + 1))] (by kernel_rfl)⟩)
  · intro a w KX hI
    obtain ⟨og, oc, ok, qg, qc, qk, otk, osz, onc, ocm, qtk, qsz, qnc, qcm, HM, HF⟩ := hI
    refine wp_seq (wp_region_lit ?_)
    refine wp_pure HF HM rfl 1 [] [(4, sl_ og ((namesB (l.take n)).length) oc), (5, sl_ qg n qc), (10, .slice A n c), (11, i6_ n), (12, i6_ n), (13, .bool (decide (((n : Nat) : Int) < ((n : Nat) : Int))))] (by kernel_rfl) ?_
    clear HF; intro a HF
    refine nil_then ?_
    refine wp_seq ?_
    rw [show decide (((n : Nat) : Int) < ((n : Nat) : Int)) = false from dec_f (by omega)] at HF
    refine wp_condF HF rfl ?_
    refine wp_exit ?_
    repeat (first | refine then_exit ?_ | refine inb_exit_other rfl ?_)
    refine inb_exit ?_
    repeat (first | refine then_norm ?_ | refine inb_norm ?_)
    refine wp_seq (wp_region_lit ?_)
    refine wp_pure HF HM rfl 4 [] [(2, sl_ og ((namesB (l.take n)).length) oc), (3, sl_ qg n qc)] (by kernel_rfl) ?_
    clear HF; intro a HF
    refine nil_then ?_
    refine wp_ret ?_
    repeat (first | refine then_ret ?_ | refine inb_ret ?_)
    rw [hn, List.take_length] at HF otk onc
    rw [hn] at qtk qnc
    exact ret_two HF rfl rfl rfl ⟨og, oc, ok, qg, qc, qk, rfl, HM.below, ⟨HM.ge (i := 1) rfl, HM.get (i := 1) rfl, otk, osz, onc, ocm⟩, ⟨HM.ge (i := 0) rfl, HM.get (i := 0) rfl, qtk, qsz, qnc, qcm⟩, HM.ne (i := 1) (j := 0) rfl rfl (by decide)⟩

set_option maxRecDepth 100000 in
set_option maxHeartbeats 1000000 in
theorem sizes_any (wide : Bool) (w0 : World) : Calls Tryd.prog 64 #[.bool wide] w0 fun e w' => e = .returned (.tuple #[i6_ (hSize wide), i6_ (pSize wide), i6_ (sSize wide)]) ∧ Below w0.heap.size w0 w' := by
  cases wide with
  | true =>
    obtain ⟨w, hw⟩ : ∃ w, w0 = w := ⟨_, rfl⟩
    have HM : Mm [] w0 w [] := hw ▸ Mm.start w0
    conv => arg 4; rw [hw]
    clear hw
    refine calls_start Tryd.func64 rfl Tryd.ntmps64 [(0, .bool true)] (by kernel_rfl) (Nat.le_of_ble_eq_true rfl) ?_
    intro a HF
    refine wp_seq (wp_region_lit ?_)
    obtain ⟨z1, hz1⟩ : ∃ z, w.heap.size = z := ⟨_, rfl⟩
    refine wp_pure HF HM hz1 3 [] [(0, .bool true)] (by kernel_rfl) ?_
    clear HF hz1; intro a HF
    refine nil_then ?_
    refine wp_seq ?_
    refine wp_seq (wp_region_lit ?_)
    obtain ⟨z2, hz2⟩ : ∃ z, w.heap.size = z := ⟨_, rfl⟩
    refine wp_pure HF HM hz2 1 [] [(5, .bool true)] (by kernel_rfl) ?_
    clear HF hz2; intro a HF
    refine nil_then ?_
    refine wp_condT HF rfl ?_
    refine wp_seq (wp_region_lit ?_)
    obtain ⟨z3, hz3⟩ : ∃ z, w.heap.size = z := ⟨_, rfl⟩
    refine wp_pure HF HM hz3 3 [] [(2, .int .i64 64), (3, .int .i64 56), (4, .int .i64 64)] (by kernel_rfl) ?_
    clear HF hz3; intro a HF
    refine nil_then ?_
    refine wp_ret ?_
    repeat (first | refine then_ret ?_ | refine inb_ret ?_)
    exact ret_three HF rfl rfl rfl rfl ⟨rfl, HM.below⟩
  | false =>
    obtain ⟨w, hw⟩ : ∃ w, w0 = w := ⟨_, rfl⟩
    have HM : Mm [] w0 w [] := hw ▸ Mm.start w0
    conv => arg 4; rw [hw]
    clear hw
    refine calls_start Tryd.func64 rfl Tryd.ntmps64 [(0, .bool false)] (by kernel_rfl) (Nat.le_of_ble_eq_true rfl) ?_
    intro a HF
    refine wp_seq (wp_region_lit ?_)
    refine wp_pure HF HM rfl 3 [] [(0, .bool false)] (by kernel_rfl) ?_
    clear HF; intro a HF
    refine nil_then ?_
    refine wp_seq ?_
    refine wp_seq (wp_region_lit ?_)
    refine wp_pure HF HM rfl 1 [] [(5, .bool false)] (by kernel_rfl) ?_
    clear HF; intro a HF
    refine nil_then ?_
    refine wp_condF HF rfl ?_
    refine wp_skip ?_
    repeat (first | refine then_norm ?_ | refine inb_norm ?_)
    refine wp_seq (wp_region_lit ?_)
    refine wp_pure HF HM rfl 3 [] [(2, .int .i64 52), (3, .int .i64 32), (4, .int .i64 40)] (by kernel_rfl) ?_
    clear HF; intro a HF
    refine nil_then ?_
    refine wp_ret ?_
    repeat (first | refine then_ret ?_ | refine inb_ret ?_)
    exact ret_three HF rfl rfl rfl rfl ⟨rfl, HM.below⟩

def noneM : PartM := ⟨[], 0, 0, 0, 0, 0, 0, 0, 0, [], none, 0⟩
def firstsM (x : ImgM) : List PartM := noneM :: x.ps
theorem firstsM_length (x : ImgM) : (firstsM x).length = x.ps.length + 1 := by simp [firstsM]
def strM (x : ImgM) (g cap : Nat) : PartM := ⟨shstr, 3, 0, 0, 0, 0, 1, 0, 0, namesB x.img.names, some ⟨g, 0, none⟩, cap⟩
def allM (x : ImgM) (g cap : Nat) : List PartM := firstsM x ++ [strM x g cap]
theorem names_firsts (x : ImgM) : x.img.names = (firstsM x).map (·.name) ++ [shstr] := by
  simp [Img.names, Img.firsts, ImgM.img, firstsM, nonePart, noneM, PartM.part, Function.comp_def]
theorem allM_length (x : ImgM) (g cap : Nat) : (allM x g cap).length = x.ps.length + 2 := by simp [allM, firstsM]
theorem allM_part (x : ImgM) (g cap : Nat) : (allM x g cap).map PartM.part = x.img.all := by
  simp [allM, firstsM, Img.all, Img.firsts, ImgM.img, noneM, nonePart, PartM.part, strM, Img.strPart]
theorem names_len (x : ImgM) : x.img.names.length = x.ps.length + 2 := by rw [names_firsts]; simp [firstsM]
theorem take_next {α : Type} {l : List α} {i : Nat} {m : α} (h : l[i]? = some m) : l.take (i + 1) = l.take i ++ [m] := by
  obtain ⟨hl, e⟩ := List.getElem?_eq_some_iff.1 h
  rw [List.take_succ_eq_append_getElem hl, e]

abbrev all_any_B0 := fun z1 (x : ImgM) => ((z1, .cells #[.bool x.wide, .bool x.big, u8_ x.abi, u8_ x.abiv, .int .i64 x.ty, .int .i64 x.machine, u6_ x.entry, .slice x.A x.ss.length x.c, .slice x.B x.ps.length x.d] 26 (0, 0)) : Nat × Obj)
abbrev all_any_S1 := fun g1 (x : ImgM) cap1 og i oc => ([(3, sl_ g1 (x.ps.length + 1) cap1), (4, sl_ og i oc), (15, sl_ g1 (x.ps.length + 1) cap1), (16, i6_ (x.ps.length + 1)), (17, i6_ i)] : Slots)
abbrev all_any_S2 := fun g1 (x : ImgM) cap1 g3 i cap3 => ([(3, sl_ g1 (x.ps.length + 1) cap1), (4, sl_ g3 (i + 1) cap3), (15, sl_ g1 (x.ps.length + 1) cap1), (16, i6_ (x.ps.length + 1))] : Slots)
abbrev all_any_B3 := fun z13 => ((z13, .cells #[.string (⟨#[46, 115, 104, 115, 116, 114, 116, 97, 98]⟩ : ByteArray)] 9 (0, 0)) : Nat × Obj)
abbrev all_any_B4 := fun z15 gt (x : ImgM) capt => ((z15, .cells #[.string (⟨#[46, 115, 104, 115, 116, 114, 116, 97, 98]⟩ : ByteArray), iT_ 3, iT_ 0, iL_ 0, iT_ 0, iT_ 0, iL_ 1, iL_ 0, iL_ 0, sl_ gt ((namesB x.img.names).length) capt] 46 (0, 0)) : Nat × Obj)
set_option maxRecDepth 100000 in
set_option maxHeartbeats 1000000 in
theorem all_any (x : ImgM) (w0 : World) (h : x.At w0) (hp : x.ps.length ≤ 1000000) (hnb : (namesB x.img.names).length ≤ 4000000000) :
    Calls Tryd.prog 38 #[x.val] w0 fun e w' => ∃ g cap cur gt capt curt, e = .returned (sl_ g (x.ps.length + 2) cap) ∧ Below w0.heap.size w0 w' ∧ Own w0.heap.size w' 46 10 g (x.ps.length + 2) cap cur ((allM x gt capt).flatMap PartM.cells) ∧ Own w0.heap.size w' 5 1 gt (namesB x.img.names).length capt curt ((namesB x.img.names).map Bv) ∧ g ≠ gt := by
  have hfl := firstsM_length x
  obtain ⟨w, hw⟩ : ∃ w, w0 = w := ⟨_, rfl⟩
  have HM : Mm [] w0 w [] := hw ▸ Mm.start w0
  conv => arg 4; rw [hw]
  clear hw
  refine calls_start Tryd.func38 rfl Tryd.ntmps38 [(0, .agg #[.bool x.wide, .bool x.big, u8_ x.abi, u8_ x.abiv, .int .i64 x.ty, .int .i64 x.machine, u6_ x.entry, .slice x.A x.ss.length x.c, .slice x.B x.ps.length x.d])] (by kernel_rfl) (Nat.le_of_ble_eq_true rfl) ?_
  intro a HF
  refine wp_seq (wp_region_lit ?_)
  obtain ⟨z1, hz1⟩ : ∃ z, w.heap.size = z := ⟨_, rfl⟩
  refine wp_sym HF HM hz1 2 [] [(1, pt_ z1)] [all_any_B0 z1 x] (by kernel_rfl) ?_
  clear HF HM hz1; intro a w HF HM
  refine nil_then ?_
  refine wp_seq (wp_region_lit ?_)
  obtain ⟨z2, hz2⟩ : ∃ z, w.heap.size = z := ⟨_, rfl⟩
  refine wp_sym HF HM hz2 4 [[0]] [(10, sl_ z2 1 1), (12, .slice x.B x.ps.length x.d)] [(z2, .cells #[.string (⟨#[]⟩ : ByteArray), iT_ 0, iT_ 0, iL_ 0, iT_ 0, iT_ 0, iL_ 0, iL_ 0, iL_ 0, nl_] 46 (0, 0)), all_any_B0 z1 x] (by kernel_rfl) ?_
  clear HF HM hz2; intro a w HF HM
  refine wp_append_told HF HM rfl _ _ 24 24 rfl rfl 46 (z := .agg #[.string (⟨#[]⟩ : ByteArray), iT_ 0, iT_ 0, iL_ 0, iT_ 0, iT_ 0, iL_ 0, iL_ 0, iL_ 0, nl_]) (size := 10) (bytes := 88) Tryd.underlying24 (by kernel_rfl) rfl (by decide) 0 z2 1 1 #[.string (⟨#[]⟩ : ByteArray), iT_ 0, iT_ 0, iL_ 0, iT_ 0, iT_ 0, iL_ 0, iL_ 0, iL_ 0, nl_] rfl rfl (Nat.le_refl _) (by unfold maxLen; omega) rfl ([.string (⟨#[]⟩ : ByteArray), iT_ 0, iT_ 0, iL_ 0, iT_ 0, iT_ 0, iL_ 0, iL_ 0, iL_ 0, nl_]) rfl (.slice x.B x.ps.length x.d) x.ps.length (x.ps.flatMap PartM.cells) rfl (src_row Tryd.underlying24 (flat_len (f := PartM.cells) (k := 10) (fun _ => rfl) _) (by decide) (HM.row h.parts) (flat_one (fun _ => rfl) _)) (by unfold maxLen; omega) (by omega) ?_
  intro a w1 g1 cap1 cur1 HM2 htk1 hsz1 hnc1 hcm1 HF2; clear HF HM
  rw [show 1 + x.ps.length = (x.ps.length + 1) from by omega] at HF2 htk1 hnc1
  replace htk1 : cur1.toList.take ((x.ps.length + 1) * 10) = (firstsM x).flatMap PartM.cells := htk1.trans (by unfold firstsM; rw [List.flatMap_cons]; rfl)
  have HM : Mm [] w0 w1 [(g1, .cells cur1 46 (0, 0)), all_any_B0 z1 x] := HM2
  have HF := HF2.sub [(13, sl_ g1 (x.ps.length + 1) cap1)] (by kernel_rfl); clear HM2 HF2
  refine wp_pure HF HM rfl 1 [] [(3, sl_ g1 (x.ps.length + 1) cap1)] (by kernel_rfl) ?_
  clear HF; intro a HF
  refine nil_then ?_
  refine wp_seq (wp_region_lit ?_)
  obtain ⟨z4, hz4⟩ : ∃ z, w1.heap.size = z := ⟨_, rfl⟩
  refine wp_sym HF HM hz4 2 [] [(3, sl_ g1 (x.ps.length + 1) cap1), (4, sl_ z4 0 0)] [(z4, .cells #[] 9 (0, 0)), (g1, .cells cur1 46 (0, 0)), all_any_B0 z1 x] (by kernel_rfl) ?_
  clear HF HM hz4; intro a w HF HM
  refine nil_then ?_
  refine wp_seq ?_
  refine wp_seq (wp_region_lit ?_)
  refine wp_pure HF HM rfl 3 [] [(3, sl_ g1 (x.ps.length + 1) cap1), (4, sl_ z4 0 0), (15, sl_ g1 (x.ps.length + 1) cap1), (16, i6_ (x.ps.length + 1)), (17, iI_ 0)] (by kernel_rfl) ?_
  clear HF; intro a HF
  refine nil_then ?_
  refine wp_block ?_
  replace HM := HM.pick [0, 1] [(z4, .cells #[] 9 (0, 0)), (g1, .cells cur1 46 (0, 0))] rfl (by decide)
  refine loop_ind ((x.ps.length + 1)) (fun i a w => (∃ og : Nat, ∃ oc : Nat, ∃ ok : Array Value, (ok.toList.take (i * 1) = ((firstsM x).take i).map (fun p => strV p.name)) ∧ (ok.size = oc * 1) ∧ (i ≤ oc) ∧ (oc ≤ maxLen) ∧ Mm [] w0 w [(og, .cells ok 9 (0, 0)), (g1, .cells cur1 46 (0, 0))] ∧ Fr 39 a (all_any_S1 g1 x cap1 og i oc))) ?_ ?_ ?_
  · exact ⟨z4, 0, #[], rfl, rfl, Nat.le_refl _, by unfold maxLen; omega, HM, HF.sub [(3, sl_ g1 (x.ps.length + 1) cap1), (4, sl_ z4 0 0), (15, sl_ g1 (x.ps.length + 1) cap1), (16, i6_ (x.ps.length + 1)), (17, iI_ 0)] (by kernel_rfl)⟩
  · intro i a w KX hi hI KR
    obtain ⟨og, oc, ok, otk, osz, onc, ocm, HM, HF⟩ := hI
    refine wp_seq (wp_region_lit ?_)
    refine wp_pure HF HM rfl 1 [] ((all_any_S1 g1 x cap1 og i oc) ++ [(18, .bool (decide (((i : Nat) : Int) < (((x.ps.length + 1) : Nat) : Int))))]) (by kernel_rfl) ?_
    clear HF; intro a HF
    refine nil_then ?_
    refine wp_seq ?_
    rw [show decide (((i : Nat) : Int) < (((x.ps.length + 1) : Nat) : Int)) = true from dec_t (by omega)] at HF
    refine wp_condT HF rfl ?_
    refine wp_skip ?_
    repeat (first | refine then_norm ?_ | refine inb_norm ?_)
    refine wp_seq ?_
    refine wp_block ?_
    refine wp_seq (wp_region_lit ?_)
    obtain ⟨m2, hm2⟩ : ∃ m, (firstsM x)[i]? = some m := ⟨_, List.getElem?_eq_getElem (by omega)⟩
    refine wp_run HF (by kernel_rfl) (.pointer (Option.map (fun q : Addr => q.add (i * 10)) (some ⟨g1, 0, none⟩))) (by kernel_rfl) (run_index_row Tryd.underlying24 (by kernel_rfl) rfl i rfl rfl (by omega) (Option.some_ne_none _)) ?_
    clear HF; intro a HF; replace HF := HF.sub ((all_any_S1 g1 x cap1 og i oc) ++ [(19, .pointer (Option.map (fun q : Addr => q.add (i * 10)) (some ⟨g1, 0, none⟩)))]) (by kernel_rfl)
    refine wp_run HF (by kernel_rfl) (.agg #[.string (⟨m2.name.toArray⟩), u3_ m2.ty, u3_ m2.flags, u6_ m2.addr, u3_ m2.link, u3_ m2.info, u6_ m2.align, u6_ m2.ent, u6_ m2.size, .slice m2.A m2.data.length m2.c]) (by kernel_rfl) (run_load_row rfl rfl (row_elem (f := PartM.cells) (k := 10) (fun _ => rfl) (HM.rowOwn (i := 1) rfl htk1) i hm2) (Nat.zero_lt_succ _) Tryd.underlying46 rfl (by kernel_rfl)) ?_
    clear HF; intro a HF; replace HF := HF.sub ((all_any_S1 g1 x cap1 og i oc) ++ [(20, .agg #[.string (⟨m2.name.toArray⟩), u3_ m2.ty, u3_ m2.flags, u6_ m2.addr, u3_ m2.link, u3_ m2.info, u6_ m2.align, u6_ m2.ent, u6_ m2.size, .slice m2.A m2.data.length m2.c])]) (by kernel_rfl)
    obtain ⟨z7, hz7⟩ : ∃ z, w.heap.size = z := ⟨_, rfl⟩
    refine wp_sym HF HM hz7 2 [[2]] [(3, sl_ g1 (x.ps.length + 1) cap1), (4, sl_ og i oc), (6, pt_ z7), (15, sl_ g1 (x.ps.length + 1) cap1), (16, i6_ (x.ps.length + 1)), (17, i6_ i)] [(z7, .cells #[.string (⟨m2.name.toArray⟩), u3_ m2.ty, u3_ m2.flags, u6_ m2.addr, u3_ m2.link, u3_ m2.info, u6_ m2.align, u6_ m2.ent, u6_ m2.size, .slice m2.A m2.data.length m2.c] 46 (0, 0)), (og, .cells ok 9 (0, 0)), (g1, .cells cur1 46 (0, 0))] (by kernel_rfl) ?_
    clear HF HM hz7; intro a w HF HM
    refine nil_then ?_
    refine wp_region_lit ?_
    obtain ⟨z8, hz8⟩ : ∃ z, w.heap.size = z := ⟨_, rfl⟩
    refine wp_sym HF HM hz8 4 [[2]] [(3, sl_ g1 (x.ps.length + 1) cap1), (15, sl_ g1 (x.ps.length + 1) cap1), (16, i6_ (x.ps.length + 1)), (17, i6_ i), (21, sl_ og i oc), (24, sl_ z8 1 1)] [(z8, .cells #[.string (⟨m2.name.toArray⟩)] 9 (0, 0)), (z7, .cells #[.string (⟨m2.name.toArray⟩), u3_ m2.ty, u3_ m2.flags, u6_ m2.addr, u3_ m2.link, u3_ m2.info, u6_ m2.align, u6_ m2.ent, u6_ m2.size, .slice m2.A m2.data.length m2.c] 46 (0, 0)), (og, .cells ok 9 (0, 0)), (g1, .cells cur1 46 (0, 0))] (by kernel_rfl) ?_
    clear HF HM hz8; intro a w HF HM
    refine wp_append_told HF HM rfl _ _ 38 38 rfl rfl 9 (z := .string (⟨#[]⟩ : ByteArray)) (size := 1) (bytes := 16) Tryd.underlying38 (by kernel_rfl) rfl (by decide) 2 og i oc ok rfl rfl onc ocm osz (((firstsM x).take i).map (fun p => strV p.name)) otk (sl_ z8 1 1) 1 [.string (⟨m2.name.toArray⟩)] rfl (src_row Tryd.underlying38 rfl (by decide) (HM.rowAt (i := 0) rfl) (one_cells rfl)) (by unfold maxLen; omega) (by omega) ?_
    intro a w2 g3 cap3 cur3 HM2 htk3 hsz3 hnc3 hcm3 HF2; clear HF HM
    replace htk3 : cur3.toList.take ((i + 1) * 1) = ((firstsM x).take (i + 1)).map (fun p => strV p.name) := htk3.trans (by rw [take_next hm2, List.map_append]; rfl)
    have HM : Mm [] w0 w2 [(z8, .cells #[.string (⟨m2.name.toArray⟩)] 9 (0, 0)), (z7, .cells #[.string (⟨m2.name.toArray⟩), u3_ m2.ty, u3_ m2.flags, u6_ m2.addr, u3_ m2.link, u3_ m2.info, u6_ m2.align, u6_ m2.ent, u6_ m2.size, .slice m2.A m2.data.length m2.c] 46 (0, 0)), (g3, .cells cur3 9 (0, 0)), (g1, .cells cur1 46 (0, 0))] := HM2
    have HF := HF2.sub [(3, sl_ g1 (x.ps.length + 1) cap1), (15, sl_ g1 (x.ps.length + 1) cap1), (16, i6_ (x.ps.length + 1)), (17, i6_ i), (25, sl_ g3 (i + 1) cap3)] (by kernel_rfl); clear HM2 HF2
    refine wp_pure HF HM rfl 1 [] ((all_any_S2 g1 x cap1 g3 i cap3) ++ [(17, i6_ i)]) (by kernel_rfl) ?_
    clear HF; intro a HF
    refine wpList_nil ?_
    repeat (first | refine then_norm ?_ | refine inb_norm ?_)
    refine wp_region_lit ?_
    refine wp_pure HF HM rfl 1 [] ((all_any_S2 g1 x cap1 g3 i cap3) ++ [(26, iI_ (IntKind.i64.wrap (((i : Nat) : Int) + 1)))]) (by kernel_rfl) ?_
    clear HF; intro a HF
    rw [show IntKind.i64.wrap (((i : Nat) : Int) + 1) = (((i + 1) : Nat) : Int) from (IntWalk.i64_in _ (by omega)).trans (by omega)] at HF
    refine wp_pure HF HM rfl 1 [] ((all_any_S2 g1 x cap1 g3 i cap3) ++ [(17, i6_ (i + 1))]) (by kernel_rfl) ?_
    clear HF; intro a HF
    refine wpList_nil ?_
    repeat (first | refine then_norm ?_ | refine inb_norm ?_)
    exact KR _ _ (⟨g3, cap3, cur3, htk3, hsz3, hnc3, hcm3, (HM.pick [2, 3] [(g3, .cells cur3 9 (0, 0)), (g1, .cells cur1 46 (0, 0))] rfl (by decide)), HF.sub ((all_any_S2 g1 x cap1 g3 i cap3) ++ [(17, i6_ (i + 1))]) (by kernel_rfl)⟩)
  · intro a w KX hI
    obtain ⟨og, oc, ok, otk, osz, onc, ocm, HM, HF⟩ := hI
    refine wp_seq (wp_region_lit ?_)
    refine wp_pure HF HM rfl 1 [] [(3, sl_ g1 (x.ps.length + 1) cap1), (4, sl_ og (x.ps.length + 1) oc), (15, sl_ g1 (x.ps.length + 1) cap1), (16, i6_ (x.ps.length + 1)), (17, i6_ (x.ps.length + 1)), (18, .bool (decide ((((x.ps.length + 1) : Nat) : Int) < (((x.ps.length + 1) : Nat) : Int))))] (by kernel_rfl) ?_
    clear HF; intro a HF
    refine nil_then ?_
    refine wp_seq ?_
    rw [show decide ((((x.ps.length + 1) : Nat) : Int) < (((x.ps.length + 1) : Nat) : Int)) = false from dec_f (by omega)] at HF
    refine wp_condF HF rfl ?_
    refine wp_exit ?_
    repeat (first | refine then_exit ?_ | refine inb_exit_other rfl ?_)
    refine inb_exit ?_
    repeat (first | refine then_norm ?_ | refine inb_norm ?_)
    refine wp_seq (wp_region_lit ?_)
    obtain ⟨z13, hz13⟩ : ∃ z, w.heap.size = z := ⟨_, rfl⟩
    refine wp_sym HF HM hz13 2 [] [(3, sl_ g1 (x.ps.length + 1) cap1), (28, sl_ og (x.ps.length + 1) oc), (29, sl_ z13 1 1)] [all_any_B3 z13, (og, .cells ok 9 (0, 0)), (g1, .cells cur1 46 (0, 0))] (by kernel_rfl) ?_
    clear HF HM hz13; intro a w HF HM
    refine wp_append_told HF HM rfl _ _ 38 38 rfl rfl 9 (z := .string (⟨#[]⟩ : ByteArray)) (size := 1) (bytes := 16) Tryd.underlying38 (by kernel_rfl) rfl (by decide) 1 og (x.ps.length + 1) oc ok rfl rfl onc ocm osz (((firstsM x).take (x.ps.length + 1)).map (fun p => strV p.name)) otk (sl_ z13 1 1) 1 [.string (⟨#[46, 115, 104, 115, 116, 114, 116, 97, 98]⟩ : ByteArray)] rfl (src_row Tryd.underlying38 rfl (by decide) (HM.rowAt (i := 0) rfl) (one_cells rfl)) (by unfold maxLen; omega) (by omega) ?_
    intro a w3 g4 cap4 cur4 HM2 htk4 hsz4 hnc4 hcm4 HF2; clear HF HM
    rw [show (x.ps.length + 1) + 1 = (x.ps.length + 2) from by omega] at HF2 htk4 hnc4
    replace htk4 : cur4.toList.take ((x.ps.length + 2) * 1) = x.img.names.map strV := htk4.trans (by rw [names_firsts, ← firstsM_length, List.take_length, List.map_append, List.map_map]; rfl)
    have HM : Mm [] w0 w3 [all_any_B3 z13, (g4, .cells cur4 9 (0, 0)), (g1, .cells cur1 46 (0, 0))] := HM2
    have HF := HF2.sub [(3, sl_ g1 (x.ps.length + 1) cap1), (30, sl_ g4 (x.ps.length + 2) cap4)] (by kernel_rfl); clear HM2 HF2
    refine wp_call HF (by kernel_rfl) 65 #[sl_ g4 (x.ps.length + 2) cap4] (by kernel_rfl) (fun w => by kernel_rfl) (Calls.mono (names_any x.img.names _ _ _ (by rw [names_len]) w3 (HM.rowOwn (i := 1) rfl htk4) hnb (by omega)) ?_)
    rintro _ w4 ⟨gt, capt, curt, g3, cap3, cur3, rfl, hb, ho, ho3, hne⟩
    replace HM : Mm [] w0 w4 [(gt, .cells curt 5 (0, 0)), all_any_B3 z13, (g4, .cells cur4 9 (0, 0)), (g1, .cells cur1 46 (0, 0))] := HM.push hb ho.new ho.obj
    refine ⟨_, rfl, ?_⟩; clear HF; intro a HF
    replace HF := HF.sub [(3, sl_ g1 (x.ps.length + 1) cap1), (31, .tuple #[sl_ gt ((namesB x.img.names).length) capt, sl_ g3 x.img.names.length cap3])] (by kernel_rfl)
    refine wp_pure HF HM rfl 5 [] [(3, sl_ g1 (x.ps.length + 1) cap1), (7, sl_ gt ((namesB x.img.names).length) capt)] (by kernel_rfl) ?_
    clear HF; intro a HF
    refine nil_then ?_
    refine wp_seq (wp_region_lit ?_)
    obtain ⟨z15, hz15⟩ : ∃ z, w4.heap.size = z := ⟨_, rfl⟩
    refine wp_sym HF HM hz15 4 [] [(34, sl_ g1 (x.ps.length + 1) cap1), (37, sl_ z15 1 1)] [all_any_B4 z15 gt x capt, (gt, .cells curt 5 (0, 0)), all_any_B3 z13, (g4, .cells cur4 9 (0, 0)), (g1, .cells cur1 46 (0, 0))] (by kernel_rfl) ?_
    clear HF HM hz15; intro a w HF HM
    refine wp_append_told HF HM rfl _ _ 24 24 rfl rfl 46 (z := .agg #[.string (⟨#[]⟩ : ByteArray), iT_ 0, iT_ 0, iL_ 0, iT_ 0, iT_ 0, iL_ 0, iL_ 0, iL_ 0, nl_]) (size := 10) (bytes := 88) Tryd.underlying24 (by kernel_rfl) rfl (by decide) 4 g1 (x.ps.length + 1) cap1 cur1 rfl rfl hnc1 hcm1 hsz1 ((firstsM x).flatMap PartM.cells) htk1 (sl_ z15 1 1) 1 [.string (⟨#[46, 115, 104, 115, 116, 114, 116, 97, 98]⟩ : ByteArray), iT_ 3, iT_ 0, iL_ 0, iT_ 0, iT_ 0, iL_ 1, iL_ 0, iL_ 0, sl_ gt ((namesB x.img.names).length) capt] rfl (src_row Tryd.underlying24 rfl (by decide) (HM.rowAt (i := 0) rfl) (one_cells rfl)) (by unfold maxLen; omega) (by omega) ?_
    intro a w5 g5 cap5 cur5 HM2 htk5 hsz5 hnc5 hcm5 HF2; clear HF HM
    rw [show (x.ps.length + 1) + 1 = (x.ps.length + 2) from by omega] at HF2 htk5 hnc5
    replace htk5 : cur5.toList.take ((x.ps.length + 2) * 10) = (allM x gt capt).flatMap PartM.cells := htk5.trans (by unfold allM; rw [List.flatMap_append]; rfl)
    have HM : Mm [] w0 w5 [all_any_B4 z15 gt x capt, (gt, .cells curt 5 (0, 0)), all_any_B3 z13, (g4, .cells cur4 9 (0, 0)), (g5, .cells cur5 46 (0, 0))] := HM2
    have HF := HF2.sub [(38, sl_ g5 (x.ps.length + 2) cap5)] (by kernel_rfl); clear HM2 HF2
    refine wp_pure HF HM rfl 1 [] [(2, sl_ g5 (x.ps.length + 2) cap5)] (by kernel_rfl) ?_
    clear HF; intro a HF
    refine nil_then ?_
    refine wp_ret ?_
    repeat (first | refine then_ret ?_ | refine inb_ret ?_)
    exact ret_one HF rfl rfl ⟨g5, cap5, cur5, gt, capt, curt, rfl, HM.below, ⟨HM.ge (i := 4) rfl, HM.get (i := 4) rfl, htk5, hsz5, hnc5, hcm5⟩, ⟨HM.ge (i := 1) rfl, HM.get (i := 1) rfl, ho.tk, ho.sz, ho.nc, ho.cm⟩, HM.ne (i := 4) (j := 1) rfl rfl (by decide)⟩

end Go.Proofs.YtdgehpocmfjbiaaDoor
namespace Go.Proofs.YtdgehpocmfjbiaaDoor
open Go.RowKit

def headL (wide big : Bool) (abi abiv : Nat) : List UInt8 := [127, 69, 76, 70, if wide then 2 else 1, if big then 2 else 1, 1, UInt8.ofNat abi, UInt8.ofNat abiv] ++ List.replicate 7 0
theorem Bv_of_lt {n : Nat} (h : n < 256) : Bv (UInt8.ofNat n) = u8_ n := by
  rw [Bv_ofNat]
  have : ((n : Nat) : Int) % 256 = (n : Int) := by omega
  rw [this]
theorem headL_cells (wide big : Bool) (abi abiv : Nat) (h1 : abi < 256) (h2 : abiv < 256) :
    (#[.int .u8 127, .int .u8 69, .int .u8 76, .int .u8 70, .int .u8 (if wide then 2 else 1), .int .u8 (if big then 2 else 1), .int .u8 1, u8_ abi, u8_ abiv] : Array Value).toList ++ List.replicate 7 (.int .u8 0) = (headL wide big abi abiv).map Bv := by
  unfold headL
  rw [List.map_append, List.map_replicate]
  simp only [List.map_cons, List.map_nil]
  rw [Bv_of_lt h1, Bv_of_lt h2]
  cases wide <;> cases big <;> rfl

abbrev headerRow_any_B0 := fun z1 (x : ImgM) => ((z1, .cells #[.bool x.wide, .bool x.big, u8_ x.abi, u8_ x.abiv, .int .i64 x.ty, .int .i64 x.machine, u6_ x.entry, .slice x.A x.ss.length x.c, .slice x.B x.ps.length x.d] 26 (0, 0)) : Nat × Obj)
abbrev headerRow_any_S1 := fun (segs : Nat) (at_ : Nat) (m : Nat) (frm : Nat) z1 => ([(1, i6_ segs), (2, i6_ at_), (3, i6_ m), (4, i6_ frm), (5, pt_ z1)] : Slots)
abbrev headerRow_any_S2 := fun (segs : Nat) (at_ : Nat) (m : Nat) (frm : Nat) z1 (x : ImgM) => ((headerRow_any_S1 segs at_ m frm z1) ++ [(11, i6_ (hSize x.wide)), (12, i6_ (pSize x.wide)), (13, i6_ (sSize x.wide))] : Slots)
abbrev headerRow_any_B3 := fun z11 (x : ImgM) => ((z11, .cells #[iB_ 127, iB_ 69, iB_ 76, iB_ 70, iB_ (if x.wide then 2 else 1), iB_ (if x.big then 2 else 1), iB_ 1, u8_ x.abi, u8_ x.abiv] 5 (0, 0)) : Nat × Obj)
abbrev headerRow_any_S4 := fun (segs : Nat) (m : Nat) (x : ImgM) z5 => ([(1, i6_ segs), (3, i6_ m), (11, i6_ (hSize x.wide)), (12, i6_ (pSize x.wide)), (13, i6_ (sSize x.wide)), (14, pt_ z5)] : Slots)
set_option maxRecDepth 100000 in
set_option maxHeartbeats 1000000 in
theorem headerRow_any (x : ImgM) (segs at_ m frm : Nat) (hsg : segs ≤ 1000000) (hat : at_ ≤ 4000000000) (hm1 : 1 ≤ m) (hm : m ≤ 1000000) (hfr : frm ≤ 4000000000) (ht0 : 0 ≤ x.ty) (ht1 : x.ty ≤ 65535) (hm0 : 0 ≤ x.machine) (hm9 : x.machine ≤ 65535) (w0 : World) (h : x.At w0) :
    Calls Tryd.prog 66 #[x.val, i6_ segs, i6_ at_, i6_ m, i6_ frm] w0 fun e w' => ∃ g cap cur, e = .returned (sl_ g (headB x.wide x.big x.abi x.abiv x.ty.toNat x.machine.toNat x.entry segs at_ m frm).length cap) ∧ Below w0.heap.size w0 w' ∧ Own w0.heap.size w' 5 1 g (headB x.wide x.big x.abi x.abiv x.ty.toNat x.machine.toNat x.entry segs at_ m frm).length cap cur ((headB x.wide x.big x.abi x.abiv x.ty.toNat x.machine.toNat x.entry segs at_ m frm).map Bv) := by
  have hty : x.ty = ((x.ty.toNat : Nat) : Int) := by omega
  have hmc : x.machine = ((x.machine.toNat : Nat) : Int) := by omega
  have hsz : hSize x.wide ≤ 64 ∧ pSize x.wide ≤ 64 ∧ sSize x.wide ≤ 64 := by unfold hSize pSize sSize; cases x.wide <;> decide
  have hent := h.entry
  obtain ⟨w, hw⟩ : ∃ w, w0 = w := ⟨_, rfl⟩
  have HM : Mm [] w0 w [] := hw ▸ Mm.start w0
  conv => arg 4; rw [hw]
  clear hw
  refine calls_start Tryd.func66 rfl Tryd.ntmps66 [(0, .agg #[.bool x.wide, .bool x.big, u8_ x.abi, u8_ x.abiv, .int .i64 x.ty, .int .i64 x.machine, u6_ x.entry, .slice x.A x.ss.length x.c, .slice x.B x.ps.length x.d]), (1, i6_ segs), (2, i6_ at_), (3, i6_ m), (4, i6_ frm)] (by kernel_rfl) (Nat.le_of_ble_eq_true rfl) ?_
  intro a HF
  refine wp_seq (wp_region_lit ?_)
  obtain ⟨z1, hz1⟩ : ∃ z, w.heap.size = z := ⟨_, rfl⟩
  refine wp_sym HF HM hz1 2 [] (headerRow_any_S1 segs at_ m frm z1) [headerRow_any_B0 z1 x] (by kernel_rfl) ?_
  clear HF HM hz1; intro a w HF HM
  refine nil_then ?_
  refine wp_seq (wp_region_lit ?_)
  obtain ⟨z2, hz2⟩ : ∃ z, w.heap.size = z := ⟨_, rfl⟩
  refine wp_pure HF HM hz2 2 [[0]] ((headerRow_any_S1 segs at_ m frm z1) ++ [(19, .bool x.wide)]) (by kernel_rfl) ?_
  clear HF hz2; intro a HF
  refine wp_call HF (by kernel_rfl) 64 #[.bool x.wide] (by kernel_rfl) (fun w => by kernel_rfl) (Calls.mono (sizes_any x.wide w) ?_)
  rintro _ w1 ⟨rfl, hb⟩
  replace HM := HM.call hb
  clear hb
  refine ⟨_, rfl, ?_⟩; clear HF; intro a HF
  replace HF := HF.sub ((headerRow_any_S1 segs at_ m frm z1) ++ [(20, .tuple #[i6_ (hSize x.wide), i6_ (pSize x.wide), i6_ (sSize x.wide)])]) (by kernel_rfl)
  refine wp_pure HF HM rfl 7 [] (headerRow_any_S2 segs at_ m frm z1 x) (by kernel_rfl) ?_
  clear HF; intro a HF
  refine nil_then ?_
  refine wp_seq (wp_region_lit ?_)
  obtain ⟨z4, hz4⟩ : ∃ z, w1.heap.size = z := ⟨_, rfl⟩
  refine wp_pure HF HM hz4 5 [[0], [0]] ((headerRow_any_S2 segs at_ m frm z1 x) ++ [(28, .agg #[.bool x.wide, .bool x.big, nl_])]) (by kernel_rfl) ?_
  clear HF hz4; intro a HF
  obtain ⟨z5, hz5⟩ : ∃ z, w1.heap.size = z := ⟨_, rfl⟩
  have hzl : z1 < z5 := hz5 ▸ HM.lt (i := 0) rfl
  have hge : w0.heap.size ≤ z5 := hz5 ▸ HM.size
  refine wp_sym HF HM hz5 2 [] ((headerRow_any_S2 segs at_ m frm z1 x) ++ [(14, pt_ z5)]) [(z5, .cells #[.bool x.wide, .bool x.big, nl_] 169 (0, 0)), headerRow_any_B0 z1 x] (by kernel_rfl) ?_
  clear HF HM hz5; intro a w HF HM
  refine nil_then ?_
  refine wp_seq (wp_region_lit ?_)
  refine wp_pure HF HM rfl 2 [] ((headerRow_any_S2 segs at_ m frm z1 x) ++ [(14, pt_ z5), (15, iB_ 1), (16, iB_ 1)]) (by kernel_rfl) ?_
  clear HF; intro a HF
  refine nil_then ?_
  refine wp_seq ?_
  refine wp_seq (wp_region_lit ?_)
  refine wp_pure HF HM rfl 2 [[0]] ((headerRow_any_S2 segs at_ m frm z1 x) ++ [(14, pt_ z5), (15, iB_ 1), (16, iB_ 1), (31, .bool x.wide)]) (by kernel_rfl) ?_
  clear HF; intro a HF
  refine nil_then ?_
  refine wp_merge (fun a w => (Mm [] w0 w [(z5, .cells #[.bool x.wide, .bool x.big, nl_] 169 (0, 0)), headerRow_any_B0 z1 x] ∧ Fr 100 a ((headerRow_any_S2 segs at_ m frm z1 x) ++ [(14, pt_ z5), (15, iB_ (if x.wide then 2 else 1)), (16, iB_ 1)]))) ?_ ?_
  · rcases bool_cases2 x.wide with hc1 | hc1
    · replace HF := Fr.sub (Fr.tell HF 31 rfl (congrArg Value.bool hc1)) ((headerRow_any_S2 segs at_ m frm z1 x) ++ [(14, pt_ z5), (15, iB_ 1), (16, iB_ 1), (31, .bool false)]) (by kernel_rfl)
      refine wp_condF HF rfl ?_
      refine wp_skip ?_
      repeat (first | refine then_norm ?_ | refine inb_norm ?_)
      exact ⟨HM, (by rw [show (if x.wide then 2 else 1 : Int) = 1 from by rw [hc1]; rfl]; exact HF.sub ((headerRow_any_S2 segs at_ m frm z1 x) ++ [(14, pt_ z5), (15, iB_ 1), (16, iB_ 1)]) (by kernel_rfl))⟩
    replace HF := Fr.sub (Fr.tell HF 31 rfl (congrArg Value.bool hc1)) ((headerRow_any_S2 segs at_ m frm z1 x) ++ [(14, pt_ z5), (15, iB_ 1), (16, iB_ 1), (31, .bool true)]) (by kernel_rfl)
    refine wp_condT HF rfl ?_
    refine wp_region_lit ?_
    refine wp_pure HF HM rfl 1 [] ((headerRow_any_S2 segs at_ m frm z1 x) ++ [(14, pt_ z5), (15, iB_ 2), (16, iB_ 1)]) (by kernel_rfl) ?_
    clear HF; intro a HF
    refine wpList_nil ?_
    repeat (first | refine then_norm ?_ | refine inb_norm ?_)
    exact ⟨HM, (by rw [show (if x.wide then 2 else 1 : Int) = 2 from by rw [hc1]; rfl]; exact HF.sub ((headerRow_any_S2 segs at_ m frm z1 x) ++ [(14, pt_ z5), (15, iB_ 2), (16, iB_ 1)]) (by kernel_rfl))⟩
  rintro a w ⟨HM, HF⟩
  repeat (first | refine then_norm ?_ | refine inb_norm ?_)
  refine wp_seq ?_
  refine wp_seq (wp_region_lit ?_)
  refine wp_pure HF HM rfl 2 [[0]] ((headerRow_any_S2 segs at_ m frm z1 x) ++ [(14, pt_ z5), (15, iB_ (if x.wide then 2 else 1)), (16, iB_ 1), (33, .bool x.big)]) (by kernel_rfl) ?_
  clear HF; intro a HF
  refine nil_then ?_
  refine wp_merge (fun a w => (Mm [] w0 w [(z5, .cells #[.bool x.wide, .bool x.big, nl_] 169 (0, 0)), headerRow_any_B0 z1 x] ∧ Fr 100 a ((headerRow_any_S2 segs at_ m frm z1 x) ++ [(14, pt_ z5), (15, iB_ (if x.wide then 2 else 1)), (16, iB_ (if x.big then 2 else 1))]))) ?_ ?_
  · rcases bool_cases2 x.big with hc2 | hc2
    · replace HF := Fr.sub (Fr.tell HF 33 rfl (congrArg Value.bool hc2)) ((headerRow_any_S2 segs at_ m frm z1 x) ++ [(14, pt_ z5), (15, iB_ (if x.wide then 2 else 1)), (16, iB_ 1), (33, .bool false)]) (by kernel_rfl)
      refine wp_condF HF rfl ?_
      refine wp_skip ?_
      repeat (first | refine then_norm ?_ | refine inb_norm ?_)
      exact ⟨HM, (by rw [show (if x.big then 2 else 1 : Int) = 1 from by rw [hc2]; rfl]; exact HF.sub ((headerRow_any_S2 segs at_ m frm z1 x) ++ [(14, pt_ z5), (15, iB_ (if x.wide then 2 else 1)), (16, iB_ 1)]) (by kernel_rfl))⟩
    replace HF := Fr.sub (Fr.tell HF 33 rfl (congrArg Value.bool hc2)) ((headerRow_any_S2 segs at_ m frm z1 x) ++ [(14, pt_ z5), (15, iB_ (if x.wide then 2 else 1)), (16, iB_ 1), (33, .bool true)]) (by kernel_rfl)
    refine wp_condT HF rfl ?_
    refine wp_region_lit ?_
    refine wp_pure HF HM rfl 1 [] ((headerRow_any_S2 segs at_ m frm z1 x) ++ [(14, pt_ z5), (15, iB_ (if x.wide then 2 else 1)), (16, iB_ 2)]) (by kernel_rfl) ?_
    clear HF; intro a HF
    refine wpList_nil ?_
    repeat (first | refine then_norm ?_ | refine inb_norm ?_)
    exact ⟨HM, (by rw [show (if x.big then 2 else 1 : Int) = 2 from by rw [hc2]; rfl]; exact HF.sub ((headerRow_any_S2 segs at_ m frm z1 x) ++ [(14, pt_ z5), (15, iB_ (if x.wide then 2 else 1)), (16, iB_ 2)]) (by kernel_rfl))⟩
  rintro a w ⟨HM, HF⟩
  repeat (first | refine then_norm ?_ | refine inb_norm ?_)
  refine wp_seq (wp_region_lit ?_)
  obtain ⟨z11, hz11⟩ : ∃ z, w.heap.size = z := ⟨_, rfl⟩
  refine wp_sym HF HM hz11 8 [[0], [0]] ((headerRow_any_S2 segs at_ m frm z1 x) ++ [(14, pt_ z5), (34, pt_ z5), (41, sl_ z11 9 9)]) [headerRow_any_B3 z11 x, (z5, .cells #[.bool x.wide, .bool x.big, nl_] 169 (0, 0)), headerRow_any_B0 z1 x] (by kernel_rfl) ?_
  clear HF HM hz11; intro a w HF HM
  have hgl := HM.lt (i := 1) rfl
  refine wp_append_zeros HF HM rfl _ _ 33 3 rfl rfl 5 Tryd.underlying33 Tryd.underlying3 (by kernel_rfl) 0 z11 9 #[iB_ 127, iB_ 69, iB_ 76, iB_ 70, iB_ (if x.wide then 2 else 1), iB_ (if x.big then 2 else 1), iB_ 1, u8_ x.abi, u8_ x.abiv] rfl rfl rfl 7 (by omega) (by omega) (by omega) rfl ?_
  intro a w2 gz capz curz HM2 hgz tkz szz ncz cmz HF2; clear HF HM
  have HM : Mm [] w0 w2 [(gz, .cells curz 5 (0, 0)), headerRow_any_B3 z11 x, (z5, .cells #[.bool x.wide, .bool x.big, nl_] 169 (0, 0)), headerRow_any_B0 z1 x] := HM2
  have HF := HF2.sub ((headerRow_any_S2 segs at_ m frm z1 x) ++ [(14, pt_ z5), (34, pt_ z5), (42, sl_ gz 16 capz)]) (by kernel_rfl); clear HM2 HF2
  refine wp_sym HF HM rfl 3 [[1]] ((headerRow_any_S2 segs at_ m frm z1 x) ++ [(14, pt_ z5)]) [(gz, .cells curz 5 (0, 0)), headerRow_any_B3 z11 x, (z5, .cells #[.bool x.wide, .bool x.big, sl_ gz 16 capz] 169 (0, 0)), headerRow_any_B0 z1 x] (by kernel_rfl) ?_
  clear HF HM; intro a w HF HM
  have HR : RowObj w z5 x.wide x.big (headL x.wide x.big x.abi x.abiv) := ⟨_, HM.get (i := 2) rfl, by rw [List.length_map]; rfl, .inr ⟨gz, capz, curz, rfl, by omega, HM.get (i := 0) rfl, ncz, cmz, szz, tkz.trans (headL_cells x.wide x.big x.abi x.abiv h.abi h.abiv)⟩⟩
  replace HM := HM.pick [3] [headerRow_any_B0 z1 x] rfl (by decide)
  refine nil_then ?_
  refine wp_seq (wp_region_lit ?_)
  refine wp_pure HF HM rfl 4 [[0]] [(1, i6_ segs), (2, i6_ at_), (3, i6_ m), (4, i6_ frm), (5, pt_ z1), (11, i6_ (hSize x.wide)), (12, i6_ (pSize x.wide)), (13, i6_ (sSize x.wide)), (14, pt_ z5), (45, pt_ z5), (48, iL_ (IntKind.u64.wrap x.ty))] (by kernel_rfl) ?_
  clear HF; intro a HF
  rw [show IntKind.u64.wrap x.ty = x.ty from IntWalk.u64_in _ (by omega)] at HF
  rw [hty] at HF
  refine wp_call HF (by kernel_rfl) 73 #[pt_ z5, u6_ x.ty.toNat, iI_ 2] (by kernel_rfl) (fun w => by kernel_rfl) (Calls.mono (put_any z5 x.ty.toNat 2 x.big x.wide _ (by omega) (by have hz := szOf_le x.wide 0 (by omega); have hz2 := szOf_le x.wide 2 (by omega); have hz4 := szOf_le x.wide 4 (by omega); simp only [List.length_append, fixedB_length, headL, List.length_cons, List.length_nil, List.length_replicate]; omega) w HR) ?_)
  rintro _ w3 ⟨rfl, HR2, hb⟩
  replace HM := HM.belowG hb (by intro p hp; rw [List.mem_singleton] at hp; subst hp; exact hzl) hge
  clear HR; have HR := HR2; clear HR2 hb
  refine ⟨_, rfl, ?_⟩; clear HF; intro a HF
  replace HF := HF.sub ((headerRow_any_S2 segs at_ m frm z1 x) ++ [(14, pt_ z5)]) (by kernel_rfl)
  refine nil_then ?_
  refine wp_seq (wp_region_lit ?_)
  refine wp_pure HF HM rfl 4 [[0]] [(1, i6_ segs), (2, i6_ at_), (3, i6_ m), (4, i6_ frm), (5, pt_ z1), (11, i6_ (hSize x.wide)), (12, i6_ (pSize x.wide)), (13, i6_ (sSize x.wide)), (14, pt_ z5), (50, pt_ z5), (53, iL_ (IntKind.u64.wrap x.machine))] (by kernel_rfl) ?_
  clear HF; intro a HF
  rw [show IntKind.u64.wrap x.machine = x.machine from IntWalk.u64_in _ (by omega)] at HF
  rw [hmc] at HF
  refine wp_call HF (by kernel_rfl) 73 #[pt_ z5, u6_ x.machine.toNat, iI_ 2] (by kernel_rfl) (fun w => by kernel_rfl) (Calls.mono (put_any z5 x.machine.toNat 2 x.big x.wide _ (by omega) (by have hz := szOf_le x.wide 0 (by omega); have hz2 := szOf_le x.wide 2 (by omega); have hz4 := szOf_le x.wide 4 (by omega); simp only [List.length_append, fixedB_length, headL, List.length_cons, List.length_nil, List.length_replicate]; omega) w3 HR) ?_)
  rintro _ w4 ⟨rfl, HR2, hb⟩
  replace HM := HM.belowG hb (by intro p hp; rw [List.mem_singleton] at hp; subst hp; exact hzl) hge
  clear HR; have HR := HR2; clear HR2 hb
  refine ⟨_, rfl, ?_⟩; clear HF; intro a HF
  replace HF := HF.sub ((headerRow_any_S2 segs at_ m frm z1 x) ++ [(14, pt_ z5)]) (by kernel_rfl)
  refine nil_then ?_
  refine wp_seq (wp_region_lit ?_)
  refine wp_pure HF HM rfl 1 [] ((headerRow_any_S2 segs at_ m frm z1 x) ++ [(14, pt_ z5), (55, pt_ z5)]) (by kernel_rfl) ?_
  clear HF; intro a HF
  refine wp_call HF (by kernel_rfl) 73 #[pt_ z5, iL_ 1, iI_ 4] (by kernel_rfl) (fun w => by kernel_rfl) (Calls.mono (put_any z5 1 4 x.big x.wide _ (by omega) (by have hz := szOf_le x.wide 0 (by omega); have hz2 := szOf_le x.wide 2 (by omega); have hz4 := szOf_le x.wide 4 (by omega); simp only [List.length_append, fixedB_length, headL, List.length_cons, List.length_nil, List.length_replicate]; omega) w4 HR) ?_)
  rintro _ w5 ⟨rfl, HR2, hb⟩
  replace HM := HM.belowG hb (by intro p hp; rw [List.mem_singleton] at hp; subst hp; exact hzl) hge
  clear HR; have HR := HR2; clear HR2 hb
  refine ⟨_, rfl, ?_⟩; clear HF; intro a HF
  replace HF := HF.sub ((headerRow_any_S2 segs at_ m frm z1 x) ++ [(14, pt_ z5)]) (by kernel_rfl)
  refine nil_then ?_
  refine wp_seq (wp_region_lit ?_)
  refine wp_pure HF HM rfl 3 [[0]] [(1, i6_ segs), (2, i6_ at_), (3, i6_ m), (4, i6_ frm), (11, i6_ (hSize x.wide)), (12, i6_ (pSize x.wide)), (13, i6_ (sSize x.wide)), (14, pt_ z5), (57, pt_ z5), (59, u6_ x.entry)] (by kernel_rfl) ?_
  clear HF; intro a HF
  refine wp_call HF (by kernel_rfl) 73 #[pt_ z5, u6_ x.entry, iI_ 0] (by kernel_rfl) (fun w => by kernel_rfl) (Calls.mono (put_any z5 x.entry 0 x.big x.wide _ (by omega) (by have hz := szOf_le x.wide 0 (by omega); have hz2 := szOf_le x.wide 2 (by omega); have hz4 := szOf_le x.wide 4 (by omega); simp only [List.length_append, fixedB_length, headL, List.length_cons, List.length_nil, List.length_replicate]; omega) w5 HR) ?_)
  rintro _ w6 ⟨rfl, HR2, hb⟩
  replace HM := HM.belowG hb (by intro p hp; rw [List.mem_singleton] at hp; subst hp; exact hzl) hge
  clear HR; have HR := HR2; clear HR2 hb
  refine ⟨_, rfl, ?_⟩; clear HF; intro a HF
  replace HF := HF.sub [(1, i6_ segs), (2, i6_ at_), (3, i6_ m), (4, i6_ frm), (11, i6_ (hSize x.wide)), (12, i6_ (pSize x.wide)), (13, i6_ (sSize x.wide)), (14, pt_ z5)] (by kernel_rfl)
  refine nil_then ?_
  refine wp_seq (wp_region_lit ?_)
  refine wp_pure HF HM rfl 3 [] [(1, i6_ segs), (3, i6_ m), (4, i6_ frm), (11, i6_ (hSize x.wide)), (12, i6_ (pSize x.wide)), (13, i6_ (sSize x.wide)), (14, pt_ z5), (61, pt_ z5), (63, iL_ (IntKind.u64.wrap ((at_ : Nat) : Int)))] (by kernel_rfl) ?_
  clear HF; intro a HF
  rw [show IntKind.u64.wrap ((at_ : Nat) : Int) = ((at_ : Nat) : Int) from IntWalk.u64_in _ (by omega)] at HF
  refine wp_call HF (by kernel_rfl) 73 #[pt_ z5, u6_ at_, iI_ 0] (by kernel_rfl) (fun w => by kernel_rfl) (Calls.mono (put_any z5 at_ 0 x.big x.wide _ (by omega) (by have hz := szOf_le x.wide 0 (by omega); have hz2 := szOf_le x.wide 2 (by omega); have hz4 := szOf_le x.wide 4 (by omega); simp only [List.length_append, fixedB_length, headL, List.length_cons, List.length_nil, List.length_replicate]; omega) w6 HR) ?_)
  rintro _ w7 ⟨rfl, HR2, hb⟩
  replace HM := HM.belowG hb (by intro p hp; rw [List.mem_singleton] at hp; subst hp; exact hzl) hge
  clear HR; have HR := HR2; clear HR2 hb
  refine ⟨_, rfl, ?_⟩; clear HF; intro a HF
  replace HF := HF.sub [(1, i6_ segs), (3, i6_ m), (4, i6_ frm), (11, i6_ (hSize x.wide)), (12, i6_ (pSize x.wide)), (13, i6_ (sSize x.wide)), (14, pt_ z5)] (by kernel_rfl)
  refine nil_then ?_
  refine wp_seq (wp_region_lit ?_)
  refine wp_pure HF HM rfl 3 [] ((headerRow_any_S4 segs m x z5) ++ [(65, pt_ z5), (67, iL_ (IntKind.u64.wrap ((frm : Nat) : Int)))]) (by kernel_rfl) ?_
  clear HF; intro a HF
  rw [show IntKind.u64.wrap ((frm : Nat) : Int) = ((frm : Nat) : Int) from IntWalk.u64_in _ (by omega)] at HF
  refine wp_call HF (by kernel_rfl) 73 #[pt_ z5, u6_ frm, iI_ 0] (by kernel_rfl) (fun w => by kernel_rfl) (Calls.mono (put_any z5 frm 0 x.big x.wide _ (by omega) (by have hz := szOf_le x.wide 0 (by omega); have hz2 := szOf_le x.wide 2 (by omega); have hz4 := szOf_le x.wide 4 (by omega); simp only [List.length_append, fixedB_length, headL, List.length_cons, List.length_nil, List.length_replicate]; omega) w7 HR) ?_)
  rintro _ w8 ⟨rfl, HR2, hb⟩
  replace HM := HM.belowG hb (by intro p hp; rw [List.mem_singleton] at hp; subst hp; exact hzl) hge
  clear HR; have HR := HR2; clear HR2 hb
  refine ⟨_, rfl, ?_⟩; clear HF; intro a HF
  replace HF := HF.sub (headerRow_any_S4 segs m x z5) (by kernel_rfl)
  refine nil_then ?_
  refine wp_seq (wp_region_lit ?_)
  refine wp_pure HF HM rfl 1 [] ((headerRow_any_S4 segs m x z5) ++ [(69, pt_ z5)]) (by kernel_rfl) ?_
  clear HF; intro a HF
  refine wp_call HF (by kernel_rfl) 73 #[pt_ z5, iL_ 0, iI_ 4] (by kernel_rfl) (fun w => by kernel_rfl) (Calls.mono (put_any z5 0 4 x.big x.wide _ (by omega) (by have hz := szOf_le x.wide 0 (by omega); have hz2 := szOf_le x.wide 2 (by omega); have hz4 := szOf_le x.wide 4 (by omega); simp only [List.length_append, fixedB_length, headL, List.length_cons, List.length_nil, List.length_replicate]; omega) w8 HR) ?_)
  rintro _ w9 ⟨rfl, HR2, hb⟩
  replace HM := HM.belowG hb (by intro p hp; rw [List.mem_singleton] at hp; subst hp; exact hzl) hge
  clear HR; have HR := HR2; clear HR2 hb
  refine ⟨_, rfl, ?_⟩; clear HF; intro a HF
  replace HF := HF.sub (headerRow_any_S4 segs m x z5) (by kernel_rfl)
  refine nil_then ?_
  refine wp_seq (wp_region_lit ?_)
  refine wp_pure HF HM rfl 3 [] [(1, i6_ segs), (3, i6_ m), (12, i6_ (pSize x.wide)), (13, i6_ (sSize x.wide)), (14, pt_ z5), (71, pt_ z5), (73, iL_ (IntKind.u64.wrap (((hSize x.wide) : Nat) : Int)))] (by kernel_rfl) ?_
  clear HF; intro a HF
  rw [show IntKind.u64.wrap (((hSize x.wide) : Nat) : Int) = (((hSize x.wide) : Nat) : Int) from IntWalk.u64_in _ (by omega)] at HF
  refine wp_call HF (by kernel_rfl) 73 #[pt_ z5, u6_ (hSize x.wide), iI_ 2] (by kernel_rfl) (fun w => by kernel_rfl) (Calls.mono (put_any z5 (hSize x.wide) 2 x.big x.wide _ (by omega) (by have hz := szOf_le x.wide 0 (by omega); have hz2 := szOf_le x.wide 2 (by omega); have hz4 := szOf_le x.wide 4 (by omega); simp only [List.length_append, fixedB_length, headL, List.length_cons, List.length_nil, List.length_replicate]; omega) w9 HR) ?_)
  rintro _ w10 ⟨rfl, HR2, hb⟩
  replace HM := HM.belowG hb (by intro p hp; rw [List.mem_singleton] at hp; subst hp; exact hzl) hge
  clear HR; have HR := HR2; clear HR2 hb
  refine ⟨_, rfl, ?_⟩; clear HF; intro a HF
  replace HF := HF.sub [(1, i6_ segs), (3, i6_ m), (12, i6_ (pSize x.wide)), (13, i6_ (sSize x.wide)), (14, pt_ z5)] (by kernel_rfl)
  refine nil_then ?_
  refine wp_seq (wp_region_lit ?_)
  refine wp_pure HF HM rfl 3 [] [(1, i6_ segs), (3, i6_ m), (13, i6_ (sSize x.wide)), (14, pt_ z5), (75, pt_ z5), (77, iL_ (IntKind.u64.wrap (((pSize x.wide) : Nat) : Int)))] (by kernel_rfl) ?_
  clear HF; intro a HF
  rw [show IntKind.u64.wrap (((pSize x.wide) : Nat) : Int) = (((pSize x.wide) : Nat) : Int) from IntWalk.u64_in _ (by omega)] at HF
  refine wp_call HF (by kernel_rfl) 73 #[pt_ z5, u6_ (pSize x.wide), iI_ 2] (by kernel_rfl) (fun w => by kernel_rfl) (Calls.mono (put_any z5 (pSize x.wide) 2 x.big x.wide _ (by omega) (by have hz := szOf_le x.wide 0 (by omega); have hz2 := szOf_le x.wide 2 (by omega); have hz4 := szOf_le x.wide 4 (by omega); simp only [List.length_append, fixedB_length, headL, List.length_cons, List.length_nil, List.length_replicate]; omega) w10 HR) ?_)
  rintro _ w11 ⟨rfl, HR2, hb⟩
  replace HM := HM.belowG hb (by intro p hp; rw [List.mem_singleton] at hp; subst hp; exact hzl) hge
  clear HR; have HR := HR2; clear HR2 hb
  refine ⟨_, rfl, ?_⟩; clear HF; intro a HF
  replace HF := HF.sub [(1, i6_ segs), (3, i6_ m), (13, i6_ (sSize x.wide)), (14, pt_ z5)] (by kernel_rfl)
  refine nil_then ?_
  refine wp_seq (wp_region_lit ?_)
  refine wp_pure HF HM rfl 3 [] [(3, i6_ m), (13, i6_ (sSize x.wide)), (14, pt_ z5), (79, pt_ z5), (81, iL_ (IntKind.u64.wrap ((segs : Nat) : Int)))] (by kernel_rfl) ?_
  clear HF; intro a HF
  rw [show IntKind.u64.wrap ((segs : Nat) : Int) = ((segs : Nat) : Int) from IntWalk.u64_in _ (by omega)] at HF
  refine wp_call HF (by kernel_rfl) 73 #[pt_ z5, u6_ segs, iI_ 2] (by kernel_rfl) (fun w => by kernel_rfl) (Calls.mono (put_any z5 segs 2 x.big x.wide _ (by omega) (by have hz := szOf_le x.wide 0 (by omega); have hz2 := szOf_le x.wide 2 (by omega); have hz4 := szOf_le x.wide 4 (by omega); simp only [List.length_append, fixedB_length, headL, List.length_cons, List.length_nil, List.length_replicate]; omega) w11 HR) ?_)
  rintro _ w12 ⟨rfl, HR2, hb⟩
  replace HM := HM.belowG hb (by intro p hp; rw [List.mem_singleton] at hp; subst hp; exact hzl) hge
  clear HR; have HR := HR2; clear HR2 hb
  refine ⟨_, rfl, ?_⟩; clear HF; intro a HF
  replace HF := HF.sub [(3, i6_ m), (13, i6_ (sSize x.wide)), (14, pt_ z5)] (by kernel_rfl)
  refine nil_then ?_
  refine wp_seq (wp_region_lit ?_)
  refine wp_pure HF HM rfl 3 [] [(3, i6_ m), (14, pt_ z5), (83, pt_ z5), (85, iL_ (IntKind.u64.wrap (((sSize x.wide) : Nat) : Int)))] (by kernel_rfl) ?_
  clear HF; intro a HF
  rw [show IntKind.u64.wrap (((sSize x.wide) : Nat) : Int) = (((sSize x.wide) : Nat) : Int) from IntWalk.u64_in _ (by omega)] at HF
  refine wp_call HF (by kernel_rfl) 73 #[pt_ z5, u6_ (sSize x.wide), iI_ 2] (by kernel_rfl) (fun w => by kernel_rfl) (Calls.mono (put_any z5 (sSize x.wide) 2 x.big x.wide _ (by omega) (by have hz := szOf_le x.wide 0 (by omega); have hz2 := szOf_le x.wide 2 (by omega); have hz4 := szOf_le x.wide 4 (by omega); simp only [List.length_append, fixedB_length, headL, List.length_cons, List.length_nil, List.length_replicate]; omega) w12 HR) ?_)
  rintro _ w13 ⟨rfl, HR2, hb⟩
  replace HM := HM.belowG hb (by intro p hp; rw [List.mem_singleton] at hp; subst hp; exact hzl) hge
  clear HR; have HR := HR2; clear HR2 hb
  refine ⟨_, rfl, ?_⟩; clear HF; intro a HF
  replace HF := HF.sub [(3, i6_ m), (14, pt_ z5)] (by kernel_rfl)
  refine nil_then ?_
  refine wp_seq (wp_region_lit ?_)
  refine wp_pure HF HM rfl 3 [] [(3, i6_ m), (14, pt_ z5), (87, pt_ z5), (89, iL_ (IntKind.u64.wrap ((m : Nat) : Int)))] (by kernel_rfl) ?_
  clear HF; intro a HF
  rw [show IntKind.u64.wrap ((m : Nat) : Int) = ((m : Nat) : Int) from IntWalk.u64_in _ (by omega)] at HF
  refine wp_call HF (by kernel_rfl) 73 #[pt_ z5, u6_ m, iI_ 2] (by kernel_rfl) (fun w => by kernel_rfl) (Calls.mono (put_any z5 m 2 x.big x.wide _ (by omega) (by have hz := szOf_le x.wide 0 (by omega); have hz2 := szOf_le x.wide 2 (by omega); have hz4 := szOf_le x.wide 4 (by omega); simp only [List.length_append, fixedB_length, headL, List.length_cons, List.length_nil, List.length_replicate]; omega) w13 HR) ?_)
  rintro _ w14 ⟨rfl, HR2, hb⟩
  replace HM := HM.belowG hb (by intro p hp; rw [List.mem_singleton] at hp; subst hp; exact hzl) hge
  clear HR; have HR := HR2; clear HR2 hb
  refine ⟨_, rfl, ?_⟩; clear HF; intro a HF
  replace HF := HF.sub [(3, i6_ m), (14, pt_ z5)] (by kernel_rfl)
  refine nil_then ?_
  refine wp_seq (wp_region_lit ?_)
  refine wp_pure HF HM rfl 3 [] [(14, pt_ z5), (91, pt_ z5), (93, iI_ (IntKind.i64.wrap (((m : Nat) : Int) - 1)))] (by kernel_rfl) ?_
  clear HF; intro a HF
  rw [show IntKind.i64.wrap (((m : Nat) : Int) - 1) = (((m - 1) : Nat) : Int) from (IntWalk.i64_in _ (by omega)).trans (by omega)] at HF
  refine wp_pure HF HM rfl 1 [] [(14, pt_ z5), (91, pt_ z5), (94, iL_ (IntKind.u64.wrap (((m - 1) : Nat) : Int)))] (by kernel_rfl) ?_
  clear HF; intro a HF
  rw [show IntKind.u64.wrap (((m - 1) : Nat) : Int) = (((m - 1) : Nat) : Int) from IntWalk.u64_in _ (by omega)] at HF
  refine wp_call HF (by kernel_rfl) 73 #[pt_ z5, u6_ (m - 1), iI_ 2] (by kernel_rfl) (fun w => by kernel_rfl) (Calls.mono (put_any z5 (m - 1) 2 x.big x.wide _ (by omega) (by have hz := szOf_le x.wide 0 (by omega); have hz2 := szOf_le x.wide 2 (by omega); have hz4 := szOf_le x.wide 4 (by omega); simp only [List.length_append, fixedB_length, headL, List.length_cons, List.length_nil, List.length_replicate]; omega) w14 HR) ?_)
  rintro _ w15 ⟨rfl, HR2, hb⟩
  replace HM := HM.belowG hb (by intro p hp; rw [List.mem_singleton] at hp; subst hp; exact hzl) hge
  clear HR; have HR := HR2; clear HR2 hb
  refine ⟨_, rfl, ?_⟩; clear HF; intro a HF
  replace HF := HF.sub [(14, pt_ z5)] (by kernel_rfl)
  refine nil_then ?_
  refine wp_seq (wp_region_lit ?_)
  obtain ⟨v, hv, hown⟩ := HR
  have hcv : w15.cell? ⟨z5, 2, none⟩ = some v := obj_cell hv 2
  refine wp_pure HF HM rfl 3 [] [(98, .pointer (some ⟨z5, 2, none⟩))] (by kernel_rfl) ?_
  clear HF; intro a HF
  refine wp_run HF (by kernel_rfl) (v) (by kernel_rfl) (run_load_one rfl rfl (by kernel_rfl) hcv) ?_
  clear HF; intro a HF; replace HF := HF.sub [(99, v)] (by kernel_rfl)
  refine wp_pure HF HM rfl 1 [] [(10, v)] (by kernel_rfl) ?_
  clear HF; intro a HF
  refine nil_then ?_
  refine wp_ret ?_
  repeat (first | refine then_ret ?_ | refine inb_ret ?_)
  have hown2 : w15.ownsRow (z5 + 1) 5 1 v (headB x.wide x.big x.abi x.abiv x.ty.toNat x.machine.toNat x.entry segs at_ m frm).length ((headB x.wide x.big x.abi x.abiv x.ty.toNat x.machine.toNat x.entry segs at_ m frm).map Bv) := hown
  rcases hown2.2 with ⟨_, h0⟩ | ⟨g, cap, cur, rfl, hg, hh, hnc, hcm, hcs, htk⟩
  · rw [headB_length] at h0; unfold hSize at h0; split at h0 <;> omega
  exact ret_one HF rfl rfl ⟨g, cap, cur, rfl, HM.below, ⟨by omega, hh, htk, hcs, hnc, hcm⟩⟩

end Go.Proofs.YtdgehpocmfjbiaaDoor
namespace Go.Proofs.YtdgehpocmfjbiaaDoor
open Go.RowKit

section
variable {x : ImgM} {g cap i : Nat}
def fdM (m : PartM) : List UInt8 := fileData m.part
def segPre (x : ImgM) (i : Nat) : List UInt8 := (x.ss.take i).flatMap (·.data)
theorem segPre_next {m : SegM} (hm : x.ss[i]? = some m) : segPre x (i + 1) = segPre x i ++ m.data := by
  unfold segPre
  rw [take_next hm, List.flatMap_append]
  simp
theorem segPre_img (x : ImgM) (i : Nat) : segPre x i = (x.img.segs.take i).flatMap (·.data) := by
  unfold segPre
  show _ = ((x.ss.map SegM.seg).take i).flatMap (·.data)
  rw [← List.map_take, List.flatMap_map]
  rfl
theorem segPlace_eq (x : ImgM) (i : Nat) : x.img.segPlace i = x.img.at0 + (segPre x i).length := by rw [segPre_img]; rfl
theorem segs_len (x : ImgM) : x.img.segs.length = x.ss.length := List.length_map ..
theorem segPre_all (x : ImgM) : segPre x x.ss.length = x.img.segBody := by
  rw [segPre_img, ← segs_len, List.take_length]
  rfl
theorem segPre_le (x : ImgM) (i : Nat) : (segPre x i).length ≤ x.img.segBody.length := by rw [segPre_img]; exact flat_le _ _ _
def bodyM (x : ImgM) (g cap i : Nat) : List UInt8 := x.img.segBody ++ ((allM x g cap).take i).flatMap fdM
theorem bodyM_zero (x : ImgM) (g cap : Nat) : bodyM x g cap 0 = x.img.segBody := by simp [bodyM]
theorem bodyM_next {m : PartM} (hm : (allM x g cap)[i]? = some m) : bodyM x g cap (i + 1) = bodyM x g cap i ++ fdM m := by
  unfold bodyM
  rw [take_next hm, List.flatMap_append, List.append_assoc]
  simp
theorem bodyM_img (x : ImgM) (g cap i : Nat) : bodyM x g cap i = x.img.segBody ++ (x.img.all.take i).flatMap fileData := by
  unfold bodyM
  rw [← allM_part x g cap, ← List.map_take, List.flatMap_map]
  rfl
theorem secPlace_eq (x : ImgM) (g cap i : Nat) (h : i ≠ 0) : x.img.secPlace i = x.img.at0 + (bodyM x g cap i).length := by
  rw [bodyM_img]
  unfold Img.secPlace
  rw [if_neg h, List.length_append, Nat.add_assoc]
theorem all_len (x : ImgM) : x.img.all.length = x.ps.length + 2 := by rw [← allM_part x 0 0, List.length_map, allM_length]
theorem bodyM_all (x : ImgM) (g cap : Nat) : bodyM x g cap (x.ps.length + 2) = x.img.segBody ++ x.img.secBody := by
  rw [bodyM_img, ← all_len, List.take_length]
  rfl
theorem bodyM_le (x : ImgM) (g cap i : Nat) (ok : x.img.Ok) : (bodyM x g cap i).length ≤ 120953600 := by
  have h1 := ok.segBody_le
  have h2 := ok.secBody_le
  have h3 := flat_le fileData x.img.all i
  have h4 : ((x.img.all.take i).flatMap fileData).length ≤ x.img.secBody.length := h3
  rw [bodyM_img, List.length_append]
  omega
theorem shoff_eq (x : ImgM) (g cap : Nat) : x.img.shoff = x.img.at0 + (bodyM x g cap (x.ps.length + 2)).length := by
  rw [bodyM_all]
  rfl
theorem at0_eq (x : ImgM) : x.img.at0 = hSize x.wide + pSize x.wide * x.ss.length := by
  unfold Img.at0
  rw [segs_len]
  rfl
theorem head_eq (x : ImgM) : headB x.wide x.big x.abi x.abiv x.ty.toNat x.machine.toNat x.entry x.ss.length (hSize x.wide) (x.ps.length + 2) x.img.shoff = x.img.head := by
  unfold Img.head
  rw [segs_len, all_len]
  rfl
def outM (x : ImgM) (i : Nat) : List UInt8 := x.img.head ++ rowsFrom x.img.segRow 0 (x.img.segs.take i)
theorem outM_zero (x : ImgM) : outM x 0 = x.img.head := by simp [outM, rowsFrom]
def segRowM (x : ImgM) (i : Nat) (m : SegM) : List UInt8 := segB x.wide x.big m.ty m.flags m.vaddr m.paddr m.memsz m.align m.data.length (x.img.segPlace i)
theorem outM_next {m : SegM} (hm : x.ss[i]? = some m) : outM x (i + 1) = outM x i ++ segRowM x i m := by
  have h1 : x.img.segs[i]? = some m.seg := by
    show (x.ss.map SegM.seg)[i]? = _
    rw [List.getElem?_map, hm]; rfl
  obtain ⟨hl, e⟩ := List.getElem?_eq_some_iff.1 h1
  have hr : segRowM x i m = x.img.segRow i m.seg := rfl
  unfold outM
  rw [hr, rowsFrom_take _ _ _ hl, e]
  simp only [List.append_assoc]
theorem outM_len (x : ImgM) (i : Nat) (ok : x.img.Ok) : (outM x i).length ≤ 122000000 := by
  have h := ok.length_le
  have h2 : (rowsFrom x.img.segRow 0 (x.img.segs.take i)).length ≤ (rowsFrom x.img.segRow 0 x.img.segs).length := by
    rw [rowsFrom_length x.img.segRow (pSize x.img.wide) _ _ fun j a _ => segB_length .., rowsFrom_length x.img.segRow (pSize x.img.wide) _ _ fun j a _ => segB_length ..]
    exact Nat.mul_le_mul_right _ (by rw [List.length_take]; omega)
  unfold outM
  unfold Img.file at h
  simp only [List.length_append] at h ⊢
  omega
def endM (x : ImgM) (i : Nat) : List UInt8 := outM x x.ss.length ++ (x.img.segBody ++ x.img.secBody) ++ rowsFrom x.img.secRow 0 (x.img.all.take i)
theorem endM_zero (x : ImgM) : endM x 0 = outM x x.ss.length ++ (x.img.segBody ++ x.img.secBody) := by simp [endM, rowsFrom]
def secRowM (x : ImgM) (i : Nat) (m : PartM) : List UInt8 := secB x.wide x.big (x.img.namePlace i) m.ty m.flags m.addr (x.img.secPlace i) (sizeB m.ty m.size m.data.length) m.link m.info m.align m.ent
theorem endM_next {m : PartM} (hm : (allM x g cap)[i]? = some m) : endM x (i + 1) = endM x i ++ secRowM x i m := by
  have h1 : x.img.all[i]? = some m.part := by rw [← allM_part x g cap, List.getElem?_map, hm]; rfl
  obtain ⟨hl, e⟩ := List.getElem?_eq_some_iff.1 h1
  have hr : secRowM x i m = x.img.secRow i m.part := rfl
  unfold endM
  rw [hr, rowsFrom_take _ _ _ hl, e]
  simp only [List.append_assoc]
theorem endM_all (x : ImgM) : endM x (x.ps.length + 2) = x.img.file := by
  unfold endM outM
  rw [← all_len, List.take_length, ← segs_len, List.take_length]
  rfl
theorem endM_len (x : ImgM) (i : Nat) (ok : x.img.Ok) : (endM x i).length ≤ 122000000 := by
  have h := ok.length_le
  have h2 : (rowsFrom x.img.secRow 0 (x.img.all.take i)).length ≤ (rowsFrom x.img.secRow 0 x.img.all).length := by
    rw [rowsFrom_length x.img.secRow (sSize x.img.wide) _ _ fun j a _ => secB_length .., rowsFrom_length x.img.secRow (sSize x.img.wide) _ _ fun j a _ => secB_length ..]
    exact Nat.mul_le_mul_right _ (by rw [List.length_take]; omega)
  unfold endM outM
  rw [← segs_len, List.take_length]
  unfold Img.file at h
  simp only [List.length_append] at h ⊢
  omega
theorem names_all (x : ImgM) (g cap : Nat) : (allM x g cap).map (·.name) = x.img.names := by
  rw [names_firsts]
  simp [allM, strM]
theorem names_takeS (x : ImgM) (g cap : Nat) : ((allM x g cap).take (x.ps.length + 2)).map (fun p => strV p.name) = x.img.names.map strV := by
  rw [← allM_length x g cap, List.take_length, ← names_all x g cap, List.map_map]
  rfl
theorem places_set (x : ImgM) : ((List.range x.img.names.length).map (fun j => numV (nameAt x.img.names j))).set 0 (numV 0) = (List.range x.img.names.length).map (fun j => numV (x.img.namePlace j)) := by
  apply List.ext_getElem
  · simp
  · intro j h1 h2
    rw [List.getElem_set]
    simp only [List.getElem_map, List.getElem_range]
    unfold Img.namePlace
    split
    · rename_i h; rw [if_pos h.symm]
    · rename_i h; rw [if_neg (fun e => h e.symm)]
theorem range_next {f : Nat → Value} (i : Nat) : (List.range i).map f ++ [f i] = (List.range (i + 1)).map f := by
  rw [List.range_succ, List.map_append]; rfl
theorem allM_at {w0 w : World} {L : List (Nat × Obj)} {curt : Array Value} (h : x.At w0) (HM : Mm [] w0 w L) {k : Nat} {t : TypeId} {f : Nat × Nat} (e : L[k]? = some (g, .cells curt t f)) (tk : curt.toList.take ((namesB x.img.names).length * 1) = (namesB x.img.names).map Bv) (m : PartM) (hm : m ∈ allM x g cap) :
    Row w m.A (m.data.map Bv) := by
  simp only [allM, firstsM, List.mem_append, List.mem_cons, List.not_mem_nil, or_false] at hm
  rcases hm with (rfl | hm) | rfl
  · exact Row.nil _ _
  · exact HM.row (h.part m hm).row
  · exact HM.rowOwn e tk
structure AllB (m : PartM) : Prop where
  ty : m.ty < 4294967296
  flags : m.flags < 4294967296
  link : m.link < 4294967296
  info : m.info < 4294967296
  data : m.data.length ≤ 1100000
theorem allM_b {w0 : World} (h : x.At w0) (ok : x.Ok) (m : PartM) (hm : m ∈ allM x g cap) : AllB m := by
  have hnb := (ImgM.ok ok h).namesB_le
  simp only [allM, firstsM, List.mem_append, List.mem_cons, List.not_mem_nil, or_false] at hm
  rcases hm with (rfl | hm) | rfl
  · exact ⟨by decide, by decide, by decide, by decide, by decide⟩
  · have o := ok.part m hm
    have b := h.part m hm
    exact ⟨b.ty, b.flags, b.link, b.info, by have := o.data; omega⟩
  · exact ⟨by show 3 < _; omega, by show 0 < _; omega, by show 0 < _; omega, by show 0 < _; omega, by show (namesB x.img.names).length ≤ 1100000; omega⟩
theorem fdM_not {m : PartM} (h : ((m.ty : Nat) : Int) ≠ 8) : fdM m = m.data := by
  have : m.ty ≠ 8 := by omega
  show (if m.ty = 8 then [] else m.data) = m.data
  rw [if_neg this]
theorem fdM_is {m : PartM} (h : ¬ ((m.ty : Nat) : Int) ≠ 8) : fdM m = [] := by
  have : m.ty = 8 := by omega
  show (if m.ty = 8 then [] else m.data) = []
  rw [if_pos this]
end
theorem own_of {w : World} {base e size n : Nat} {v : Value} {xs : List Value} (h : w.ownsRow base e size v n xs) (hn : 0 < n) : ∃ g cap cur, v = .slice (some ⟨g, 0, none⟩) n cap ∧ Own base w e size g n cap cur xs := by
  rcases h.2 with ⟨_, h0⟩ | ⟨g, cap, cur, rfl, hg, hh, hnc, hcm, hcs, htk⟩
  · omega
  · exact ⟨g, cap, cur, rfl, ⟨hg, hh, htk, hcs, hnc, hcm⟩⟩
/-- spec.SegmentRow, in either class -/
theorem segRow_call (wide big : Bool) (x2 x3 x4 x5 x6 x7 x8 : Value) (ty flags vaddr paddr memsz align n c offset : Nat) (A : Option Addr) (h1 : ty ≤ 4294967295) (h2 : flags ≤ 4294967295) (h3 : offset ≤ 4294967295) (h4 : n ≤ 4294967295) (w : World) :
    Calls Tryd.prog 67 #[.agg #[.bool wide, .bool big, x2, x3, x4, x5, x6, x7, x8], .agg #[.int .u32 ty, .int .u32 flags, .int .u64 vaddr, .int .u64 paddr, .int .u64 memsz, .int .u64 align, .slice A n c], .int .i64 offset] w
      fun e w' => ∃ g cap cur, e = .returned (.slice (some ⟨g, 0, none⟩) (segB wide big ty flags vaddr paddr memsz align n offset).length cap) ∧ Below w.heap.size w w' ∧ Own w.heap.size w' 5 1 g (segB wide big ty flags vaddr paddr memsz align n offset).length cap cur ((segB wide big ty flags vaddr paddr memsz align n offset).map Bv) := by
  have hp : 0 < (segB wide big ty flags vaddr paddr memsz align n offset).length := by rw [segB_length]; unfold pSize; split <;> omega
  cases wide with
  | true =>
    refine (segmentRow_wide big x2 x3 x4 x5 x6 x7 x8 ty flags vaddr paddr memsz align n c offset A h1 h2 h3 h4 w).mono ?_
    rintro e w' ⟨v, rfl, ho, hb⟩
    obtain ⟨g, cap, cur, rfl, h⟩ := own_of ho hp
    exact ⟨g, cap, cur, rfl, hb, h⟩
  | false =>
    refine (segmentRow_thin big x2 x3 x4 x5 x6 x7 x8 ty flags vaddr paddr memsz align n c offset A h1 h2 h3 h4 w).mono ?_
    rintro e w' ⟨v, rfl, ho, hb⟩
    obtain ⟨g, cap, cur, rfl, h⟩ := own_of ho hp
    exact ⟨g, cap, cur, rfl, hb, h⟩
theorem secRow_call (wide big : Bool) (x2 x3 x4 x5 x6 x7 x8 : Value) (name : Nat) (nm : ByteArray) (ty flags addr link info align ent size n c offset : Nat) (A : Option Addr) (h0 : name ≤ 4294967295) (h1 : ty ≤ 4294967295) (h2 : flags ≤ 4294967295) (h3 : offset ≤ 4294967295) (h4 : n ≤ 4294967295) (h5 : link ≤ 4294967295) (h6 : info ≤ 4294967295) (w : World) :
    Calls Tryd.prog 68 #[.agg #[.bool wide, .bool big, x2, x3, x4, x5, x6, x7, x8], .int .i64 name, .agg #[.string nm, .int .u32 ty, .int .u32 flags, .int .u64 addr, .int .u32 link, .int .u32 info, .int .u64 align, .int .u64 ent, .int .u64 size, .slice A n c], .int .i64 offset] w
      fun e w' => ∃ g cap cur, e = .returned (.slice (some ⟨g, 0, none⟩) (secB wide big name ty flags addr offset (sizeB ty size n) link info align ent).length cap) ∧ Below w.heap.size w w' ∧ Own w.heap.size w' 5 1 g (secB wide big name ty flags addr offset (sizeB ty size n) link info align ent).length cap cur ((secB wide big name ty flags addr offset (sizeB ty size n) link info align ent).map Bv) := by
  have hp : 0 < (secB wide big name ty flags addr offset (sizeB ty size n) link info align ent).length := by rw [secB_length]; unfold sSize; split <;> omega
  refine (sectionRow_any wide big x2 x3 x4 x5 x6 x7 x8 name nm ty flags addr link info align ent size n c offset A h0 h1 h2 h3 h4 h5 h6 w).mono ?_
  rintro e w' ⟨v, rfl, ho, hb⟩
  obtain ⟨g, cap, cur, rfl, h⟩ := own_of ho hp
  exact ⟨g, cap, cur, rfl, hb, h⟩
end Go.Proofs.YtdgehpocmfjbiaaDoor
namespace Go.Proofs.YtdgehpocmfjbiaaDoor
open Go.RowKit
theorem run_binop_eql2 {P : Program} {w : World} {ρ : Operand → Value} {o : Oper} {b : BinOp} {T U : TypeId} {x y : Operand} {u v r : Value} (ho : o.op = .binOp b T x y U) (hx : ρ x = u) (hy : ρ y = v) (hg : (eqGuard b T x y u v).run P w = .ok () w) (hr : (binOp b T u v).run P w = .ok r w) : (execOp ρ o).run P w = .ok (.value r) w := by
  unfold execOp
  simp only [ho, hx, hy, Sem.run_bind, hg, hr, Result.andThen_ok, Sem.run_pure]
theorem neqGuard2_sect (x y : Operand) (xs ys : Array Value) (w : World) : (eqGuard .neq 64 x y (.agg xs) (.agg ys)).run Tryd.prog w = .ok () w := run_eqGuard_agg _ _ _ _ _ _ _ (by kernel_rfl)
theorem neq2_sect (s0 : ByteArray) (a1 : Int) (a2 : Int) (a3 : Int) (a4 : Int) (a5 : Int) (a6 : Int) (a7 : Int) (a8 : Int) (a9 : Int) (a10 : Int) (w : World) : (binOp .neq 64 (.agg #[.string s0, .int .i64 a1, .int .i64 a2, .int .u64 a3, .int .u64 a4, .int .u64 a5, .int .i64 a6, .int .i64 a7, .int .u64 a8, .int .u64 a9, .int .u64 a10]) (.agg #[.string s0, .int .i64 a1, .int .i64 a2, .int .u64 a3, .int .u64 a4, .int .u64 a5, .int .i64 a6, .int .i64 a7, .int .u64 a8, .int .u64 a9, .int .u64 a10])).run Tryd.prog w = .ok (.bool false) w := by
  have u64 := Tryd.underlying64
  have u3 := Tryd.underlying3
  have u9 := Tryd.underlying9
  have u22 := Tryd.underlying22
  go_simp
theorem neqGuard2_prog (x y : Operand) (xs ys : Array Value) (w : World) : (eqGuard .neq 73 x y (.agg xs) (.agg ys)).run Tryd.prog w = .ok () w := run_eqGuard_agg _ _ _ _ _ _ _ (by kernel_rfl)
theorem neq2_prog (a0 : Int) (a1 : Int) (a2 : Int) (a3 : Int) (a4 : Int) (a5 : Int) (a6 : Int) (a7 : Int) (w : World) : (binOp .neq 73 (.agg #[.int .i64 a0, .int .i64 a1, .int .u64 a2, .int .u64 a3, .int .u64 a4, .int .u64 a5, .int .u64 a6, .int .u64 a7]) (.agg #[.int .i64 a0, .int .i64 a1, .int .u64 a2, .int .u64 a3, .int .u64 a4, .int .u64 a5, .int .u64 a6, .int .u64 a7])).run Tryd.prog w = .ok (.bool false) w := by
  have u73 := Tryd.underlying73
  have u3 := Tryd.underlying3
  have u22 := Tryd.underlying22
  go_simp
end Go.Proofs.YtdgehpocmfjbiaaDoor
