/- getSymbols, Symbols, gnuVersionInit, DynamicSymbols on a file with a table of symbols. · impl.codeOf of no error. · Symbols as arguments, opened; the  -/
import Derived.Test.YtdgehpocmfjbiaaDoorRo
import Derived.Test.YtdgehpocmfjbiaaDoorRd
import Derived.Test.YtdgehpocmfjbiaaDoorRg
import Derived.Test.YtdgehpocmfjbiaaDoorRh
import Derived.Test.YtdgehpocmfjbiaaDoorRm
import Derived.Test.YtdgehpocmfjbiaaDoorRows
import Derived.Stop.LaidErr
import Derived.LaidSub
import Derived.RowKitTokens
set_option linter.unusedVariables false
set_option linter.unusedSimpArgs false
set_option maxRecDepth 100000
set_option maxHeartbeats 2000000
namespace Go.Proofs.YtdgehpocmfjbiaaDoor
open Go.RowKit

theorem Own.lo {B B' : Nat} {w : World} {e : TypeId} {size g n cap : Nat} {cur : Array Value} {xs : List Value} (h : Own B w e size g n cap cur xs) (hl : B' ≤ B) : Own B' w e size g n cap cur xs := ⟨Nat.le_trans hl h.new, h.obj, h.tk, h.sz, h.nc, h.cm⟩
/-- the first two parts of an image are a table of symbols and their names -/
structure qI (x : bZ) (tv : Nat) (l : List SymM) : Prop where
 ex : ∃ p q, x.ps[0]? = some p ∧ x.ps[1]? = some q ∧ dL.Ok x.wide p ∧ dL.Ok x.wide q ∧ p.ty = tv ∧ p.link = 2 ∧ q.ty ≠ 8 ∧ p.data = dN x.wide x.img.big l l.length ∧ q.data = dB (dF l)
 n : l.length ≤ 1024
 ok : ∀ m ∈ l, SymM.Ok x.wide m
 at_ : ∀ m ∈ l, SymM.At m
 kind : tv = 2 ∨ tv = 11
 tys : ∀ m ∈ x.ps, m.ty < 1610612736
theorem AY {x : bZ} {kind : Nat} {l : List SymM} {gt cu gn lW g cap : Nat} (ok : x.Ok) (hn : l.length ≤ 1024) (hok : ∀ m ∈ l, SymM.Ok x.wide m) (hat : ∀ m ∈ l, SymM.At m) (hk : kind = 2 ∨ kind = 11) : qI (x.more (rY x kind l gt cu) (su l gn lW) g cap) kind l where
 ex := ⟨rY x kind l gt cu, su l gn lW, rfl, rfl, wS x kind l gt cu hn hk, Am x.wide l gn lW (rP l x.wide hn hok), rfl, rfl, (by decide : (3 : Nat) ≠ 8), rfl, rfl⟩
 n := hn
 ok := hok
 at_ := hat
 kind := hk
 tys := fun m hm => by
  have hm' : m ∈ rY x kind l gt cu :: su l gn lW :: x.ps := hm
  rcases List.mem_cons.1 hm' with rfl | hm'
  ·exact (wS x kind l gt cu hn hk).H_
  ·rcases List.mem_cons.1 hm' with rfl | hm'
   ·exact (by decide : (3 : Nat) < 1610612736)
   ·exact (ok.part m hm').H_
theorem RN {x : bZ} (h : ∀ m ∈ x.ps, m.ty < 1610612736) (j : Nat) (hj : j < x.ps.length + 2) : (jw x.img j).ty < 1610612736 := by
 rcases Nat.eq_zero_or_pos j with rfl | h0
 ·exact (by decide : (0 : Nat) < 1610612736)
 ·obtain ⟨k, rfl⟩ : ∃ k, j = k + 1 := ⟨j - 1, by omega⟩
  by_cases hk : k < x.ps.length
  ·rw [Gi (List.getElem?_eq_getElem hk)]; exact h _ (List.getElem_mem hk)
  ·obtain rfl : k = x.ps.length := by omega
   unfold jw; rw [O4]; exact (by decide : (3 : Nat) < 1610612736)

theorem Ro {x : bZ} {b c z fb pg aV : Nat} {cur dU : Array Value} {w0 : World} (hF : kR x b c z fb pg aV cur dU w0) (hw : x.wide = false) (tv : Nat) (l : List SymM) (hs : qI x tv l) : Calls Tryd.prog 79 #[aA fb, aX tv] w0 fun e w' => ∃ gs cap gk tx nt, e = .returned (.tuple #[aC gs l.length cap, aC tx nt nt, .nilIface]) ∧ Below w0.heap.size w0 w' ∧ Own w0.heap.size w' 188 10 gs l.length cap gk (l.flatMap t_) := by
 have hfb := hF.Qj hw
 have hkd := hs.kind
 obtain ⟨p, q, hm0, hm1, hpo, hqo, hpt, hpl, hq8, FI, Dk⟩ := hs.ex
 have hok := hs.ok
 rw [hw] at FI hok
 obtain ⟨w, hw⟩ : ∃ w, w0 = w := ⟨_, rfl⟩
 have HM : Mm [] w0 w [] := hw ▸ Mm.start w0
 conv => arg 4; rw [hw]
 clear hw
 refine bI Tryd.func79 rfl Tryd.ntmps79 [(0, aA fb), (1, aX tv)] (by kernel_rfl) (Nat.le_of_ble_eq_true rfl) ?_
 intro a HF
 refine aN ?_
 refine wp_pure HF HM rfl 3 [] [(0, aA fb), (1, aX tv)] (by kernel_rfl) fun a HF => ?_
 refine aB ?_
 refine wp_seq ?_
 refine aN ?_
 refine wp_pure HF HM rfl 4 [] [(0, aA fb), (1, aX tv), (10, aA fb)] (by kernel_rfl) fun a HF => ?_
 refine bU HF (by kernel_rfl) (.int .u8 1) (by kernel_rfl) (dP rfl rfl (by kernel_rfl) ((cell_of_row w fb 0 _ _ _ (HM.old hfb)).trans rfl)) ?_
 clear HF; intro a HF; replace HF := HF.sub [(0, aA fb), (1, aX tv), (11, .int .u8 1)] (by kernel_rfl)
 refine aB ?_
 refine wp_block ?_
 refine aN ?_
 refine wp_pure HF HM rfl 2 [] [(0, aA fb), (1, aX tv), (11, .int .u8 1), (12, .bool false)] (by kernel_rfl) fun a HF => ?_
 refine aB ?_
 refine aZ HF rfl ?_
 refine aN ?_
 refine wp_pure HF HM rfl 2 [] [(0, aA fb), (1, aX tv), (20, .bool true)] (by kernel_rfl) fun a HF => ?_
 refine aB ?_
 refine bC HF rfl ?_
 refine aN ?_
 refine wp_pure HF HM rfl 2 [] [(22, aA fb), (23, aX tv)] (by kernel_rfl) fun a HF => ?_
 have hz0 := HM.size
 refine bf HF (by kernel_rfl) 101 #[aA fb, aX tv] (by kernel_rfl) (fun w => by kernel_rfl) (Calls.mono (MW (hF.below HM.below) hw tv (by omega) (by omega) hm0 hm1 hpo hqo hpt hpl hq8 l FI Dk hs.n hok hs.at_) ?_)
 rintro _ w1 ⟨gs, cap, gk, tx, rfl, hb, hos⟩
 replace HM := HM.call hb
 clear hb
 replace hos := hos.lo hz0
 clear hz0
 refine ⟨_, rfl, ?_⟩; clear HF; intro a HF
 refine wp_pure HF HM rfl 6 [] [(4, aC gs l.length cap), (5, aC tx q.data.length q.data.length), (6, .nilIface)] (by kernel_rfl) fun a HF => ?_
 refine aB ?_
 refine wp_ret ?_
 repeat first | refine bH ?_ | refine bM ?_
 exact pz HF rfl rfl rfl rfl ⟨gs, cap, gk, tx, q.data.length, rfl, HM.below, hos⟩

theorem Rn {x : bZ} {b c z fb pg aV : Nat} {cur dU : Array Value} {w0 : World} (hF : kR x b c z fb pg aV cur dU w0) (hw : x.wide = true) (tv : Nat) (l : List SymM) (hs : qI x tv l) : Calls Tryd.prog 79 #[aA fb, aX tv] w0 fun e w' => ∃ gs cap gk tx nt, e = .returned (.tuple #[aC gs l.length cap, aC tx nt nt, .nilIface]) ∧ Below w0.heap.size w0 w' ∧ Own w0.heap.size w' 188 10 gs l.length cap gk (l.flatMap t_) := by
 have hfb := hF.Qi hw
 have hkd := hs.kind
 obtain ⟨p, q, hm0, hm1, hpo, hqo, hpt, hpl, hq8, FI, Dk⟩ := hs.ex
 have hok := hs.ok
 rw [hw] at FI hok
 obtain ⟨w, hw⟩ : ∃ w, w0 = w := ⟨_, rfl⟩
 have HM : Mm [] w0 w [] := hw ▸ Mm.start w0
 conv => arg 4; rw [hw]
 clear hw
 refine bI Tryd.func79 rfl Tryd.ntmps79 [(0, aA fb), (1, aX tv)] (by kernel_rfl) (Nat.le_of_ble_eq_true rfl) ?_
 intro a HF
 refine aN ?_
 refine wp_pure HF HM rfl 3 [] [(0, aA fb), (1, aX tv)] (by kernel_rfl) fun a HF => ?_
 refine aB ?_
 refine wp_seq ?_
 refine aN ?_
 refine wp_pure HF HM rfl 4 [] [(0, aA fb), (1, aX tv), (10, aA fb)] (by kernel_rfl) fun a HF => ?_
 refine bU HF (by kernel_rfl) (.int .u8 2) (by kernel_rfl) (dP rfl rfl (by kernel_rfl) ((cell_of_row w fb 0 _ _ _ (HM.old hfb)).trans rfl)) ?_
 clear HF; intro a HF; replace HF := HF.sub [(0, aA fb), (1, aX tv), (11, .int .u8 2)] (by kernel_rfl)
 refine aB ?_
 refine wp_block ?_
 refine aN ?_
 refine wp_pure HF HM rfl 2 [] [(0, aA fb), (1, aX tv), (11, .int .u8 2), (12, .bool true)] (by kernel_rfl) fun a HF => ?_
 refine aB ?_
 refine bC HF rfl ?_
 refine aN ?_
 refine wp_pure HF HM rfl 2 [] [(14, aA fb), (15, aX tv)] (by kernel_rfl) fun a HF => ?_
 have hz0 := HM.size
 refine bf HF (by kernel_rfl) 100 #[aA fb, aX tv] (by kernel_rfl) (fun w => by kernel_rfl) (Calls.mono (MV (hF.below HM.below) hw tv (by omega) (by omega) hm0 hm1 hpo hqo hpt hpl hq8 l FI Dk hs.n hok hs.at_) ?_)
 rintro _ w1 ⟨gs, cap, gk, tx, rfl, hb, hos⟩
 replace HM := HM.call hb
 clear hb
 replace hos := hos.lo hz0
 clear hz0
 refine ⟨_, rfl, ?_⟩; clear HF; intro a HF
 refine wp_pure HF HM rfl 6 [] [(4, aC gs l.length cap), (5, aC tx q.data.length q.data.length), (6, .nilIface)] (by kernel_rfl) fun a HF => ?_
 refine aB ?_
 refine wp_ret ?_
 repeat first | refine bH ?_ | refine bM ?_
 exact pz HF rfl rfl rfl rfl ⟨gs, cap, gk, tx, q.data.length, rfl, HM.below, hos⟩
theorem Jr {x : bZ} {b c z fb pg aV : Nat} {cur dU : Array Value} {w0 : World} (hF : kR x b c z fb pg aV cur dU w0) (tv : Nat) (l : List SymM) (hs : qI x tv l) : Calls Tryd.prog 79 #[aA fb, aX tv] w0 fun e w' => ∃ gs cap gk tx nt, e = .returned (.tuple #[aC gs l.length cap, aC tx nt nt, .nilIface]) ∧ Below w0.heap.size w0 w' ∧ Own w0.heap.size w' 188 10 gs l.length cap gk (l.flatMap t_) := by
 rcases IZ x.wide with h | h
 ·exact Rn hF h tv l hs
 ·exact Ro hF h tv l hs

theorem MS {x : bZ} {b c z fb pg aV : Nat} {cur dU : Array Value} {w0 : World} (hF : kR x b c z fb pg aV cur dU w0) (ht : ∀ m ∈ x.ps, m.ty < 1610612736) (v : Value) : Calls Tryd.prog 80 #[aA fb, v] w0 fun e w' => e = .returned (.tuple #[.bool false, .nilIface]) ∧ Below w0.heap.size w0 w' := by
 obtain ⟨w, hw⟩ : ∃ w, w0 = w := ⟨_, rfl⟩
 have HM : Mm [] w0 w [] := hw ▸ Mm.start w0
 conv => arg 4; rw [hw]
 clear hw
 refine bI Tryd.func80 rfl Tryd.ntmps80 [(0, aA fb), (1, v)] (by kernel_rfl) (Nat.le_of_ble_eq_true rfl) ?_
 intro a HF
 refine aN ?_
 refine wp_pure HF HM rfl 2 [] [(0, aA fb), (1, v)] (by kernel_rfl) fun a HF => ?_
 refine bT ?_
 refine wp_pure HF HM rfl 1 [] [(0, aA fb), (1, v), (11, aA fb)] (by kernel_rfl) fun a HF => ?_
 refine bf HF (by kernel_rfl) 71 #[aA fb, .int .u32 1879048191] (by kernel_rfl) (fun w => by kernel_rfl) (Calls.mono (Dy (hF.below HM.below) 1879048191 (fun j hj e => absurd (RN ht j hj) (by omega))) ?_)
 rintro _ w1 ⟨rfl, hq⟩
 replace hq := hq.symm; subst hq
 refine ⟨_, rfl, ?_⟩; clear HF; intro a HF
 refine wp_pure HF HM rfl 1 [] [(0, aA fb), (1, v), (6, .pointer none)] (by kernel_rfl) fun a HF => ?_
 refine aB ?_
 refine wp_seq ?_
 refine aN ?_
 refine wp_pure HF HM rfl 2 [] [(0, aA fb), (1, v), (6, .pointer none), (14, .bool true)] (by kernel_rfl) fun a HF => ?_
 refine aB ?_
 refine bC HF rfl ?_
 refine aN ?_
 refine wp_pure HF HM rfl 2 [] [(4, .bool false), (5, .nilIface)] (by kernel_rfl) fun a HF => ?_
 refine aB ?_
 refine wp_ret ?_
 repeat first | refine bH ?_ | refine bM ?_
 exact jK HF rfl rfl rfl ⟨rfl, HM.below⟩

end Go.Proofs.YtdgehpocmfjbiaaDoor
namespace Go.Proofs.YtdgehpocmfjbiaaDoor
open Go.RowKit

theorem Ap (w0 : World) : Calls Tryd.prog 58 #[.nilIface] w0 fun e w' => e = .returned (.int .i64 0) ∧ Below w0.heap.size w0 w' := by
 obtain ⟨w, hw⟩ : ∃ w, w0 = w := ⟨_, rfl⟩
 have HM : Mm [] w0 w [] := hw ▸ Mm.start w0
 conv => arg 4; rw [hw]
 clear hw
 refine bI Tryd.func58 rfl Tryd.ntmps58 [(0, .nilIface)] (by kernel_rfl) (Nat.le_of_ble_eq_true rfl) ?_
 intro a HF
 refine aN ?_
 refine wp_pure HF HM rfl 1 [] [(0, .nilIface)] (by kernel_rfl) fun a HF => ?_
 refine aB ?_
 refine wp_seq ?_
 refine aN ?_
 refine wp_pure HF HM rfl 2 [] [(0, .nilIface), (4, .bool true)] (by kernel_rfl) fun a HF => ?_
 refine aB ?_
 refine bC HF rfl ?_
 refine aN ?_
 refine wp_pure HF HM rfl 1 [] [(2, .int .i64 0)] (by kernel_rfl) fun a HF => ?_
 refine aB ?_
 refine wp_ret ?_
 repeat first | refine bH ?_ | refine bM ?_
 exact dn HF rfl rfl ⟨rfl, HM.below⟩

end Go.Proofs.YtdgehpocmfjbiaaDoor
namespace Go.Proofs.YtdgehpocmfjbiaaDoor
open Go Go.ChangeShapes Go.WideShapes Go.ChangeAt Go.RowKit Go.Deep

section
variable {H : Type} {enc : TypeId × Value → H} {w : World} {base : Nat} {spare : Nat → Bool} {held : Bool}
instance : Inhabited SymM := ⟨⟨[], 0, 0, 0, 0, 0⟩⟩
theorem RX {fuel : Nat} {cs : List Value} {x : DataW H × List MemPlace} (h : DataW.trod enc Tryd.prog w base spare held fuel 40 cs = some x) : ∃ m : SymM, cs = m.cells ∧ SymM.At m := by
 obtain ⟨hl, n, hf⟩ := yN Tryd.underlying40 (by kernel_rfl) (by kernel_rfl) h
 obtain ⟨c0, c1, c2, c3, c4, c5, rfl⟩ := list6 hl
 obtain ⟨u0, y0, e0, t0⟩ := hf 0 _ rfl
 obtain rfl : c0 = u0 := by simpa using e0
 obtain ⟨m0, rfl, z0⟩ := L9 t0
 obtain ⟨u1, y1, e1, t1⟩ := hf 1 _ rfl
 obtain rfl : c1 = u1 := by simpa using e1
 obtain ⟨a1, x1, -, z1⟩ := DataW.trod_int Tryd.underlying5 t1
 obtain rfl : c1 = _ := by simpa using x1
 have q1 := bounds_u8 z1
 obtain ⟨m1, rfl⟩ := Int.eq_ofNat_of_zero_le q1.1
 obtain ⟨u2, y2, e2, t2⟩ := hf 2 _ rfl
 obtain rfl : c2 = u2 := by simpa using e2
 obtain ⟨a2, x2, -, z2⟩ := DataW.trod_int Tryd.underlying5 t2
 obtain rfl : c2 = _ := by simpa using x2
 have q2 := bounds_u8 z2
 obtain ⟨m2, rfl⟩ := Int.eq_ofNat_of_zero_le q2.1
 obtain ⟨u3, y3, e3, t3⟩ := hf 3 _ rfl
 obtain rfl : c3 = u3 := by simpa using e3
 obtain ⟨a3, x3, -, z3⟩ := DataW.trod_int Tryd.underlying3 t3
 obtain rfl : c3 = _ := by simpa using x3
 have q3 := bounds_i64 z3
 obtain ⟨u4, y4, e4, t4⟩ := hf 4 _ rfl
 obtain rfl : c4 = u4 := by simpa using e4
 obtain ⟨a4, x4, -, z4⟩ := DataW.trod_int Tryd.underlying22 t4
 obtain rfl : c4 = _ := by simpa using x4
 have q4 := bounds_u64 z4
 obtain ⟨m4, rfl⟩ := Int.eq_ofNat_of_zero_le q4.1
 obtain ⟨u5, y5, e5, t5⟩ := hf 5 _ rfl
 obtain rfl : c5 = u5 := by simpa using e5
 obtain ⟨a5, x5, -, z5⟩ := DataW.trod_int Tryd.underlying22 t5
 obtain rfl : c5 = _ := by simpa using x5
 have q5 := bounds_u64 z5
 obtain ⟨m5, rfl⟩ := Int.eq_ofNat_of_zero_le q5.1
 exact ⟨⟨m0, m1, m2, a3, m4, m5⟩, rfl, ⟨z0, by show m1 < _; omega, by show m2 < _; omega, by show m4 < _; omega, by show m5 < _; omega⟩⟩
theorem zu {r : Reach} {b0 : Nat} {v : Value} {d : DataW H} {p : List MemPlace} (hv : Value.okWide Tryd.prog w r b0 27 v) (ht : DataW.Trod enc Tryd.prog w base spare held 27 v d p) : ∃ (l : List SymM) (A : Option Addr) (c : Nat), v = .slice A l.length c ∧ Row w A (l.flatMap SymM.cells) ∧ (∀ m ∈ l, SymM.At m) ∧ l.length ≤ c ∧ c ≤ maxLen := by
 obtain ⟨a, n, c, rfl⟩ := okWide_slice Tryd.underlying27 hv
 obtain ⟨fuel, h0⟩ := ht
 exact open_row (α := SymM) (u := .slice a n c) Tryd.underlying27 (k := 6) (by kernel_rfl) (by omega) (fun _ => rfl) (fun n cs x hx => RX hx) h0
end
theorem LG : "*" ++ "errors.errorString" = "*errors.errorString" := by decide
theorem TL (u : TypeId) (h : Tryd.prog.typeName? 3 u = some "*errors.errorString") : u = 242 :=
 typeName_ptr_named (nm := "errors.errorString") (by rw [LG]; kernel_rfl) (by kernel_rfl) (by decide) u (by rw [LG]; exact h)
theorem oh : Tryd.prog.globalNamed "loop.example/pub-g03028/pub/elf.ErrNoSymbols" = some 0 := by kernel_rfl
theorem qw : (Tryd.prog.globals[0]?).map (·.type) = some 103 := by kernel_rfl
/-- what the laid list tells of the sentinel -/
theorem EC {W : World} {laid : List (String × DataW Unit)} (e : ((laid.filter (fun x => x.1 == "loop.example/pub-g03028/pub/elf.ErrNoSymbols")).filter (fun x => x.2.handleName?.isNone)) = [("loop.example/pub-g03028/pub/elf.ErrNoSymbols", Rows.laid_loop_example_pub_g03028_pub_elf_ErrNoSymbols)]) (hL : laidMetH Tryd.prog laid W) :
  ∃ ea, W.var? Tryd.prog "loop.example/pub-g03028/pub/elf.ErrNoSymbols" = some #[.iface 242 (.pointer (some ea))] ∧ Row W (some ⟨0, 0, none⟩) [.iface 242 (.pointer (some ea))] := by
 have h1 := (laidMetH_iff.1 (hL.filter (fun x => x.1 == "loop.example/pub-g03028/pub/elf.ErrNoSymbols"))).1
 rw [e] at h1
 obtain ⟨a, s, hv, -, -, -⟩ := laid_sentinel h1 oh qw Tryd.underlying103 TL Tryd.underlying242 Tryd.underlying244 rfl rfl Tryd.underlying9 (by kernel_rfl) (by kernel_rfl)
 have hc := World.var?_cell oh hv 0
 refine ⟨a, hv, fun i v hi => ?_⟩
 cases i with
 | zero => exact ⟨0, 0, rfl, by simp only [List.getElem?_cons_zero] at hi; rw [← hi]; simpa using hc⟩
 | succ i => simp at hi
theorem var_below {P : Program} {W W' : World} {n : String} {cs : Array Value} (hb : Below W.heap.size W W') (h : W.var? P n = some cs) : W'.var? P n = some cs := by
 unfold World.var? at h ⊢
 cases hg : P.globalNamed n with
 | none => simp [hg] at h
 | some g =>
  simp only [hg, Option.bind_some] at h ⊢
  have hlt : g < W.heap.size := by
   rcases Nat.lt_or_ge g W.heap.size with h' | h'
   ·exact h'
   ·simp [Array.getElem?_eq_none h'] at h
  rw [hb.block g hlt]
  exact h
end Go.Proofs.YtdgehpocmfjbiaaDoor
