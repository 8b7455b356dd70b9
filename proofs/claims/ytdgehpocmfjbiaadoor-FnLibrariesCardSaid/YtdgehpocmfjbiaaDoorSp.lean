/- impl.codeOf of no error. · Symbols as arguments, opened; the sentinel of a file without symbols. · Entries as arguments, opened. -/
import Derived.Test.YtdgehpocmfjbiaaDoorSd
import Derived.Test.YtdgehpocmfjbiaaDoorSg
import Derived.Test.YtdgehpocmfjbiaaDoorSh
import Derived.Test.YtdgehpocmfjbiaaDoorSm
import Derived.Test.YtdgehpocmfjbiaaDoorRows
import Derived.Stop.LaidErr
import Derived.LaidSub
import Derived.RowKitTokens
set_option linter.unusedVariables false
set_option linter.unusedSimpArgs false
set_option maxRecDepth 100000
set_option maxHeartbeats 2000000
namespace Go.Proofs.YtdgehpocmfjbiaaDoor
open Go.RowKit

theorem vV (w0 : World) : Calls Tryd.prog 58 #[.nilIface] w0 fun e w' => e = .returned (.int .i64 0) ∧ Below w0.heap.size w0 w' := by
 obtain ⟨w, hw⟩ : ∃ w, w0 = w := ⟨_, rfl⟩
 have HM : Mm [] w0 w [] := hw ▸ Mm.start w0
 conv => arg 4; rw [hw]
 clear hw
 refine cu Tryd.func58 rfl Tryd.ntmps58 [(0, .nilIface)] (by kernel_rfl) (Nat.le_of_ble_eq_true rfl) ?_
 intro a HF
 refine aO ?_
 refine wp_pure HF HM rfl 1 [] [(0, .nilIface)] (by kernel_rfl) fun a HF => ?_
 refine aA ?_
 refine wp_seq ?_
 refine aO ?_
 refine wp_pure HF HM rfl 2 [] [(0, .nilIface), (4, .bool true)] (by kernel_rfl) fun a HF => ?_
 refine aA ?_
 refine bD HF rfl ?_
 refine aO ?_
 refine wp_pure HF HM rfl 1 [] [(2, .int .i64 0)] (by kernel_rfl) fun a HF => ?_
 refine aA ?_
 refine wp_ret ?_
 repeat first | refine bJ ?_ | refine bM ?_
 exact bQ HF rfl rfl ⟨rfl, HM.below⟩

end Go.Proofs.YtdgehpocmfjbiaaDoor
namespace Go.Proofs.YtdgehpocmfjbiaaDoor
open Go Go.ChangeShapes Go.WideShapes Go.ChangeAt Go.RowKit Go.Deep

section
variable {H : Type} {enc : TypeId × Value → H} {w : World} {base : Nat} {spare : Nat → Bool} {held : Bool}
instance : Inhabited SymM := ⟨⟨[], 0, 0, 0, 0, 0⟩⟩
end
theorem Kq : "*" ++ "errors.errorString" = "*errors.errorString" := by decide
theorem Ro (u : TypeId) (h : Tryd.prog.typeName? 3 u = some "*errors.errorString") : u = 242 :=
 typeName_ptr_named (nm := "errors.errorString") (by rw [Kq]; kernel_rfl) (by kernel_rfl) (by decide) u (by rw [Kq]; exact h)
theorem qC : Tryd.prog.globalNamed "loop.example/pub-g03028/pub/elf.ErrNoSymbols" = some 0 := by kernel_rfl
theorem uh : (Tryd.prog.globals[0]?).map (·.type) = some 103 := by kernel_rfl
/-- what the laid list tells of the sentinel -/
theorem Hl {W : World} {laid : List (String × DataW Unit)} (e : ((laid.filter (fun x => x.1 == "loop.example/pub-g03028/pub/elf.ErrNoSymbols")).filter (fun x => x.2.handleName?.isNone)) = [("loop.example/pub-g03028/pub/elf.ErrNoSymbols", Rows.laid_loop_example_pub_g03028_pub_elf_ErrNoSymbols)]) (hL : laidMetH Tryd.prog laid W) :
  ∃ ea, W.var? Tryd.prog "loop.example/pub-g03028/pub/elf.ErrNoSymbols" = some #[.iface 242 (.pointer (some ea))] ∧ Row W (some ⟨0, 0, none⟩) [.iface 242 (.pointer (some ea))] := by
 have h1 := (laidMetH_iff.1 (hL.filter (fun x => x.1 == "loop.example/pub-g03028/pub/elf.ErrNoSymbols"))).1
 rw [e] at h1
 obtain ⟨a, s, hv, -, -, -⟩ := laid_sentinel h1 qC uh Tryd.underlying103 Ro Tryd.underlying242 Tryd.underlying244 rfl rfl Tryd.underlying9 (by kernel_rfl) (by kernel_rfl)
 have hc := World.var?_cell qC hv 0
 refine ⟨a, hv, fun i v hi => ?_⟩
 cases i with
 | zero => exact ⟨0, 0, rfl, by simp only [List.getElem?_cons_zero] at hi; rw [← hi]; simpa using hc⟩
 | succ i => simp at hi
theorem var_below {P : Program} {W W' : World} {n : String} {cs : Array Value} (hb : Below W.heap.size W W') (h : W.var? P n = some cs) : W'.var? P n = some cs := by
 unfold World.var? at h ⊢
 cases hg : P.globalNamed n with
 | none => simp [hg] at h
 | some g =>
  simp only [hg, Option.bind_some] at h ⊢
  have hlt : g < W.heap.size := by
   rcases Nat.lt_or_ge g W.heap.size with h' | h'
   ·exact h'
   ·simp [Array.getElem?_eq_none h'] at h
  rw [hb.block g hlt]
  exact h
end Go.Proofs.YtdgehpocmfjbiaaDoor
namespace Go.Proofs.YtdgehpocmfjbiaaDoor
open Go Go.ChangeShapes Go.WideShapes Go.ChangeAt Go.RowKit Go.Deep

section
variable {H : Type} {enc : TypeId × Value → H} {w : World} {base : Nat} {spare : Nat → Bool} {held : Bool}
instance : Inhabited fK := ⟨⟨0, 0⟩⟩
theorem Qo {fuel : Nat} {cs : List Value} {x : DataW H × List MemPlace} (h : DataW.trod enc Tryd.prog w base spare held fuel 85 cs = some x) : ∃ m : fK, cs = m.cells ∧ fK.At m := by
 obtain ⟨hl, n, hf⟩ := yM Tryd.underlying85 (by kernel_rfl) (by kernel_rfl) h
 obtain ⟨c0, c1, rfl⟩ := list2 hl
 obtain ⟨u0, y0, e0, t0⟩ := hf 0 _ rfl
 obtain rfl : c0 = u0 := by simpa using e0
 obtain ⟨a0, x0, -, z0⟩ := DataW.trod_int Tryd.underlying3 t0
 obtain rfl : c0 = _ := by simpa using x0
 have q0 := bounds_i64 z0
 obtain ⟨u1, y1, e1, t1⟩ := hf 1 _ rfl
 obtain rfl : c1 = u1 := by simpa using e1
 obtain ⟨a1, x1, -, z1⟩ := DataW.trod_int Tryd.underlying22 t1
 obtain rfl : c1 = _ := by simpa using x1
 have q1 := bounds_u64 z1
 obtain ⟨m1, rfl⟩ := Int.eq_ofNat_of_zero_le q1.1
 exact ⟨⟨a0, m1⟩, rfl, ⟨q0.1, by show a0 ≤ _; omega, by show m1 < _; omega⟩⟩
theorem wH {r : Reach} {b0 : Nat} {v : Value} {d : DataW H} {p : List MemPlace} (hv : Value.okWide Tryd.prog w r b0 81 v) (ht : DataW.Trod enc Tryd.prog w base spare held 81 v d p) : ∃ (l : List fK) (A : Option Addr) (c : Nat), v = .slice A l.length c ∧ Row w A (l.flatMap fK.cells) ∧ (∀ m ∈ l, fK.At m) ∧ l.length ≤ c ∧ c ≤ maxLen := by
 obtain ⟨a, n, c, rfl⟩ := okWide_slice Tryd.underlying81 hv
 obtain ⟨fuel, h0⟩ := ht
 exact open_row (α := fK) (u := .slice a n c) Tryd.underlying81 (k := 2) (by kernel_rfl) (by omega) (fun _ => rfl) (fun n cs x hx => Qo hx) h0
end
end Go.Proofs.YtdgehpocmfjbiaaDoor
