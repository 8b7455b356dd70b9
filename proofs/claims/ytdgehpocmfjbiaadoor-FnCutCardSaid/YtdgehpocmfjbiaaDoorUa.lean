/- Words for memory that all walks of this seat use: a slice that reads as a list of cells, bytes as cells, the laws of slicing and of turning bytes into -/
import Derived.Test.YtdgehpocmfjbiaaDoorProg
import Derived.WalkKit
import Derived.WalkSpells
import Derived.WalkLawsBesides
import Derived.Laws.BitsAllLaws
import Derived.Laws.BytesArg
import Derived.Lib.Hide
import Derived.Maps.AppendAt
import Derived.Deep.AppendLies
import Derived.RegionTactic
import Derived.OwnWalk
import Derived.Deep.RegionHeld3
import Derived.Deep.DrawnRows
import Derived.Deep.RegionLaw
import Derived.Deep.DeepCutAuto
import Derived.Laws.OwnMore
import Derived.Deep.Draws
import Derived.Test.YtdgehpocmfjbiaaDoorRows
import Derived.Laws.CopyOwn
import Derived.Deep.Quiet
import Derived.Deep.QuietTactic
import Derived.BigQuiet
import Derived.StillTail
import Derived.Orders
import Derived.Laws.CopyRow
import Derived.Deep.RegionWith
set_option linter.unusedVariables false
set_option linter.unusedSimpArgs false
set_option maxRecDepth 100000
set_option maxHeartbeats 2000000
namespace Go.Proofs.YtdgehpocmfjbiaaDoor
open Go
theorem aW {P : Program} {Q : Exit → Act → World → Prop} {a : Act} {w : World} {id : Nat} {l : List Oper} {y : Code} (h : wpList P l.toArray (Exit.then (y.wp P Q) Q) l a w) : (Code.seq (Code.region id l.toArray false) y).wp P Q a w := wp_seq (wp_region_lit h)
theorem dK {P : Program} {Q Q' : Exit → Act → World → Prop} {a : Act} {w : World} {id : Nat} {ops : Array Oper} {l : List Oper} {y : Code} (h : wpList P l.toArray (Exit.then (y.wp P Q) Q) l a w) : wpList P ops (Exit.then ((Code.seq (Code.region id l.toArray false) y).wp P Q) Q') [] a w := wpList_nil (aW h)
end Go.Proofs.YtdgehpocmfjbiaaDoor
namespace Go.Proofs.YtdgehpocmfjbiaaDoor
open Go.RowKit

abbrev aB (n : Nat) : Value := .int .i64 ((n : Nat) : Int)
abbrev aJ (n : Nat) : Value := .int .u64 ((n : Nat) : Int)
abbrev aY (n : Nat) : Value := .int .u32 ((n : Nat) : Int)
abbrev aV (n : Nat) : Value := .int .u8 ((n : Nat) : Int)
abbrev aZ (n : Nat) : Value := .int .u16 ((n : Nat) : Int)
abbrev aG (b : Nat) : Value := .pointer (some ⟨b, 0, none⟩)
abbrev aH (b n c : Nat) : Value := .slice (some ⟨b, 0, none⟩) n c
abbrev aK : Value := .slice none 0 0
abbrev aA (n : Int) : Value := .int .i64 n
abbrev bD (n : Int) : Value := .int .u64 n
abbrev lu (n : Int) : Value := .int .u32 n
abbrev aN (n : Int) : Value := .int .u8 n
/-- a byte as a cell -/
def Bv (b : UInt8) : Value := .int .u8 (b.toNat : Int)

/-- the slice value that begins at A reads as the cells cs -/
def Row (w : World) (A : Option Addr) (cs : List Value) : Prop :=
 ∀ (i : Nat) (v : Value), cs[i]? = some v → ∃ b off, A = some ⟨b, off, none⟩ ∧ w.cell? ⟨b, off + i, none⟩ = some v

section
variable {w w' : World} {A : Option Addr} {cs : List Value}
theorem Row.nil (w : World) (A : Option Addr) : Row w A [] := fun i v h => by simp at h
theorem cell_lt {p : Addr} {v : Value} (h : w.cell? p = some v) : p.block < w.heap.size := by
 rcases Nat.lt_or_ge p.block w.heap.size with hl | hg
 ·exact hl
 ·simp [World.cell?, Array.getElem?_eq_none hg] at h
theorem Row.below (h : Row w A cs) (hb : Below w.heap.size w w') : Row w' A cs := fun i v hi => by
 obtain ⟨b, off, e, hc⟩ := h i v hi
 exact ⟨b, off, e, (hb.cell (p := ⟨b, off + i, none⟩) (cell_lt hc)).trans hc⟩
theorem Row.keep {B : Nat} (h : Row w A cs) (hB : w.heap.size ≤ B) (hb : Below B w w') : Row w' A cs := h.below (hb.mono hB)
theorem Row.drop (h : Row w A cs) (k : Nat) : Row w (A.map (·.add k)) (cs.drop k) := fun i v hi => by
 rw [List.getElem?_drop] at hi
 obtain ⟨b, off, e, hc⟩ := h _ v hi
 refine ⟨b, off + k, ?_, by rw [Nat.add_assoc]; exact hc⟩
 subst e
 simp only [Option.map_some, Addr.add]
 split
 ·rename_i hk; subst hk; rfl
 ·rfl
theorem Row.take (h : Row w A cs) (k : Nat) : Row w A (cs.take k) := fun i v hi => by
 rw [List.getElem?_take] at hi
 split at hi
 ·exact h i v hi
 ·cases hi
theorem Row.at_ (h : Row w A cs) {i : Nat} (hi : i < cs.length) : ∃ b off, A = some ⟨b, off, none⟩ ∧ w.cell? ⟨b, off + i, none⟩ = some (cs[i]'hi) :=
 h i _ (List.getElem?_eq_getElem hi)
/-- a row that is not empty, laid open -/
theorem Row.open_ (h : Row w A cs) (hne : 0 < cs.length) : ∃ b off, A = some ⟨b, off, none⟩ ∧ ∀ i (hi : i < cs.length), w.cell? ⟨b, off + i, none⟩ = some (cs[i]'hi) := by
 obtain ⟨b, off, e, _⟩ := h.at_ hne
 refine ⟨b, off, e, fun i hi => ?_⟩
 obtain ⟨b', off', e', hc⟩ := h.at_ hi
 rw [e] at e'
 injection e' with e'
 injection e' with e1 e2
 subst e1 e2
 exact hc
theorem Row.of_cells {b off : Nat} (h : ∀ i (hi : i < cs.length), w.cell? ⟨b, off + i, none⟩ = some (cs[i]'hi)) : Row w (some ⟨b, off, none⟩) cs := fun i v hv => by
 obtain ⟨hl, e⟩ := List.getElem?_eq_some_iff.1 hv
 exact ⟨b, off, rfl, by rw [← e]; exact h i hl⟩
end

section
variable {P : Program}
/-- x[lo:hi] of a slice: some address from which what was there from lo on is read -/
theorem F8 {t e : TypeId} {size : Nat} {info : TypeInfo} (ht : P.underlying t = some (.slice e)) (hi : P.info? e = some info) (hs : info.size = size) (A : Option Addr) (n c lo hi' : Nat) (h1 : lo ≤ hi') (h2 : hi' ≤ c) :
  ∃ A', (∀ w, (Instr.slice t (.slice A n c) (some (.int .i64 (lo : Int))) (some (.int .i64 (hi' : Int))) none).run P w = .ok (.slice A' (hi' - lo) (c - lo)) w) ∧
   ∀ (w : World) (cs : List Value), Row w A cs → Row w A' ((cs.drop (lo * size)).take ((hi' - lo) * size)) := by
 refine ⟨if c = lo then A else A.map (·.add (lo * size)), fun w => ?_, fun w cs h => ?_⟩
 ·have a1 : (0 : Int) ≤ (hi' : Int) ∧ (hi' : Int) ≤ (c : Int) := by omega
  have a2 : (0 : Int) ≤ (lo : Int) ∧ (lo : Int) ≤ (hi' : Int) := by omega
  simp [Instr.slice, Instr.sliceBounds, Instr.sliceBound, asIntOf, run_underlying ht, sizeOf, typeInfo, hi, hs, h1, h2]
 ·by_cases hc : c = lo
  ·rw [if_pos hc]
   have : hi' - lo = 0 := by omega
   rw [this, Nat.zero_mul, List.take_zero]
   exact Row.nil _ _
  ·rw [if_neg hc]
   exact (h.drop _).take _
/-- string(b) of a slice of bytes -/
theorem IZ {src dst e : TypeId} (hs : P.underlying src = some (.slice e)) (he : P.underlying e = some (.int .u8)) (hd : P.underlying dst = some .string) {w : World} {A : Option Addr} {l : List UInt8} {n c : Nat}
  (hn : n = l.length) (h : Row w A (l.map Bv)) : (convert src dst (.slice A n c)).run P w = .ok (.string ⟨l.toArray⟩) w := by
 subst hn
 rcases A with _ | ⟨b, off, spot⟩
 ·have : l = [] := by
   rcases l with _ | ⟨x, l⟩
   ·rfl
   ·obtain ⟨b, off, e, _⟩ := h 0 (Bv x) rfl
    cases e
  subst this
  exact run_convert_bytes_nil w src e hs he _ _ dst hd
 ·by_cases hl : l = []
  ·subst hl
   rw [run_convert_bytes_string w src dst e _ _ c hs he hd]
   simp [Conv.bytesToString, loadCells]
   rfl
  ·have hp : 0 < (l.map Bv).length := by simp; exact List.length_pos_iff.2 hl
   obtain ⟨b', off', e1, hc⟩ := h.open_ hp
   injection e1 with e1
   injection e1 with e1 e2 e3
   subst e1 e2 e3
   have := run_convert_bytes_arg w src e hs he b off l.length c (l.map fun x => (x.toNat : Int)) (by simp) (fun i hi => by
    rw [hc i (by simpa using hi)]
    simp [Bv, hi]) dst hd
   rw [this]
   congr 2
   simp [strOfNums]
   congr 1
   exact (List.map_congr_left (fun x _ => by simp)).trans (List.map_id l)
end
end Go.Proofs.YtdgehpocmfjbiaaDoor
namespace Go.Proofs.YtdgehpocmfjbiaaDoor
open Go.RowKit

/-- the text at the front of l, up to a zero; none without one -/
def cutAt : List UInt8 → Option (List UInt8)
 | [] => none
 | b :: l => if b = 0 then some [] else (cutAt l).map (b :: ·)
theorem Ip : ∀ (p r : List UInt8), 0 ∉ p → cutAt (p ++ 0 :: r) = some p := by
 intro p
 induction p with
 | nil => intro r _; simp [cutAt]
 | cons b p ih =>
  intro r h
  simp only [List.mem_cons, not_or] at h
  have : ¬ b = 0 := fun e => h.1 e.symm
  simp [cutAt, this, ih r h.2]
theorem Gi : ∀ (l : List UInt8), 0 ∉ l → cutAt l = none := by
 intro l
 induction l with
 | nil => intro _; rfl
 | cons b l ih =>
  intro h
  simp only [List.mem_cons, not_or] at h
  have : ¬ b = 0 := fun e => h.1 e.symm
  simp [cutAt, this, ih h.2]

/-- what getString comes to -/
def mg (l : List UInt8) (s : Nat) : Option (List UInt8) := cutAt (l.drop s)
theorem Lc {l : List UInt8} {s k : Nat} (hsk : s ≤ k) (hk : k < l.length) (h0 : l[k] = 0) (hn : ∀ j (h : j < l.length), s ≤ j → j < k → l[j] ≠ 0) : mg l s = some ((l.drop s).take (k - s)) := by
 have e : l.drop s = (l.drop s).take (k - s) ++ 0 :: l.drop (k + 1) := by
  conv => lhs; rw [← List.take_append_drop (k - s) (l.drop s)]
  congr 1
  rw [List.drop_drop, show s + (k - s) = k from by omega, List.drop_eq_getElem_cons hk, h0]
 unfold mg
 rw [e, Ip]
 ·rw [← e]
 ·intro hm
  obtain ⟨i, hi, he⟩ := List.getElem_of_mem hm
  rw [List.getElem_take, List.getElem_drop] at he
  simp only [List.length_take, List.length_drop] at hi
  exact hn (s + i) (by omega) (by omega) (by omega) he
theorem JU {l : List UInt8} {s : Nat} (hn : ∀ j (h : j < l.length), s ≤ j → l[j] ≠ 0) : mg l s = none := by
 apply Gi
 intro hm
 obtain ⟨i, hi, he⟩ := List.getElem_of_mem hm
 rw [List.getElem_drop] at he
 simp only [List.length_drop] at hi
 exact hn (s + i) (by omega) (by omega) he

theorem yN : (Tryd.prog.info? 5).map (fun i => (i.zero, i.size, i.bytes)) = some (some (.int .u8 0), 1, 1) := by kernel_rfl
theorem qV : ∃ i, Tryd.prog.info? 5 = some i ∧ i.size = 1 := by
 obtain ⟨i0, hi, _, hz1, _⟩ := info_parts yN
 exact ⟨i0, hi, hz1⟩

/-- x[lo:hi] of bytes -/
theorem MI (A : Option Addr) (n c lo hi' : Nat) (h1 : lo ≤ hi') (h2 : hi' ≤ c) :
  ∃ A', (∀ w, (Instr.slice 33 (.slice A n c) (some (.int .i64 (lo : Int))) (some (.int .i64 (hi' : Int))) none).run Tryd.prog w = .ok (.slice A' (hi' - lo) (c - lo)) w) ∧
   ∀ (w : World) (l : List UInt8), Row w A (l.map Bv) → Row w A' (((l.drop lo).take (hi' - lo)).map Bv) := by
 obtain ⟨i0, hi, hz⟩ := qV
 obtain ⟨A', ha, hb⟩ := F8 (P := Tryd.prog) Tryd.underlying33 hi hz A n c lo hi' h1 h2
 refine ⟨A', ha, fun w l h => ?_⟩
 have := hb w _ h
 rw [Nat.mul_one, Nat.mul_one] at this
 simpa [List.map_take, List.map_drop] using this

def GU (o : Option (List UInt8)) : Value := match o with
 | some p => .tuple #[.string ⟨p.toArray⟩, .bool true]
 | none => .tuple #[.string ⟨#[]⟩, .bool false]

theorem Az (A : Option Addr) (n c : Nat) (s : Int) (hs : s < 0 ∨ (n : Int) ≤ s) (hn : n ≤ maxLen) (w : World) :
  Calls Tryd.prog 91 #[.slice A n c, .int .i64 s] w fun e w' => e = .returned (GU none) ∧ w = w' := by
 unfold maxLen at hn
 by_cases h : s < 0
 ·go_enter Tryd.func91, Tryd.ntmps91
  go_wp2
  go_ret2
  exact ⟨rfl, rfl⟩
 ·have h2 : (n : Int) ≤ s := by omega
  go_enter Tryd.func91, Tryd.ntmps91
  go_wp2
  go_ret2
  exact ⟨rfl, rfl⟩

theorem Ol {b : UInt8} : ((b.toNat : Int) == 0) = decide (b = 0) := by
 rw [Bool.eq_iff_iff]
 simp only [beq_iff_eq, decide_eq_true_eq]
 exact ⟨fun h => UInt8.toNat_inj.1 (by simpa using h), fun h => by rw [h]; rfl⟩

theorem Ie (A : Option Addr) (l : List UInt8) (n c : Nat) (s : Nat) (hn : n = l.length) (hc : n ≤ c) (hl : c ≤ maxLen) (hs : s < n) (w : World) (hr : Row w A (l.map Bv)) :
  Calls Tryd.prog 91 #[.slice A n c, .int .i64 s] w fun e w' => e = .returned (GU (mg l s)) ∧ w = w' := by
 subst hn
 unfold maxLen at hl
 have h1 : (0 : Int) ≤ (s : Int) := by omega
 go_enter Tryd.func91, Tryd.ntmps91
 go_wp2
 go_loop [6] (fun i => ∃ k : Nat, s ≤ k ∧ k ≤ l.length ∧ i = .int .i64 k ∧ ∀ j (h : j < l.length), s ≤ j → j < k → l[j] ≠ 0) (fun i => l.length - (intOf i).toNat)
 case atStart => exact ⟨s, by omega, by omega, rfl, fun j _ h1 h2 => by omega⟩
 case round =>
  obtain ⟨k, hk1, hk2, rfl, hno⟩ := hrel
  have HNO := Lib.hid hno
  clear hno
  by_cases hlt : k < l.length
  ·obtain ⟨b, off, rfl, hcell⟩ := hr.at_ (i := k) (by simpa using hlt)
   obtain ⟨m, hx⟩ : ∃ m : Int, (l[k].toNat : Int) = m := ⟨_, rfl⟩
   simp only [List.getElem_map, Bv, hx] at hcell
   have hz := Ol (b := l[k])
   rw [hx] at hz
   have HX := Lib.hid hx
   clear hx
   by_cases hm : m = 0
   ·subst hm
    have HZ : Hid (l[k] = 0) := Lib.hid (by simpa using hz.symm)
    clear hz
    obtain ⟨A', hsl, hrow⟩ := MI (some ⟨b, off, none⟩) l.length c s k hk1 (by omega)
    have hcv := IZ (P := Tryd.prog) (src := 33) (dst := 9) Tryd.underlying33 Tryd.underlying5 Tryd.underlying9 (c := c - s) (n := k - s) (by simp; omega) (hrow w l hr)
    have HF : Hid (mg l s = _) := Lib.hid (Lc hk1 hlt HZ.out fun j h ha hb => HNO.out j h ha hb)
    clear hrow
    go_wp2
    go_ret2
    exact ⟨by rw [HF.out]; rfl, rfl⟩
   ·have HZ : Hid (l[k] ≠ 0) := Lib.hid (by
     have e0 : (m == 0) = false := by simpa using hm
     rw [e0] at hz
     simpa using hz.symm)
    clear hz
    go_wp2
    go_round
    case rel => exact ⟨k + 1, by omega, by omega, by go_num, fun j h ha hb => by
     rcases Nat.lt_or_ge j k with hj | hj
     ·exact HNO.out j h ha hj
     ·obtain rfl : j = k := by omega
      exact HZ.out⟩
    case measure => simp [intOf]; omega
  ·have hf : mg l s = none := JU fun j h ha => HNO.out j h ha (by omega)
   have HF := Lib.hid hf
   clear hf
   go_wp2
   go_ret2
   exact ⟨by rw [HF.out]; rfl, rfl⟩

def yJ (l : List UInt8) (s : Int) : Option (List UInt8) := if s < 0 then none else mg l s.toNat
/-- getString, at every slice of bytes and every place -/
theorem AA (A : Option Addr) (l : List UInt8) (n c : Nat) (s : Int) (hn : n = l.length) (hc : n ≤ c) (hl : c ≤ maxLen) (w : World) (hr : Row w A (l.map Bv)) :
  Calls Tryd.prog 91 #[.slice A n c, .int .i64 s] w fun e w' => e = .returned (GU (yJ l s)) ∧ w = w' := by
 by_cases h0 : s < 0
 ·have : yJ l s = none := if_pos h0
  rw [this]
  exact Az A n c s (.inl h0) (by omega) w
 ·obtain ⟨k, rfl⟩ := Int.eq_ofNat_of_zero_le (by omega : 0 ≤ s)
  have e : yJ l (k : Int) = mg l k := by unfold yJ; rw [if_neg h0]; rfl
  rw [e]
  by_cases hk : k < n
  ·exact Ie A l n c k hn hc hl hk w hr
  ·have : mg l k = none := by unfold mg; rw [List.drop_eq_nil_of_le (by omega)]; rfl
   rw [this]
   exact Az A n c k (.inr (by omega)) (by omega) w
end Go.Proofs.YtdgehpocmfjbiaaDoor
namespace Go.Proofs.YtdgehpocmfjbiaaDoor
open Go.RowKit

theorem addr_add (b off j : Nat) : (⟨b, off, none⟩ : Addr).add j = ⟨b, off + j, none⟩ := by
 unfold Addr.add
 split
 ·rename_i h; subst h; rfl
 ·rfl

section
variable {P : Program} (w : World)
theorem Df (base : Nat) (t ty e : TypeId) (i : TypeInfo) (size : Nat) (ht : P.underlying t = some (.slice e)) (hi : P.info? e = some i)
  (v : Value) (n : Nat) (xs : List Value) (hown : w.ownsRow base e size v n xs) (c : Nat) : (Builtin.append_ #[t, t] ty #[v, .slice none 0 c]).run P w = .ok v w := by
 rcases hown.2 with ⟨rfl, rfl⟩ | ⟨g, cap, cur, rfl, _, _, hnc, _⟩
 ·simp [Builtin.append_, run_underlying ht, sizeOf, typeInfo, hi, Builtin.lenOf, Builtin.firstCells]
 ·simp [Builtin.append_, run_underlying ht, sizeOf, typeInfo, hi, Builtin.lenOf, Builtin.firstCells, hnc, storeCells]

theorem EL (base : Nat) (t ty e : TypeId) (i : TypeInfo) (z : Value) (size bytes : Nat) (ht : P.underlying t = some (.slice e)) (hi : P.info? e = some i) (hz : i.zero = some z)
  (hsize : i.size = size) (hby : i.bytes = bytes) (hzs : z.cells.size = size) (hsz : 0 < size)
  (v : Value) (n : Nat) (xs : List Value) (hown : w.ownsRow base e size v n xs)
  (A : Option Addr) (m c : Nat) (news : List Value) (hm : news.length = m * size) (hr : Row w A news) (h1 : ∀ u ∈ news, u.oneCell' = true)
  (h63 : n + m ≤ maxLen) (hbytes : (n + m) * bytes ≤ 140737488355328) (hbase : base ≤ w.heap.size) :
  ∃ v' w', (Builtin.append_ #[t, t] ty #[v, .slice A m c]).run P w = .ok v' w' ∧ w'.ownsRow base e size v' (n + m) (xs ++ news) ∧ w.grownBy w' v.ownBlock ∧
   (v'.ownBlock = v.ownBlock ∨ v'.ownBlock = some w.heap.size) := by
 rcases A with _ | ad
 ·have hn : news = [] := by
   rcases news with _ | ⟨x, l⟩
   ·rfl
   ·obtain ⟨b, off, e, _⟩ := hr 0 x rfl
    cases e
  subst hn
  have hm0 : m = 0 := by
   rcases Nat.eq_zero_or_pos m with h0 | h0
   ·exact h0
   ·have := Nat.mul_pos h0 hsz
    simp at hm
    omega
  subst hm0
  exact ⟨v, w, Df w base t ty e i size ht hi v n xs hown c, by simpa using hown, World.grownBy.refl w _, .inl rfl⟩
 ·have hcells : ∀ j u, news[j]? = some u → w.cell? (ad.add j) = some u := by
   intro j u hu
   obtain ⟨b, off, e, hc⟩ := hr j u hu
   injection e with e
   subst e
   rw [addr_add]
   exact hc
  obtain ⟨v', w', hrun, h2, h3, _, h5⟩ := run_append_own_at (P := P) w base t ty e i z size bytes ht hi hz hsize hby hzs hsz v n xs hown ad m c news hm hcells h1 h63 hbytes hbase
  exact ⟨v', w', hrun, h2, h3, h5⟩

theorem Am {o : Oper} {a : Act} {K : Act → World → Prop} {Q : Exit → Act → World → Prop} (s x : Operand) (t : TypeId)
  (ho : o.op = .call { callee := .builtin .append, args := #[s, x], argTypes := #[t, t] })
  (base : Nat) (e : TypeId) (i : TypeInfo) (z : Value) (size bytes : Nat) (ht : P.underlying t = some (.slice e)) (hi : P.info? e = some i) (hz : i.zero = some z)
  (hsize : i.size = size) (hby : i.bytes = bytes) (hzs : z.cells.size = size) (hsz : 0 < size)
  (v : Value) (n : Nat) (xs : List Value) (hs : a.eval s = v) (hown : w.ownsRow base e size v n xs)
  (A : Option Addr) (m c : Nat) (news : List Value) (hx : a.eval x = .slice A m c) (hm : news.length = m * size) (hr : Row w A news) (h1 : ∀ u ∈ news, u.oneCell' = true)
  (h63 : n + m ≤ maxLen) (hbytes : (n + m) * bytes ≤ 140737488355328) (hbase : base ≤ w.heap.size)
  (h : ∀ v' w', w'.ownsRow base e size v' (n + m) (xs ++ news) → w.grownBy w' v.ownBlock → (v'.ownBlock = v.ownBlock ∨ v'.ownBlock = some w.heap.size) → K (a.put o.dst v') w') : o.wp P a w K Q := by
 obtain ⟨v', w', hrun, h2, h3, h4⟩ := EL (P := P) w base t o.type e i z size bytes ht hi hz hsize hby hzs hsz v n xs hown A m c news hm hr h1 h63 hbytes hbase
 unfold Oper.wp execOp
 simp only [ho, resolve, invoke, builtin, Sem.run_bind, Sem.run_pure, Result.andThen_ok, List.map_toArray, List.map_cons, List.map_nil, hs, hx, hrun]
 exact h v' w' h2 h3 h4

theorem vC {ops : Array Oper} {rest : List Oper} {o : Oper} {a : Act} {Q : Exit → Act → World → Prop} (hgd : o.guard = none) (s x : Operand) (t : TypeId)
  (ho : o.op = .call { callee := .builtin .append, args := #[s, x], argTypes := #[t, t] })
  (base : Nat) (e : TypeId) (i : TypeInfo) (z : Value) (size bytes : Nat) (ht : P.underlying t = some (.slice e)) (hi : P.info? e = some i) (hz : i.zero = some z)
  (hsize : i.size = size) (hby : i.bytes = bytes) (hzs : z.cells.size = size) (hsz : 0 < size)
  (v : Value) (n : Nat) (xs : List Value) (hs : a.eval s = v) (hown : w.ownsRow base e size v n xs)
  (A : Option Addr) (m c : Nat) (news : List Value) (hx : a.eval x = .slice A m c) (hm : news.length = m * size) (hr : Row w A news) (h1 : ∀ u ∈ news, u.oneCell' = true)
  (h63 : n + m ≤ maxLen) (hbytes : (n + m) * bytes ≤ 140737488355328) (hbase : base ≤ w.heap.size)
  (h : ∀ v' w', w'.ownsRow base e size v' (n + m) (xs ++ news) → w.grownBy w' v.ownBlock → (v'.ownBlock = v.ownBlock ∨ v'.ownBlock = some w.heap.size) → wpList P ops Q rest (a.put o.dst v') w') : wpList P ops Q (o :: rest) a w :=
 wpList_plain hgd fun _ hK => Am w s x t ho base e i z size bytes ht hi hz hsize hby hzs hsz v n xs hs hown A m c news hx hm hr h1 h63 hbytes hbase fun v' w' h2 h3 h4 => hK _ _ (h v' w' h2 h3 h4)

theorem sQ {ops : Array Oper} {o : Oper} {a : Act} {K : Act → World → Prop} {Q : Exit → Act → World → Prop} {E : Prop} (hgd : o.guard = none) (s x : Operand) (t : TypeId)
  (ho : o.op = .call { callee := .builtin .append, args := #[s, x], argTypes := #[t, t] })
  (base : Nat) (e : TypeId) (i : TypeInfo) (z : Value) (size bytes : Nat) (ht : P.underlying t = some (.slice e)) (hi : P.info? e = some i) (hz : i.zero = some z)
  (hsize : i.size = size) (hby : i.bytes = bytes) (hzs : z.cells.size = size) (hsz : 0 < size)
  (v : Value) (n : Nat) (xs : List Value) (hs : a.eval s = v) (hown : w.ownsRow base e size v n xs)
  (A : Option Addr) (m c : Nat) (news : List Value) (hx : a.eval x = .slice A m c) (hm : news.length = m * size) (hr : Row w A news) (h1 : ∀ u ∈ news, u.oneCell' = true)
  (h63 : n + m ≤ maxLen) (hbytes : (n + m) * bytes ≤ 140737488355328) (hbase : base ≤ w.heap.size)
  (h : ∀ v' w', w'.ownsRow base e size v' (n + m) (xs ++ news) → w.grownBy w' v.ownBlock → (v'.ownBlock = v.ownBlock ∨ v'.ownBlock = some w.heap.size) → K (a.put o.dst v') w') :
  if Region.wanted o (yielded ops a.tmps) = true then Oper.wp P o a w K Q else E := by
 have hw : Region.wanted o (yielded ops a.tmps) = true := by simp [Region.wanted, hgd]
 rw [if_pos hw]
 exact Am w s x t ho base e i z size bytes ht hi hz hsize hby hzs hsz v n xs hs hown A m c news hx hm hr h1 h63 hbytes hbase h
end

theorem D5 {P : Program} {f : FuncId} {fn : Func} (hf : P.funcs[f]? = some fn) (hname : (fn.name == "runtime.NumGoroutine") = false) (hb : fn.body.isNone = false) (args : Array Value) (w : World) :
  (callFunc f args).run P w = .ok (.enter f args) w := by
 have h1 : ¬ fn.name = "runtime.NumGoroutine" := by simpa using hname
 have h2 : ¬ fn.body = none := by
  intro e
  rw [e] at hb
  cases hb
 unfold callFunc
 simp [go_sem, hf, h1, h2]

/-- a call of a Go function by its contract, as one step of a region that draws -/
theorem AV {P : Program} {w : World} {ops : Array Oper} {o : Oper} {a : Act} {K : Act → World → Prop} {Q : Exit → Act → World → Prop} {E : Prop} (hgd : o.guard = none) (f : FuncId) (xs : Array Operand) (ts : Array TypeId)
  (ho : o.op = .call { callee := .value (.func f), args := xs, argTypes := ts }) {fn : Func} (hf : P.funcs[f]? = some fn) (hname : (fn.name == "runtime.NumGoroutine") = false) (hb : fn.body.isNone = false) (vals : Array Value) (hv : xs.toList.map a.eval = vals.toList)
  (h : Calls P f vals w fun e w' => ∃ v, e = .returned v ∧ K (a.put o.dst v) w') : if Region.wanted o (yielded ops a.tmps) = true then Oper.wp P o a w K Q else E := by
 have hw : Region.wanted o (yielded ops a.tmps) = true := by simp [Region.wanted, hgd]
 rw [if_pos hw]
 obtain ⟨dst, op, ty, pos, after, guard⟩ := o
 dsimp only at ho
 subst ho
 unfold Oper.wp
 rw [execOp_call_go]
 have hv' : xs.map a.eval = vals := by apply Array.ext'; simpa using hv
 have e : (#[] ++ xs.map a.eval ++ #[] : Array Value) = vals := by rw [hv']; simp
 rw [e, D5 hf hname hb]
 exact h.mono fun e w' he => by
  obtain ⟨v, rfl, hk⟩ := he
  exact hk

theorem vw {w w1 : World} (h : Below w.drew.heap.size w.drew w1) : Below w.heap.size w w1 := ⟨h.os, h.tape, h.output, h.size, h.block⟩

theorem Row.Ov {w : World} {base e size n c : Nat} {A : Option Addr} {xs : List Value} (h : w.ownsRow base e size (.slice A n c) n xs) : Row w A xs := fun i v hv => by
 have hl : 0 < xs.length := Nat.lt_of_le_of_lt (Nat.zero_le _) (List.getElem?_eq_some_iff.1 hv).1
 have hn : 0 < n := by
  rcases Nat.eq_zero_or_pos n with h0 | h0
  ·have := h.1; subst h0; omega
  ·exact h0
 obtain ⟨g, cap, hv', _, hlt⟩ := h.form hn
 have hA : A = some ⟨g, 0, none⟩ := by injection hv'
 subst hA
 refine ⟨g, 0, rfl, ?_⟩
 have := h.cells (g := g) rfl i v hv
 rwa [addr_add] at this

/-- an owned value is a slice; its address reads as what it owns -/
theorem uJ {w : World} {base e size n : Nat} {v : Value} {xs : List Value} (h : w.ownsRow base e size v n xs) : ∃ A c, v = .slice A n c ∧ n ≤ c ∧ Row w A xs ∧ (∀ b off, A = some ⟨b, off, none⟩ → base ≤ b) := by
 rcases h.2 with ⟨rfl, rfl⟩ | ⟨g, cap, cur, rfl, hb, hh, hnc, hrest⟩
 ·have hx : xs = [] := List.eq_nil_of_length_eq_zero (by have := h.1; omega)
  subst hx
  exact ⟨none, 0, rfl, Nat.le_refl _, Row.nil _ _, fun b off h => by cases h⟩
 ·exact ⟨_, cap, rfl, hnc, Row.Ov h, fun b off h => by injection h with h; injection h with h1; omega⟩

theorem qp (l : List UInt8) : ∀ u ∈ l.map Bv, u.oneCell' = true := by
 intro u hu
 obtain ⟨b, _, rfl⟩ := List.mem_map.1 hu
 rfl
end Go.Proofs.YtdgehpocmfjbiaaDoor
namespace Go.Proofs.YtdgehpocmfjbiaaDoor
open Go.RowKit

/-- the bytes of a number, the smallest first -/
def leB : Nat → Nat → List UInt8
 | _, 0 => []
 | n, k + 1 => UInt8.ofNat n :: leB (n / 256) k
def dS (n size : Nat) (big : Bool) : List UInt8 := if big then (leB n size).reverse else leB n size
theorem rJ : ∀ (k n : Nat), (leB n k).length = k
 | 0, _ => rfl
 | k + 1, n => by simp [leB, rJ k]
theorem bM (n k : Nat) (b : Bool) : (dS n k b).length = k := by unfold dS; split <;> simp [rJ]
theorem JE : ∀ (k n i : Nat) (h : i < (leB n k).length), (leB n k)[i] = UInt8.ofNat (n / 256 ^ i) := by
 intro k
 induction k with
 | zero => intro n i h; simp [leB] at h
 | succ k ih =>
  intro n i h
  cases i with
  | zero => simp [leB]
  | succ i =>
   simp only [leB, List.getElem_cons_succ]
   rw [ih (n / 256) i, Nat.div_div_eq_div_mul, Nat.pow_succ, Nat.mul_comm 256]

/-- where round k writes -/
def j_ (size : Nat) (big : Bool) (k : Nat) : Nat := if big then size - 1 - k else k
def uP (n size : Nat) (big : Bool) : Nat → List UInt8
 | 0 => List.replicate size 0
 | k + 1 => (uP n size big k).set (j_ size big k) (UInt8.ofNat (n / 256 ^ k))
theorem sW (n size : Nat) (big : Bool) : ∀ k, (uP n size big k).length = size
 | 0 => by simp [uP]
 | k + 1 => by simp [uP, sW n size big k]
theorem Lp (n size : Nat) (big : Bool) : ∀ k, k ≤ size → ∀ j, j < size → (uP n size big k)[j]? = some (if j_ size big j < k then UInt8.ofNat (n / 256 ^ j_ size big j) else 0) := by
 intro k
 induction k with
 | zero => intro _ j hj; simp [uP, hj]
 | succ k ih =>
  intro hk j hj
  simp only [uP]
  rw [List.getElem?_set, sW, ih (by omega) j hj]
  have e : j_ size big k = j ↔ j_ size big j = k := by unfold j_; split <;> omega
  have hp : j_ size big k < size := by unfold j_; split <;> omega
  by_cases h : j_ size big k = j
  ·have h' := e.1 h
   rw [if_pos h, if_pos hp, if_pos (by omega), h']
  ·have h' : ¬ j_ size big j = k := fun x => h (e.2 x)
   rw [if_neg h]
   by_cases h2 : j_ size big j < k
   ·rw [if_pos h2, if_pos (by omega)]
   ·rw [if_neg h2, if_neg (by omega)]
theorem Lr (n size : Nat) (big : Bool) : uP n size big size = dS n size big := by
 apply List.ext_getElem?
 intro j
 by_cases hj : j < size
 ·rw [Lp n size big size (Nat.le_refl _) j hj]
  have hp : j_ size big j < size := by unfold j_; split <;> omega
  rw [if_pos hp]
  unfold dS j_
  cases big
  ·simp only [Bool.false_eq_true, if_false]
   rw [List.getElem?_eq_getElem (by rw [rJ]; exact hj), JE]
  ·simp only [if_true]
   rw [List.getElem?_reverse (by rw [rJ]; exact hj), rJ, List.getElem?_eq_getElem (by rw [rJ]; omega), JE]
 ·rw [List.getElem?_eq_none (by rw [sW]; omega), List.getElem?_eq_none (by rw [bM]; omega)]

theorem Ak (m : Nat) : Bv (UInt8.ofNat m) = .int .u8 ((m : Int) % 256) := by
 unfold Bv
 rw [UInt8.toNat_ofNat']
 congr 1

theorem Ho (n : Nat) : (madeCells #[.int .u8 0] n).toList = (List.replicate n (0 : UInt8)).map Bv := by
 rw [toList_madeCells_one, List.map_replicate]
 rfl

theorem JY (l : List UInt8) (i : Nat) (b : UInt8) : (l.set i b).map Bv = (l.map Bv).set i (Bv b) := by rw [List.map_set]

theorem BK (n size : Nat) (big : Bool) (h1 : size ≤ 1024) (w : World) :
  Calls Tryd.prog 89 #[.int .u64 n, .int .i64 size, .bool big] w fun e w' => ∃ v, e = .returned v ∧ w'.ownsRow w.heap.size 5 1 v size ((dS n size big).map Bv) ∧ Below w.heap.size w w' := by
 obtain ⟨i0, hi, hz0, hz1, hz2⟩ := info_parts yN
 have hs0 : (0 : Int) ≤ (size : Int) := Int.natCast_nonneg _
 go_enter Tryd.func89, Tryd.ntmps89
 go_wp2_with (refine wpList_make_full _ rfl _ _ 33 rfl w.heap.size 5 i0 (.int .u8 0) 1 Tryd.underlying33 hi hz0 hz1 .i64 .i64 _ _ size rfl rfl rfl rfl ?c1 ?c2 (Nat.le_refl _) ?_)
 case c1 => rw [hz2]; omega
 case c2 => unfold maxLen; omega
 intro w1 hown hgrow
 rw [Ho] at hown
 have hbel : Below w.heap.size w w1 := (Below.refl _ _).grown hgrow (Nat.le_refl _) (by simp)
 clear hgrow
 go_wp2
 go_loopw [0, 8, 9] (fun vn i at_ wr => ∃ k m : Nat, k ≤ size ∧ Hid (m = n / 256 ^ k) ∧ vn = .int .u64 m ∧ i = .int .i64 k ∧ wr.ownsRow w.heap.size 5 1 (.slice (some ⟨w.heap.size, 0, none⟩) size size) size ((uP n size big k).map Bv) ∧ Below w.heap.size w wr) (fun _ i _ _ => size - (intOf i).toNat)
 case atStart => exact ⟨0, n, by omega, Lib.hid (by simp), rfl, rfl, hown, hbel⟩
 case round =>
  obtain ⟨k, m, hk, HM, rfl, rfl, hown', KE⟩ := hrel
  clear hown hbel
  by_cases hlt : k < size
  ·have hp : j_ size big k < size := by unfold j_; split <;> omega
   have hcl : wr.cell? ⟨w.heap.size, j_ size big k, none⟩ = _ := hown'.cellAt (j_ size big k) (by omega)
   rw [List.getElem?_eq_getElem (by rw [List.length_map, sW]; exact hp)] at hcl
   obtain ⟨u, hu⟩ : ∃ u, wr.cell? ⟨w.heap.size, j_ size big k, none⟩ = some u := ⟨_, hcl⟩
   have hfz : wr.frozen? ⟨w.heap.size, j_ size big k, none⟩ = false := hown'.frozenAt _
   have hst := hown'.stored (j_ size big k) (Bv (UInt8.ofNat m))
   rw [Ak] at hst
   have hown2 : (wr.setCell ⟨w.heap.size, j_ size big k, none⟩ (.int .u8 ((m : Int) % 256))).ownsRow w.heap.size 5 1 (.slice (some ⟨w.heap.size, 0, none⟩) size size) size ((uP n size big (k + 1)).map Bv) := by
    have := hst.1
    rw [← Ak, ← JY, HM.out] at this
    rw [HM.out]
    exact Ak (n / 256 ^ k) ▸ this
   have NJ : Below w.heap.size w (wr.setCell ⟨w.heap.size, j_ size big k, none⟩ (.int .u8 ((m : Int) % 256))) := KE.setCell (Nat.le_refl _) _
   have HO := Lib.hid hown2
   have HB := Lib.hid NJ
   have bI : Hid (m / 256 = n / 256 ^ (k + 1)) := Lib.hid (by rw [HM.out, Nat.div_div_eq_div_mul, Nat.pow_succ])
   clear hcl hst hown2 NJ hown' KE HM hi hz0 hz1 hz2
   cases big with
   | false =>
    have ep : j_ size false k = k := rfl
    rw [ep] at hu hfz HO HB
    clear ep
    go_wp2
    go_roundw
    case rel => exact ⟨k + 1, m / 256, by omega, bI, by go_num, by go_num, HO.out, HB.out⟩
    case measure => simp [intOf]; omega
   | true =>
    have ep : j_ size true k = size - 1 - k := rfl
    rw [ep] at hu hfz HO HB
    clear ep
    go_wp2
    go_roundw
    case rel => exact ⟨k + 1, m / 256, by omega, bI, by go_num, by go_num, HO.out, HB.out⟩
    case measure => simp [intOf]; omega
  ·have hks : k = size := by omega
   have HF : Hid (wr.ownsRow w.heap.size 5 1 (.slice (some ⟨w.heap.size, 0, none⟩) size size) size ((dS n size big).map Bv)) := Lib.hid (by rw [← Lr]; rw [hks] at hown'; exact hown')
   clear hks hown'
   go_wp2
   go_ret
   exact ⟨_, rfl, HF.out, KE⟩
end Go.Proofs.YtdgehpocmfjbiaaDoor
namespace Go.Proofs.YtdgehpocmfjbiaaDoor
open Go.RowKit
attribute [local go_sem ↓] Go.wp_at_zero Go.wp_at_succ

/-- block g is a row that has gathered the bytes l -/
def nJ (w : World) (g : Nat) (wide big : Bool) (l : List UInt8) : Prop :=
 ∃ v, w.heap[g]? = some (.cells #[.bool wide, .bool big, v] 169 (0, 0)) ∧ w.ownsRow (g + 1) 5 1 v l.length (l.map Bv)

theorem uX {w : World} {g : Nat} {o : Obj} (h : w.heap[g]? = some o) : g < w.heap.size := by
 rcases Nat.lt_or_ge g w.heap.size with hlt | hge
 ·exact hlt
 ·rw [Array.getElem?_eq_none hge] at h; cases h
theorem gU {w : World} {g : Nat} {cs : Array Value} {T : TypeId} (h : w.heap[g]? = some (.cells cs T (0, 0))) (i : Nat) : w.cell? ⟨g, i, none⟩ = cs[i]? := cell_of_row w g i cs T (0, 0) h
theorem Dy {w : World} {g : Nat} {cs : Array Value} {T : TypeId} (h : w.heap[g]? = some (.cells cs T (0, 0))) (i : Nat) : w.frozen? ⟨g, i, none⟩ = false := frozen_of_row w g i cs T h
theorem NW {w : World} {g : Nat} {cs : Array Value} {T : TypeId} (h : w.heap[g]? = some (.cells cs T (0, 0))) (i : Nat) (u : Value) :
  (w.setCell ⟨g, i, none⟩ u).heap[g]? = some (.cells (cs.setIfInBounds i u) T (0, 0)) := by simp [World.setCell, Array.getElem?_modify, h]
theorem bY {w w' : World} {g B : Nat} {o : Obj} (h : w.heap[g]? = some o) (hb : Below B w w') (hg : g < B) : w'.heap[g]? = some o := (hb.block g hg).trans h
theorem Bg {w w' : World} {g : Nat} {o : Obj} {row : Option Nat} (h : w.heap[g]? = some o) (hb : w.grownBy w' row) (hg : some g ≠ row) : w'.heap[g]? = some o := (hb.block g (uX h) hg).trans h

/-- an owned row stays owned where nothing from its base on was written -/
theorem zy {w w' : World} {base e size n B : Nat} {v : Value} {xs : List Value} (h : w.ownsRow base e size v n xs) (hb : Below B w w') (hB : w.heap.size ≤ B) : w'.ownsRow base e size v n xs := by
 refine ⟨h.1, ?_⟩
 rcases h.2 with h1 | ⟨g, cap, cur, h1, h2, h3, h4⟩
 ·exact .inl h1
 ·exact .inr ⟨g, cap, cur, h1, h2, bY h3 hb (Nat.lt_of_lt_of_le (uX h3) hB), h4⟩

def jT (wide : Bool) (s : Nat) : Nat := if s = 0 then (if wide then 8 else 4) else s

theorem A_ {w2 : World} {g : Nat} {wide big : Bool} {v v2 : Value} {l f : List UInt8} {n : Nat} (ho : w2.heap[g]? = some (.cells #[.bool wide, .bool big, v] 169 (0, 0)))
  (hown : w2.ownsRow (g + 1) 5 1 v2 n (l.map Bv ++ f.map Bv)) (hn : n = l.length + f.length) : nJ (w2.setCell ⟨g, 2, none⟩ v2) g wide big (l ++ f) := by
 refine ⟨v2, NW ho 2 v2, ?_⟩
 rw [List.map_append, List.length_append, ← hn]
 exact ownsRow_setCell_below hown (Nat.lt_succ_self g) v2
theorem Ba {w w1 w2 : World} {g base : Nat} {v v2 : Value} {n : Nat} {xs : List Value} (hb : Below w.heap.size w w1) (hlt : g < w.heap.size) (hg : w1.grownBy w2 v.ownBlock) (hown : w.ownsRow (g + 1) base 1 v n xs) : Below g w (w2.setCell ⟨g, 2, none⟩ v2) := by
 refine ((hb.mono (Nat.le_of_lt hlt)).grown hg ?_ fun k hk => ?_).setCell (Nat.le_refl _) _
 ·have := hb.size; omega
 ·rcases hown.2 with ⟨rfl, _⟩ | ⟨g', cap, cur, rfl, hb', _⟩
  ·simp [Value.ownBlock] at hk
  ·simp [Value.ownBlock] at hk; omega

theorem MP (g n s : Nat) (big : Bool) (wide : Bool) (l : List UInt8) (hs : s ≤ 8) (hs0 : 0 < s) (hl : l.length ≤ 4294967296) (w : World) (h : nJ w g wide big l) :
  Calls Tryd.prog 73 #[.pointer (some ⟨g, 0, none⟩), .int .u64 n, .int .i64 s] w fun e w' => e = .returned (.tuple #[]) ∧ nJ w' g wide big (l ++ dS n s big) ∧ Below g w w' := by
 obtain ⟨i0, hi, hz0, hz1, hz2⟩ := info_parts yN
 obtain ⟨v, ho, hown⟩ := h
 have c0 : w.cell? ⟨g, 0, none⟩ = some (.bool wide) := gU ho 0
 have c1 : w.cell? ⟨g, 1, none⟩ = some (.bool big) := gU ho 1
 have c2 : w.cell? ⟨g, 2, none⟩ = some v := gU ho 2
 have hf : w.frozen? ⟨g, 2, none⟩ = false := Dy ho 2
 have hlt := uX ho
 have BH : v.ownBlock ≠ some g := by
  rcases hown.2 with ⟨rfl, _⟩ | ⟨g', cap, cur, rfl, hb, _⟩
  ·simp [Value.ownBlock]
  ·simp [Value.ownBlock]; omega
 have hne : ((s : Int) == 0) = false := by rw [beq_eq_false_iff_ne]; omega
 have HO := Lib.hid ho
 have HW := Lib.hid hown
 clear ho hown
 go_enter Tryd.func73, Tryd.ntmps73
 go_wp2_with fail
 go_region_law (first
   | ((refine sQ _ (by rfl) _ _ _ (by rfl) (g + 1) 5 i0 _ 1 1 Tryd.underlying33 hi hz0 hz1 hz2 rfl (by omega) v l.length (l.map Bv) (by rfl) (zy HW.out hb1 (Nat.le_refl _)) A1 s cc1 ((dS n s big).map Bv) (by rfl) (by simp [bM]) hrow1 (qp _) (by unfold maxLen; omega) (by omega) (by omega) ?_; intro v2 w2 hown2 hgrow hat; obtain ⟨A2, cc2, rfl, yD, hrow2, L_⟩ := uJ hown2; have x2 : w2.cell? ⟨g, 2, none⟩ = some v := (hgrow.cell_far _ hlt1 (Ne.symm BH)).trans d2; have xf : w2.frozen? ⟨g, 2, none⟩ = false := (hgrow.frozen_far _ hlt1 (Ne.symm BH)).trans df; have HO2 := Lib.hid (Bg HO1.out hgrow (Ne.symm BH))))
   | ((refine AV (by rfl) 89 _ _ (by rfl) Tryd.func89 (by kernel_rfl) (by kernel_rfl) #[.int .u64 n, .int .i64 s, .bool big] (by rfl) ?_; refine (BK n s big (by omega) _).mono ?_; rintro e w1 ⟨v1, rfl, hown1, hb0⟩; refine ⟨_, rfl, ?_⟩; have hb1 := vw hb0; clear hb0; obtain ⟨A1, cc1, rfl, H6, hrow1, Mc⟩ := uJ hown1; have hlt1 : g < w1.heap.size := Nat.lt_of_lt_of_le hlt hb1.size; have d0 : w1.cell? ⟨g, 0, none⟩ = some (.bool wide) := (hb1.cell (p := ⟨g, 0, none⟩) hlt).trans c0; have d1 : w1.cell? ⟨g, 1, none⟩ = some (.bool big) := (hb1.cell (p := ⟨g, 1, none⟩) hlt).trans c1; have d2 : w1.cell? ⟨g, 2, none⟩ = some v := (hb1.cell (p := ⟨g, 2, none⟩) hlt).trans c2; have df : w1.frozen? ⟨g, 2, none⟩ = false := (hb1.frozen (p := ⟨g, 2, none⟩) hlt).trans hf; have HO1 := Lib.hid (bY HO.out hb1 hlt))))
 all_goals go_wp2
 all_goals go_end0
 all_goals exact ⟨rfl, A_ HO2.out hown2 (by rw [bM]), Ba hb1 hlt hgrow HW.out⟩

theorem Ll (g n : Nat) (big : Bool) (l : List UInt8) (hl : l.length ≤ 4294967296) (w : World) (h : nJ w g true big l) :
  Calls Tryd.prog 73 #[.pointer (some ⟨g, 0, none⟩), .int .u64 n, .int .i64 0] w fun e w' => e = .returned (.tuple #[]) ∧ nJ w' g true big (l ++ dS n 8 big) ∧ Below g w w' := by
 obtain ⟨i0, hi, hz0, hz1, hz2⟩ := info_parts yN
 obtain ⟨v, ho, hown⟩ := h
 have c0 : w.cell? ⟨g, 0, none⟩ = some (.bool true) := gU ho 0
 have c1 : w.cell? ⟨g, 1, none⟩ = some (.bool big) := gU ho 1
 have c2 : w.cell? ⟨g, 2, none⟩ = some v := gU ho 2
 have hf : w.frozen? ⟨g, 2, none⟩ = false := Dy ho 2
 have hlt := uX ho
 have BH : v.ownBlock ≠ some g := by
  rcases hown.2 with ⟨rfl, _⟩ | ⟨g', cap, cur, rfl, hb, _⟩
  ·simp [Value.ownBlock]
  ·simp [Value.ownBlock]; omega
 have HO := Lib.hid ho
 have HW := Lib.hid hown
 clear ho hown
 go_enter Tryd.func73, Tryd.ntmps73
 go_wp2_with fail
 go_region_law (first
   | ((refine sQ _ (by rfl) _ _ _ (by rfl) (g + 1) 5 i0 _ 1 1 Tryd.underlying33 hi hz0 hz1 hz2 rfl (by omega) v l.length (l.map Bv) (by rfl) (zy HW.out hb1 (Nat.le_refl _)) A1 8 cc1 ((dS n 8 big).map Bv) (by rfl) (by simp [bM]) hrow1 (qp _) (by unfold maxLen; omega) (by omega) (by omega) ?_; intro v2 w2 hown2 hgrow hat; obtain ⟨A2, cc2, rfl, yD, hrow2, L_⟩ := uJ hown2; have x2 : w2.cell? ⟨g, 2, none⟩ = some v := (hgrow.cell_far _ hlt1 (Ne.symm BH)).trans d2; have xf : w2.frozen? ⟨g, 2, none⟩ = false := (hgrow.frozen_far _ hlt1 (Ne.symm BH)).trans df; have HO2 := Lib.hid (Bg HO1.out hgrow (Ne.symm BH))))
   | ((refine AV (by rfl) 89 _ _ (by rfl) Tryd.func89 (by kernel_rfl) (by kernel_rfl) #[.int .u64 n, .int .i64 8, .bool big] (by rfl) ?_; refine (BK n 8 big (by omega) _).mono ?_; rintro e w1 ⟨v1, rfl, hown1, hb0⟩; refine ⟨_, rfl, ?_⟩; have hb1 := vw hb0; clear hb0; obtain ⟨A1, cc1, rfl, H6, hrow1, Mc⟩ := uJ hown1; have hlt1 : g < w1.heap.size := Nat.lt_of_lt_of_le hlt hb1.size; have d0 : w1.cell? ⟨g, 0, none⟩ = some (.bool true) := (hb1.cell (p := ⟨g, 0, none⟩) hlt).trans c0; have d1 : w1.cell? ⟨g, 1, none⟩ = some (.bool big) := (hb1.cell (p := ⟨g, 1, none⟩) hlt).trans c1; have d2 : w1.cell? ⟨g, 2, none⟩ = some v := (hb1.cell (p := ⟨g, 2, none⟩) hlt).trans c2; have df : w1.frozen? ⟨g, 2, none⟩ = false := (hb1.frozen (p := ⟨g, 2, none⟩) hlt).trans hf; have HO1 := Lib.hid (bY HO.out hb1 hlt))))
 all_goals go_wp2
 all_goals go_end0
 all_goals exact ⟨rfl, A_ HO2.out hown2 (by rw [bM]), Ba hb1 hlt hgrow HW.out⟩

theorem Lm (g n : Nat) (big : Bool) (l : List UInt8) (hl : l.length ≤ 4294967296) (w : World) (h : nJ w g false big l) :
  Calls Tryd.prog 73 #[.pointer (some ⟨g, 0, none⟩), .int .u64 n, .int .i64 0] w fun e w' => e = .returned (.tuple #[]) ∧ nJ w' g false big (l ++ dS n 4 big) ∧ Below g w w' := by
 obtain ⟨i0, hi, hz0, hz1, hz2⟩ := info_parts yN
 obtain ⟨v, ho, hown⟩ := h
 have c0 : w.cell? ⟨g, 0, none⟩ = some (.bool false) := gU ho 0
 have c1 : w.cell? ⟨g, 1, none⟩ = some (.bool big) := gU ho 1
 have c2 : w.cell? ⟨g, 2, none⟩ = some v := gU ho 2
 have hf : w.frozen? ⟨g, 2, none⟩ = false := Dy ho 2
 have hlt := uX ho
 have BH : v.ownBlock ≠ some g := by
  rcases hown.2 with ⟨rfl, _⟩ | ⟨g', cap, cur, rfl, hb, _⟩
  ·simp [Value.ownBlock]
  ·simp [Value.ownBlock]; omega
 have HO := Lib.hid ho
 have HW := Lib.hid hown
 clear ho hown
 go_enter Tryd.func73, Tryd.ntmps73
 go_wp2_with fail
 go_region_law (first
   | ((refine sQ _ (by rfl) _ _ _ (by rfl) (g + 1) 5 i0 _ 1 1 Tryd.underlying33 hi hz0 hz1 hz2 rfl (by omega) v l.length (l.map Bv) (by rfl) (zy HW.out hb1 (Nat.le_refl _)) A1 4 cc1 ((dS n 4 big).map Bv) (by rfl) (by simp [bM]) hrow1 (qp _) (by unfold maxLen; omega) (by omega) (by omega) ?_; intro v2 w2 hown2 hgrow hat; obtain ⟨A2, cc2, rfl, yD, hrow2, L_⟩ := uJ hown2; have x2 : w2.cell? ⟨g, 2, none⟩ = some v := (hgrow.cell_far _ hlt1 (Ne.symm BH)).trans d2; have xf : w2.frozen? ⟨g, 2, none⟩ = false := (hgrow.frozen_far _ hlt1 (Ne.symm BH)).trans df; have HO2 := Lib.hid (Bg HO1.out hgrow (Ne.symm BH))))
   | ((refine AV (by rfl) 89 _ _ (by rfl) Tryd.func89 (by kernel_rfl) (by kernel_rfl) #[.int .u64 n, .int .i64 4, .bool big] (by rfl) ?_; refine (BK n 4 big (by omega) _).mono ?_; rintro e w1 ⟨v1, rfl, hown1, hb0⟩; refine ⟨_, rfl, ?_⟩; have hb1 := vw hb0; clear hb0; obtain ⟨A1, cc1, rfl, H6, hrow1, Mc⟩ := uJ hown1; have hlt1 : g < w1.heap.size := Nat.lt_of_lt_of_le hlt hb1.size; have d0 : w1.cell? ⟨g, 0, none⟩ = some (.bool false) := (hb1.cell (p := ⟨g, 0, none⟩) hlt).trans c0; have d1 : w1.cell? ⟨g, 1, none⟩ = some (.bool big) := (hb1.cell (p := ⟨g, 1, none⟩) hlt).trans c1; have d2 : w1.cell? ⟨g, 2, none⟩ = some v := (hb1.cell (p := ⟨g, 2, none⟩) hlt).trans c2; have df : w1.frozen? ⟨g, 2, none⟩ = false := (hb1.frozen (p := ⟨g, 2, none⟩) hlt).trans hf; have HO1 := Lib.hid (bY HO.out hb1 hlt))))
 all_goals go_wp2
 all_goals go_end0
 all_goals exact ⟨rfl, A_ HO2.out hown2 (by rw [bM]), Ba hb1 hlt hgrow HW.out⟩

/-- put, at every size (0: that of an address) -/
theorem put_any (g n s : Nat) (big : Bool) (wide : Bool) (l : List UInt8) (hs : s ≤ 8) (hl : l.length ≤ 4294967296) (w : World) (h : nJ w g wide big l) :
  Calls Tryd.prog 73 #[.pointer (some ⟨g, 0, none⟩), .int .u64 n, .int .i64 s] w fun e w' => e = .returned (.tuple #[]) ∧ nJ w' g wide big (l ++ dS n (jT wide s) big) ∧ Below g w w' := by
 by_cases h0 : s = 0
 ·subst h0
  cases wide with
  | true => exact Ll g n big l hl w h
  | false => exact Lm g n big l hl w h
 ·have e : jT wide s = s := if_neg h0
  rw [e]
  exact MP g n s big wide l hs (by omega) hl w h
end Go.Proofs.YtdgehpocmfjbiaaDoor
namespace Go.Proofs.YtdgehpocmfjbiaaDoor
open Go.RowKit

theorem J3 (w : World) (wide big : Bool) : nJ (w.alloc (.cells #[.bool wide, .bool big, .slice none 0 0] 169)) w.heap.size wide big [] :=
 ⟨.slice none 0 0, heap_alloc_new w _, World.ownsRow_nil _ _ _ _⟩
theorem Ot {w : World} {base base' size n : Nat} {e : TypeId} {v : Value} {xs : List Value} (h : w.ownsRow base e size v n xs) (hb : base' ≤ base) : w.ownsRow base' e size v n xs := by
 refine ⟨h.1, ?_⟩
 rcases h.2 with h1 | ⟨g, cap, cur, h1, h2, h3⟩
 ·exact .inl h1
 ·exact .inr ⟨g, cap, cur, h1, by omega, h3⟩
theorem nJ.below {w w' : World} {g : Nat} {wide big : Bool} {l : List UInt8} (h : nJ w g wide big l) (hb : Below w.heap.size w w') : nJ w' g wide big l := by
 obtain ⟨v, ho, hown⟩ := h
 exact ⟨v, bY ho hb (uX ho), zy hown hb (Nat.le_refl _)⟩

/-- two boxes and a row object, just made -/
theorem start3 (w : World) (X S : Obj) (wide big : Bool) : (((w.alloc X).alloc S).alloc (.cells #[.bool wide, .bool big, .slice none 0 0] 169)).heap[w.heap.size]? = some X ∧
  (((w.alloc X).alloc S).alloc (.cells #[.bool wide, .bool big, .slice none 0 0] 169)).heap[w.heap.size + 1]? = some S ∧
  nJ (((w.alloc X).alloc S).alloc (.cells #[.bool wide, .bool big, .slice none 0 0] 169)) (w.heap.size + 1 + 1) wide big [] ∧
  Below w.heap.size w (((w.alloc X).alloc S).alloc (.cells #[.bool wide, .bool big, .slice none 0 0] 169)) := by
 have e1 : (w.alloc X).heap.size = w.heap.size + 1 := by simp
 have e2 : ((w.alloc X).alloc S).heap.size = w.heap.size + 1 + 1 := by simp
 have a1 : (w.alloc X).heap[w.heap.size]? = some X := heap_alloc_new w X
 have a2 : ((w.alloc X).alloc S).heap[w.heap.size]? = some X := (Below.heap_alloc _ _ _ (by omega)).trans a1
 have b2 : ((w.alloc X).alloc S).heap[w.heap.size + 1]? = some S := by rw [← e1]; exact heap_alloc_new _ S
 refine ⟨(Below.heap_alloc _ _ _ (by omega)).trans a2, (Below.heap_alloc _ _ _ (by omega)).trans b2, ?_, (((Below.refl _ _).alloc (Nat.le_refl _) _).alloc (by omega) _).alloc (by omega) _⟩
 rw [← e2]
 exact J3 _ wide big

theorem cells2 {w : World} {b : Nat} {T : TypeId} {a0 a1 a2 a3 a4 a5 a6 a7 a8 : Value} (h : w.heap[b]? = some (.cells #[a0, a1, a2, a3, a4, a5, a6, a7, a8] T (0, 0))) : w.cell? ⟨b, 0, none⟩ = some a0 ∧ w.cell? ⟨b, 1, none⟩ = some a1 := ⟨gU h 0, gU h 1⟩
theorem mD {w : World} {b : Nat} {T : TypeId} {a0 a1 a2 a3 a4 a5 a6 : Value} (h : w.heap[b]? = some (.cells #[a0, a1, a2, a3, a4, a5, a6] T (0, 0))) :
  w.cell? ⟨b, 0, none⟩ = some a0 ∧ w.cell? ⟨b, 1, none⟩ = some a1 ∧ w.cell? ⟨b, 2, none⟩ = some a2 ∧ w.cell? ⟨b, 3, none⟩ = some a3 ∧ w.cell? ⟨b, 4, none⟩ = some a4 ∧ w.cell? ⟨b, 5, none⟩ = some a5 ∧ w.cell? ⟨b, 6, none⟩ = some a6 :=
 ⟨gU h 0, gU h 1, gU h 2, gU h 3, gU h 4, gU h 5, gU h 6⟩
theorem o8 {w : World} {b : Nat} {T : TypeId} {a0 a1 a2 a3 a4 a5 a6 a7 a8 a9 : Value} (h : w.heap[b]? = some (.cells #[a0, a1, a2, a3, a4, a5, a6, a7, a8, a9] T (0, 0))) :
  w.cell? ⟨b, 0, none⟩ = some a0 ∧ w.cell? ⟨b, 1, none⟩ = some a1 ∧ w.cell? ⟨b, 2, none⟩ = some a2 ∧ w.cell? ⟨b, 3, none⟩ = some a3 ∧ w.cell? ⟨b, 4, none⟩ = some a4 ∧ w.cell? ⟨b, 5, none⟩ = some a5 ∧ w.cell? ⟨b, 6, none⟩ = some a6 ∧ w.cell? ⟨b, 7, none⟩ = some a7 ∧ w.cell? ⟨b, 8, none⟩ = some a8 ∧ w.cell? ⟨b, 9, none⟩ = some a9 :=
 ⟨gU h 0, gU h 1, gU h 2, gU h 3, gU h 4, gU h 5, gU h 6, gU h 7, gU h 8, gU h 9⟩

/-- what is handed back: the bytes of a row object -/
theorem zq {w w' : World} {g : Nat} {wide big : Bool} {l : List UInt8} (h : nJ w' g wide big l) (hg : w.heap.size ≤ g) : ∃ v, w'.cell? ⟨g, 2, none⟩ = some v ∧ w'.ownsRow w.heap.size 5 1 v l.length (l.map Bv) := by
 obtain ⟨v, ho, hown⟩ := h
 exact ⟨v, gU ho 2, Ot hown (by omega)⟩
theorem bQ (wide : Bool) (s : Nat) (h : s ≤ 8) : jT wide s ≤ 8 := by unfold jT; split <;> (try split) <;> omega

section
variable {P : Program} {fn : Func} {p t u : Tmp} {ty T : TypeId} {g : Nat} {cs : Array Value} {fs : Array Field} {w : World} {tmps : Array Value}
end

end Go.Proofs.YtdgehpocmfjbiaaDoor
namespace Go.Proofs.YtdgehpocmfjbiaaDoor
open Go Go.RowKit

section
variable {P : Program}
theorem FV (b off j : Nat) : (⟨b, off, none⟩ : Addr).add j = ⟨b, off + j, none⟩ := by
 unfold Addr.add
 split
 ·rename_i h; subst h; rfl
 ·rfl

end
end Go.Proofs.YtdgehpocmfjbiaaDoor
namespace Go.Proofs.YtdgehpocmfjbiaaDoor
open Go
section
variable {P : Program} {ops : Array Oper} {md : Region.Mode} {C : World → Prop}

end
end Go.Proofs.YtdgehpocmfjbiaaDoor
namespace Go.Proofs.YtdgehpocmfjbiaaDoor
open Go Go.RowKit

/-- nothing has turned but new blocks and the old blocks of a list -/
structure Keep (G : List Nat) (w0 w : World) : Prop where
 os : w.os = w0.os
 tape : w.tape = w0.tape
 output : w.output = w0.output
 size : w0.heap.size ≤ w.heap.size
 block : ∀ k, k < w0.heap.size → k ∉ G → w.heap[k]? = w0.heap[k]?
theorem Keep.refl (G : List Nat) (w : World) : Keep G w w := ⟨rfl, rfl, rfl, Nat.le_refl _, fun _ _ _ => rfl⟩
theorem Keep.of_below {w w' : World} (h : Below w.heap.size w w') : Keep [] w w' := ⟨h.os, h.tape, h.output, h.size, fun k hk _ => h.block k hk⟩
theorem Keep.below {w w' : World} (h : Keep [] w w') : Below w.heap.size w w' := ⟨h.os, h.tape, h.output, h.size, fun k hk => h.block k hk (by simp)⟩
theorem Keep.mono {G G' : List Nat} {w w' : World} (h : Keep G w w') (hs : ∀ k ∈ G, k ∈ G') : Keep G' w w' := ⟨h.os, h.tape, h.output, h.size, fun k hk hn => h.block k hk fun hg => hn (hs k hg)⟩
theorem Keep.drewN {G : List Nat} {w w' : World} (h : Keep G w w') (n : Nat) : Keep G w (w'.drewN n) := ⟨h.os, h.tape, h.output, h.size, h.block⟩
/-- a step that keeps all but some blocks, each of which is new or on the list -/
theorem Keep.step {G G' : List Nat} {w0 w w' : World} (h : Keep G w0 w) (h2 : Keep G' w w') (hg : ∀ k ∈ G', w0.heap.size ≤ k ∨ k ∈ G) : Keep G w0 w' :=
 ⟨h2.os.trans h.os, h2.tape.trans h.tape, h2.output.trans h.output, Nat.le_trans h.size h2.size, fun k hk hn =>
  (h2.block k (Nat.lt_of_lt_of_le hk h.size) fun hm => (hg k hm).elim (fun h1 => absurd hk (Nat.not_lt_of_le h1)) hn).trans (h.block k hk hn)⟩
theorem Keep.MZ {g : Nat} {w w' : World} (h : w.grownBy w' (some g)) : Keep [g] w w' := ⟨h.os, h.tape, h.output, h.size, fun k hk hn => h.block k hk fun e => hn (by injection e with e; simp [e])⟩
theorem Keep.setCell (w : World) (p : Addr) (v : Value) : Keep [p.block] w (w.setCell p v) := ⟨rfl, rfl, rfl, by simp [World.setCell], fun k hk hn => Below.heap_setCell w p v k (by simpa using hn)⟩
theorem Keep.setRow (w : World) (b : Nat) (cs : Array Value) : Keep [b] w (w.setRow b cs) := ⟨rfl, rfl, rfl, by simp, fun k hk hn => setRow_other w b k cs (by simpa using hn)⟩

/-- what is known of memory: w is a later world of w0 that has turned new blocks, and the old blocks of G, only; of some of these (the newest first) it is told what they hold -/
def Mm (G : List Nat) (w0 w : World) (L : List (Nat × Obj)) : Prop :=
 Keep G w0 w ∧ (∀ p ∈ L, w.heap[p.1]? = some p.2 ∧ (w0.heap.size ≤ p.1 ∨ p.1 ∈ G)) ∧ (L.map (·.1)).Pairwise (· ≠ ·)

theorem jD {w : World} {b : Nat} {o : Obj} (h : w.heap[b]? = some o) : b < w.heap.size := by
 rcases Nat.lt_or_ge b w.heap.size with hlt | hge
 ·exact hlt
 ·rw [Array.getElem?_eq_none hge] at h; cases h
section
variable {G : List Nat} {w0 w w' : World} {L : List (Nat × Obj)}
theorem Mm.start (w : World) : Mm [] w w [] := ⟨Keep.refl _ _, fun p h => absurd h (by simp), by simp⟩
/-- a start with old blocks told -/
theorem Mm.uU {b : Nat} {o : Obj} (h : w.heap[b]? = some o) : Mm [b] w w [(b, o)] := ⟨Keep.refl _ _, fun p hp => by simp at hp; subst hp; exact ⟨h, .inr (by simp)⟩, by simp⟩
theorem Mm.DV {b c : Nat} {o p : Obj} (h : w.heap[b]? = some o) (h2 : w.heap[c]? = some p) (hne : b ≠ c) : Mm [b, c] w w [(b, o), (c, p)] :=
 ⟨Keep.refl _ _, fun q hq => by simp at hq; rcases hq with rfl | rfl; exact ⟨h, .inr (by simp)⟩; exact ⟨h2, .inr (by simp)⟩, by simp [hne]⟩
theorem Mm.start3 {b c d : Nat} {o p q : Obj} (h : w.heap[b]? = some o) (h2 : w.heap[c]? = some p) (h3 : w.heap[d]? = some q) (hne : b ≠ c) (hne2 : b ≠ d) (hne3 : c ≠ d) : Mm [b, c, d] w w [(b, o), (c, p), (d, q)] :=
 ⟨Keep.refl _ _, fun r hr => by simp at hr; rcases hr with rfl | rfl | rfl; exact ⟨h, .inr (by simp)⟩; exact ⟨h2, .inr (by simp)⟩; exact ⟨h3, .inr (by simp)⟩, by simp [hne, hne2, hne3]⟩
theorem Mm.keep (h : Mm G w0 w L) : Keep G w0 w := h.1
theorem Mm.below (h : Mm [] w0 w L) : Below w0.heap.size w0 w := h.1.below
theorem Mm.get (h : Mm G w0 w L) {i b : Nat} {o : Obj} (e : L[i]? = some (b, o)) : w.heap[b]? = some o := (h.2.1 _ (List.mem_of_getElem? e)).1
theorem Mm.own (h : Mm G w0 w L) {i b : Nat} {o : Obj} (e : L[i]? = some (b, o)) : w0.heap.size ≤ b ∨ b ∈ G := (h.2.1 _ (List.mem_of_getElem? e)).2
theorem Mm.ge (h : Mm [] w0 w L) {i b : Nat} {o : Obj} (e : L[i]? = some (b, o)) : w0.heap.size ≤ b := (h.own e).elim id fun h => by cases h
theorem Mm.lt (h : Mm G w0 w L) {i b : Nat} {o : Obj} (e : L[i]? = some (b, o)) : b < w.heap.size := jD (h.get e)
theorem Mm.size (h : Mm G w0 w L) : w0.heap.size ≤ w.heap.size := h.1.size
theorem Mm.call (h : Mm G w0 w L) (hb : Below w.heap.size w w') : Mm G w0 w' L :=
 ⟨h.1.step (Keep.of_below hb) (by simp), fun p hp => ⟨(hb.block p.1 (jD (h.2.1 p hp).1)).trans (h.2.1 p hp).1, (h.2.1 p hp).2⟩, h.2.2⟩
/-- a block that a callee has made -/
theorem Mm.push (h : Mm G w0 w L) (hb : Below w.heap.size w w') {b : Nat} {o : Obj} (hg : w.heap.size ≤ b) (ho : w'.heap[b]? = some o) : Mm G w0 w' ((b, o) :: L) := by
 have h1 := h.call hb
 refine ⟨h1.1, fun p hp => ?_, ?_⟩
 ·rcases List.mem_cons.1 hp with rfl | hp
  ·exact ⟨ho, .inl (Nat.le_trans h.size hg)⟩
  ·exact h1.2.1 p hp
 ·rw [List.map_cons, List.pairwise_cons]
  refine ⟨fun c hc => ?_, h1.2.2⟩
  obtain ⟨p, hp, rfl⟩ := List.mem_map.1 hc
  have := jD (h.2.1 p hp).1
  show b ≠ p.1
  omega
theorem Mm.alloc (h : Mm G w0 w L) (o : Obj) : Mm G w0 (w.alloc o) ((w.heap.size, o) :: L) :=
 h.push ((Below.refl _ _).alloc (Nat.le_refl _) o) (Nat.le_refl _) (heap_alloc_new w o)
theorem Mm.drewN (h : Mm G w0 w L) (n : Nat) : Mm G w0 (w.drewN n) L := ⟨h.1.drewN n, h.2.1, h.2.2⟩
theorem Mm.drew (h : Mm G w0 w L) : Mm G w0 w.drew L := ⟨h.1.drewN 1, h.2.1, h.2.2⟩
theorem Mm.sub {K : List (Nat × Obj)} (h : Mm G w0 w L) (hs : K.Sublist L) : Mm G w0 w K := ⟨h.1, fun p hp => h.2.1 p (hs.subset hp), h.2.2.sublist (hs.map _)⟩
theorem Mm.ne (h : Mm G w0 w L) {i j b c : Nat} {o p : Obj} (e : L[i]? = some (b, o)) (f : L[j]? = some (c, p)) (hij : i ≠ j) : b ≠ c := by
 have hp := h.2.2
 rw [List.pairwise_iff_getElem] at hp
 obtain ⟨h1, e1⟩ := List.getElem?_eq_some_iff.1 e
 obtain ⟨h2, e2⟩ := List.getElem?_eq_some_iff.1 f
 rcases Nat.lt_or_gt_of_ne hij with hlt | hgt
 ·have := hp i j (by simpa using h1) (by simpa using h2) hlt
  simp only [List.getElem_map, e1, e2] at this
  exact this
 ·have := hp j i (by simpa using h2) (by simpa using h1) hgt
  simp only [List.getElem_map, e1, e2] at this
  exact fun e => this e.symm
/-- a world that parts from w in one told block (and in new ones) -/
theorem Mm.put (h : Mm G w0 w L) {i b : Nat} {o o' : Obj} (e : L[i]? = some (b, o)) (h1 : w'.heap[b]? = some o') (hk : Keep [b] w w') : Mm G w0 w' (L.set i (b, o')) := by
 have hown := h.own e
 refine ⟨h.1.step hk (by simpa using hown), fun p hp => ?_, ?_⟩
 ·obtain ⟨j, hj⟩ := List.getElem?_of_mem hp
  rw [List.getElem?_set] at hj
  split at hj
  ·split at hj
   ·injection hj with hj; subst hj; exact ⟨h1, hown⟩
   ·cases hj
  ·rename_i hij
   have hj' : L[j]? = some (p.1, p.2) := hj
   have hne : p.1 ≠ b := h.ne hj' e (Ne.symm hij)
   exact ⟨(hk.block _ (h.lt hj') (by simpa using hne)).trans (h.get hj'), h.own hj'⟩
 ·rw [List.map_set]
  have : (L.map (·.1)).set i b = L.map (·.1) := by
   apply List.ext_getElem?
   intro j
   rw [List.getElem?_set]
   split
   ·rename_i hij; subst hij
    have hi := (List.getElem?_eq_some_iff.1 e).1
    have e1 := (List.getElem?_eq_some_iff.1 e).2
    simp [hi, e1]
   ·rfl
  rw [this]; exact h.2.2
theorem Mm.set (h : Mm G w0 w L) {i b : Nat} {old : Array Value} {t : TypeId} (e : L[i]? = some (b, .cells old t (0, 0))) (new : Array Value) : Mm G w0 (w.setRow b new) (L.set i (b, .cells new t (0, 0))) :=
 h.put e (setRow_heap w b old new t _ (h.get e)) (Keep.setRow _ _ _)
/-- two told blocks turned by a callee -/
theorem Mm.Bc (h : Mm G w0 w L) {i j b c : Nat} {o o' p p' : Obj} (e : L[i]? = some (b, o)) (f : L[j]? = some (c, p)) (hij : i ≠ j) (h1 : w'.heap[b]? = some o') (h2 : w'.heap[c]? = some p') (hk : Keep [b, c] w w') : Mm G w0 w' ((L.set i (b, o')).set j (c, p')) := by
 have hb := h.own e
 have hc := h.own f
 have hbc := h.ne e f hij
 have hm : ∀ (K : List (Nat × Obj)), K.map (·.1) = L.map (·.1) → (K.map (·.1)).Pairwise (· ≠ ·) := fun K hK => hK ▸ h.2.2
 have hset : ∀ (K : List (Nat × Obj)) (i b : Nat) (o o' : Obj), K[i]? = some (b, o) → (K.set i (b, o')).map (·.1) = K.map (·.1) := fun K i b o o' he => by
  rw [List.map_set]
  apply List.ext_getElem?
  intro j
  rw [List.getElem?_set]
  split
  ·rename_i hij; subst hij
   obtain ⟨hi, e1⟩ := List.getElem?_eq_some_iff.1 he
   simp [hi, e1]
  ·rfl
 have f' : (L.set i (b, o'))[j]? = some (c, p) := by rw [List.getElem?_set, if_neg hij]; exact f
 refine ⟨h.1.step hk fun k hk => ?_, fun q hq => ?_, hm _ ((hset _ j c p p' f').trans (hset _ i b o o' e))⟩
 ·simp only [List.mem_cons, List.not_mem_nil, or_false] at hk
  rcases hk with rfl | rfl
  ·exact hb
  ·exact hc
 ·obtain ⟨k, hk2⟩ := List.getElem?_of_mem hq
  rw [List.getElem?_set] at hk2
  split at hk2
  ·split at hk2
   ·injection hk2 with hk2; subst hk2; exact ⟨h2, hc⟩
   ·cases hk2
  ·rename_i hkj
   rw [List.getElem?_set] at hk2
   split at hk2
   ·split at hk2
    ·injection hk2 with hk2; subst hk2; exact ⟨h1, hb⟩
    ·cases hk2
   ·rename_i hki
    have hq' : L[k]? = some (q.1, q.2) := hk2
    have n1 : q.1 ≠ b := h.ne hq' e (Ne.symm hki)
    have n2 : q.1 ≠ c := h.ne hq' f (Ne.symm hkj)
    exact ⟨(hk.block _ (h.lt hq') (by simp [n1, n2])).trans (h.get hq'), h.own hq'⟩
theorem MO {A : Option Addr} {cs : List Value} (hk : Keep G w w') (hA : ∀ b off s, A = some ⟨b, off, s⟩ → b ∉ G) (hr : Row w A cs) : Row w' A cs := fun i v hi => by
 obtain ⟨b, off, e, hc⟩ := hr i v hi
 refine ⟨b, off, e, ?_⟩
 have hlt := cell_lt hc
 have := hk.block b hlt (hA b off _ e)
 exact (World.cell?_of_block (w := w) (a := ⟨b, off + i, none⟩) this).trans hc
theorem Mm.row (h : Mm G w0 w L) {A : Option Addr} {cs : List Value} (hr : Row w0 A cs) (hA : ∀ b off s, A = some ⟨b, off, s⟩ → b ∉ G := by intro _ _ _ _; simp) : Row w A cs := MO h.1 hA hr
/-- a told block reads as a row -/
theorem Mm.rowAt (h : Mm G w0 w L) {i b : Nat} {cs : Array Value} {t : TypeId} {f : Nat × Nat} (e : L[i]? = some (b, .cells cs t f)) : Row w (some ⟨b, 0, none⟩) cs.toList :=
 Row.of_cells fun j hj => by
  rw [cell_of_row w b (0 + j) cs t f (h.get e), Nat.zero_add]
  have : j < cs.size := by simpa using hj
  simp [this]
end

section
variable {P : Program} {G : List Nat} {w0 w : World} {L : List (Nat × Obj)} {ops : Array Oper} {rest : List Oper} {o : Oper} {a : Act} {Q : Exit → Act → World → Prop}

def Gt (P : Program) (ty : TypeId) : Bool := match P.underlying ty with
 | some (.struct _) | some (.array _ _) | none => false
 | _ => true
theorem DZ {w : World} {ty : TypeId} {p : Addr} {v : Value} (hf : Gt P ty = true) (hc : w.cell? p = some v) : (loadVar ty p).run P w = .ok v w := by
 unfold Gt at hf
 cases hu : P.underlying ty with
 | none => rw [hu] at hf; cases hf
 | some d =>
  rw [hu] at hf
  have hagg : (isAgg ty).run P w = .ok false w := by
   unfold isAgg
   rw [Sem.run_bind, run_underlying hu w]
   cases d <;> simp_all
  simp [loadVar, Sem.run_bind, hagg, run_load, hc]

/-- a value is stored into a told block -/
theorem KW (h : Mm G w0 w L) (hgd : o.guard = none) (ty : TypeId) (x y : Operand) (ho : o.op = .store ty x y) (b off : Nat) (hx : a.eval x = .pointer (some ⟨b, off, none⟩)) (v : Value) (hy : a.eval y = v)
  (i : Nat) (old : Array Value) (t : TypeId) (e : L[i]? = some (b, .cells old t (0, 0))) (new : Array Value) (hn : new.toList = old.toList.take off ++ v.cells.toList ++ old.toList.drop (off + v.cells.size))
  (hi : (P.info? ty).map (·.size) = some v.cells.size) (hold : (off + v.cells.size).ble old.size = true) (h1 : v.cells.toList.all (·.oneCell') = true)
  (hK : ∀ w', Mm G w0 w' (L.set i (b, .cells new t (0, 0))) → wpList P ops Q rest (a.put o.dst undef) w') : wpList P ops Q (o :: rest) a w := by
 refine wpList_plain hgd fun K hK' => ?_
 replace hold := Nat.le_of_ble_eq_true hold
 have := run_storeCells_at P b off t v.cells.toList 0 old w (h.get e) (by simp; omega) (fun u hu => List.all_eq_true.1 h1 u hu)
 rw [Nat.add_zero, Array.length_toList, ← hn, Array.toArray_toList] at this
 have hst : (storeVar ty ⟨b, off, none⟩ v).run P w = .ok () (w.setRow b new) := by
  cases hq : P.info? ty with
  | none => simp [hq] at hi
  | some j =>
   have hs : v.cells.size = j.size := by simp [hq] at hi; omega
   simp [storeVar, sizeOf, typeInfo, hq, hs, this]
 unfold Oper.wp execOp
 simp only [ho, hx, hy, Instr.storeAt, Instr.sureAddr, Sem.run_bind, Sem.run_pure, Result.andThen_ok, hst]
 exact hK' _ _ (hK _ (h.set e new))
end
end Go.Proofs.YtdgehpocmfjbiaaDoor
namespace Go.Proofs.YtdgehpocmfjbiaaDoor
open Go Go.RowKit

abbrev Slots := List (Nat × Value)
def lk : Slots → Nat → Option Value
 | [], _ => none
 | (i, v) :: r, t => bif Nat.beq i t then some v else lk r t
def delS (d : Nat) : Slots → Slots
 | [] => []
 | (i, v) :: r => bif Nat.beq i d then delS d r else (i, v) :: delS d r
def qC (S : Slots) (dst : Option Nat) (v : Value) : Slots := match dst with
 | none => S
 | some d => (d, v) :: delS d S
def ev (S : Slots) : Operand → Option Value
 | .tmp t => lk S t
 | .const v => some v
 | .global g => some (.pointer (some ⟨g, 0, none⟩))
 | .func f => some (.func (.func f) #[] #[])
def rho (S : Slots) (x : Operand) : Value := (ev S x).getD undef
/-- what is known of the slots -/
def Fr (N : Nat) (a : Act) (S : Slots) : Prop := a.defers = [] ∧ a.tmps.size = N ∧ ∀ p ∈ S, a.tmps[p.1]? = some p.2

theorem L8 : ∀ {S : Slots} {t : Nat} {v : Value}, lk S t = some v → (t, v) ∈ S
 | (i, u) :: r, t, v, h => by
  unfold lk at h
  cases hb : Nat.beq i t with
  | true =>
   rw [hb] at h
   obtain rfl := Nat.eq_of_beq_eq_true hb
   injection h with h
   subst h
   exact List.mem_cons_self
  | false => rw [hb] at h; exact List.mem_cons_of_mem _ (L8 h)
theorem DK {d : Nat} : ∀ {S : Slots} {p : Nat × Value}, p ∈ delS d S → p ∈ S ∧ p.1 ≠ d
 | (i, v) :: r, p, h => by
  unfold delS at h
  cases hb : Nat.beq i d with
  | true => rw [hb] at h; have := DK h; exact ⟨List.mem_cons_of_mem _ this.1, this.2⟩
  | false =>
   rw [hb] at h
   rcases List.mem_cons.1 h with rfl | h
   ·exact ⟨List.mem_cons_self, fun e => by simp only at e; rw [e, Nat.beq_refl] at hb; cases hb⟩
   ·have := DK h; exact ⟨List.mem_cons_of_mem _ this.1, this.2⟩
section
variable {N : Nat} {a : Act} {S : Slots}
theorem Fr.lk (h : Fr N a S) {t : Nat} {v : Value} (e : lk S t = some v) : a.tmps[t]? = some v := h.2.2 _ (L8 e)
theorem Fr.getD (h : Fr N a S) {t : Nat} {v : Value} (e : Go.Proofs.YtdgehpocmfjbiaaDoor.lk S t = some v) : a.tmps.getD t undef = v := by
 have := h.lk e
 simp [Array.getD_eq_getD_getElem?, this]
theorem Fr.ev (h : Fr N a S) {x : Operand} {v : Value} (e : ev S x = some v) : a.eval x = v := by
 cases x with
 | tmp t => exact h.getD e
 | const u => injection e
 | global g => injection e
 | func f => injection e
theorem Fr.rho (h : Fr N a S) {x : Operand} (e : (Go.Proofs.YtdgehpocmfjbiaaDoor.ev S x).isSome = true) : a.eval x = Go.Proofs.YtdgehpocmfjbiaaDoor.rho S x := by
 obtain ⟨v, hv⟩ := Option.isSome_iff_exists.1 e
 rw [h.ev hv, Go.Proofs.YtdgehpocmfjbiaaDoor.rho, hv]
 rfl
theorem Fr.put (h : Fr N a S) (dst : Option Nat) (v : Value) (hd : ∀ d, dst = some d → d < N) : Fr N (a.put dst v) (qC S dst v) := by
 cases dst with
 | none => exact h
 | some d =>
  refine ⟨h.1, by simp [Act.put, h.2.1], fun p hp => ?_⟩
  have hs : d < a.tmps.size := by rw [h.2.1]; exact hd d rfl
  rcases List.mem_cons.1 hp with rfl | hp
  ·simp [Act.put, hs]
  ·have := DK hp
   simp only [Act.put, Array.getElem?_setIfInBounds, if_neg (Ne.symm this.2)]
   exact h.2.2 p this.1
theorem Fr.sub (h : Fr N a S) (S' : Slots) (e : (S'.map fun p => Go.Proofs.YtdgehpocmfjbiaaDoor.lk S p.1) = S'.map fun p => some p.2) : Fr N a S' :=
 ⟨h.1, h.2.1, fun p hp => by
  have := (List.map_inj_left.1 e) p hp
  exact h.lk this⟩
end

structure E_ (α : Type) where
 val : α
 heap : List (Nat × Obj)
 cnt : Nat
 eqs : List (Nat × Nat)
 dirty : Bool
def zx : List Nat → Nat × List Nat
 | [] => (0, [])
 | [k] => (k, [k])
 | k :: r => (k, r)
/-- the place, in the list, of told block number k (the oldest has number 0) -/
def plc (L : List (Nat × Obj)) (k : Nat) : Nat := L.length - 1 - k

def oP (P : Program) (z : Nat) {α : Type} : Sem α → List Nat → List (Nat × Obj) → Nat → List (Nat × Nat) → Bool → Option (E_ α)
 | .pure x, _, L, n, e, d => some ⟨x, L, n, e, d⟩
 | .program k, iq, L, n, e, d => oP P z (k P) iq L n e d
 | .mark _ k, iq, L, n, e, d => oP P z k iq L n e d
 | .load _ p k, iq, L, n, e, d =>
  match p.spot, L[plc L (zx iq).1]? with
  | none, some (b', .cells cs _ _) => match cs[p.off]? with
   | some v => oP P z (k v) (zx iq).2 L n ((p.block, b') :: e) d
   | none => none
  | _, _ => none
 | .store _ p v k, iq, L, n, e, d =>
  match p.spot, L[plc L (zx iq).1]? with
  | none, some (b', .cells cs t (0, 0)) =>
   bif v.oneCell' && Nat.blt p.off cs.size then oP P z k (zx iq).2 (L.set (plc L (zx iq).1) (b', .cells (cs.setIfInBounds p.off v) t (0, 0))) n ((p.block, b') :: e) true else none
  | _, _ => none
 | .new o k, iq, L, n, e, d => oP P z (k (z + n)) iq ((z + n, o) :: L) (n + 1) e true
 | .frozen p k, iq, L, n, e, d =>
  match p.spot, L[plc L (zx iq).1]? with
  | none, some (b', .cells cs t (0, 0)) => oP P z (k false) iq L n ((p.block, b') :: e) d
  | _, _ => none
 | _, _, _, _, _, _ => none

section
variable {P : Program} {z : Nat} {α : Type} {G : List Nat} {w0 : World}
theorem EK {w : World} {m : Mode} {p : Addr} {v u : Value} {k : Sem α} (h1 : v.oneCell' = true) (hc : w.cell? p = some u) (hf : w.frozen? p = false) : (Sem.store m p v k).run P w = k.run P (w.setCell p v) := by
 cases v <;> first | (cases h1; done) | simp [Sem.run, hc, hf]

theorem nR : ∀ (s : Sem α) (iq : List Nat) (L : List (Nat × Obj)) (n : Nat) (e : List (Nat × Nat)) (d : Bool) (r : E_ α), oP P z s iq L n e d = some r →
  (∀ p ∈ e, p ∈ r.eqs) ∧ (r.dirty = false → d = false) := by
 intro s
 induction s with
 | pure x =>
  intro iq L n e d r h
  injection h with h; subst h
  exact ⟨fun p hp => hp, fun h => h⟩
 | program k ih => intro iq L n e d r h; exact ih P iq L n e d r h
 | mark m k ih => intro iq L n e d r h; exact ih iq L n e d r h
 | load m p k ih =>
  intro iq L n e d r h
  simp only [oP] at h
  split at h
  ·split at h
   ·have := ih _ _ L n _ d r h
    exact ⟨fun p hp => this.1 p (List.mem_cons_of_mem _ hp), this.2⟩
   ·cases h
  ·cases h
 | store m p v k ih =>
  intro iq L n e d r h
  simp only [oP] at h
  split at h
  ·rename_i b' cs t hs hL
   cases hb1 : (v.oneCell' && Nat.blt p.off cs.size) with
   | false => rw [hb1] at h; cases h
   | true =>
    rw [hb1] at h
    have := ih _ _ n _ true r h
    exact ⟨fun p hp => this.1 p (List.mem_cons_of_mem _ hp), fun hd => absurd (this.2 hd) (by simp)⟩
  ·cases h
 | new o k ih =>
  intro iq L n e d r h
  have := ih (z + n) _ _ (n + 1) _ true r h
  exact ⟨this.1, fun hd => absurd (this.2 hd) (by simp)⟩
 | frozen p k ih =>
  intro iq L n e d r h
  simp only [oP] at h
  split at h
  ·have := ih false _ L n _ d r h
   exact ⟨fun p hp => this.1 p (List.mem_cons_of_mem _ hp), this.2⟩
  ·cases h
 | shape r k ih => intro iq L n e d r h; cases h
 | freeze a n k ih => intro iq L n e d r h; cases h
 | getObj r k ih => intro iq L n e d r h; cases h
 | setObj r o k ih => intro iq L n e d r h; cases h
 | choose q k ih => intro iq L n e d r h; cases h
 | sys c k ih => intro iq L n e d r h; cases h
 | halt h => intro iq L n e d r h; cases h

theorem DT : ∀ (s : Sem α) (iq : List Nat) (L : List (Nat × Obj)) (n : Nat) (e : List (Nat × Nat)) (d : Bool) (r : E_ α) (w : World), oP P z s iq L n e d = some r →
  Mm G w0 w L → w.heap.size = z + n → (∀ p ∈ r.eqs, p.1 = p.2) →
  ∃ w', s.run P w = .ok r.val w' ∧ Mm G w0 w' r.heap ∧ w'.heap.size = z + r.cnt ∧ (r.dirty = false → w' = w) := by
 intro s
 induction s with
 | pure x =>
  intro iq L n e d r w h hM hz _
  injection h with h; subst h
  exact ⟨w, rfl, hM, hz, fun _ => rfl⟩
 | program k ih => intro iq L n e d r w h hM hz hq; exact ih P iq L n e d r w h hM hz hq
 | mark m k ih => intro iq L n e d r w h hM hz hq; exact ih iq L n e d r w h hM hz hq
 | load m p k ih =>
  intro iq L n e d r w h hM hz hq
  obtain ⟨b, off, spot⟩ := p
  simp only [oP] at h
  split at h
  ·rename_i b' cs t f hL
   split at h
   ·rename_i v hv
    have hb : b = b' := hq _ ((nR _ _ _ _ _ _ _ h).1 _ List.mem_cons_self)
    subst hb
    have hc : w.cell? ⟨b, off, none⟩ = some v := by rw [cell_of_row w b off cs t f (hM.get hL)]; exact hv
    obtain ⟨w', hr, h2⟩ := ih v _ L n _ d r w h hM hz hq
    exact ⟨w', by simp only [Sem.run, hc]; exact hr, h2⟩
   ·cases h
  ·cases h
 | store m p v k ih =>
  intro iq L n e d r w h hM hz hq
  obtain ⟨b, off, spot⟩ := p
  simp only [oP] at h
  split at h
  ·rename_i b' cs t hL
   cases hb1 : (v.oneCell' && Nat.blt off cs.size) with
   | false => rw [hb1] at h; cases h
   | true =>
    rw [hb1] at h
    obtain ⟨h1, h2⟩ := Bool.and_eq_true_iff.1 hb1
    have hlt : off < cs.size := Nat.le_of_ble_eq_true h2
    have hg := hM.get hL
    have hset : Mm G w0 (w.setCell ⟨b', off, none⟩ v) (L.set (plc L (zx iq).1) (b', .cells (cs.setIfInBounds off v) t (0, 0))) :=
     hM.put hL (heap_setCell_same w b' off cs t v hg) (Keep.setCell w ⟨b', off, none⟩ v)
    have hsz : (w.setCell ⟨b', off, none⟩ v).heap.size = z + n := by simpa [World.setCell] using hz
    have hgr := nR _ _ _ _ _ _ _ h
    have hb : b = b' := hq _ (hgr.1 _ List.mem_cons_self)
    subst hb
    have hc : w.cell? ⟨b, off, none⟩ = some cs[off] := by rw [cell_of_row w b off cs t (0, 0) hg]; simp [hlt]
    have hf : w.frozen? ⟨b, off, none⟩ = false := frozen_of_row w b off cs t hg
    obtain ⟨w', hr, h3, h4, h5⟩ := ih _ _ n _ true r (w.setCell ⟨b, off, none⟩ v) h hset hsz hq
    exact ⟨w', by rw [EK h1 hc hf]; exact hr, h3, h4, fun hd => absurd (hgr.2 hd) (by simp)⟩
  ·cases h
 | new o k ih =>
  intro iq L n e d r w h hM hz hq
  have h' : oP P z (k (z + n)) iq ((z + n, o) :: L) (n + 1) e true = some r := h
  have hM2 := hM.alloc o
  rw [hz] at hM2
  obtain ⟨w', hr, h3, h4, h5⟩ := ih (z + n) _ _ (n + 1) _ true r (w.alloc o) h' hM2 (by simp [hz]; omega) hq
  refine ⟨w', ?_, h3, h4, fun hd => absurd ((nR _ _ _ _ _ _ _ h').2 hd) (by simp)⟩
  simp only [Sem.run, hz]
  exact hr
 | frozen p k ih =>
  intro iq L n e d r w h hM hz hq
  obtain ⟨b, off, spot⟩ := p
  simp only [oP] at h
  split at h
  ·rename_i b' cs t hL
   have hb : b = b' := hq _ ((nR _ _ _ _ _ _ _ h).1 _ List.mem_cons_self)
   subst hb
   have hf : w.frozen? ⟨b, off, none⟩ = false := frozen_of_row w b off cs t (hM.get hL)
   obtain ⟨w', hr, h2⟩ := ih false _ L n _ d r w h hM hz hq
   exact ⟨w', by simp only [Sem.run, hf]; exact hr, h2⟩
  ·cases h
 | shape r k ih => intro iq L n e d r w h; cases h
 | freeze a n k ih => intro iq L n e d r w h; cases h
 | getObj r k ih => intro iq L n e d r w h; cases h
 | setObj r o k ih => intro iq L n e d r w h; cases h
 | choose q k ih => intro iq L n e d r w h; cases h
 | sys c k ih => intro iq L n e d r w h; cases h
 | halt h => intro iq L n e d r w h; cases h
end

structure xA where
 slots : Slots
 heap : List (Nat × Obj)
 cnt : Nat
 eqs : List (Nat × Nat)
 dirty : Bool
def CG (ops : Array Oper) (S : Slots) (o : Oper) : Option Bool := match o.guard with
 | none => some true
 | some (j, want) => match (ops[j]?).bind (·.dst) with
  | none => some false
  | some d => match lk S d with
   | some (.bool b) => some (b == want)
   | some _ => some false
   | none => none
def okD (N : Nat) : Option Nat → Bool
 | none => true
 | some d => Nat.blt d N
def qo : Op → Bool
 | .select _ _ => false
 | _ => true
def ND : Op → Bool
 | .load _ _ | .store _ _ _ | .call _ => true
 | _ => false
def EM (r : xA) (o : Oper) (v : Value) (L : List (Nat × Obj)) (n : Nat) (e : List (Nat × Nat)) (d : Bool) : xA := ⟨qC r.slots o.dst v, L, n, e, d⟩
def DU (P : Program) (N z : Nat) (iq : List Nat) (r : xA) (o : Oper) : Option xA :=
 bif okD N o.dst && qo o.op && o.op.operands.toList.all (fun x => (ev r.slots x).isSome) then
  match oP P z (execOp (rho r.slots) o) iq r.heap r.cnt r.eqs r.dirty with
  | some ⟨.value v, L, n, e, d⟩ => some (EM r o v L n e d)
  | some ⟨.skip, L, n, e, d⟩ => some (EM r o undef L n e d)
  | _ => none
 else none
def mJ (P : Program) (ops : Array Oper) (N z : Nat) : List Oper → List (List Nat) → xA → Option xA
 | [], _, r => some r
 | o :: l, eP, r => match CG ops r.slots o with
  | none => none
  | some false => bif okD N o.dst then mJ P ops N z l eP (EM r o undef r.heap r.cnt r.eqs r.dirty) else none
  | some true => match DU P N z (eP.headD []) r o with
   | none => none
   | some r' => mJ P ops N z l (bif ND o.op then eP.tail else eP) r'

section
variable {P : Program} {ops : Array Oper} {N z : Nat} {G : List Nat} {w0 w : World} {a : Act}
theorem jv {dst : Option Nat} (h : okD N dst = true) : ∀ d, dst = some d → d < N := by
 intro d hd; subst hd; exact Nat.le_of_ble_eq_true h
theorem nP {S : Slots} {o : Oper} {b : Bool} (h : CG ops S o = some b) (HF : Fr N a S) : Region.wanted o (yielded ops a.tmps) = b := by
 unfold CG at h
 unfold Region.wanted
 split at h
 ·rename_i hg; rw [hg]; injection h
 ·rename_i j want hg
  rw [hg]
  simp only [yielded]
  split at h
  ·rename_i hd; rw [hd]; injection h
  ·rename_i d hd
   rw [hd]
   split at h
   ·rename_i b2 hl
    have := HF.lk hl
    simp only [Option.bind_some, this]
    injection h
   ·rename_i u hne hl
    have := HF.lk hl
    simp only [Option.bind_some, this]
    have hb0 : b = false := (Option.some.inj h).symm
    subst hb0
    cases u <;> first | exact (hne _ rfl).elim | rfl
   ·cases h
theorem oQ {op : Op} (h : qo op = true) : ∀ cs b, op ≠ .select cs b := by
 intro cs b e; subst e; cases h
theorem JR {iq : List Nat} {r r' : xA} {o : Oper} (h : DU P N z iq r o = some r') : (∀ p ∈ r.eqs, p ∈ r'.eqs) ∧ (r'.dirty = false → r.dirty = false) := by
 unfold DU at h
 cases hc : (okD N o.dst && qo o.op && o.op.operands.toList.all (fun x => (ev r.slots x).isSome)) with
 | false => rw [hc] at h; cases h
 | true =>
  rw [hc] at h
  simp only [cond_true] at h
  split at h
  ·rename_i v L n e d hs
   injection h with h; subst h
   exact nR _ _ _ _ _ _ _ hs
  ·rename_i L n e d hs
   injection h with h; subst h
   exact nR _ _ _ _ _ _ _ hs
  ·cases h
theorem yx : ∀ (l : List Oper) (eP : List (List Nat)) (r r' : xA), mJ P ops N z l eP r = some r' → (∀ p ∈ r.eqs, p ∈ r'.eqs) ∧ (r'.dirty = false → r.dirty = false) := by
 intro l
 induction l with
 | nil => intro eP r r' h; injection h with h; subst h; exact ⟨fun p hp => hp, fun h => h⟩
 | cons o l ih =>
  intro eP r r' h
  unfold mJ at h
  split at h
  ·cases h
  ·cases hd : okD N o.dst with
   | false => rw [hd] at h; cases h
   | true => rw [hd] at h; exact ih _ (EM r o undef r.heap r.cnt r.eqs r.dirty) _ h
  ·split at h
   ·cases h
   ·rename_i r1 h1
    have q1 := JR h1
    have q2 := ih _ _ _ h
    exact ⟨fun p hp => q2.1 p (q1.1 p hp), fun hd => q1.2 (q2.2 hd)⟩
theorem Dh {iq : List Nat} {r r' : xA} {o : Oper} (h : DU P N z iq r o = some r') (HF : Fr N a r.slots) (hq : ∀ p ∈ r'.eqs, p.1 = p.2) :
  ∃ v, Fr N (a.put o.dst v) r'.slots ∧ ∀ w, Mm G w0 w r.heap → w.heap.size = z + r.cnt → ∃ w', ((execOp a.eval o).run P w = .ok (.value v) w' ∨ ((execOp a.eval o).run P w = .ok .skip w' ∧ v = undef)) ∧ Mm G w0 w' r'.heap ∧ w'.heap.size = z + r'.cnt ∧ (r'.dirty = false → w' = w) := by
 unfold DU at h
 cases hc : (okD N o.dst && qo o.op && o.op.operands.toList.all (fun x => (ev r.slots x).isSome)) with
 | false => rw [hc] at h; cases h
 | true =>
  rw [hc] at h
  obtain ⟨h1, h3⟩ := Bool.and_eq_true_iff.1 hc
  obtain ⟨h1, h2⟩ := Bool.and_eq_true_iff.1 h1
  have he : execOp a.eval o = execOp (rho r.slots) o := execOp_congr o (oQ h2) fun x hx => HF.rho (List.all_eq_true.1 h3 x (by simpa using hx))
  simp only [cond_true] at h
  split at h
  ·rename_i v L n e d hs
   injection h with h; subst h
   refine ⟨v, HF.put _ _ (jv h1), fun w HM hz => ?_⟩
   obtain ⟨w', hr, q3, q4, q5⟩ := DT _ _ _ _ _ _ _ w hs HM hz hq
   exact ⟨w', .inl (by rw [he]; exact hr), q3, q4, q5⟩
  ·rename_i L n e d hs
   injection h with h; subst h
   refine ⟨undef, HF.put _ _ (jv h1), fun w HM hz => ?_⟩
   obtain ⟨w', hr, q3, q4, q5⟩ := DT _ _ _ _ _ _ _ w hs HM hz hq
   exact ⟨w', .inr ⟨by rw [he]; exact hr, rfl⟩, q3, q4, q5⟩
  ·cases h

theorem qH {Q : Exit → Act → World → Prop} {rest : List Oper} : ∀ (l : List Oper) (eP : List (List Nat)) (r r' : xA) (a : Act) (w : World), mJ P ops N z l eP r = some r' → Fr N a r.slots → Mm G w0 w r.heap → w.heap.size = z + r.cnt → (∀ p ∈ r'.eqs, p.1 = p.2) →
  (∀ a' w', Fr N a' r'.slots → Mm G w0 w' r'.heap → w'.heap.size = z + r'.cnt → (r'.dirty = false → w' = w) → wpList P ops Q rest a' w') → wpList P ops Q (l ++ rest) a w := by
 intro l
 induction l with
 | nil => intro eP r r' a w h HF HM hz hq hK; injection h with h; subst h; exact hK a w HF HM hz (fun _ => rfl)
 | cons o l ih =>
  intro eP r r' a w h HF HM hz hq hK
  unfold mJ at h
  rw [List.cons_append]
  split at h
  ·cases h
  ·rename_i hw
   cases hd : okD N o.dst with
   | false => rw [hd] at h; cases h
   | true =>
    rw [hd] at h
    exact wpList_skip (nP hw HF) (ih _ (EM r o undef r.heap r.cnt r.eqs r.dirty) _ (a.put o.dst undef) w h (HF.put _ _ (jv hd)) HM hz hq hK)
  ·rename_i hw
   split at h
   ·cases h
   ·rename_i r1 h1
    have hq1 : ∀ p ∈ r1.eqs, p.1 = p.2 := fun p hp => hq p ((yx l _ _ _ h).1 p hp)
    obtain ⟨v, q3, hv0⟩ := Dh (G := G) (w0 := w0) h1 HF hq1
    obtain ⟨w', hr, q4, q5, q6⟩ := hv0 w HM hz
    refine wpList_step fun K hK' => ?_
    rw [nP hw HF, if_pos rfl]
    have := hK' _ _ (ih _ _ _ (a.put o.dst v) w' h q3 q4 q5 hq fun a2 w2 f1 f2 f3 f4 => hK a2 w2 f1 f2 f3 fun hd => (f4 hd).trans (q6 ((yx l _ _ _ h).2 hd)))
    unfold Oper.wp
    rcases hr with hr | ⟨hr, hv⟩
    ·rw [hr]; exact this
    ·rw [hr]; subst hv; exact this

/-- the answer of a reckoning, as the kernel is asked for it -/
def GL (P : Program) (ops : Array Oper) (N z : Nat) (l : List Oper) (eP : List (List Nat)) (S : Slots) (L : List (Nat × Obj)) (S' : Slots) (L' : List (Nat × Obj)) : Option (List (Option Value) × List (Nat × Obj) × List Nat) :=
 (mJ P ops N z l eP ⟨S, L, 0, [], false⟩).map fun r => (S'.map fun p => lk r.slots p.1, r.heap, r.eqs.map (·.1))
def GR (P : Program) (ops : Array Oper) (N z : Nat) (l : List Oper) (eP : List (List Nat)) (S : Slots) (L : List (Nat × Obj)) (S' : Slots) (L' : List (Nat × Obj)) : Option (List (Option Value) × List (Nat × Obj) × List Nat) :=
 some (S'.map fun p => some p.2, L', ((mJ P ops N z l eP ⟨S, L, 0, [], false⟩).map fun r => r.eqs.map (·.2)).getD [])

theorem AU {l : List Oper} {eP : List (List Nat)} {S : Slots} {L : List (Nat × Obj)} {S' : Slots} {L' : List (Nat × Obj)} (h : GL P ops N z l eP S L S' L' = GR P ops N z l eP S L S' L') :
  ∃ r', mJ P ops N z l eP ⟨S, L, 0, [], false⟩ = some r' ∧ (S'.map fun p => lk r'.slots p.1) = (S'.map fun p => some p.2) ∧ r'.heap = L' ∧ ∀ p ∈ r'.eqs, p.1 = p.2 := by
 unfold GL GR at h
 cases hr : mJ P ops N z l eP ⟨S, L, 0, [], false⟩ with
 | none => rw [hr] at h; cases h
 | some r' =>
  rw [hr] at h
  simp only [Option.map_some, Option.getD_some, Option.some.injEq, Prod.mk.injEq] at h
  exact ⟨r', rfl, h.1, h.2.1, fun p hp => (List.map_inj_left.1 h.2.2) p hp⟩

/-- k operations, reckoned -/
theorem aO {Q : Exit → Act → World → Prop} {l : List Oper} {S : Slots} {L : List (Nat × Obj)} (HF : Fr N a S) (HM : Mm G w0 w L) (hz : w.heap.size = z) (k : Nat) (eP : List (List Nat)) (S' : Slots) (L' : List (Nat × Obj))
  (h : GL P ops N z (l.take k) eP S L S' L' = GR P ops N z (l.take k) eP S L S' L')
  (hK : ∀ a' w', Fr N a' S' → Mm G w0 w' L' → wpList P ops Q (l.drop k) a' w') : wpList P ops Q l a w := by
 obtain ⟨r', hr, h1, h2, h3⟩ := AU h
 have := qH (Q := Q) (rest := l.drop k) (l.take k) eP ⟨S, L, 0, [], false⟩ r' a w hr HF HM (by simpa using hz) h3 fun a' w' hF hM _ _ => hK a' w' (hF.sub S' h1) (h2 ▸ hM)
 rwa [List.take_append_drop] at this
/-- a whole region of one order, reckoned -/
theorem bC {id : Nat} {y : Code} {Q : Exit → Act → World → Prop} {l : List Oper} {S : Slots} {L : List (Nat × Obj)} (HF : Fr N a S) (HM : Mm G w0 w L) (hz : w.heap.size = z) (eP : List (List Nat)) (S' : Slots) (L' : List (Nat × Obj))
  (h : GL P l.toArray N z l eP S L S' L' = GR P l.toArray N z l eP S L S' L')
  (hK : ∀ a' w', Fr N a' S' → Mm G w0 w' L' → y.wp P Q a' w') : (Code.seq (.region id l.toArray false) y).wp P Q a w := by
 refine aW ?_
 obtain ⟨r', hr, h1, h2, h3⟩ := AU h
 have := qH (Q := Exit.then (y.wp P Q) Q) (rest := []) l eP ⟨S, L, 0, [], false⟩ r' a w hr HF HM (by simpa using hz) h3 fun a' w' hF hM _ _ => wpList_nil (hK a' w' (hF.sub S' h1) (h2 ▸ hM))
 rwa [List.append_nil] at this
/-- likewise, where it is the last piece of code -/
theorem nC {id : Nat} {Q : Exit → Act → World → Prop} {l : List Oper} {S : Slots} {L : List (Nat × Obj)} (HF : Fr N a S) (HM : Mm G w0 w L) (hz : w.heap.size = z) (eP : List (List Nat)) (S' : Slots) (L' : List (Nat × Obj))
  (h : GL P l.toArray N z l eP S L S' L' = GR P l.toArray N z l eP S L S' L')
  (hK : ∀ a' w', Fr N a' S' → Mm G w0 w' L' → Q .normal a' w') : (Code.region id l.toArray false).wp P Q a w := by
 refine wp_region_lit ?_
 obtain ⟨r', hr, h1, h2, h3⟩ := AU h
 have := qH (Q := Q) (rest := []) l eP ⟨S, L, 0, [], false⟩ r' a w hr HF HM (by simpa using hz) h3 fun a' w' hF hM _ _ => wpList_nil (hK a' w' (hF.sub S' h1) (h2 ▸ hM))
 rwa [List.append_nil] at this

/-- a call of a Go function -/
theorem bn {Q : Exit → Act → World → Prop} {rest : List Oper} {o : Oper} {S : Slots} (HF : Fr N a S) (hgd : CG ops S o = some true) (f : FuncId) (vals : Array Value)
  (hx : (okD N o.dst && qo o.op && o.op.operands.toList.all (fun x => (ev S x).isSome)) = true) (hrun : ∀ w : World, (execOp (rho S) o).run P w = .ok (.enter f vals) w)
  (h : Calls P f vals w fun e w' => ∃ v, e = .returned v ∧ ∀ a', Fr N a' (qC S o.dst v) → wpList P ops Q rest a' w') : wpList P ops Q (o :: rest) a w := by
 obtain ⟨h1, h3⟩ := Bool.and_eq_true_iff.1 hx
 obtain ⟨h1, h2⟩ := Bool.and_eq_true_iff.1 h1
 have he : execOp a.eval o = execOp (rho S) o := execOp_congr o (oQ h2) fun x hx => HF.rho (List.all_eq_true.1 h3 x (by simpa using hx))
 refine wpList_step fun K hK => ?_
 rw [nP hgd HF, if_pos rfl]
 unfold Oper.wp
 rw [he, hrun]
 exact h.mono fun e w' ⟨v, hv, hk⟩ => by subst hv; exact hK _ _ (hk _ (HF.put _ _ (jv h1)))

theorem bf {c : Operand} {x y : Code} {Q : Exit → Act → World → Prop} {S : Slots} (HF : Fr N a S) (hc : ev S c = some (.bool false)) (h : y.wp P Q a w) : (Code.cond c x y).wp P Q a w := wp_cond_false (HF.ev hc) h
theorem bF {c : Operand} {x y : Code} {Q : Exit → Act → World → Prop} {S : Slots} (HF : Fr N a S) (hc : ev S c = some (.bool true)) (h : x.wp P Q a w) : (Code.cond c x y).wp P Q a w := wp_cond_true (HF.ev hc) h
theorem bV {f : FuncId} {fn : Func} {c : Code} {args : Array Value} {R : Ending → World → Prop} (hf : P.funcs[f]? = some fn) (hb : fn.body = some c) (hN : fn.ntmps = N) (S : Slots) (hS : (S.map fun p => args[p.1]?) = S.map fun p => some p.2) (hsz : args.size ≤ N)
  (h : ∀ a, Fr N a S → c.wp P (bodyPost P fn R) a w) : Calls P f args w R := by
 refine calls_of_wp hf hb (h _ ⟨rfl, by simp [hN]; omega, fun p hp => ?_⟩)
 have := (List.map_inj_left.1 hS) p hp
 have hlt := (Array.getElem?_eq_some_iff.1 this).1
 rw [Array.getElem?_append_left hlt]
 exact this

-- quiet
theorem GN {Qf : Act → Prop} {rest : List Oper} : ∀ (l : List Oper) (eP : List (List Nat)) (r r' : xA) (a : Act), mJ P ops N z l eP r = some r' → r'.dirty = false → Fr N a r.slots → Mm G w0 w r.heap → w.heap.size = z + r.cnt → (∀ p ∈ r'.eqs, p.1 = p.2) →
  (∀ a', Fr N a' r'.slots → wpQuiet P ops (fun w' => ∃ n, w' = w.drewN n) Qf rest a') → wpQuiet P ops (fun w' => ∃ n, w' = w.drewN n) Qf (l ++ rest) a := by
 intro l
 induction l with
 | nil => intro eP r r' a h _ HF _ _ _ hK; injection h with h; subst h; exact hK a HF
 | cons o l ih =>
  intro eP r r' a h hdt HF HM hz hq hK
  unfold mJ at h
  rw [List.cons_append]
  split at h
  ·cases h
  ·rename_i hw
   cases hd : okD N o.dst with
   | false => rw [hd] at h; cases h
   | true =>
    rw [hd] at h
    have := ih _ (EM r o undef r.heap r.cnt r.eqs r.dirty) _ (a.put o.dst undef) h hdt (HF.put _ _ (jv hd)) HM hz hq hK
    refine wpQuiet_step fun K hK' => ?_
    rw [nP hw HF, if_neg Bool.false_ne_true]
    exact hK' _ this
  ·rename_i hw
   split at h
   ·cases h
   ·rename_i r1 h1
    have hgr := yx l _ _ _ h
    have hq1 : ∀ p ∈ r1.eqs, p.1 = p.2 := fun p hp => hq p (hgr.1 p hp)
    have hd1 := hgr.2 hdt
    obtain ⟨v, q3, hv0⟩ := Dh (G := G) (w0 := w0) h1 HF hq1
    obtain ⟨w', hr, q4, q5, q6⟩ := hv0 w HM hz
    obtain rfl := q6 hd1
    have hnext := ih _ r1 _ (a.put o.dst v) h hdt q3 q4 q5 hq hK
    refine wpQuiet_step fun K hK' => ?_
    rw [nP hw HF, if_pos rfl]
    refine ⟨v, ?_, hK' _ hnext⟩
    rintro _ ⟨j, rfl⟩
    obtain ⟨w2, hr, q4, q5, q6⟩ := hv0 (w'.drewN j) (HM.drewN j) hz
    obtain rfl := q6 hd1
    unfold Oper.quietAt
    rcases hr with hr | ⟨hr, hv⟩
    ·rw [hr]; exact ⟨rfl, rfl⟩
    ·rw [hr]; exact ⟨rfl, hv⟩

def EH (P : Program) (ops : Array Oper) (N z : Nat) (l : List Oper) (eP : List (List Nat)) (S : Slots) (L : List (Nat × Obj)) (S' : Slots) : Option (List (Option Value) × Bool × List Nat) :=
 (mJ P ops N z l eP ⟨S, L, 0, [], false⟩).map fun r => (S'.map fun p => lk r.slots p.1, r.dirty, r.eqs.map (·.1))
def EI (P : Program) (ops : Array Oper) (N z : Nat) (l : List Oper) (eP : List (List Nat)) (S : Slots) (L : List (Nat × Obj)) (S' : Slots) : Option (List (Option Value) × Bool × List Nat) :=
 some (S'.map fun p => some p.2, false, ((mJ P ops N z l eP ⟨S, L, 0, [], false⟩).map fun r => r.eqs.map (·.2)).getD [])
/-- k operations of a quiet head, reckoned -/
theorem oL {Qf : Act → Prop} {l : List Oper} {S : Slots} {L : List (Nat × Obj)} (HF : Fr N a S) (HM : Mm G w0 w L) (hz : w.heap.size = z) (k : Nat) (eP : List (List Nat)) (S' : Slots)
  (h : EH P ops N z (l.take k) eP S L S' = EI P ops N z (l.take k) eP S L S')
  (hK : ∀ a', Fr N a' S' → wpQuiet P ops (fun w' => ∃ n, w' = w.drewN n) Qf (l.drop k) a') : wpQuiet P ops (fun w' => ∃ n, w' = w.drewN n) Qf l a := by
 unfold EH EI at h
 cases hr : mJ P ops N z (l.take k) eP ⟨S, L, 0, [], false⟩ with
 | none => rw [hr] at h; cases h
 | some r' =>
  rw [hr] at h
  simp only [Option.map_some, Option.getD_some, Option.some.injEq, Prod.mk.injEq] at h
  have := GN (Qf := Qf) (rest := l.drop k) (l.take k) eP ⟨S, L, 0, [], false⟩ r' a hr h.2.1 HF HM (by simpa using hz) (fun p hp => (List.map_inj_left.1 h.2.2) p hp) fun a' hF => hK a' (hF.sub S' h.1)
  rwa [List.take_append_drop] at this
theorem qL {Qf : Act → Prop} (h : Qf a) : wpQuiet P ops (fun w' => ∃ n, w' = w.drewN n) Qf [] a := h
theorem aI {K : Act → World → Prop} {Q : Exit → Act → World → Prop} (h : K a w) : wpList P ops (Exit.then K Q) [] a w := h
theorem Fr.defers {S : Slots} (h : Fr N a S) : a.defers = [] := h.1
/-- one result, in a slot -/
theorem dI {fn : Func} {t : Tmp} {S : Slots} {v : Value} {R : Ending → World → Prop} (HF : Fr N a S) (h : fn.results = #[.tmp t]) (e : lk S t = some v) (hR : R (.returned v) w) : bodyPost P fn R .ret a w :=
 bodyPost_ret (results_tmp h _ _ _) HF.1 (by rw [HF.getD e]; exact hR)
theorem h_ {fn : Func} {t u : Tmp} {S : Slots} {v x : Value} {R : Ending → World → Prop} (HF : Fr N a S) (h : fn.results = #[.tmp t, .tmp u]) (e : lk S t = some v) (e2 : lk S u = some x) (hR : R (.returned (.tuple #[v, x])) w) : bodyPost P fn R .ret a w :=
 bodyPost_ret (results_tmp2 h _ _ _) HF.1 (by rw [HF.getD e, HF.getD e2]; exact hR)
theorem AY {fn : Func} {t u s : Tmp} {S : Slots} {v x y : Value} {R : Ending → World → Prop} (HF : Fr N a S) (h : fn.results = #[.tmp t, .tmp u, .tmp s]) (e : lk S t = some v) (e2 : lk S u = some x) (e3 : lk S s = some y) (hR : R (.returned (.tuple #[v, x, y])) w) : bodyPost P fn R .ret a w :=
 bodyPost_ret (results_tmp3 h _ _ _) HF.1 (by rw [HF.getD e, HF.getD e2, HF.getD e3]; exact hR)
/-- one operation whose run is told -/
theorem dP {Q : Exit → Act → World → Prop} {rest : List Oper} {o : Oper} {S : Slots} (HF : Fr N a S) (hgd : CG ops S o = some true) (v : Value)
  (hx : (okD N o.dst && qo o.op && o.op.operands.toList.all (fun x => (ev S x).isSome)) = true) (hrun : (execOp (rho S) o).run P w = .ok (.value v) w)
  (hK : ∀ a', Fr N a' (qC S o.dst v) → wpList P ops Q rest a' w) : wpList P ops Q (o :: rest) a w := by
 obtain ⟨h1, h3⟩ := Bool.and_eq_true_iff.1 hx
 obtain ⟨h1, h2⟩ := Bool.and_eq_true_iff.1 h1
 have he : execOp a.eval o = execOp (rho S) o := execOp_congr o (oQ h2) fun x hx => HF.rho (List.all_eq_true.1 h3 x (by simpa using hx))
 refine wpList_step fun K hK' => ?_
 rw [nP hgd HF, if_pos rfl]
 unfold Oper.wp
 rw [he, hrun]
 exact hK' _ _ (hK _ (HF.put _ _ (jv h1)))
theorem Fj {Qf : Act → Prop} {rest : List Oper} {o : Oper} {S : Slots} (HF : Fr N a S) (hgd : o.guard = none) (v : Value)
  (hx : (okD N o.dst && qo o.op && o.op.operands.toList.all (fun x => (ev S x).isSome)) = true) (hrun : ∀ j, (execOp (rho S) o).run P (w.drewN j) = .ok (.value v) (w.drewN j))
  (hK : ∀ a', Fr N a' (qC S o.dst v) → wpQuiet P ops (fun w' => ∃ n, w' = w.drewN n) Qf rest a') : wpQuiet P ops (fun w' => ∃ n, w' = w.drewN n) Qf (o :: rest) a := by
 obtain ⟨h1, h3⟩ := Bool.and_eq_true_iff.1 hx
 obtain ⟨h1, h2⟩ := Bool.and_eq_true_iff.1 h1
 have he : execOp a.eval o = execOp (rho S) o := execOp_congr o (oQ h2) fun x hx => HF.rho (List.all_eq_true.1 h3 x (by simpa using hx))
 refine wpQuiet_step fun K hK' => ?_
 have hw : Region.wanted o (yielded ops a.tmps) = true := by simp [Region.wanted, hgd]
 rw [if_pos hw]
 refine ⟨v, ?_, hK' _ (hK _ (HF.put _ _ (jv h1)))⟩
 rintro _ ⟨j, rfl⟩
 unfold Oper.quietAt
 rw [he, hrun]
 exact ⟨rfl, rfl⟩
/-- x[k:] of a slice -/
theorem zn {t e : TypeId} {info : TypeInfo} (ht : P.underlying t = some (.slice e)) (hi : P.info? e = some info) (hs : info.size = 1) {ρ : Operand → Value} {o : Oper} {x lo : Operand} (ho : o.op = .slice t x (some lo) none none)
  {b off n c : Nat} (k : Nat) {kk : IntKind} (hx : ρ x = .slice (some ⟨b, off, none⟩) n c) (hl : ρ lo = .int kk (k : Int)) (h1 : k ≤ n) (h2 : n ≤ c) (h3 : k < c) (w : World) :
  (execOp ρ o).run P w = .ok (.value (.slice (some ⟨b, off + k, none⟩) (n - k) (c - k))) w := by
 have hne : ¬ c = k := by omega
 unfold execOp
 simp only [ho, Option.map_some, Option.map_none, hx, hl, Instr.sliceAt]
 by_cases h0 : k = 0
 ·subst h0
  simp [Instr.slice, Instr.sliceBounds, Instr.sliceBound, asIntOf, run_underlying ht, sizeOf, typeInfo, hi, hs, hne, Addr.add]
 ·simp [Instr.slice, Instr.sliceBounds, Instr.sliceBound, asIntOf, run_underlying ht, sizeOf, typeInfo, hi, hs, h1, hne, FV]
theorem gJ {ρ : Operand → Value} {o : Oper} {ty : TypeId} {x : Operand} (ho : o.op = .load ty x) {p : Addr} (hx : ρ x = .pointer (some p)) {v : Value} (hf : Gt P ty = true) (hc : w.cell? p = some v) : (execOp ρ o).run P w = .ok (.value v) w := by
 unfold execOp
 simp only [ho, hx, Instr.loadAt, Instr.sureAddr, Sem.run_bind, Sem.run_pure, Result.andThen_ok, DZ hf hc]
theorem aS {K : Act → World → Prop} {Q : Exit → Act → World → Prop} (h : K a w) : Exit.then K Q .normal a w := h
theorem cu {K : Act → World → Prop} {Q : Exit → Act → World → Prop} (h : Q .ret a w) : Exit.then K Q .ret a w := h
theorem iW {K : Act → World → Prop} {Q : Exit → Act → World → Prop} {id : Nat} (h : Q (.exit id) a w) : Exit.then K Q (.exit id) a w := h
theorem aU {id : Nat} {Q : Exit → Act → World → Prop} (h : Q .normal a w) : Exit.inBlock id Q .normal a w := h
theorem dw {id : Nat} {Q : Exit → Act → World → Prop} (h : Q .ret a w) : Exit.inBlock id Q .ret a w := h
theorem kH {id : Nat} {Q : Exit → Act → World → Prop} (h : Q .normal a w) : Exit.inBlock id Q (.exit id) a w := by
 show (if id = id then Q .normal a w else Q (.exit id) a w)
 rw [if_pos rfl]
 exact h
theorem ku {id id' : Nat} {Q : Exit → Act → World → Prop} (hne : Nat.beq id' id = false) (h : Q (.exit id') a w) : Exit.inBlock id Q (.exit id') a w := by
 have : ¬ id' = id := fun e => by rw [e, Nat.beq_refl] at hne; cases hne
 show (if id' = id then Q .normal a w else Q (.exit id') a w)
 rw [if_neg this]
 exact h
/-- append to nil: a new row -/
theorem F6 {Q : Exit → Act → World → Prop} {rest : List Oper} {o : Oper} {S : Slots} {L : List (Nat × Obj)} (HF : Fr N a S) (HM : Mm G w0 w L) (hgd : o.guard = none) (s x : Operand) (t : TypeId)
  (ho : o.op = .call { callee := .builtin .append, args := #[s, x], argTypes := #[t, t] }) (hd : okD N o.dst = true)
  (e : TypeId) {z : Value} {size bytes : Nat} (ht : P.underlying t = some (.slice e)) (hi : (P.info? e).map (fun i => (i.zero, i.size, i.bytes)) = some (some z, size, bytes)) (hzs : z.cells.size = size) (hsz : 0 < size)
  (hs : ev S s = some (.slice none 0 0)) (A : Option Addr) (m c : Nat) (news : List Value) (hx : ev S x = some (.slice A m c)) (hm : news.length = m * size) (hm0 : 0 < m) (hr : Row w A news) (h1 : ∀ u ∈ news, u.oneCell' = true)
  (h63 : m ≤ maxLen) (hbytes : m * bytes ≤ 140737488355328)
  (hK : ∀ a' w' g cap cur, Mm G w0 w' ((g, .cells cur e (0, 0)) :: L) → cur.toList.take (m * size) = news → cur.size = cap * size → m ≤ cap → cap ≤ maxLen → Below w.heap.size w w' → Fr N a' (qC S o.dst (.slice (some ⟨g, 0, none⟩) m cap)) → wpList P ops Q rest a' w') : wpList P ops Q (o :: rest) a w := by
 obtain ⟨i0, hi0, hz0, hz1, hz2⟩ := info_parts hi
 refine vC w hgd s x t ho w.heap.size e i0 z size bytes ht hi0 hz0 hz1 hz2 hzs hsz (.slice none 0 0) 0 [] (HF.ev hs) (World.ownsRow_nil _ _ _ _) A m c news (HF.ev hx) hm hr h1 (by omega) (by rw [Nat.zero_add]; exact hbytes) (Nat.le_refl _) ?_
 intro v' w' hown hgrow hat
 rw [Nat.zero_add, List.nil_append] at hown
 have hb : Below w.heap.size w w' := (Below.refl _ _).grown hgrow (Nat.le_refl _) (by simp [Value.ownBlock])
 rcases hown.2 with ⟨_, hn⟩ | ⟨g, cap, cur, rfl, hg, hh, hmc, hcm, hcs, htk⟩
 ·omega
 ·exact hK _ w' g cap cur (HM.push hb hg hh) htk hcs hmc hcm hb (HF.put _ _ (jv hd))
/-- copy into the head of a told block -/
theorem Jg {Q : Exit → Act → World → Prop} {rest : List Oper} {o : Oper} {S : Slots} {L : List (Nat × Obj)} (HF : Fr N a S) (HM : Mm G w0 w L) (hgd : o.guard = none) (d s : Operand) (dT sT : TypeId)
  (ho : o.op = .call { callee := .builtin .copy, args := #[d, s], argTypes := #[dT, sT] }) (hd : okD N o.dst = true)
  (elem : TypeId) (hu : P.underlying dT = some (.slice elem)) (hs1 : (P.info? elem).map (·.size) = some 1)
  (g dLen dCap : Nat) (src : Addr) (sLen sCap : Nat) (hsd : ev S d = some (.slice (some ⟨g, 0, none⟩) dLen dCap)) (hss : ev S s = some (.slice (some src) sLen sCap))
  (i : Nat) (cur : Array Value) (t : TypeId) (e : L[i]? = some (g, .cells cur t (0, 0))) (cs : List Value) (hn : cs.length = Nat.min sLen dLen)
  (hsrc : ∀ j v, cs[j]? = some v → w.cell? (src.add j) = some v) (hfit : cs.length ≤ cur.size) (h1 : ∀ v ∈ cs, v.oneCell' = true)
  (hK : ∀ a' w', Mm G w0 w' (L.set i (g, .cells (cs ++ cur.toList.drop cs.length).toArray t (0, 0))) → Fr N a' (qC S o.dst (.int .i64 (cs.length : Int))) → wpList P ops Q rest a' w') : wpList P ops Q (o :: rest) a w := by
 have hrun := run_copy_row P w dT sT o.type elem g 0 dLen dCap src sLen sCap cur t cs hu hs1 (HM.get e) hn hsrc (by omega) h1
 rw [List.take_zero, List.nil_append, Nat.zero_add] at hrun
 refine wpList_plain hgd fun K hK' => ?_
 unfold Oper.wp execOp
 have hd1 := HF.ev hsd
 have hs2 := HF.ev hss
 simp only [ho, resolve, invoke, builtin, Sem.run_bind, Sem.run_pure, Result.andThen_ok, List.map_toArray, List.map_cons, List.map_nil, hd1, hs2, hrun]
 exact hK' _ _ (hK _ _ (HM.set e _) (HF.put _ _ (jv hd)))
/-- a whole region of one order that turns nothing -/
theorem nD {id : Nat} {y : Code} {Q : Exit → Act → World → Prop} {l : List Oper} {S : Slots} {L : List (Nat × Obj)} (HF : Fr N a S) (HM : Mm G w0 w L) (hz : w.heap.size = z) (eP : List (List Nat)) (S' : Slots)
  (h : EH P l.toArray N z l eP S L S' = EI P l.toArray N z l eP S L S')
  (hK : ∀ a', Fr N a' S' → y.wp P Q a' w) : (Code.seq (.region id l.toArray false) y).wp P Q a w := by
 refine aW ?_
 unfold EH EI at h
 cases hr : mJ P l.toArray N z l eP ⟨S, L, 0, [], false⟩ with
 | none => rw [hr] at h; cases h
 | some r' =>
  rw [hr] at h
  simp only [Option.map_some, Option.getD_some, Option.some.injEq, Prod.mk.injEq] at h
  have := qH (Q := Exit.then (y.wp P Q) Q) (rest := []) l eP ⟨S, L, 0, [], false⟩ r' a w hr HF HM (by simpa using hz) (fun p hp => (List.map_inj_left.1 h.2.2) p hp) fun a' w' hF hM _ hd => wpList_nil (by have e := hd h.2.1; subst e; exact hK a' (hF.sub S' h.1))
  rwa [List.append_nil] at this
/-- k operations that turn nothing -/
theorem wp_pure {Q : Exit → Act → World → Prop} {l : List Oper} {S : Slots} {L : List (Nat × Obj)} (HF : Fr N a S) (HM : Mm G w0 w L) (hz : w.heap.size = z) (k : Nat) (eP : List (List Nat)) (S' : Slots)
  (h : EH P ops N z (l.take k) eP S L S' = EI P ops N z (l.take k) eP S L S')
  (hK : ∀ a', Fr N a' S' → wpList P ops Q (l.drop k) a' w) : wpList P ops Q l a w := by
 unfold EH EI at h
 cases hr : mJ P ops N z (l.take k) eP ⟨S, L, 0, [], false⟩ with
 | none => rw [hr] at h; cases h
 | some r' =>
  rw [hr] at h
  simp only [Option.map_some, Option.getD_some, Option.some.injEq, Prod.mk.injEq] at h
  have := qH (Q := Q) (rest := l.drop k) (l.take k) eP ⟨S, L, 0, [], false⟩ r' a w hr HF HM (by simpa using hz) (fun p hp => (List.map_inj_left.1 h.2.2) p hp) fun a' w' hF hM _ hd => by have e := hd h.2.1; subst e; exact hK a' (hF.sub S' h.1)
  rwa [List.take_append_drop] at this
end
end Go.Proofs.YtdgehpocmfjbiaaDoor
namespace Go.Proofs.YtdgehpocmfjbiaaDoor
open Go.RowKit

def wZ : List UInt8 → Nat
 | [] => 0
 | b :: l => b.toNat + 256 * wZ l
def jO (big : Bool) (l : List UInt8) : Nat := if big then wZ l.reverse else wZ l
theorem Ah : ∀ (a b : List UInt8), wZ (a ++ b) = wZ a + 256 ^ a.length * wZ b
 | [], b => by simp [wZ]
 | x :: a, b => by
  simp only [List.cons_append, wZ, Ah a b, List.length_cons, Nat.pow_succ]
  rw [Nat.mul_add, Nat.add_assoc, ← Nat.mul_assoc, Nat.mul_comm 256 (256 ^ a.length)]
theorem Hq : ∀ (l : List UInt8), wZ l < 256 ^ l.length
 | [] => by simp [wZ]
 | b :: l => by
  have := Hq l
  have hb := b.toNat_lt
  simp only [wZ, List.length_cons, Nat.pow_succ]
  omega
theorem CP (big : Bool) (l : List UInt8) : jO big l < 256 ^ l.length := by
 unfold jO
 split
 ·have := Hq l.reverse; simpa using this
 ·exact Hq l
theorem EO (a b : List UInt8) : jO false (a ++ b) = jO false a + 256 ^ a.length * jO false b := by simp [jO, Ah]
theorem EP (a b : List UInt8) : jO true (a ++ b) = jO true a * 256 ^ b.length + jO true b := by
 simp only [jO, if_true, List.reverse_append, Ah, List.length_reverse]
 rw [Nat.mul_comm, Nat.add_comm]
theorem JD : ∀ (k n : Nat), wZ (leB n k) = n % 256 ^ k
 | 0, n => by simp [leB, wZ, Nat.mod_one]
 | k + 1, n => by
  have e : (UInt8.ofNat n).toNat = n % 256 := by rw [UInt8.toNat_ofNat']
  simp only [leB, wZ, JD k (n / 256), e]
  rw [Nat.pow_succ, Nat.mul_comm (256 ^ k) 256, Nat.mod_mul]
/-- what was laid is read again -/
theorem I5 (n k : Nat) (big : Bool) : jO big (dS n k big) = n % 256 ^ k := by
 unfold jO dS
 cases big <;> simp [JD]

def aP (big : Bool) : Value := .int .u8 (if big then 1 else 0)

theorem Ls (x y : Int) (h0 : 0 ≤ x) (h1 : x < 256) (h2 : 0 ≤ y) (h3 : y < 256) : bits .or .u16 x (y * 256) = x + y * 256 := by
 rw [u16_or x _ h0 (by omega) (by omega) (by omega), Nat.or_comm, nat_join 8 _ _ (by omega) (by omega)]; omega
theorem NV (x y : Int) (h0 : 0 ≤ x) (h1 : x < 65536) (h2 : 0 ≤ y) (h3 : y < 65536) : bits .or .u32 x (y * 65536) = x + y * 65536 := by
 rw [u32_or x _ h0 (by omega) (by omega) (by omega), Nat.or_comm, nat_join 16 _ _ (by omega) (by omega)]; omega
theorem NU (x y : Int) (h0 : 0 ≤ x) (h1 : x < 65536) (h2 : 0 ≤ y) (h3 : y < 65536) : bits .or .u32 (y * 65536) x = y * 65536 + x := by
 rw [u32_or _ x (by omega) (by omega) h0 (by omega), nat_join 16 _ _ (by omega) (by omega)]; omega
theorem NT (x y : Int) (h0 : 0 ≤ x) (h1 : x < 4294967296) (h2 : 0 ≤ y) (h3 : y < 4294967296) : bits .or .u64 x (y * 4294967296) = x + y * 4294967296 := by
 rw [u64_or x _ h0 (by omega) (by omega) (by omega), Nat.or_comm, nat_join 32 _ _ (by omega) (by omega)]; omega
theorem NS (x y : Int) (h0 : 0 ≤ x) (h1 : x < 4294967296) (h2 : 0 ≤ y) (h3 : y < 4294967296) : bits .or .u64 (y * 4294967296) x = y * 4294967296 + x := by
 rw [u64_or _ x (by omega) (by omega) h0 (by omega), nat_join 32 _ _ (by omega) (by omega)]; omega

theorem JO (big : Bool) (b0 b1 : UInt8) (r : List UInt8) (A : Option Addr) (n c : Nat) (hn : 2 ≤ n) (w : World) (hr : Row w A ((b0 :: b1 :: r).map Bv)) :
  Calls Tryd.prog 94 #[aP big, .slice A n c] w fun e w' => e = .returned (.int .u16 (jO big [b0, b1] : Nat)) ∧ ∃ k, w' = w.drewN k := by
 obtain ⟨b, off, rfl, hc⟩ := hr.open_ (by simp)
 have hc0 : w.cell? ⟨b, off, none⟩ = some (.int .u8 (b0.toNat : Int)) := hc 0 (by simp)
 have hc1 : w.cell? ⟨b, off + 1, none⟩ = some (.int .u8 (b1.toNat : Int)) := hc 1 (by simp)
 have k0 := b0.toNat_lt
 have k1 := b1.toNat_lt
 have e : (jO big [b0, b1] : Int) = if big then (b1.toNat : Int) + b0.toNat * 256 else (b0.toNat : Int) + b1.toNat * 256 := by
  cases big <;> simp [jO, wZ] <;> omega
 rw [e]
 obtain ⟨y0, hy0⟩ : ∃ y : Nat, b0.toNat = y := ⟨_, rfl⟩
 obtain ⟨y1, hy1⟩ : ∃ y : Nat, b1.toNat = y := ⟨_, rfl⟩
 rw [hy0] at hc0 k0 ⊢
 rw [hy1] at hc1 k1 ⊢
 have hor := Ls (y1 : Int) (y0 : Int) (by omega) (by omega) (by omega) (by omega)
 have hor2 := Ls (y0 : Int) (y1 : Int) (by omega) (by omega) (by omega) (by omega)
 clear hc e hy0 hy1 hr
 cases big with
 | true =>
  simp only [aP, if_true]
  go_enter Tryd.func94, Tryd.ntmps94
  go_wp2_with fail
  go_quiet (fail)
  go_wp2
  go_ret
  exact ⟨rfl, _, rfl⟩
 | false =>
  simp only [aP, if_false, Bool.false_eq_true]
  go_enter Tryd.func94, Tryd.ntmps94
  go_wp2_with fail
  go_quiet (fail)
  go_wp2
  go_ret
  exact ⟨rfl, _, rfl⟩

theorem KZ {l : List UInt8} (h : 2 ≤ l.length) : ∃ b0 b1 r, l = b0 :: b1 :: r := by
 match l, h with
 | b0 :: b1 :: r, _ => exact ⟨b0, b1, r, rfl⟩
theorem yY (big : Bool) (l : List UInt8) (A : Option Addr) (n c : Nat) (hn : 2 ≤ n) (hl : n ≤ l.length) (w : World) (hr : Row w A (l.map Bv)) :
  Calls Tryd.prog 94 #[aP big, .slice A n c] w fun e w' => e = .returned (.int .u16 (jO big (l.take 2) : Nat)) ∧ ∃ k, w' = w.drewN k := by
 obtain ⟨b0, b1, r, rfl⟩ := KZ (l := l) (by omega)
 exact JO big b0 b1 r A n c hn w hr

theorem D9 (big : Bool) (l : List UInt8) (k : Nat) (h : 2 * k ≤ l.length) : (jO big (l.take (2 * k)) : Int) = if big then (jO true (l.take k) : Int) * 256 ^ k + jO true ((l.drop k).take k) else (jO false (l.take k) : Int) + jO false ((l.drop k).take k) * 256 ^ k := by
 have e : l.take (2 * k) = l.take k ++ (l.drop k).take k := by rw [Nat.two_mul, List.take_add]
 rw [e]
 cases big with
 | true =>
  rw [EP]
  have : ((l.drop k).take k).length = k := by simp; omega
  rw [this]
  simp
 | false =>
  rw [EO]
  have : (l.take k).length = k := by simp; omega
  rw [this]
  simp [Int.mul_comm]

theorem Row.drop_at {w : World} {b off : Nat} {cs : List Value} (h : Row w (some ⟨b, off, none⟩) cs) (k : Nat) : Row w (some ⟨b, off + k, none⟩) (cs.drop k) := by
 have := h.drop k
 simpa [addr_add] using this

theorem yX (big : Bool) (l : List UInt8) (A : Option Addr) (n c : Nat) (hn : 4 ≤ n) (hl : n = l.length) (hnc : n ≤ c) (hc : c ≤ maxLen) (w : World) (hr : Row w A (l.map Bv)) :
  Calls Tryd.prog 87 #[aP big, .slice A n c] w fun e w' => e = .returned (.int .u32 (jO big (l.take 4) : Nat)) ∧ ∃ k, w' = w.drewN k := by
 unfold maxLen at hc
 obtain ⟨b, off, hA, hcell⟩ := hr.at_ (i := 3) (by simp; omega)
 subst hA
 have hr2 : Row w (some ⟨b, off + 2, none⟩) ((l.drop 2).map Bv) := by rw [List.map_drop]; exact hr.drop_at 2
 have H1 : Hid (∀ k, Calls Tryd.prog 94 #[aP big, .slice (some ⟨b, off, none⟩) n c] (w.drewN k) fun e w' => e = .returned (.int .u16 (jO big (l.take 2) : Nat)) ∧ ∃ m, w' = (w.drewN k).drewN m) := Lib.hid fun k => yY big l (some ⟨b, off, none⟩) n c (by omega) (by omega) _ hr
 have H2 : Hid (∀ k, Calls Tryd.prog 94 #[aP big, .slice (some ⟨b, off + 2, none⟩) (n - 2) (c - 2)] (w.drewN k) fun e w' => e = .returned (.int .u16 (jO big ((l.drop 2).take 2) : Nat)) ∧ ∃ m, w' = (w.drewN k).drewN m) := Lib.hid fun k => yY big (l.drop 2) (some ⟨b, off + 2, none⟩) (n - 2) (c - 2) (by omega) (by simp; omega) _ hr2
 have e := D9 big l 2 (by omega)
 have b1 : jO big (l.take 2) < 65536 := by have := CP big (l.take 2); simpa [show min 2 l.length = 2 by omega] using this
 have b2 : jO big ((l.drop 2).take 2) < 65536 := by have := CP big ((l.drop 2).take 2); simpa [show min 2 (l.length - 2) = 2 by omega] using this
 obtain ⟨i, hi⟩ : ∃ i, jO big (l.take 2) = i := ⟨_, rfl⟩
 obtain ⟨j, hj⟩ : ∃ j, jO big ((l.drop 2).take 2) = j := ⟨_, rfl⟩
 rw [hi] at H1 b1
 rw [hj] at H2 b2
 obtain ⟨u, hu⟩ : ∃ u, w.cell? ⟨b, off + 3, none⟩ = some u := ⟨_, hcell⟩
 have o1 := NV (i : Int) (j : Int) (by omega) (by omega) (by omega) (by omega)
 have o2 := NU (j : Int) (i : Int) (by omega) (by omega) (by omega) (by omega)
 clear hcell hr hr2 hl
 cases big with
 | true =>
  rw [hi, hj] at e
  simp only [if_true] at e
  have e' : (jO true (l.take 4) : Int) = (i : Int) * 65536 + j := e
  rw [e']
  clear e e' hi hj
  simp only [aP, if_true] at H1 H2 ⊢
  go_enter Tryd.func87, Tryd.ntmps87
  go_wp2_with fail
  go_quiet ((first | (with_reducible exact Calls.quiet_of (H1.out _)) | (with_reducible exact Calls.quiet_of (H2.out _))))
  go_wp2
  go_ret
  exact ⟨rfl, _, rfl⟩
 | false =>
  rw [hi, hj] at e
  simp only [Bool.false_eq_true, if_false] at e
  have e' : (jO false (l.take 4) : Int) = (i : Int) + (j : Int) * 65536 := e
  rw [e']
  clear e e' hi hj
  simp only [aP, Bool.false_eq_true, if_false] at H1 H2 ⊢
  go_enter Tryd.func87, Tryd.ntmps87
  go_wp2_with fail
  go_quiet ((first | (with_reducible exact Calls.quiet_of (H1.out _)) | (with_reducible exact Calls.quiet_of (H2.out _))))
  go_wp2
  go_ret
  exact ⟨rfl, _, rfl⟩

theorem JM (big : Bool) (l : List UInt8) (A : Option Addr) (n c : Nat) (hn : 8 ≤ n) (hl : n = l.length) (hnc : n ≤ c) (hc : c ≤ maxLen) (w : World) (hr : Row w A (l.map Bv)) :
  Calls Tryd.prog 88 #[aP big, .slice A n c] w fun e w' => e = .returned (.int .u64 (jO big (l.take 8) : Nat)) ∧ ∃ k, w' = w.drewN k := by
 unfold maxLen at hc
 obtain ⟨b, off, hA, hcell⟩ := hr.at_ (i := 7) (by simp; omega)
 subst hA
 have hr2 : Row w (some ⟨b, off + 4, none⟩) ((l.drop 4).map Bv) := by rw [List.map_drop]; exact hr.drop_at 4
 have H1 : Hid (∀ k, Calls Tryd.prog 87 #[aP big, .slice (some ⟨b, off, none⟩) n c] (w.drewN k) fun e w' => e = .returned (.int .u32 (jO big (l.take 4) : Nat)) ∧ ∃ m, w' = (w.drewN k).drewN m) := Lib.hid fun k => yX big l (some ⟨b, off, none⟩) n c (by omega) hl (by omega) (by unfold maxLen; omega) _ hr
 have H2 : Hid (∀ k, Calls Tryd.prog 87 #[aP big, .slice (some ⟨b, off + 4, none⟩) (n - 4) (c - 4)] (w.drewN k) fun e w' => e = .returned (.int .u32 (jO big ((l.drop 4).take 4) : Nat)) ∧ ∃ m, w' = (w.drewN k).drewN m) := Lib.hid fun k => yX big (l.drop 4) (some ⟨b, off + 4, none⟩) (n - 4) (c - 4) (by omega) (by simp; omega) (by omega) (by unfold maxLen; omega) _ hr2
 have e := D9 big l 4 (by omega)
 have b1 : jO big (l.take 4) < 4294967296 := by have := CP big (l.take 4); simpa [show min 4 l.length = 4 by omega] using this
 have b2 : jO big ((l.drop 4).take 4) < 4294967296 := by have := CP big ((l.drop 4).take 4); simpa [show min 4 (l.length - 4) = 4 by omega] using this
 obtain ⟨i, hi⟩ : ∃ i, jO big (l.take 4) = i := ⟨_, rfl⟩
 obtain ⟨j, hj⟩ : ∃ j, jO big ((l.drop 4).take 4) = j := ⟨_, rfl⟩
 rw [hi] at H1 b1
 rw [hj] at H2 b2
 obtain ⟨u, hu⟩ : ∃ u, w.cell? ⟨b, off + 7, none⟩ = some u := ⟨_, hcell⟩
 have o1 := NT (i : Int) (j : Int) (by omega) (by omega) (by omega) (by omega)
 have o2 := NS (j : Int) (i : Int) (by omega) (by omega) (by omega) (by omega)
 clear hcell hr hr2 hl
 cases big with
 | true =>
  rw [hi, hj] at e
  simp only [if_true] at e
  have e' : (jO true (l.take 8) : Int) = (i : Int) * 4294967296 + j := e
  rw [e']
  clear e e' hi hj
  simp only [aP, if_true] at H1 H2 ⊢
  go_enter Tryd.func88, Tryd.ntmps88
  go_wp2_with fail
  go_quiet ((first | (with_reducible exact Calls.quiet_of (H1.out _)) | (with_reducible exact Calls.quiet_of (H2.out _))))
  go_wp2
  go_ret
  exact ⟨rfl, _, rfl⟩
 | false =>
  rw [hi, hj] at e
  simp only [Bool.false_eq_true, if_false] at e
  have e' : (jO false (l.take 8) : Int) = (i : Int) + (j : Int) * 4294967296 := e
  rw [e']
  clear e e' hi hj
  simp only [aP, Bool.false_eq_true, if_false] at H1 H2 ⊢
  go_enter Tryd.func88, Tryd.ntmps88
  go_wp2_with fail
  go_quiet ((first | (with_reducible exact Calls.quiet_of (H1.out _)) | (with_reducible exact Calls.quiet_of (H2.out _))))
  go_wp2
  go_ret
  exact ⟨rfl, _, rfl⟩
end Go.Proofs.YtdgehpocmfjbiaaDoor
