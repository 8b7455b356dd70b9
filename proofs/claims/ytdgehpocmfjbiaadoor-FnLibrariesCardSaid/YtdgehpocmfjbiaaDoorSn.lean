/- What the sections of an image tell. · (*File).Section and (*File).SectionByType. · A file in memory, read from an image: its sections by type, their b -/
import Derived.Test.YtdgehpocmfjbiaaDoorSg
import Derived.Test.YtdgehpocmfjbiaaDoorSf
import Derived.Test.YtdgehpocmfjbiaaDoorSd
import Derived.Test.YtdgehpocmfjbiaaDoorSm
import Derived.Test.YtdgehpocmfjbiaaDoorSb
import Derived.Test.YtdgehpocmfjbiaaDoorSa
set_option linter.unusedVariables false
set_option linter.unusedSimpArgs false
set_option maxRecDepth 100000
set_option maxHeartbeats 2000000
namespace Go.Proofs.YtdgehpocmfjbiaaDoor
open Go.RowKit
theorem Fv {x : b_} {k : Nat} {m : dP} (hm : x.ps[k]? = some m) : x.img.all[k + 1]? = some m.part := by
 have hk := (List.getElem?_eq_some_iff.1 hm).1
 show (uT :: x.ps.map dP.part ++ [x.img.CJ])[k + 1]? = _
 rw [List.getElem?_append_left (by simp; omega), List.getElem?_cons_succ, List.getElem?_map, hm]; rfl
theorem F7 {x : b_} {k : Nat} {m : dP} (hm : x.ps[k]? = some m) : (jF x.img (k + 1)).ty = m.ty := by unfold jF; rw [Fv hm]; rfl
theorem OZ {x : b_} {k : Nat} {m : dP} (hm : x.ps[k]? = some m) : (jF x.img (k + 1)).bP = rX m.ty m.size m.data.length := by unfold jF; rw [Fv hm]; rfl
theorem SA {x : b_} {k : Nat} {m : dP} (hm : x.ps[k]? = some m) (h : m.ty ≠ 8) : ((((jF x.img (k + 1)).ty : Nat) : Int) == 8) = false := by rw [F7 hm]; exact oM (by omega)
theorem nb_at {x : b_} {k : Nat} {m : dP} (hm : x.ps[k]? = some m) : Ce x.img (k + 1) = m.name := by
 have hk := (List.getElem?_eq_some_iff.1 hm).1
 have : x.img.names[k + 1]? = some m.name := by
  show ((uT :: x.ps.map dP.part).map (·.name) ++ [zy])[k + 1]? = _
  rw [List.getElem?_append_left (by simp; omega), List.map_cons, List.getElem?_cons_succ, List.getElem?_map, List.getElem?_map, hm]; rfl
 unfold Ce; rw [this]; rfl
theorem Kw (x : b_) (k : Nat) {p : Part} (h0 : 0 < k) (hp : x.img.all[k]? = some p) : ∃ r, x.img.file.drop (x.img.iK k) = mW p ++ r := by
 obtain ⟨hlt, e⟩ := List.getElem?_eq_some_iff.1 hp
 obtain ⟨r, hr⟩ := x.img.OY k h0 hlt
 rw [e] at hr
 exact ⟨r, hr⟩
theorem OX (x : b_) (k : Nat) {m : dP} (hm : x.ps[k]? = some m) (h8 : m.ty ≠ 8) : (x.img.file.drop (jF x.img (k + 1)).off).take (jF x.img (k + 1)).bP = m.data := by
 obtain ⟨r, hr⟩ := Kw x (k + 1) (Nat.succ_pos k) (Fv hm)
 have e : (jF x.img (k + 1)).off = x.img.iK (k + 1) := by unfold jF; rw [Fv hm]
 have e2 : mW m.part = m.data := if_neg h8
 rw [OZ hm, e, hr, e2, show rX m.ty m.size m.data.length = m.data.length from if_neg h8, List.take_left]
theorem Rk (x : b_) (k : Nat) (h0 : 0 < k) (hk : k < x.ps.length + 2) (h8 : (jF x.img k).ty ≠ 8) : (jF x.img k).off + (jF x.img k).bP ≤ x.img.file.length := by
 have hk' : k < x.img.all.length := by rw [nY]; exact hk
 have hp : x.img.all[k]? = some x.img.all[k] := List.getElem?_eq_getElem hk'
 obtain ⟨r, hr⟩ := Kw x k h0 hp
 have e0 : (jF x.img k).ty = x.img.all[k].ty := by unfold jF; rw [hp]
 have e : (jF x.img k).off = x.img.iK k := by unfold jF; rw [hp]
 have e1 : (jF x.img k).bP = tJ x.img.all[k] := by unfold jF; rw [hp]
 have h9 : x.img.all[k].ty ≠ 8 := e0 ▸ h8
 have e2 : mW x.img.all[k] = x.img.all[k].data := if_neg h9
 have e3 : tJ x.img.all[k] = x.img.all[k].data.length := if_neg h9
 have h1 := congrArg List.length hr
 rw [List.length_drop, List.length_append, e2] at h1
 rw [e, e1, e3]
 have h2 := x.img.wu k
 have h3 := x.img.Cj
 omega
theorem Sr {nm : ByteArray} (h : wC nm = false) : nm.size < 7 ∨ ((nm.extract 0 7).toList == (⟨#[46, 122, 100, 101, 98, 117, 103]⟩ : ByteArray).toList) = false := by
 unfold wC at h
 by_cases h7 : 7 ≤ nm.size
 ·rw [decide_eq_true h7, Bool.true_and] at h
  exact .inr h
 ·exact .inl (by omega)
theorem Rn {x : b_} {k : Nat} {m : dP} (hm : x.ps[k]? = some m) (hz : wC ⟨m.name.toArray⟩ = false) : (⟨(Ce x.img (k + 1)).toArray⟩ : ByteArray).size < 7 ∨ (((⟨(Ce x.img (k + 1)).toArray⟩ : ByteArray).extract 0 7).toList == (⟨#[46, 122, 100, 101, 98, 117, 103]⟩ : ByteArray).toList) = false := by
 rw [nb_at hm]
 exact Sr hz
end Go.Proofs.YtdgehpocmfjbiaaDoor
namespace Go.Proofs.YtdgehpocmfjbiaaDoor
open Go.RowKit

abbrev lT := fun (fb : Nat) (tv : Int) (aV : Nat) (m : Nat) (i : Nat) => ([(0, aB fb), (1, .int .u32 tv), (10, aC aV m m), (11, ay m), (12, ay i)] : Slots)
abbrev zn := fun (fb : Nat) (tv : Int) (aV : Nat) (m : Nat) => ([(0, aB fb), (1, .int .u32 tv), (10, aC aV m m), (11, ay m)] : Slots)
theorem IZ (fb aV m : Nat) (hm : m < 4611686018427387904) (tv : Int) (cv : Nat → Int) (cur : Array Value) (w0 : World) (hsg : w0.heap[aV]? = some (.cells cur 133 (0, 0))) (hc : ∀ j, j < m → ∃ p cs, cur[j]? = some (aB p) ∧ w0.heap[p]? = some (.cells cs 153 (0, 0)) ∧ cs[1]? = some (iR (cv j))) (i : Nat) (hi : i < m) (p : Nat) (cs : Array Value) (hp : cur[i]? = some (aB p)) (hpc : w0.heap[p]? = some (.cells cs 153 (0, 0))) (hpv : cs[1]? = some (iR (cv i))) (he : (cv i == tv) = false) {KX : Act → World → Prop} {KK : Act → World → Prop} {QQ : Exit → Act → World → Prop} (KR : ∀ a, Fr 25 a ((zn fb tv aV m) ++ [(12, ay (i + 1))]) → KX a w0) (a : Act) (HF : Fr 25 a (lT fb tv aV m i)) :
  (pR (spine Tryd.f71 1)).wp Tryd.prog (Exit.then KX (Exit.inBlock 0 (Exit.then KK QQ))) a w0 := by
 have HM : Mm [] w0 w0 [] := Mm.start w0
 obtain ⟨i0, his, hss⟩ := yE
 refine aO ?_
 refine wp_pure HF HM rfl 1 [] ((lT fb tv aV m i) ++ [(13, .bool (decide (((i : Nat) : Int) < ((m : Nat) : Int))))]) (by kernel_rfl) fun a HF => ?_
 rw [show decide (((i : Nat) : Int) < ((m : Nat) : Int)) = true from dK (by omega)] at HF
 refine aA ?_
 refine wp_seq ?_
 refine bD HF rfl ?_
 refine wp_skip ?_
 repeat first | refine aK ?_ | refine aP ?_
 replace HF := HF.sub (lT fb tv aV m i) (by kernel_rfl)
 refine wp_seq (wp_block ?_)
 refine aO ?_
 refine dG HF (by kernel_rfl) (.pointer (some ⟨aV, i, none⟩)) (by kernel_rfl) (qY (t := 126) Tryd.underlying126 his hss rfl i rfl rfl (by omega)) fun a HF => ?_
 refine dG HF (by kernel_rfl) (aB p) (by kernel_rfl) (dV rfl rfl (by kernel_rfl) ((cell_of_row w0 aV i _ _ _ hsg).trans hp)) fun a HF => ?_
 refine wp_pure HF HM rfl 1 [] ((lT fb tv aV m i) ++ [(6, aB p)]) (by kernel_rfl) fun a HF => ?_
 refine dF ?_
 refine wp_pure HF HM rfl 4 [] ((lT fb tv aV m i) ++ [(6, aB p), (19, .pointer (some ⟨p, 1, none⟩))]) (by kernel_rfl) fun a HF => ?_
 refine dG HF (by kernel_rfl) (iR (cv i)) (by kernel_rfl) (dV rfl rfl (by kernel_rfl) ((cell_of_row w0 p 1 _ _ _ hpc).trans hpv)) fun a HF => ?_
 refine wp_pure HF HM rfl 2 [] [(0, aB fb), (1, .int .u32 tv), (10, aC aV m m), (11, ay m), (12, ay i), (6, aB p), (22, .bool (cv i == tv))] (by kernel_rfl) fun a HF => ?_
 rw [he] at HF
 refine aA ?_
 refine aY HF rfl ?_
 replace HF := HF.sub ((lT fb tv aV m i) ++ [(6, aB p)]) (by kernel_rfl)
 refine wp_skip ?_
 repeat first | refine aK ?_ | refine aP ?_
 replace HF := HF.sub (lT fb tv aV m i) (by kernel_rfl)
 refine wp_region_lit ?_
 refine wp_pure HF HM rfl 1 [] ((lT fb tv aV m i) ++ [(24, aF (IntKind.i64.wrap (((i : Nat) : Int) + 1)))]) (by kernel_rfl) fun a HF => ?_
 rw [show IntKind.i64.wrap (((i : Nat) : Int) + 1) = (((i + 1) : Nat) : Int) from (IntWalk.i64_in _ (by omega)).trans (by omega)] at HF
 refine wp_pure HF HM rfl 1 [] ((zn fb tv aV m) ++ [(12, ay (i + 1))]) (by kernel_rfl) fun a HF => ?_
 refine wpList_nil ?_
 repeat first | refine aK ?_ | refine aP ?_
 exact KR a HF

theorem JE (fb aV m : Nat) (hm : m < 4611686018427387904) (tv : Int) (cv : Nat → Int) (cur : Array Value) (w0 : World) (hsg : w0.heap[aV]? = some (.cells cur 133 (0, 0))) (hc : ∀ j, j < m → ∃ p cs, cur[j]? = some (aB p) ∧ w0.heap[p]? = some (.cells cs 153 (0, 0)) ∧ cs[1]? = some (.int .u32 (cv j))) (i : Nat) (hi : i < m) (p : Nat) (cs : Array Value) (hp : cur[i]? = some (aB p)) (hpc : w0.heap[p]? = some (.cells cs 153 (0, 0))) (hpv : cs[1]? = some (.int .u32 (cv i))) (he : (cv i == tv) = true) {KX : Act → World → Prop} {KK : Act → World → Prop} {QQ : Exit → Act → World → Prop} (KH : ∀ a, Fr 25 a [(0, aB fb), (1, .int .u32 tv), (10, aC aV m m), (11, ay m), (12, ay i), (4, aB p)] → QQ .ret a w0) (a : Act) (HF : Fr 25 a [(0, aB fb), (1, .int .u32 tv), (10, aC aV m m), (11, ay m), (12, ay i)]) :
  (pR (spine Tryd.f71 1)).wp Tryd.prog (Exit.then KX (Exit.inBlock 0 (Exit.then KK QQ))) a w0 := by
 have HM : Mm [] w0 w0 [] := Mm.start w0
 obtain ⟨i0, his, hss⟩ := yE
 refine aO ?_
 refine wp_pure HF HM rfl 1 [] [(0, aB fb), (1, .int .u32 tv), (10, aC aV m m), (11, ay m), (12, ay i), (13, .bool (decide (((i : Nat) : Int) < ((m : Nat) : Int))))] (by kernel_rfl) fun a HF => ?_
 rw [show decide (((i : Nat) : Int) < ((m : Nat) : Int)) = true from dK (by omega)] at HF
 refine aA ?_
 refine wp_seq ?_
 refine bD HF rfl ?_
 refine wp_skip ?_
 repeat first | refine aK ?_ | refine aP ?_
 replace HF := HF.sub [(0, aB fb), (1, .int .u32 tv), (10, aC aV m m), (11, ay m), (12, ay i)] (by kernel_rfl)
 refine wp_seq (wp_block ?_)
 refine aO ?_
 refine dG HF (by kernel_rfl) (.pointer (some ⟨aV, i, none⟩)) (by kernel_rfl) (qY (t := 126) Tryd.underlying126 his hss rfl i rfl rfl (by omega)) fun a HF => ?_
 refine dG HF (by kernel_rfl) (aB p) (by kernel_rfl) (dV rfl rfl (by kernel_rfl) ((cell_of_row w0 aV i _ _ _ hsg).trans hp)) fun a HF => ?_
 refine wp_pure HF HM rfl 1 [] [(0, aB fb), (1, .int .u32 tv), (10, aC aV m m), (11, ay m), (12, ay i), (6, aB p)] (by kernel_rfl) fun a HF => ?_
 refine dF ?_
 refine wp_pure HF HM rfl 4 [] [(0, aB fb), (1, .int .u32 tv), (10, aC aV m m), (11, ay m), (12, ay i), (6, aB p), (19, .pointer (some ⟨p, 1, none⟩))] (by kernel_rfl) fun a HF => ?_
 refine dG HF (by kernel_rfl) (.int .u32 (cv i)) (by kernel_rfl) (dV rfl rfl (by kernel_rfl) ((cell_of_row w0 p 1 _ _ _ hpc).trans hpv)) fun a HF => ?_
 refine wp_pure HF HM rfl 2 [] [(0, aB fb), (1, .int .u32 tv), (10, aC aV m m), (11, ay m), (12, ay i), (6, aB p), (22, .bool (cv i == tv))] (by kernel_rfl) fun a HF => ?_
 rw [he] at HF
 refine aA ?_
 refine bD HF rfl ?_
 replace HF := HF.sub [(0, aB fb), (1, .int .u32 tv), (10, aC aV m m), (11, ay m), (12, ay i), (6, aB p)] (by kernel_rfl)
 refine aO ?_
 refine wp_pure HF HM rfl 2 [] [(0, aB fb), (1, .int .u32 tv), (10, aC aV m m), (11, ay m), (12, ay i), (4, aB p)] (by kernel_rfl) fun a HF => ?_
 refine aA ?_
 refine wp_ret ?_
 repeat first | refine bJ ?_ | refine bM ?_
 exact KH a HF
theorem CZ (fb aV m : Nat) (hm : m < 4611686018427387904) (tv : Int) (cv : Nat → Int) (cur : Array Value) (w0 : World) (hsg : w0.heap[aV]? = some (.cells cur 133 (0, 0))) (hc : ∀ j, j < m → ∃ p cs, cur[j]? = some (aB p) ∧ w0.heap[p]? = some (.cells cs 153 (0, 0)) ∧ cs[1]? = some (.int .u32 (cv j))) (k q : Nat) (hk : k < m) (hq : cur[k]? = some (aB q)) (he : (cv k == tv) = true) (hno : ∀ j, j < k → (cv j == tv) = false) {KK : Act → World → Prop} {QQ : Exit → Act → World → Prop} (KH : ∀ a, Fr 25 a [(0, aB fb), (1, .int .u32 tv), (10, aC aV m m), (11, ay m), (12, ay k), (4, aB q)] → QQ .ret a w0) : ∀ (r i : Nat), i + r = k → ∀ a, Fr 25 a [(0, aB fb), (1, .int .u32 tv), (10, aC aV m m), (11, ay m), (12, ay i)] → Code.rounds Tryd.prog (pR (spine Tryd.f71 1)) (Exit.inBlock 0 (Exit.then KK QQ)) (r + 1) a w0
 | 0, i, hr, a, HF => by
  rw [rounds_succ]
  obtain rfl : i = k := by omega
  obtain ⟨p, cs, h1, h2, h3⟩ := hc i hk
  have e : p = q := by rw [hq] at h1; injection h1 with h1; injection h1 with h1; injection h1 with h1; injection h1 with h1; exact h1.symm
  subst e
  exact JE fb aV m hm tv cv cur w0 hsg hc i hk p cs h1 h2 h3 he KH a HF
 | r + 1, i, hr, a, HF => by
  rw [rounds_succ]
  obtain ⟨p, cs, h1, h2, h3⟩ := hc i (by omega)
  exact IZ fb aV m hm tv cv cur w0 hsg hc i (by omega) p cs h1 h2 h3 (hno i (by omega)) (fun a HF => CZ fb aV m hm tv cv cur w0 hsg hc k q hk hq he hno KH r (i + 1) (by omega) a HF) a HF

theorem IY (fb aV m : Nat) (hm : m < 4611686018427387904) (tv : Int) (cv : Nat → Int) (cur : Array Value) (w0 : World) (hsg : w0.heap[aV]? = some (.cells cur 133 (0, 0))) (hc : ∀ j, j < m → ∃ p cs, cur[j]? = some (aB p) ∧ w0.heap[p]? = some (.cells cs 153 (0, 0)) ∧ cs[1]? = some (.int .u32 (cv j))) (Om : w0.cell? ⟨fb, 9, none⟩ = some (aC aV m m)) (k q : Nat) (hk : k < m) (hq : cur[k]? = some (aB q)) (he : (cv k == tv) = true) (hno : ∀ j, j < k → (cv j == tv) = false) : Calls Tryd.prog 71 #[aB fb, .int .u32 tv] w0 fun e w' => e = .returned (aB q) ∧ w' = w0 := by
 have HM : Mm [] w0 w0 [] := Mm.start w0
 refine cu Tryd.func71 rfl Tryd.ntmps71 [(0, aB fb), (1, .int .u32 tv)] (by kernel_rfl) (Nat.le_of_ble_eq_true rfl) ?_
 intro a HF
 refine oK HF HM rfl [] [(0, aB fb), (1, .int .u32 tv), (4, .pointer none)] (by kernel_rfl) fun a HF => ?_
 replace HF := HF.sub [(0, aB fb), (1, .int .u32 tv)] (by kernel_rfl)
 refine wp_seq (wp_seq (wp_region_lit ?_))
 refine wp_pure HF HM rfl 3 [] [(0, aB fb), (1, .int .u32 tv), (9, .pointer (some ⟨fb, 9, none⟩))] (by kernel_rfl) fun a HF => ?_
 refine dG HF (by kernel_rfl) (aC aV m m) (by kernel_rfl) (dV rfl rfl (by kernel_rfl) Om) fun a HF => ?_
 refine wp_pure HF HM rfl 2 [] [(0, aB fb), (1, .int .u32 tv), (10, aC aV m m), (11, ay m), (12, ay 0)] (by kernel_rfl) fun a HF => ?_
 refine aA ?_
 refine wp_block (wp_loop_rounds (k + 1) ?_)
 refine CZ fb aV m hm tv cv cur w0 hsg hc k q hk hq he hno (fun a HF => ?_) k 0 (by omega) a HF
 exact bQ HF rfl rfl ⟨rfl, rfl⟩

end Go.Proofs.YtdgehpocmfjbiaaDoor
namespace Go.Proofs.YtdgehpocmfjbiaaDoor
open Go.RowKit

structure n_ (x : b_) (b c z fb pg aV : Nat) (cur eU : Array Value) (w : World) : Prop where
 nc : x.img.file.length ≤ c
 cm : c ≤ maxLen
 ok : x.img.Ok
 at_ : rJ b 0 x.img.file.length c z w x.img.wide x.img.big x.img.abi x.img.aH x.img.ty x.img.machine x.img.entry x.img.dA.length x.img.all.length (Kv x.img) (jF x.img) (Ce x.img) fb pg aV cur eU
 row : Row w (some ⟨b, 0, none⟩) (x.img.file.map Bv)
section
variable {x : b_} {b c z fb pg aV : Nat} {cur eU : Array Value} {w0 : World}
theorem n_.below {w' : World} (h : n_ x b c z fb pg aV cur eU w0) (hb : Below w0.heap.size w0 w') : n_ x b c z fb pg aV cur eU w' := ⟨h.nc, h.cm, h.ok, h.at_.keep (Keep.of_below hb), h.row.below hb⟩
/-- impl.open on the bytes of a file -/
theorem N9 (x : b_) (A : Option Addr) (n c : Nat) (hn : n = x.img.file.length) (hnc : n ≤ c) (ok : x.img.Ok) (w0 : World) (hr : Row w0 A (x.img.file.map Bv)) :
  Calls Tryd.prog 55 #[.slice A n c] w0 fun e w' => ∃ g cap z fb pg aV cur eU, e = .returned (.tuple #[.pointer (some ⟨fb, 0, none⟩), .bool true]) ∧ Below w0.heap.size w0 w' ∧ w0.heap.size ≤ fb ∧ n_ x g cap z fb pg aV cur eU w' := by
 subst hn
 refine (open_any x.img.file A _ c rfl hnc x.img.wide x.img.big x.img.abi x.img.aH x.img.ty x.img.machine x.img.entry (gV x.img.wide) x.img.dA.length x.img.m_ x.img.all.length (Kv x.img) (jF x.img) (Ce x.img) (Jl ok) (by have hq := dU.Ok.length_le ok; omega) w0 hr).mono ?_
 rintro e w' ⟨g, cap, z, fb, pg, aV, cur, eU, rfl, hb, h1, h2, h3, h4, h5, h6⟩
 exact ⟨g, cap, z, fb, pg, aV, cur, eU, rfl, hb, Nat.le_trans h4 h6.zf, h1, h2, ok, h6, h5⟩
theorem n_.hc (h : n_ x b c z fb pg aV cur eU w0) : ∀ j, j < x.ps.length + 2 → ∃ p cs, eU[j]? = some (.pointer (some ⟨p, 0, none⟩)) ∧ w0.heap[p]? = some (.cells cs 153 (0, 0)) ∧ cs[1]? = some (.int .u32 (((jF x.img j).ty : Nat) : Int)) := fun j hj => by
 obtain ⟨pb, sb, h1, -, -, h4, -⟩ := h.at_.sec j (by rw [nY]; exact hj)
 exact ⟨pb, _, h1, h4, rfl⟩
theorem n_.Om (h : n_ x b c z fb pg aV cur eU w0) : w0.cell? ⟨fb, 9, none⟩ = some (.slice (some ⟨aV, 0, none⟩) (x.ps.length + 2) (x.ps.length + 2)) := by
 rw [cell_of_row w0 fb 9 _ _ _ h.at_.file, ← nY]
 rfl
theorem n_.small (h : n_ x b c z fb pg aV cur eU w0) : x.ps.length + 2 ≤ 104 := by
 have h2 : (x.ps.map dP.part).length ≤ 102 := h.ok.parts
 rw [List.length_map] at h2
 omega
theorem zq (h : n_ x b c z fb pg aV cur eU w0) (tv k pq : Nat) (hk : k < x.ps.length + 2) (hq : eU[k]? = some (.pointer (some ⟨pq, 0, none⟩))) (he : (jF x.img k).ty = tv) (hno : ∀ j, j < k → (jF x.img j).ty ≠ tv) : Calls Tryd.prog 71 #[.pointer (some ⟨fb, 0, none⟩), .int .u32 ((tv : Nat) : Int)] w0 fun e w' => e = .returned (.pointer (some ⟨pq, 0, none⟩)) ∧ w' = w0 :=
 IY fb aV (x.ps.length + 2) (by have := h.small; omega) tv (fun j => (((jF x.img j).ty : Nat) : Int)) eU w0 h.at_.secs h.hc h.Om k pq hk hq (nZ (by omega)) fun j hj => oM (by have := hno j hj; omega)
/-- (*Section).Data of a part that has bytes -/
theorem Ap (h : n_ x b c z fb pg aV cur eU w0) {k : Nat} {m : dP} (hm : x.ps[k]? = some m) (ho : dP.Ok x.wide m) (h8 : m.ty ≠ 8) (h0 : 0 < m.data.length) (pq : Nat) (hq : eU[k + 1]? = some (.pointer (some ⟨pq, 0, none⟩))) :
  Calls Tryd.prog 63 #[.pointer (some ⟨pq, 0, none⟩)] w0 fun e w' => ∃ g, e = .returned (.tuple #[.slice (some ⟨g, 0, none⟩) m.data.length m.data.length, .nilIface]) ∧ Below w0.heap.size w0 w' ∧ w0.heap.size ≤ g ∧ w'.heap[g]? = some (.cells (m.data.map Bv).toArray 5 (0, 0)) := by
 have hk := (List.getElem?_eq_some_iff.1 hm).1
 obtain ⟨pb, sb, q1, -, -, q4, q5⟩ := h.at_.sec (k + 1) (by rw [nY]; omega)
 obtain rfl : pq = pb := by rw [q1] at hq; injection hq with hq; injection hq with hq; injection hq with hq; injection hq with hq _ _; exact hq.symm
 have H := Jl h.ok
 have hbd := H.bd (k + 1) (by rw [nY]; omega)
 have hfs : (jF x.img (k + 1)).bP = m.data.length := by rw [OZ hm]; exact if_neg h8
 have hend := Rk x (k + 1) (by omega) (by omega) (by rw [F7 hm]; exact h8)
 have hby := OX x k hm h8
 have hd := ho.data
 have hlen := h.ok.length_le
 rw [hfs] at q4 q5 hend hby
 obtain ⟨_, _, eg, hgc⟩ := h.row.at_ (i := 0) (by rw [List.length_map]; omega)
 cases eg
 have hgl : b < w0.heap.size := cell_lt hgc
 have hgp : b ≠ pq := fun e => by subst e; have h1 := (cell_of_row w0 b 0 _ _ _ q4).symm.trans hgc; rw [List.getElem_map] at h1; simp [Bv] at h1
 have hgs : b ≠ sb := fun e => by subst e; have h1 := (cell_of_row w0 b 0 _ _ _ q5).symm.trans hgc; rw [List.getElem_map] at h1; simp [Bv] at h1
 have v4 := hbd.v4
 have v5 := hbd.v5
 rw [hfs] at v5
 have hD := Am ⟨(Ce x.img (k + 1)).toArray⟩ (((jF x.img (k + 1)).ty : Nat) : Int) (((jF x.img (k + 1)).flags : Nat) : Int) (((jF x.img (k + 1)).addr : Nat) : Int) (((jF x.img (k + 1)).off : Nat) : Int) (((jF x.img (k + 1)).link : Nat) : Int) (((jF x.img (k + 1)).info : Nat) : Int) (((jF x.img (k + 1)).align : Nat) : Int) (((jF x.img (k + 1)).ent : Nat) : Int) ((m.data.length : Nat) : Int) (.iface 144 (.pointer (some ⟨sb, 0, none⟩))) (.int .i64 0) (.int .i64 0) pq sb (SA hm h8) hbd.v9 (Rn hm ho.zip) x.img.file b 0 x.img.file.length c rfl h.nc m.data.length (jF x.img (k + 1)).off (((jF x.img (k + 1)).off : Nat) : Int) (((m.data.length : Nat) : Int) + (((jF x.img (k + 1)).off : Nat) : Int)) ((m.data.length : Nat) : Int) (by omega) (by omega) (by omega) (by omega) (by omega) h0 (by omega) w0 q4 q5 hgl hgs hgp (dD q4 q5 (by decide)) h.row
 refine hD.mono ?_
 rintro e w' ⟨g, rfl, h1, h2, h3⟩
 rw [Nat.add_zero, hby] at h3
 exact ⟨g, rfl, h1, h2, h3⟩
end
end Go.Proofs.YtdgehpocmfjbiaaDoor
namespace Go.Proofs.YtdgehpocmfjbiaaDoor
open Go.RowKit
section
variable {x : b_} {b c z fb pg aV : Nat} {cur eU : Array Value} {w0 : World}
theorem n_.Ri (h : n_ x b c z fb pg aV cur eU w0) (hw : x.wide = false) : w0.heap[fb]? = some (.cells #[.int .u8 1, .int .u8 (if x.img.big then 2 else 1 : Int), .int .u8 1, aX x.img.abi, aX x.img.aH, (aS x.img.big), bF x.img.ty, bF x.img.machine, aI x.img.entry, aC aV (x.ps.length + 2) (x.ps.length + 2), aC pg x.img.dA.length x.img.dA.length, .slice none 0 0, .slice none 0 0, .slice none 0 0] 131 (0, 0)) := by
 have h1 := h.at_.file
 rw [nY, show x.img.wide = false from hw] at h1
 exact h1
theorem n_.Rh (h : n_ x b c z fb pg aV cur eU w0) (hw : x.wide = true) : w0.heap[fb]? = some (.cells #[.int .u8 2, .int .u8 (if x.img.big then 2 else 1 : Int), .int .u8 1, aX x.img.abi, aX x.img.aH, (aS x.img.big), bF x.img.ty, bF x.img.machine, aI x.img.entry, aC aV (x.ps.length + 2) (x.ps.length + 2), aC pg x.img.dA.length x.img.dA.length, .slice none 0 0, .slice none 0 0, .slice none 0 0] 131 (0, 0)) := by
 have h1 := h.at_.file
 rw [nY, show x.img.wide = true from hw] at h1
 exact h1
end

theorem ED {x : b_} {b c z fb pg aV : Nat} {cur eU : Array Value} {w0 : World} (hF : n_ x b c z fb pg aV cur eU w0) (kl lk : Nat) (hlk : lk = kl + 1) {q : dP} (hq : x.ps[kl]? = some q) (ho : dP.Ok x.wide q) (h8 : q.ty ≠ 8) (h0 : 0 < q.data.length) :
  Calls Tryd.prog 90 #[aB fb, bn lk] w0 fun e w' => ∃ tb, e = .returned (.tuple #[aC tb q.data.length q.data.length, .nilIface]) ∧ Below w0.heap.size w0 w' ∧ w0.heap.size ≤ tb ∧ w'.heap[tb]? = some (.cells (q.data.map Bv).toArray 5 (0, 0)) := by
 have hk := (List.getElem?_eq_some_iff.1 hq).1
 have hsm := hF.small
 have hfb := hF.at_.file
 rw [nY] at hfb
 obtain ⟨i0, his, hss⟩ := yE
 obtain ⟨pq, sq, q1, -, -, q4, q5⟩ := hF.at_.sec lk (by rw [nY]; omega)
 obtain ⟨w, hw⟩ : ∃ w, w0 = w := ⟨_, rfl⟩
 have HM : Mm [] w0 w [] := hw ▸ Mm.start w0
 conv => arg 4; rw [hw]
 clear hw
 refine cu Tryd.func90 rfl Tryd.ntmps90 [(0, aB fb), (1, bn lk)] (by kernel_rfl) (Nat.le_of_ble_eq_true rfl) ?_
 intro a HF
 refine aO ?_
 refine wp_pure HF HM rfl 2 [] [(0, aB fb), (1, bn lk)] (by kernel_rfl) fun a HF => ?_
 refine aA ?_
 refine wp_seq ?_
 refine aO ?_
 refine wp_pure HF HM rfl 3 [] [(0, aB fb), (1, bn lk), (8, .bool (decide (((lk : Nat) : Int) ≤ 0)))] (by kernel_rfl) fun a HF => ?_
 rw [show decide (((lk : Nat) : Int) ≤ 0) = false from cZ (by omega)] at HF
 refine wp_pure HF HM rfl 4 [] [(0, aB fb), (1, bn lk), (8, .bool false), (9, bn lk), (12, .pointer (some ⟨fb, 9, none⟩))] (by kernel_rfl) fun a HF => ?_
 refine dG HF (by kernel_rfl) (aC aV (x.ps.length + 2) (x.ps.length + 2)) (by kernel_rfl) (dV rfl rfl (by kernel_rfl) ((cell_of_row w fb 9 _ _ _ (HM.old hfb)).trans rfl)) fun a HF => ?_
 refine wp_pure HF HM rfl 2 [] [(0, aB fb), (1, bn lk), (8, .bool false), (9, bn lk), (15, iR (IntKind.u32.wrap (((x.ps.length + 2) : Nat) : Int)))] (by kernel_rfl) fun a HF => ?_
 rw [show IntKind.u32.wrap (((x.ps.length + 2) : Nat) : Int) = (((x.ps.length + 2) : Nat) : Int) from IntWalk.u32_in _ (by omega)] at HF
 refine wp_pure HF HM rfl 2 [] [(0, aB fb), (1, bn lk), (17, .bool (decide ((((x.ps.length + 2) : Nat) : Int) ≤ ((lk : Nat) : Int))))] (by kernel_rfl) fun a HF => ?_
 refine aA ?_
 rw [show decide ((((x.ps.length + 2) : Nat) : Int) ≤ ((lk : Nat) : Int)) = false from cZ (by omega)] at HF
 refine aY HF rfl ?_
 refine wp_skip ?_
 repeat first | refine aK ?_ | refine aP ?_
 refine aO ?_
 refine wp_pure HF HM rfl 3 [] [(1, bn lk), (21, .pointer (some ⟨fb, 9, none⟩))] (by kernel_rfl) fun a HF => ?_
 refine dG HF (by kernel_rfl) (aC aV (x.ps.length + 2) (x.ps.length + 2)) (by kernel_rfl) (dV rfl rfl (by kernel_rfl) ((cell_of_row w fb 9 _ _ _ (HM.old hfb)).trans rfl)) fun a HF => ?_
 refine wp_pure HF HM rfl 1 [] [(22, aC aV (x.ps.length + 2) (x.ps.length + 2)), (23, bn lk)] (by kernel_rfl) fun a HF => ?_
 refine dG HF (by kernel_rfl) (.pointer (some ⟨aV, lk, none⟩)) (by kernel_rfl) ((qY Tryd.underlying126 his hss rfl lk (k := .u32) rfl rfl (by omega))) fun a HF => ?_
 refine dG HF (by kernel_rfl) (aB pq) (by kernel_rfl) (dV rfl rfl (by kernel_rfl) ((cell_of_row w aV lk _ _ _ (HM.old hF.at_.secs)).trans q1)) fun a HF => ?_
 refine bf HF (by kernel_rfl) 63 #[aB pq] (by kernel_rfl) (fun w => by kernel_rfl) (Calls.mono (Ap (hF.below HM.below) hq ho h8 h0 pq (hlk ▸ q1)) ?_)
 rintro _ w1 ⟨tb, rfl, hb, hge, hob⟩
 replace HM : Mm [] w0 w1 [(tb, .cells (q.data.map Bv).toArray 5 (0, 0))] := HM.push hb hge hob
 clear hb
 refine ⟨_, rfl, ?_⟩; clear HF; intro a HF
 refine wp_pure HF HM rfl 4 [] [(4, aC tb q.data.length q.data.length), (5, .nilIface)] (by kernel_rfl) fun a HF => ?_
 refine aA ?_
 refine wp_ret ?_
 repeat first | refine bJ ?_ | refine bM ?_
 exact jq HF rfl rfl rfl ⟨tb, rfl, HM.below, HM.ge (i := 0) rfl, HM.get (i := 0) rfl⟩

end Go.Proofs.YtdgehpocmfjbiaaDoor
namespace Go.Proofs.YtdgehpocmfjbiaaDoor
open Go.RowKit

open Go
/-- the first two parts of an image are a dynamic section and its texts -/
structure o8 (x : b_) (ps : List (Nat × Nat)) (ts : List (List UInt8)) : Prop where
 ex : ∃ p q, x.ps[0]? = some p ∧ x.ps[1]? = some q ∧ dP.Ok x.wide p ∧ dP.Ok x.wide q ∧ p.ty = 6 ∧ p.link = 2 ∧ q.ty ≠ 8 ∧ p.data = lM x.wide x.img.big ps ∧ q.data = aZ ts
 n0 : 0 < ps.length
 n1 : ps.length ≤ 2049
 tag : ∀ p ∈ ps, p.1 < 2147483648
 val : ∀ p ∈ ps, p.2 < 256 ^ iT x.wide
 tl : (aZ ts).length ≤ 1049601
theorem wW (wide big : Bool) (ps : List (Nat × Nat)) (X : List UInt8) (hX : X = lM wide big ps) (i : Nat) (p : Nat × Nat) (hp : ps[i]? = some p) (z : Nat) (hz : jw wide 0 = z) (h1 : p.1 < 256 ^ z) (h2 : p.2 < 256 ^ z) :
  num big X (2 * z * i + 0) z = p.1 ∧ num big X (2 * z * i + z) z = p.2 := by
 obtain ⟨hl, e⟩ := List.getElem?_eq_some_iff.1 hp
 obtain ⟨r, hr⟩ := Nz (Bq wide big) ps i hl
 have hlen : ((ps.take i).flatMap (Bq wide big)).length = 2 * z * i := by
  have := rV wide big (ps.take i)
  rw [List.length_take, Nat.min_eq_left (Nat.le_of_lt hl), hz] at this
  rw [Nat.mul_comm (2 * z) i]; exact this
 rw [hlen, e] at hr
 have hX' : X.drop (2 * z * i) = dR p.1 z big ++ (dR p.2 z big ++ r) := by
  rw [hX]; unfold lM; rw [hr]; unfold Bq; rw [hz, List.append_assoc]
 refine ⟨?_, ?_⟩
 ·unfold num
  rw [Nat.add_zero, hX', List.take_left' (bK _ _ _), Dt _ _ _ h1]
 ·unfold num
  rw [← List.drop_drop, hX', List.drop_left' (bK _ _ _), List.take_left' (bK _ _ _), Dt _ _ _ h2]
/-- the values of a tag -/
def dW (ps : List (Nat × Nat)) (tg i : Nat) : List Nat := ((ps.take i).filter (fun p => decide (p.1 = tg))).map (·.2)
theorem tC {ps : List (Nat × Nat)} {tg i : Nat} {p : Nat × Nat} (hp : ps[i]? = some p) (h : ((p.1 : Nat) : Int) = ((tg : Nat) : Int)) : dW ps tg (i + 1) = dW ps tg i ++ [p.2] := by
 unfold dW
 rw [qW hp, List.filter_append, List.filter_cons_of_pos (by simpa using Int.ofNat.inj h), List.map_append]; rfl
theorem yF {ps : List (Nat × Nat)} {tg i : Nat} {p : Nat × Nat} (hp : ps[i]? = some p) (h : ¬ ((p.1 : Nat) : Int) = ((tg : Nat) : Int)) : dW ps tg (i + 1) = dW ps tg i := by
 have h' : ¬ (decide (p.1 = tg)) = true := by rw [decide_eq_true_eq]; intro e; exact h (by rw [e])
 unfold dW
 rw [qW hp, List.filter_append, List.filter_cons_of_neg (p := fun (p : Nat × Nat) => decide (p.1 = tg)) h']; simp
theorem yG (ps : List (Nat × Nat)) (tg i : Nat) : (dW ps tg i).length ≤ ps.length := by
 unfold dW
 rw [List.length_map]
 exact Nat.le_trans (List.length_filter_le _ _) (by rw [List.length_take]; omega)
/-- the texts at the values of a tag -/
def kW (X : List UInt8) (k : Nat) : List UInt8 := (kR X k).getD []
def dh (X : List UInt8) (ps : List (Nat × Nat)) (tg i : Nat) : List (List UInt8) := (dW ps tg i).map (kW X)
theorem yH (X : List UInt8) (ps : List (Nat × Nat)) (tg i : Nat) : (dh X ps tg i).length ≤ ps.length := by unfold dh; rw [List.length_map]; exact yG ..
theorem uK {X : List UInt8} {ps : List (Nat × Nat)} {tg i : Nat} {p : Nat × Nat} (hp : ps[i]? = some p) (h : ((p.1 : Nat) : Int) = ((tg : Nat) : Int)) : dh X ps tg (i + 1) = dh X ps tg i ++ [kW X p.2] := by
 unfold dh; rw [tC hp h, List.map_append]; rfl
theorem Af {X : List UInt8} {ps : List (Nat × Nat)} {tg i : Nat} {p : Nat × Nat} (hp : ps[i]? = some p) (h : ¬ ((p.1 : Nat) : Int) = ((tg : Nat) : Int)) : dh X ps tg (i + 1) = dh X ps tg i := by
 unfold dh; rw [yF hp h]
theorem F9 (k n : Nat) : Int.tmod ((k * n : Nat) : Int) (k : Int) = 0 := by rw [Int.natCast_mul]; exact Int.mul_tmod_right _ _
theorem Dj {x : b_} {k : Nat} {m : dP} (hm : x.ps[k]? = some m) : (jF x.img (k + 1)).link = m.link := by unfold jF; rw [Fv hm]; rfl
theorem wF {P : Program} {t e : TypeId} {info : TypeInfo} (ht : P.underlying t = some (.slice e)) (hi : P.info? e = some info) {ρ : Operand → Value} {o : Oper} {s x : Operand} (ho : o.op = .call { callee := .builtin .append, args := #[s, x], argTypes := #[t, t] }) (hs : ρ s = .slice none 0 0) {A : Option Addr} {c : Nat} (hx : ρ x = .slice A 0 c) (w : World) :
  (execOp ρ o).run P w = .ok (.value (.slice none 0 0)) w := by
 unfold execOp
 simp only [ho]
 cases A <;> simp [resolve, invoke, builtin, hs, hx, Builtin.append_, run_underlying ht, sizeOf, typeInfo, hi, Builtin.lenOf, Builtin.firstCells, loadCells, loadCellsFrom, Result.andThen]
theorem Ea : (Tryd.prog.info? 5).map (·.size) = some 1 := by kernel_rfl

end Go.Proofs.YtdgehpocmfjbiaaDoor
