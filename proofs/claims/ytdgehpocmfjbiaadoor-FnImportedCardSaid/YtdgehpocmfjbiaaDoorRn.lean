/- What the sections of an image tell. · (*File).Section and (*File).SectionByType. · A file in memory, read from an image: its sections by type, their b -/
import Derived.Test.YtdgehpocmfjbiaaDoorRg
import Derived.Test.YtdgehpocmfjbiaaDoorRf
import Derived.Test.YtdgehpocmfjbiaaDoorRd
import Derived.Test.YtdgehpocmfjbiaaDoorRm
import Derived.Test.YtdgehpocmfjbiaaDoorRb
set_option linter.unusedVariables false
set_option linter.unusedSimpArgs false
set_option maxRecDepth 100000
set_option maxHeartbeats 2000000
namespace Go.Proofs.YtdgehpocmfjbiaaDoor
open Go.RowKit
theorem FW {x : bZ} {k : Nat} {m : dL} (hm : x.ps[k]? = some m) : x.img.all[k + 1]? = some m.part := by
 have hk := (List.getElem?_eq_some_iff.1 hm).1
 show (sW :: x.ps.map dL.part ++ [x.img.yD])[k + 1]? = _
 rw [List.getElem?_append_left (by simp; omega), List.getElem?_cons_succ, List.getElem?_map, hm]; rfl
theorem O4 (x : bZ) : x.img.all[x.ps.length + 1]? = some x.img.yD := by
 show (sW :: x.ps.map dL.part ++ [x.img.yD])[x.ps.length + 1]? = _
 rw [List.getElem?_append_right (by simp)]; simp
theorem Gi {x : bZ} {k : Nat} {m : dL} (hm : x.ps[k]? = some m) : (jw x.img (k + 1)).ty = m.ty := by unfold jw; rw [FW hm]; rfl
theorem Qw {x : bZ} {k : Nat} {m : dL} (hm : x.ps[k]? = some m) : (jw x.img (k + 1)).bP = rU m.ty m.size m.data.length := by unfold jw; rw [FW hm]; rfl
theorem Ux {x : bZ} {k : Nat} {m : dL} (hm : x.ps[k]? = some m) (h : m.ty ≠ 8) : ((((jw x.img (k + 1)).ty : Nat) : Int) == 8) = false := by rw [Gi hm]; exact rW (by omega)
theorem nb_at {x : bZ} {k : Nat} {m : dL} (hm : x.ps[k]? = some m) : CJ x.img (k + 1) = m.name := by
 have hk := (List.getElem?_eq_some_iff.1 hm).1
 have : x.img.names[k + 1]? = some m.name := by
  show ((sW :: x.ps.map dL.part).map (·.name) ++ [zJ])[k + 1]? = _
  rw [List.getElem?_append_left (by simp; omega), List.map_cons, List.getElem?_cons_succ, List.getElem?_map, List.getElem?_map, hm]; rfl
 unfold CJ; rw [this]; rfl
theorem LP (x : bZ) (k : Nat) {p : Part} (h0 : 0 < k) (hp : x.img.all[k]? = some p) : ∃ r, x.img.file.drop (x.img.jc k) = mW p ++ r := by
 obtain ⟨hlt, e⟩ := List.getElem?_eq_some_iff.1 hp
 obtain ⟨r, hr⟩ := x.img.Qv k h0 hlt
 rw [e] at hr
 exact ⟨r, hr⟩
theorem Qu (x : bZ) (k : Nat) {m : dL} (hm : x.ps[k]? = some m) (h8 : m.ty ≠ 8) : (x.img.file.drop (jw x.img (k + 1)).off).take (jw x.img (k + 1)).bP = m.data := by
 obtain ⟨r, hr⟩ := LP x (k + 1) (Nat.succ_pos k) (FW hm)
 have e : (jw x.img (k + 1)).off = x.img.jc (k + 1) := by unfold jw; rw [FW hm]
 have e2 : mW m.part = m.data := if_neg h8
 rw [Qw hm, e, hr, e2, show rU m.ty m.size m.data.length = m.data.length from if_neg h8, List.take_left]
theorem TI (x : bZ) (k : Nat) (h0 : 0 < k) (hk : k < x.ps.length + 2) (h8 : (jw x.img k).ty ≠ 8) : (jw x.img k).off + (jw x.img k).bP ≤ x.img.file.length := by
 have hk' : k < x.img.all.length := by rw [oI]; exact hk
 have hp : x.img.all[k]? = some x.img.all[k] := List.getElem?_eq_getElem hk'
 obtain ⟨r, hr⟩ := LP x k h0 hp
 have e0 : (jw x.img k).ty = x.img.all[k].ty := by unfold jw; rw [hp]
 have e : (jw x.img k).off = x.img.jc k := by unfold jw; rw [hp]
 have e1 : (jw x.img k).bP = sV x.img.all[k] := by unfold jw; rw [hp]
 have h9 : x.img.all[k].ty ≠ 8 := e0 ▸ h8
 have e2 : mW x.img.all[k] = x.img.all[k].data := if_neg h9
 have e3 : sV x.img.all[k] = x.img.all[k].data.length := if_neg h9
 have h1 := congrArg List.length hr
 rw [List.length_drop, List.length_append, e2] at h1
 rw [e, e1, e3]
 have h2 := x.img.vO k
 have h3 := x.img.CS
 omega
theorem Ut {nm : ByteArray} (h : vX nm = false) : nm.size < 7 ∨ ((nm.extract 0 7).toList == (⟨#[46, 122, 100, 101, 98, 117, 103]⟩ : ByteArray).toList) = false := by
 unfold vX at h
 by_cases h7 : 7 ≤ nm.size
 ·rw [decide_eq_true h7, Bool.true_and] at h
  exact .inr h
 ·exact .inl (by omega)
theorem TK {x : bZ} {k : Nat} {m : dL} (hm : x.ps[k]? = some m) (hz : vX ⟨m.name.toArray⟩ = false) : (⟨(CJ x.img (k + 1)).toArray⟩ : ByteArray).size < 7 ∨ (((⟨(CJ x.img (k + 1)).toArray⟩ : ByteArray).extract 0 7).toList == (⟨#[46, 122, 100, 101, 98, 117, 103]⟩ : ByteArray).toList) = false := by
 rw [nb_at hm]
 exact Ut hz
end Go.Proofs.YtdgehpocmfjbiaaDoor
namespace Go.Proofs.YtdgehpocmfjbiaaDoor
open Go.RowKit

theorem Ky (fb aV m : Nat) (hm : m < 4611686018427387904) (tv : Int) (cv : Nat → Int) (cur : Array Value) (w0 : World) (hsg : w0.heap[aV]? = some (.cells cur 133 (0, 0))) (hc : ∀ j, j < m → ∃ p cs, cur[j]? = some (aA p) ∧ w0.heap[p]? = some (.cells cs 153 (0, 0)) ∧ cs[1]? = some (.int .u32 (cv j))) (i : Nat) (hi : i = m) {KX : Act → World → Prop} {KK : Act → World → Prop} {QQ : Exit → Act → World → Prop} (KE : ∀ a, Fr 25 a [(0, aA fb), (1, .int .u32 tv), (10, aC aV m m), (11, ay m), (12, ay i)] → KK a w0) (a : Act) (HF : Fr 25 a [(0, aA fb), (1, .int .u32 tv), (10, aC aV m m), (11, ay m), (12, ay i)]) :
  (oP (spine Tryd.f71 1)).wp Tryd.prog (Exit.then KX (Exit.inBlock 0 (Exit.then KK QQ))) a w0 := by
 have HM : Mm [] w0 w0 [] := Mm.start w0
 obtain ⟨i0, his, hss⟩ := wF
 refine aN ?_
 refine wp_pure HF HM rfl 1 [] [(0, aA fb), (1, .int .u32 tv), (10, aC aV m m), (11, ay m), (12, ay i), (13, .bool (decide (((i : Nat) : Int) < ((m : Nat) : Int))))] (by kernel_rfl) fun a HF => ?_
 rw [show decide (((i : Nat) : Int) < ((m : Nat) : Int)) = false from dI (by omega)] at HF
 refine aB ?_
 refine wp_seq ?_
 refine aZ HF rfl ?_
 replace HF := HF.sub [(0, aA fb), (1, .int .u32 tv), (10, aC aV m m), (11, ay m), (12, ay i)] (by kernel_rfl)
 refine wp_exit ?_
 repeat (first | refine fG ?_ | refine iD ?_ | refine aK ?_)
 exact KE a HF

abbrev lS := fun (fb : Nat) (tv : Int) (aV : Nat) (m : Nat) (i : Nat) => ([(0, aA fb), (1, .int .u32 tv), (10, aC aV m m), (11, ay m), (12, ay i)] : Slots)
abbrev zB := fun (fb : Nat) (tv : Int) (aV : Nat) (m : Nat) => ([(0, aA fb), (1, .int .u32 tv), (10, aC aV m m), (11, ay m)] : Slots)
theorem Dt (fb aV m : Nat) (hm : m < 4611686018427387904) (tv : Int) (cv : Nat → Int) (cur : Array Value) (w0 : World) (hsg : w0.heap[aV]? = some (.cells cur 133 (0, 0))) (hc : ∀ j, j < m → ∃ p cs, cur[j]? = some (aA p) ∧ w0.heap[p]? = some (.cells cs 153 (0, 0)) ∧ cs[1]? = some (gV (cv j))) (i : Nat) (hi : i < m) (p : Nat) (cs : Array Value) (hp : cur[i]? = some (aA p)) (hpc : w0.heap[p]? = some (.cells cs 153 (0, 0))) (hpv : cs[1]? = some (gV (cv i))) (he : (cv i == tv) = false) {KX : Act → World → Prop} {KK : Act → World → Prop} {QQ : Exit → Act → World → Prop} (KR : ∀ a, Fr 25 a ((zB fb tv aV m) ++ [(12, ay (i + 1))]) → KX a w0) (a : Act) (HF : Fr 25 a (lS fb tv aV m i)) :
  (oP (spine Tryd.f71 1)).wp Tryd.prog (Exit.then KX (Exit.inBlock 0 (Exit.then KK QQ))) a w0 := by
 have HM : Mm [] w0 w0 [] := Mm.start w0
 obtain ⟨i0, his, hss⟩ := wF
 refine aN ?_
 refine wp_pure HF HM rfl 1 [] ((lS fb tv aV m i) ++ [(13, .bool (decide (((i : Nat) : Int) < ((m : Nat) : Int))))]) (by kernel_rfl) fun a HF => ?_
 rw [show decide (((i : Nat) : Int) < ((m : Nat) : Int)) = true from dV (by omega)] at HF
 refine aB ?_
 refine wp_seq ?_
 refine bC HF rfl ?_
 refine wp_skip ?_
 repeat first | refine aK ?_ | refine aS ?_
 replace HF := HF.sub (lS fb tv aV m i) (by kernel_rfl)
 refine wp_seq (wp_block ?_)
 refine aN ?_
 refine bU HF (by kernel_rfl) (.pointer (some ⟨aV, i, none⟩)) (by kernel_rfl) (qY (t := 126) Tryd.underlying126 his hss rfl i rfl rfl (by omega)) fun a HF => ?_
 refine bU HF (by kernel_rfl) (aA p) (by kernel_rfl) (dP rfl rfl (by kernel_rfl) ((cell_of_row w0 aV i _ _ _ hsg).trans hp)) fun a HF => ?_
 refine wp_pure HF HM rfl 1 [] ((lS fb tv aV m i) ++ [(6, aA p)]) (by kernel_rfl) fun a HF => ?_
 refine bT ?_
 refine wp_pure HF HM rfl 4 [] ((lS fb tv aV m i) ++ [(6, aA p), (19, .pointer (some ⟨p, 1, none⟩))]) (by kernel_rfl) fun a HF => ?_
 refine bU HF (by kernel_rfl) (gV (cv i)) (by kernel_rfl) (dP rfl rfl (by kernel_rfl) ((cell_of_row w0 p 1 _ _ _ hpc).trans hpv)) fun a HF => ?_
 refine wp_pure HF HM rfl 2 [] [(0, aA fb), (1, .int .u32 tv), (10, aC aV m m), (11, ay m), (12, ay i), (6, aA p), (22, .bool (cv i == tv))] (by kernel_rfl) fun a HF => ?_
 rw [he] at HF
 refine aB ?_
 refine aZ HF rfl ?_
 replace HF := HF.sub ((lS fb tv aV m i) ++ [(6, aA p)]) (by kernel_rfl)
 refine wp_skip ?_
 repeat first | refine aK ?_ | refine aS ?_
 replace HF := HF.sub (lS fb tv aV m i) (by kernel_rfl)
 refine wp_region_lit ?_
 refine wp_pure HF HM rfl 1 [] ((lS fb tv aV m i) ++ [(24, aF (IntKind.i64.wrap (((i : Nat) : Int) + 1)))]) (by kernel_rfl) fun a HF => ?_
 rw [show IntKind.i64.wrap (((i : Nat) : Int) + 1) = (((i + 1) : Nat) : Int) from (IntWalk.i64_in _ (by omega)).trans (by omega)] at HF
 refine wp_pure HF HM rfl 1 [] ((zB fb tv aV m) ++ [(12, ay (i + 1))]) (by kernel_rfl) fun a HF => ?_
 refine wpList_nil ?_
 repeat first | refine aK ?_ | refine aS ?_
 exact KR a HF

theorem Kw (fb aV m : Nat) (hm : m < 4611686018427387904) (tv : Int) (cv : Nat → Int) (cur : Array Value) (w0 : World) (hsg : w0.heap[aV]? = some (.cells cur 133 (0, 0))) (hc : ∀ j, j < m → ∃ p cs, cur[j]? = some (aA p) ∧ w0.heap[p]? = some (.cells cs 153 (0, 0)) ∧ cs[1]? = some (.int .u32 (cv j))) (i : Nat) (hi : i < m) (p : Nat) (cs : Array Value) (hp : cur[i]? = some (aA p)) (hpc : w0.heap[p]? = some (.cells cs 153 (0, 0))) (hpv : cs[1]? = some (.int .u32 (cv i))) (he : (cv i == tv) = true) {KX : Act → World → Prop} {KK : Act → World → Prop} {QQ : Exit → Act → World → Prop} (KH : ∀ a, Fr 25 a [(0, aA fb), (1, .int .u32 tv), (10, aC aV m m), (11, ay m), (12, ay i), (4, aA p)] → QQ .ret a w0) (a : Act) (HF : Fr 25 a [(0, aA fb), (1, .int .u32 tv), (10, aC aV m m), (11, ay m), (12, ay i)]) :
  (oP (spine Tryd.f71 1)).wp Tryd.prog (Exit.then KX (Exit.inBlock 0 (Exit.then KK QQ))) a w0 := by
 have HM : Mm [] w0 w0 [] := Mm.start w0
 obtain ⟨i0, his, hss⟩ := wF
 refine aN ?_
 refine wp_pure HF HM rfl 1 [] [(0, aA fb), (1, .int .u32 tv), (10, aC aV m m), (11, ay m), (12, ay i), (13, .bool (decide (((i : Nat) : Int) < ((m : Nat) : Int))))] (by kernel_rfl) fun a HF => ?_
 rw [show decide (((i : Nat) : Int) < ((m : Nat) : Int)) = true from dV (by omega)] at HF
 refine aB ?_
 refine wp_seq ?_
 refine bC HF rfl ?_
 refine wp_skip ?_
 repeat first | refine aK ?_ | refine aS ?_
 replace HF := HF.sub [(0, aA fb), (1, .int .u32 tv), (10, aC aV m m), (11, ay m), (12, ay i)] (by kernel_rfl)
 refine wp_seq (wp_block ?_)
 refine aN ?_
 refine bU HF (by kernel_rfl) (.pointer (some ⟨aV, i, none⟩)) (by kernel_rfl) (qY (t := 126) Tryd.underlying126 his hss rfl i rfl rfl (by omega)) fun a HF => ?_
 refine bU HF (by kernel_rfl) (aA p) (by kernel_rfl) (dP rfl rfl (by kernel_rfl) ((cell_of_row w0 aV i _ _ _ hsg).trans hp)) fun a HF => ?_
 refine wp_pure HF HM rfl 1 [] [(0, aA fb), (1, .int .u32 tv), (10, aC aV m m), (11, ay m), (12, ay i), (6, aA p)] (by kernel_rfl) fun a HF => ?_
 refine bT ?_
 refine wp_pure HF HM rfl 4 [] [(0, aA fb), (1, .int .u32 tv), (10, aC aV m m), (11, ay m), (12, ay i), (6, aA p), (19, .pointer (some ⟨p, 1, none⟩))] (by kernel_rfl) fun a HF => ?_
 refine bU HF (by kernel_rfl) (.int .u32 (cv i)) (by kernel_rfl) (dP rfl rfl (by kernel_rfl) ((cell_of_row w0 p 1 _ _ _ hpc).trans hpv)) fun a HF => ?_
 refine wp_pure HF HM rfl 2 [] [(0, aA fb), (1, .int .u32 tv), (10, aC aV m m), (11, ay m), (12, ay i), (6, aA p), (22, .bool (cv i == tv))] (by kernel_rfl) fun a HF => ?_
 rw [he] at HF
 refine aB ?_
 refine bC HF rfl ?_
 replace HF := HF.sub [(0, aA fb), (1, .int .u32 tv), (10, aC aV m m), (11, ay m), (12, ay i), (6, aA p)] (by kernel_rfl)
 refine aN ?_
 refine wp_pure HF HM rfl 2 [] [(0, aA fb), (1, .int .u32 tv), (10, aC aV m m), (11, ay m), (12, ay i), (4, aA p)] (by kernel_rfl) fun a HF => ?_
 refine aB ?_
 refine wp_ret ?_
 repeat first | refine bH ?_ | refine bM ?_
 exact KH a HF
theorem Ce (fb aV m : Nat) (hm : m < 4611686018427387904) (tv : Int) (cv : Nat → Int) (cur : Array Value) (w0 : World) (hsg : w0.heap[aV]? = some (.cells cur 133 (0, 0))) (hc : ∀ j, j < m → ∃ p cs, cur[j]? = some (aA p) ∧ w0.heap[p]? = some (.cells cs 153 (0, 0)) ∧ cs[1]? = some (.int .u32 (cv j))) (hno : ∀ j, j < m → (cv j == tv) = false) {KK : Act → World → Prop} {QQ : Exit → Act → World → Prop} (KE : ∀ a, Fr 25 a [(0, aA fb), (1, .int .u32 tv), (10, aC aV m m), (11, ay m), (12, ay m)] → KK a w0) : ∀ (r i : Nat), i + r = m → ∀ a, Fr 25 a [(0, aA fb), (1, .int .u32 tv), (10, aC aV m m), (11, ay m), (12, ay i)] → Code.rounds Tryd.prog (oP (spine Tryd.f71 1)) (Exit.inBlock 0 (Exit.then KK QQ)) (r + 1) a w0
 | 0, i, hr, a, HF => by
  rw [rounds_succ]
  obtain rfl : i = m := by omega
  exact Ky fb aV i hm tv cv cur w0 hsg hc i rfl KE a HF
 | r + 1, i, hr, a, HF => by
  rw [rounds_succ]
  obtain ⟨p, cs, h1, h2, h3⟩ := hc i (by omega)
  exact Dt fb aV m hm tv cv cur w0 hsg hc i (by omega) p cs h1 h2 h3 (hno i (by omega)) (fun a HF => Ce fb aV m hm tv cv cur w0 hsg hc hno KE r (i + 1) (by omega) a HF) a HF
theorem Du (fb aV m : Nat) (hm : m < 4611686018427387904) (tv : Int) (cv : Nat → Int) (cur : Array Value) (w0 : World) (hsg : w0.heap[aV]? = some (.cells cur 133 (0, 0))) (hc : ∀ j, j < m → ∃ p cs, cur[j]? = some (aA p) ∧ w0.heap[p]? = some (.cells cs 153 (0, 0)) ∧ cs[1]? = some (.int .u32 (cv j))) (k q : Nat) (hk : k < m) (hq : cur[k]? = some (aA q)) (he : (cv k == tv) = true) (hno : ∀ j, j < k → (cv j == tv) = false) {KK : Act → World → Prop} {QQ : Exit → Act → World → Prop} (KH : ∀ a, Fr 25 a [(0, aA fb), (1, .int .u32 tv), (10, aC aV m m), (11, ay m), (12, ay k), (4, aA q)] → QQ .ret a w0) : ∀ (r i : Nat), i + r = k → ∀ a, Fr 25 a [(0, aA fb), (1, .int .u32 tv), (10, aC aV m m), (11, ay m), (12, ay i)] → Code.rounds Tryd.prog (oP (spine Tryd.f71 1)) (Exit.inBlock 0 (Exit.then KK QQ)) (r + 1) a w0
 | 0, i, hr, a, HF => by
  rw [rounds_succ]
  obtain rfl : i = k := by omega
  obtain ⟨p, cs, h1, h2, h3⟩ := hc i hk
  have e : p = q := by rw [hq] at h1; injection h1 with h1; injection h1 with h1; injection h1 with h1; injection h1 with h1; exact h1.symm
  subst e
  exact Kw fb aV m hm tv cv cur w0 hsg hc i hk p cs h1 h2 h3 he KH a HF
 | r + 1, i, hr, a, HF => by
  rw [rounds_succ]
  obtain ⟨p, cs, h1, h2, h3⟩ := hc i (by omega)
  exact Dt fb aV m hm tv cv cur w0 hsg hc i (by omega) p cs h1 h2 h3 (hno i (by omega)) (fun a HF => Du fb aV m hm tv cv cur w0 hsg hc k q hk hq he hno KH r (i + 1) (by omega) a HF) a HF

theorem Jt (fb aV m : Nat) (hm : m < 4611686018427387904) (tv : Int) (cv : Nat → Int) (cur : Array Value) (w0 : World) (hsg : w0.heap[aV]? = some (.cells cur 133 (0, 0))) (hc : ∀ j, j < m → ∃ p cs, cur[j]? = some (aA p) ∧ w0.heap[p]? = some (.cells cs 153 (0, 0)) ∧ cs[1]? = some (.int .u32 (cv j))) (Gp : w0.cell? ⟨fb, 9, none⟩ = some (aC aV m m)) (hno : ∀ j, j < m → (cv j == tv) = false) : Calls Tryd.prog 71 #[aA fb, .int .u32 tv] w0 fun e w' => e = .returned (.pointer none) ∧ w' = w0 := by
 have HM : Mm [] w0 w0 [] := Mm.start w0
 refine bI Tryd.func71 rfl Tryd.ntmps71 [(0, aA fb), (1, .int .u32 tv)] (by kernel_rfl) (Nat.le_of_ble_eq_true rfl) ?_
 intro a HF
 refine oq HF HM rfl [] [(0, aA fb), (1, .int .u32 tv), (4, .pointer none)] (by kernel_rfl) fun a HF => ?_
 replace HF := HF.sub [(0, aA fb), (1, .int .u32 tv)] (by kernel_rfl)
 refine wp_seq (wp_seq (wp_region_lit ?_))
 refine wp_pure HF HM rfl 3 [] [(0, aA fb), (1, .int .u32 tv), (9, .pointer (some ⟨fb, 9, none⟩))] (by kernel_rfl) fun a HF => ?_
 refine bU HF (by kernel_rfl) (aC aV m m) (by kernel_rfl) (dP rfl rfl (by kernel_rfl) Gp) fun a HF => ?_
 refine wp_pure HF HM rfl 2 [] [(0, aA fb), (1, .int .u32 tv), (10, aC aV m m), (11, ay m), (12, ay 0)] (by kernel_rfl) fun a HF => ?_
 refine aB ?_
 refine wp_block (wp_loop_rounds (m + 1) ?_)
 refine Ce fb aV m hm tv cv cur w0 hsg hc hno (fun a HF => ?_) m 0 (by omega) a HF
 refine aN ?_
 refine wp_pure HF HM rfl 1 [] [(0, aA fb), (4, .pointer none)] (by kernel_rfl) fun a HF => ?_
 refine aB ?_
 refine wp_ret ?_
 exact dn HF rfl rfl ⟨rfl, rfl⟩

theorem Js (fb aV m : Nat) (hm : m < 4611686018427387904) (tv : Int) (cv : Nat → Int) (cur : Array Value) (w0 : World) (hsg : w0.heap[aV]? = some (.cells cur 133 (0, 0))) (hc : ∀ j, j < m → ∃ p cs, cur[j]? = some (aA p) ∧ w0.heap[p]? = some (.cells cs 153 (0, 0)) ∧ cs[1]? = some (.int .u32 (cv j))) (Gp : w0.cell? ⟨fb, 9, none⟩ = some (aC aV m m)) (k q : Nat) (hk : k < m) (hq : cur[k]? = some (aA q)) (he : (cv k == tv) = true) (hno : ∀ j, j < k → (cv j == tv) = false) : Calls Tryd.prog 71 #[aA fb, .int .u32 tv] w0 fun e w' => e = .returned (aA q) ∧ w' = w0 := by
 have HM : Mm [] w0 w0 [] := Mm.start w0
 refine bI Tryd.func71 rfl Tryd.ntmps71 [(0, aA fb), (1, .int .u32 tv)] (by kernel_rfl) (Nat.le_of_ble_eq_true rfl) ?_
 intro a HF
 refine oq HF HM rfl [] [(0, aA fb), (1, .int .u32 tv), (4, .pointer none)] (by kernel_rfl) fun a HF => ?_
 replace HF := HF.sub [(0, aA fb), (1, .int .u32 tv)] (by kernel_rfl)
 refine wp_seq (wp_seq (wp_region_lit ?_))
 refine wp_pure HF HM rfl 3 [] [(0, aA fb), (1, .int .u32 tv), (9, .pointer (some ⟨fb, 9, none⟩))] (by kernel_rfl) fun a HF => ?_
 refine bU HF (by kernel_rfl) (aC aV m m) (by kernel_rfl) (dP rfl rfl (by kernel_rfl) Gp) fun a HF => ?_
 refine wp_pure HF HM rfl 2 [] [(0, aA fb), (1, .int .u32 tv), (10, aC aV m m), (11, ay m), (12, ay 0)] (by kernel_rfl) fun a HF => ?_
 refine aB ?_
 refine wp_block (wp_loop_rounds (k + 1) ?_)
 refine Du fb aV m hm tv cv cur w0 hsg hc k q hk hq he hno (fun a HF => ?_) k 0 (by omega) a HF
 exact dn HF rfl rfl ⟨rfl, rfl⟩

end Go.Proofs.YtdgehpocmfjbiaaDoor
namespace Go.Proofs.YtdgehpocmfjbiaaDoor
open Go.RowKit

structure kR (x : bZ) (b c z fb pg aV : Nat) (cur dU : Array Value) (w : World) : Prop where
 nc : x.img.file.length ≤ c
 cm : c ≤ maxLen
 ok : x.img.Ok
 at_ : rJ b 0 x.img.file.length c z w x.img.wide x.img.big x.img.abi x.img.aH x.img.ty x.img.machine x.img.entry x.img.dJ.length x.img.all.length (LK x.img) (jw x.img) (CJ x.img) fb pg aV cur dU
 row : Row w (some ⟨b, 0, none⟩) (x.img.file.map Bv)
section
variable {x : bZ} {b c z fb pg aV : Nat} {cur dU : Array Value} {w0 : World}
theorem kR.below {w' : World} (h : kR x b c z fb pg aV cur dU w0) (hb : Below w0.heap.size w0 w') : kR x b c z fb pg aV cur dU w' := ⟨h.nc, h.cm, h.ok, h.at_.keep (Keep.of_below hb), h.row.below hb⟩
/-- impl.open on the bytes of a file -/
theorem Io (x : bZ) (A : Option Addr) (n c : Nat) (hn : n = x.img.file.length) (hnc : n ≤ c) (ok : x.img.Ok) (w0 : World) (hr : Row w0 A (x.img.file.map Bv)) :
  Calls Tryd.prog 55 #[.slice A n c] w0 fun e w' => ∃ g cap z fb pg aV cur dU, e = .returned (.tuple #[.pointer (some ⟨fb, 0, none⟩), .bool true]) ∧ Below w0.heap.size w0 w' ∧ w0.heap.size ≤ fb ∧ kR x g cap z fb pg aV cur dU w' := by
 subst hn
 refine (open_any x.img.file A _ c rfl hnc x.img.wide x.img.big x.img.abi x.img.aH x.img.ty x.img.machine x.img.entry (iw x.img.wide) x.img.dJ.length x.img.mZ x.img.all.length (LK x.img) (jw x.img) (CJ x.img) (JR ok) (by have hq := eH.Ok.length_le ok; omega) w0 hr).mono ?_
 rintro e w' ⟨g, cap, z, fb, pg, aV, cur, dU, rfl, hb, h1, h2, h3, h4, h5, h6⟩
 exact ⟨g, cap, z, fb, pg, aV, cur, dU, rfl, hb, Nat.le_trans h4 h6.zf, h1, h2, ok, h6, h5⟩
theorem kR.hc (h : kR x b c z fb pg aV cur dU w0) : ∀ j, j < x.ps.length + 2 → ∃ p cs, dU[j]? = some (.pointer (some ⟨p, 0, none⟩)) ∧ w0.heap[p]? = some (.cells cs 153 (0, 0)) ∧ cs[1]? = some (.int .u32 (((jw x.img j).ty : Nat) : Int)) := fun j hj => by
 obtain ⟨pb, sb, h1, -, -, h4, -⟩ := h.at_.sec j (by rw [oI]; exact hj)
 exact ⟨pb, _, h1, h4, rfl⟩
theorem kR.Gp (h : kR x b c z fb pg aV cur dU w0) : w0.cell? ⟨fb, 9, none⟩ = some (.slice (some ⟨aV, 0, none⟩) (x.ps.length + 2) (x.ps.length + 2)) := by
 rw [cell_of_row w0 fb 9 _ _ _ h.at_.file, ← oI]
 rfl
theorem kR.small (h : kR x b c z fb pg aV cur dU w0) : x.ps.length + 2 ≤ 104 := by
 have h2 : (x.ps.map dL.part).length ≤ 102 := h.ok.parts
 rw [List.length_map] at h2
 omega
theorem Dy (h : kR x b c z fb pg aV cur dU w0) (tv : Nat) (hno : ∀ j, j < x.ps.length + 2 → (jw x.img j).ty ≠ tv) : Calls Tryd.prog 71 #[.pointer (some ⟨fb, 0, none⟩), .int .u32 ((tv : Nat) : Int)] w0 fun e w' => e = .returned (.pointer none) ∧ w' = w0 :=
 Jt fb aV (x.ps.length + 2) (by have := h.small; omega) tv (fun j => (((jw x.img j).ty : Nat) : Int)) dU w0 h.at_.secs h.hc h.Gp fun j hj => rW (by have := hno j hj; omega)
theorem H9 (h : kR x b c z fb pg aV cur dU w0) (tv k pq : Nat) (hk : k < x.ps.length + 2) (hq : dU[k]? = some (.pointer (some ⟨pq, 0, none⟩))) (he : (jw x.img k).ty = tv) (hno : ∀ j, j < k → (jw x.img j).ty ≠ tv) : Calls Tryd.prog 71 #[.pointer (some ⟨fb, 0, none⟩), .int .u32 ((tv : Nat) : Int)] w0 fun e w' => e = .returned (.pointer (some ⟨pq, 0, none⟩)) ∧ w' = w0 :=
 Js fb aV (x.ps.length + 2) (by have := h.small; omega) tv (fun j => (((jw x.img j).ty : Nat) : Int)) dU w0 h.at_.secs h.hc h.Gp k pq hk hq (uK (by omega)) fun j hj => rW (by have := hno j hj; omega)
/-- (*Section).Data of a part that has bytes -/
theorem G9 (h : kR x b c z fb pg aV cur dU w0) {k : Nat} {m : dL} (hm : x.ps[k]? = some m) (ho : dL.Ok x.wide m) (h8 : m.ty ≠ 8) (h0 : 0 < m.data.length) (pq : Nat) (hq : dU[k + 1]? = some (.pointer (some ⟨pq, 0, none⟩))) :
  Calls Tryd.prog 63 #[.pointer (some ⟨pq, 0, none⟩)] w0 fun e w' => ∃ g, e = .returned (.tuple #[.slice (some ⟨g, 0, none⟩) m.data.length m.data.length, .nilIface]) ∧ Below w0.heap.size w0 w' ∧ w0.heap.size ≤ g ∧ w'.heap[g]? = some (.cells (m.data.map Bv).toArray 5 (0, 0)) := by
 have hk := (List.getElem?_eq_some_iff.1 hm).1
 obtain ⟨pb, sb, q1, -, -, q4, q5⟩ := h.at_.sec (k + 1) (by rw [oI]; omega)
 obtain rfl : pq = pb := by rw [q1] at hq; injection hq with hq; injection hq with hq; injection hq with hq; injection hq with hq _ _; exact hq.symm
 have H := JR h.ok
 have hbd := H.bd (k + 1) (by rw [oI]; omega)
 have hfs : (jw x.img (k + 1)).bP = m.data.length := by rw [Qw hm]; exact if_neg h8
 have hend := TI x (k + 1) (by omega) (by omega) (by rw [Gi hm]; exact h8)
 have hby := Qu x k hm h8
 have hd := ho.data
 have hlen := h.ok.length_le
 rw [hfs] at q4 q5 hend hby
 obtain ⟨_, _, eg, hgc⟩ := h.row.at_ (i := 0) (by rw [List.length_map]; omega)
 cases eg
 have hgl : b < w0.heap.size := cell_lt hgc
 have hgp : b ≠ pq := fun e => by subst e; have h1 := (cell_of_row w0 b 0 _ _ _ q4).symm.trans hgc; rw [List.getElem_map] at h1; simp [Bv] at h1
 have hgs : b ≠ sb := fun e => by subst e; have h1 := (cell_of_row w0 b 0 _ _ _ q5).symm.trans hgc; rw [List.getElem_map] at h1; simp [Bv] at h1
 have v4 := hbd.v4
 have v5 := hbd.v5
 rw [hfs] at v5
 have hD := AO ⟨(CJ x.img (k + 1)).toArray⟩ (((jw x.img (k + 1)).ty : Nat) : Int) (((jw x.img (k + 1)).flags : Nat) : Int) (((jw x.img (k + 1)).addr : Nat) : Int) (((jw x.img (k + 1)).off : Nat) : Int) (((jw x.img (k + 1)).link : Nat) : Int) (((jw x.img (k + 1)).info : Nat) : Int) (((jw x.img (k + 1)).align : Nat) : Int) (((jw x.img (k + 1)).ent : Nat) : Int) ((m.data.length : Nat) : Int) (.iface 144 (.pointer (some ⟨sb, 0, none⟩))) (.int .i64 0) (.int .i64 0) pq sb (Ux hm h8) hbd.v9 (TK hm ho.zip) x.img.file b 0 x.img.file.length c rfl h.nc m.data.length (jw x.img (k + 1)).off (((jw x.img (k + 1)).off : Nat) : Int) (((m.data.length : Nat) : Int) + (((jw x.img (k + 1)).off : Nat) : Int)) ((m.data.length : Nat) : Int) (by omega) (by omega) (by omega) (by omega) (by omega) h0 (by omega) w0 q4 q5 hgl hgs hgp (dK q4 q5 (by decide)) h.row
 refine hD.mono ?_
 rintro e w' ⟨g, rfl, h1, h2, h3⟩
 rw [Nat.add_zero, hby] at h3
 exact ⟨g, rfl, h1, h2, h3⟩
end
end Go.Proofs.YtdgehpocmfjbiaaDoor
namespace Go.Proofs.YtdgehpocmfjbiaaDoor
open Go.RowKit
section
variable {x : bZ} {b c z fb pg aV : Nat} {cur dU : Array Value} {w0 : World}
theorem kR.Qj (h : kR x b c z fb pg aV cur dU w0) (hw : x.wide = false) : w0.heap[fb]? = some (.cells #[.int .u8 1, .int .u8 (if x.img.big then 2 else 1 : Int), .int .u8 1, aT x.img.abi, aT x.img.aH, (aU x.img.big), bn x.img.ty, bn x.img.machine, aI x.img.entry, aC aV (x.ps.length + 2) (x.ps.length + 2), aC pg x.img.dJ.length x.img.dJ.length, .slice none 0 0, .slice none 0 0, .slice none 0 0] 131 (0, 0)) := by
 have h1 := h.at_.file
 rw [oI, show x.img.wide = false from hw] at h1
 exact h1
theorem kR.Qi (h : kR x b c z fb pg aV cur dU w0) (hw : x.wide = true) : w0.heap[fb]? = some (.cells #[.int .u8 2, .int .u8 (if x.img.big then 2 else 1 : Int), .int .u8 1, aT x.img.abi, aT x.img.aH, (aU x.img.big), bn x.img.ty, bn x.img.machine, aI x.img.entry, aC aV (x.ps.length + 2) (x.ps.length + 2), aC pg x.img.dJ.length x.img.dJ.length, .slice none 0 0, .slice none 0 0, .slice none 0 0] 131 (0, 0)) := by
 have h1 := h.at_.file
 rw [oI, show x.img.wide = true from hw] at h1
 exact h1
end

theorem EU {x : bZ} {b c z fb pg aV : Nat} {cur dU : Array Value} {w0 : World} (hF : kR x b c z fb pg aV cur dU w0) (kl lk : Nat) (hlk : lk = kl + 1) {q : dL} (hq : x.ps[kl]? = some q) (ho : dL.Ok x.wide q) (h8 : q.ty ≠ 8) (h0 : 0 < q.data.length) :
  Calls Tryd.prog 90 #[aA fb, aX lk] w0 fun e w' => ∃ tb, e = .returned (.tuple #[aC tb q.data.length q.data.length, .nilIface]) ∧ Below w0.heap.size w0 w' ∧ w0.heap.size ≤ tb ∧ w'.heap[tb]? = some (.cells (q.data.map Bv).toArray 5 (0, 0)) := by
 have hk := (List.getElem?_eq_some_iff.1 hq).1
 have hsm := hF.small
 have hfb := hF.at_.file
 rw [oI] at hfb
 obtain ⟨i0, his, hss⟩ := wF
 obtain ⟨pq, sq, q1, -, -, q4, q5⟩ := hF.at_.sec lk (by rw [oI]; omega)
 obtain ⟨w, hw⟩ : ∃ w, w0 = w := ⟨_, rfl⟩
 have HM : Mm [] w0 w [] := hw ▸ Mm.start w0
 conv => arg 4; rw [hw]
 clear hw
 refine bI Tryd.func90 rfl Tryd.ntmps90 [(0, aA fb), (1, aX lk)] (by kernel_rfl) (Nat.le_of_ble_eq_true rfl) ?_
 intro a HF
 refine aN ?_
 refine wp_pure HF HM rfl 2 [] [(0, aA fb), (1, aX lk)] (by kernel_rfl) fun a HF => ?_
 refine aB ?_
 refine wp_seq ?_
 refine aN ?_
 refine wp_pure HF HM rfl 3 [] [(0, aA fb), (1, aX lk), (8, .bool (decide (((lk : Nat) : Int) ≤ 0)))] (by kernel_rfl) fun a HF => ?_
 rw [show decide (((lk : Nat) : Int) ≤ 0) = false from dI (by omega)] at HF
 refine wp_pure HF HM rfl 4 [] [(0, aA fb), (1, aX lk), (8, .bool false), (9, aX lk), (12, .pointer (some ⟨fb, 9, none⟩))] (by kernel_rfl) fun a HF => ?_
 refine bU HF (by kernel_rfl) (aC aV (x.ps.length + 2) (x.ps.length + 2)) (by kernel_rfl) (dP rfl rfl (by kernel_rfl) ((cell_of_row w fb 9 _ _ _ (HM.old hfb)).trans rfl)) fun a HF => ?_
 refine wp_pure HF HM rfl 2 [] [(0, aA fb), (1, aX lk), (8, .bool false), (9, aX lk), (15, gV (IntKind.u32.wrap (((x.ps.length + 2) : Nat) : Int)))] (by kernel_rfl) fun a HF => ?_
 rw [show IntKind.u32.wrap (((x.ps.length + 2) : Nat) : Int) = (((x.ps.length + 2) : Nat) : Int) from IntWalk.u32_in _ (by omega)] at HF
 refine wp_pure HF HM rfl 2 [] [(0, aA fb), (1, aX lk), (17, .bool (decide ((((x.ps.length + 2) : Nat) : Int) ≤ ((lk : Nat) : Int))))] (by kernel_rfl) fun a HF => ?_
 refine aB ?_
 rw [show decide ((((x.ps.length + 2) : Nat) : Int) ≤ ((lk : Nat) : Int)) = false from dI (by omega)] at HF
 refine aZ HF rfl ?_
 refine wp_skip ?_
 repeat first | refine aK ?_ | refine aS ?_
 refine aN ?_
 refine wp_pure HF HM rfl 3 [] [(1, aX lk), (21, .pointer (some ⟨fb, 9, none⟩))] (by kernel_rfl) fun a HF => ?_
 refine bU HF (by kernel_rfl) (aC aV (x.ps.length + 2) (x.ps.length + 2)) (by kernel_rfl) (dP rfl rfl (by kernel_rfl) ((cell_of_row w fb 9 _ _ _ (HM.old hfb)).trans rfl)) fun a HF => ?_
 refine wp_pure HF HM rfl 1 [] [(22, aC aV (x.ps.length + 2) (x.ps.length + 2)), (23, aX lk)] (by kernel_rfl) fun a HF => ?_
 refine bU HF (by kernel_rfl) (.pointer (some ⟨aV, lk, none⟩)) (by kernel_rfl) ((qY Tryd.underlying126 his hss rfl lk (k := .u32) rfl rfl (by omega))) fun a HF => ?_
 refine bU HF (by kernel_rfl) (aA pq) (by kernel_rfl) (dP rfl rfl (by kernel_rfl) ((cell_of_row w aV lk _ _ _ (HM.old hF.at_.secs)).trans q1)) fun a HF => ?_
 refine bf HF (by kernel_rfl) 63 #[aA pq] (by kernel_rfl) (fun w => by kernel_rfl) (Calls.mono (G9 (hF.below HM.below) hq ho h8 h0 pq (hlk ▸ q1)) ?_)
 rintro _ w1 ⟨tb, rfl, hb, hge, hob⟩
 replace HM : Mm [] w0 w1 [(tb, .cells (q.data.map Bv).toArray 5 (0, 0))] := HM.push hb hge hob
 clear hb
 refine ⟨_, rfl, ?_⟩; clear HF; intro a HF
 refine wp_pure HF HM rfl 4 [] [(4, aC tb q.data.length q.data.length), (5, .nilIface)] (by kernel_rfl) fun a HF => ?_
 refine aB ?_
 refine wp_ret ?_
 repeat first | refine bH ?_ | refine bM ?_
 exact jK HF rfl rfl rfl ⟨tb, rfl, HM.below, HM.ge (i := 0) rfl, HM.get (i := 0) rfl⟩

end Go.Proofs.YtdgehpocmfjbiaaDoor
namespace Go.Proofs.YtdgehpocmfjbiaaDoor
open Go.RowKit

/-- an elf.Symbol as it lies in memory -/
def SL : List Value := [.string (⟨#[]⟩ : ByteArray), .int .u8 0, .int .u8 0, .bool false, .int .u16 0, .int .i64 0, .int .u64 0, .int .u64 0, .string (⟨#[]⟩ : ByteArray), .string (⟨#[]⟩ : ByteArray)]
def t_ (m : SymM) : List Value := [.string (⟨m.name.toArray⟩), .int .u8 ((m.info : Nat) : Int), .int .u8 ((m.other : Nat) : Int), .bool false, .int .u16 0, .int .i64 m.dH, .int .u64 ((m.value : Nat) : Int), .int .u64 ((m.size : Nat) : Int), .string (⟨#[]⟩ : ByteArray), .string (⟨#[]⟩ : ByteArray)]
def iW (l : List SymM) (i j : Nat) : List Value := if j < i then (match l[j]? with | some m => t_ m | none => SL) else SL
def putAt (f : Nat → List Value) (i : Nat) (c : List Value) (j : Nat) : List Value := if j = i then c else f j
theorem P9 (l : List SymM) (i j : Nat) : (iW l i j).length = 10 := by
 unfold iW
 split
 ·split <;> rfl
 ·rfl
theorem GV (l : List SymM) (n : Nat) : (List.range n).flatMap (fun _ => (Value.cells (.agg #[.string (⟨#[]⟩ : ByteArray), .int .u8 0, .int .u8 0, .bool false, .int .u16 0, .int .i64 0, .int .u64 0, .int .u64 0, .string (⟨#[]⟩ : ByteArray), .string (⟨#[]⟩ : ByteArray)])).toList) = (List.range n).flatMap (iW l 0) :=
 congrArg (fun f => (List.range n).flatMap f) (funext fun j => (if_neg (Nat.not_lt_zero j) : iW l 0 j = SL).symm)
theorem JG (l : List SymM) (i n : Nat) : (List.range n).flatMap (iW l i) = (List.range n).flatMap (putAt (iW l i) i [.string (⟨#[]⟩ : ByteArray), .int .u8 0, .int .u8 0, .bool false, .int .u16 0, .int .i64 0, .int .u64 0, .int .u64 0, .string (⟨#[]⟩ : ByteArray), .string (⟨#[]⟩ : ByteArray)]) :=
 congrArg (fun f => (List.range n).flatMap f) (funext fun j => by
  unfold putAt
  by_cases h : j = i
  ·rw [if_pos h]; subst h; exact if_neg (Nat.lt_irrefl j)
  ·rw [if_neg h])
theorem qQ (l : List SymM) (i n k : Nat) (c c' : List Value) (v : Value) (hi : i < n) (hk : k < 10) (hc : c.length = 10) (hs : c' = c.set k v) : ((List.range n).flatMap (putAt (iW l i) i c)).set (i * 10 + k) v = (List.range n).flatMap (putAt (iW l i) i c') := by
 refine LM (k := 10) (c := k) (fun j => ?_) hk (fun j hj => ?_) ?_ n hi
 ·unfold putAt; split
  ·exact hc
  ·exact P9 ..
 ·unfold putAt; rw [if_neg hj, if_neg hj]
 ·unfold putAt; rw [if_pos rfl, if_pos rfl, hs]
theorem L6 {l : List SymM} {i : Nat} {m : SymM} (hm : l[i]? = some m) (n : Nat) : (List.range n).flatMap (putAt (iW l i) i [.string (⟨m.name.toArray⟩), .int .u8 ((m.info : Nat) : Int), .int .u8 ((m.other : Nat) : Int), .bool false, .int .u16 0, .int .i64 m.dH, .int .u64 ((m.value : Nat) : Int), .int .u64 ((m.size : Nat) : Int), .string (⟨#[]⟩ : ByteArray), .string (⟨#[]⟩ : ByteArray)]) = (List.range n).flatMap (iW l (i + 1)) :=
 congrArg (fun f => (List.range n).flatMap f) (funext fun j => by
  unfold putAt
  by_cases h : j = i
  ·rw [if_pos h]; subst h; unfold iW; rw [if_pos (Nat.lt_succ_self j), hm]; rfl
  ·rw [if_neg h]; unfold iW
   by_cases h2 : j < i
   ·rw [if_pos h2, if_pos (by omega)]
   ·rw [if_neg h2, if_neg (by omega)])
theorem IX (l : List SymM) : (List.range l.length).flatMap (iW l l.length) = l.flatMap t_ := by
 have h : ∀ n, n ≤ l.length → (List.range n).flatMap (iW l l.length) = (l.take n).flatMap t_ := by
  intro n
  induction n with
  | zero => intro _; rfl
  | succ n ih =>
   intro hn
   rw [List.range_succ, List.flatMap_append, ih (by omega), List.take_succ_eq_append_getElem (by omega), List.flatMap_append, List.flatMap_singleton, List.flatMap_singleton]
   congr 1
   unfold iW
   rw [if_pos (by omega), List.getElem?_eq_getElem (by omega)]
 rw [h _ (Nat.le_refl _), List.take_length]
theorem MF : (Tryd.prog.info? 188).map (fun i => (i.zero, i.size, i.bytes)) = some (some (.agg #[.string (⟨#[]⟩ : ByteArray), .int .u8 0, .int .u8 0, .bool false, .int .u16 0, .int .i64 0, .int .u64 0, .int .u64 0, .string (⟨#[]⟩ : ByteArray), .string (⟨#[]⟩ : ByteArray)]), 10, 80) := by kernel_rfl
theorem Ov (k n : Nat) : Int.tmod ((k * n : Nat) : Int) (k : Int) = 0 := by rw [Int.natCast_mul]; exact Int.mul_tmod_right _ _
theorem Oy (k n : Nat) (hk : k ≠ 0) (hn : n ≤ 1000000) : IntKind.i64.wrap (Int.tdiv ((k * n : Nat) : Int) (k : Int)) = ((n : Nat) : Int) := by
 rw [Int.natCast_mul, Int.mul_tdiv_cancel_left _ (by omega)]
 exact IntWalk.i64_in _ (by omega)
theorem zh {big : Bool} {X row r : List UInt8} {o : Nat} (h : X.drop o = row ++ r) (k n : Nat) (hk : k + n ≤ row.length) : num big X (o + k) n = jP big ((row.drop k).take n) := by
 unfold num
 rw [← List.drop_drop, h, List.drop_append_of_le_length (by omega), List.take_append_of_le_length (by simp; omega)]
theorem Gu {X row r : List UInt8} {o : Nat} (h : X.drop o = row ++ r) (k v : Nat) (hk : k < row.length) (hv : v < 256) (e : row.getD k 0 = UInt8.ofNat v) : (X.map Bv).toArray[o + k * 1]? = some (.int .u8 ((v : Nat) : Int)) := by
 have h1 : X[o + k]? = row[k]? := by rw [← List.getElem?_drop, h, List.getElem?_append_left hk]
 have h2 : row[k]? = some (UInt8.ofNat v) := by rw [← e, List.getD_eq_getElem?_getD, List.getElem?_eq_getElem hk]; rfl
 simp only [Nat.mul_one, List.getElem?_toArray, List.getElem?_map, h1, h2, Option.map_some]
 unfold Bv
 simp; omega
theorem Om (wide big : Bool) (l : List SymM) (i : Nat) (m : SymM) (hm : l[i]? = some m) (k : Nat) (hk : gW wide = k) : ∃ r, (dN wide big l l.length).drop (k * (i + 1)) = kG wide big l i m ++ r := by
 obtain ⟨hl, e⟩ := List.getElem?_eq_some_iff.1 hm
 obtain ⟨r, h⟩ := zq (kG wide big l) k l (fun j a _ => (jh ..).trans hk) i hl
 refine ⟨r, ?_⟩
 unfold dN
 rw [List.take_length, show k * (i + 1) = k + i * k by rw [Nat.mul_succ, Nat.mul_comm, Nat.add_comm], ← List.drop_drop, hk, List.drop_left' (by simp), h, e]
theorem Oo {x : bZ} {k : Nat} {m : dL} (hm : x.ps[k]? = some m) : (jw x.img (k + 1)).link = m.link := by unfold jw; rw [FW hm]; rfl
theorem yG : (Tryd.prog.info? 5).map (·.size) = some 1 := by kernel_rfl
theorem nS : (Tryd.prog.info? 188).map (·.size) = some 10 := by kernel_rfl
theorem Lj {l : List SymM} {i : Nat} {m : SymM} {wide : Bool} (hm : l[i]? = some m) (hmo : SymM.Ok wide m) : nR (dB (dF l)) (nameAt (dF l) i) = some m.name := by
 obtain ⟨hl, e⟩ := List.getElem?_eq_some_iff.1 hm
 have hl' : i < (dF l).length := by rw [oL]; exact hl
 have e' : (dF l)[i] = m.name := by simp [dF, e]
 rw [Iz (dF l) i hl' (by rw [e']; exact hmo.Iq), e']
theorem TG (big : Bool) (l : List SymM) (X : List UInt8) (hX : X = dN false big l l.length) (i : Nat) (m : SymM) (hm : l[i]? = some m) (hmo : SymM.Ok false m) (hma : SymM.At m) (hna : nameAt (dF l) i ≤ 1049601) :
  num big X (16 * (i + 1) + 0) 4 = nameAt (dF l) i ∧ num big X (16 * (i + 1) + 4) 4 = m.value ∧ num big X (16 * (i + 1) + 8) 4 = m.size ∧ (X.map Bv).toArray[16 * (i + 1) + 12 * 1]? = some (.int .u8 ((m.info : Nat) : Int)) ∧ (X.map Bv).toArray[16 * (i + 1) + 13 * 1]? = some (.int .u8 ((m.other : Nat) : Int)) ∧ num big X (16 * (i + 1) + 14) 2 = m.dH.toNat := by
 obtain ⟨r, hr⟩ := Om false big l i m hm 16 rfl
 rw [← hX] at hr
 have hv1 : m.value < 256 ^ 4 := qN hmo.fit (n := m.value) (by simp) hma.value
 have hv2 : m.size < 256 ^ 4 := qN hmo.fit (n := m.size) (by simp) hma.size
 exact ⟨(zh hr 0 4 (by rw [jh]; decide)).trans (NP _ _ _ _ _ _ _ (by omega)), (zh hr 4 4 (by rw [jh]; decide)).trans (Lu _ _ _ _ _ _ _ hv1), (zh hr 8 4 (by rw [jh]; decide)).trans (NM _ _ _ _ _ _ _ hv2), Gu hr 12 _ (by rw [jh]; decide) hma.info (NQ ..), Gu hr 13 _ (by rw [jh]; decide) hma.other (LC ..), (zh hr 14 2 (by rw [jh]; decide)).trans (Pm _ _ _ _ _ _ _ (by have := hmo.s1; omega))⟩
theorem TF (big : Bool) (l : List SymM) (X : List UInt8) (hX : X = dN true big l l.length) (i : Nat) (m : SymM) (hm : l[i]? = some m) (hmo : SymM.Ok true m) (hma : SymM.At m) (hna : nameAt (dF l) i ≤ 1049601) :
  num big X (24 * (i + 1) + 0) 4 = nameAt (dF l) i ∧ (X.map Bv).toArray[24 * (i + 1) + 4 * 1]? = some (.int .u8 ((m.info : Nat) : Int)) ∧ (X.map Bv).toArray[24 * (i + 1) + 5 * 1]? = some (.int .u8 ((m.other : Nat) : Int)) ∧ num big X (24 * (i + 1) + 6) 2 = m.dH.toNat ∧ num big X (24 * (i + 1) + 8) 8 = m.value ∧ num big X (24 * (i + 1) + 16) 8 = m.size := by
 obtain ⟨r, hr⟩ := Om true big l i m hm 24 rfl
 rw [← hX] at hr
 have hv1 : m.value < 256 ^ 8 := hma.value
 have hv2 : m.size < 256 ^ 8 := hma.size
 exact ⟨(zh hr 0 4 (by rw [jh]; decide)).trans (NJ _ _ _ _ _ _ _ (by omega)), Gu hr 4 _ (by rw [jh]; decide) hma.info (NK ..), Gu hr 5 _ (by rw [jh]; decide) hma.other (Ls ..), (zh hr 6 2 (by rw [jh]; decide)).trans (Pj _ _ _ _ _ _ _ (by have := hmo.s1; omega)), (zh hr 8 8 (by rw [jh]; decide)).trans (Lr _ _ _ _ _ _ _ hv1), (zh hr 16 8 (by rw [jh]; decide)).trans (NI _ _ _ _ _ _ _ hv2)⟩

end Go.Proofs.YtdgehpocmfjbiaaDoor
