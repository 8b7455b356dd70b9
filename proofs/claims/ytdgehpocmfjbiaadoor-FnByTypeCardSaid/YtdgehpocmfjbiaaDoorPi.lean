/- impl.number. -/
import Derived.Test.YtdgehpocmfjbiaaDoorPf
import Derived.LaidEqlPtr
set_option linter.unusedVariables false
set_option linter.unusedSimpArgs false
namespace Go.Proofs.YtdgehpocmfjbiaaDoor
open Go.RowKit

theorem run_op_eql {P : Program} {w : World} {ρ : Operand → Value} {o : Oper} {T U te : TypeId} {x y : Operand} {j : TypeInfo} (ho : o.op = .binOp .eql T x y U) (hp : P.underlying T = some (.pointer te)) (hte : P.info? te = some j) (hsz : j.size ≠ 0) {p q : Nat} {ca cb : Array Value} {ta tb : TypeId} (hx : ρ x = pt_ p) (hy : ρ y = pt_ q) (ha : w.heap[p]? = some (.cells ca ta (0, 0))) (hb : w.heap[q]? = some (.cells cb tb (0, 0))) :
    (execOp ρ o).run P w = .ok (.value (.bool (decide (p = q)))) w := by
  unfold execOp
  simp only [ho, hx, hy]
  by_cases h : p = q
  · subst h
    have := run_eql_ptr_same (P := P) w (tp := T) ⟨p, 0, none⟩ hp hte
    simp [eqGuard, this]
  · have := run_eql_ptr_other (P := P) w (tp := T) (a := ⟨p, 0, none⟩) (b := ⟨q, 0, none⟩) hp hte hsz (by intro e; injection e with e; exact h e) ha hb
    simp [eqGuard, this, h]
theorem size_sect : ∃ i, Tryd.prog.info? 153 = some i ∧ i.size ≠ 0 := by
  have h : (Tryd.prog.info? 153).map (·.size) = some 15 := by kernel_rfl
  obtain ⟨i, h1, h2⟩ := Option.map_eq_some_iff.1 h
  exact ⟨i, h1, by omega⟩

set_option maxRecDepth 100000 in
set_option maxHeartbeats 1000000 in
theorem number_end (fb sg_ m : Nat) (hm : m < 4611686018427387904) (cur : Array Value) (w0 : World) (hsg : w0.heap[sg_]? = some (.cells cur 133 (0, 0))) (hc : ∀ j, j < m → ∃ p cs t, cur[j]? = some (pt_ p) ∧ w0.heap[p]? = some (.cells cs t (0, 0))) (i : Nat) (hi : i = m) {KX : Act → World → Prop} {KK : Act → World → Prop} {QQ : Exit → Act → World → Prop} (KE : ∀ a, Fr 22 a [(0, pt_ fb), (1, .pointer none), (10, sl_ sg_ m m), (11, i6_ m), (12, i6_ i)] → KK a w0) (a : Act) (HF : Fr 22 a [(0, pt_ fb), (1, .pointer none), (10, sl_ sg_ m m), (11, i6_ m), (12, i6_ i)]) :
    (lpOf (spine Tryd.f69 1)).wp Tryd.prog (Exit.then KX (Exit.inBlock 0 (Exit.then KK QQ))) a w0 := by
  have HM : Mm [] w0 w0 [] := Mm.start w0
  obtain ⟨i0, his, hss⟩ := size_ss
  obtain ⟨i2, his2, hss2⟩ := size_sect
  refine wp_seq (wp_region_lit ?_)
  refine wp_pure HF HM rfl 1 [] [(0, pt_ fb), (1, .pointer none), (10, sl_ sg_ m m), (11, i6_ m), (12, i6_ i), (13, .bool (decide (((i : Nat) : Int) < ((m : Nat) : Int))))] (by kernel_rfl) ?_
  clear HF; intro a HF
  rw [show decide (((i : Nat) : Int) < ((m : Nat) : Int)) = false from dec_f (by omega)] at HF
  refine nil_then ?_
  refine wp_seq ?_
  refine wp_condF HF rfl ?_
  replace HF := HF.sub [(0, pt_ fb), (1, .pointer none), (10, sl_ sg_ m m), (11, i6_ m), (12, i6_ i)] (by kernel_rfl)
  refine wp_exit ?_
  repeat (first | refine then_exit ?_ | refine inb_exit ?_ | refine then_norm ?_)
  exact KE a HF

abbrev number_nil_S0 := fun (fb : Nat) (sg_ : Nat) (m : Nat) (i : Nat) => ([(0, pt_ fb), (1, .pointer none), (10, sl_ sg_ m m), (11, i6_ m), (12, i6_ i)] : Slots)
abbrev number_nil_S1 := fun (fb : Nat) (sg_ : Nat) (m : Nat) => ([(0, pt_ fb), (1, .pointer none), (10, sl_ sg_ m m), (11, i6_ m)] : Slots)
set_option maxRecDepth 100000 in
set_option maxHeartbeats 1000000 in
theorem number_nil (fb sg_ m : Nat) (hm : m < 4611686018427387904) (cur : Array Value) (w0 : World) (hsg : w0.heap[sg_]? = some (.cells cur 133 (0, 0))) (hc : ∀ j, j < m → ∃ p cs t, cur[j]? = some (pt_ p) ∧ w0.heap[p]? = some (.cells cs t (0, 0))) (i : Nat) (hi : i < m) (p : Nat) (cs : Array Value) (t : TypeId) (hp : cur[i]? = some (pt_ p)) (hpc : w0.heap[p]? = some (.cells cs t (0, 0))) {KX : Act → World → Prop} {KK : Act → World → Prop} {QQ : Exit → Act → World → Prop} (KR : ∀ a, Fr 22 a ((number_nil_S1 fb sg_ m) ++ [(12, i6_ (i + 1))]) → KX a w0) (a : Act) (HF : Fr 22 a (number_nil_S0 fb sg_ m i)) :
    (lpOf (spine Tryd.f69 1)).wp Tryd.prog (Exit.then KX (Exit.inBlock 0 (Exit.then KK QQ))) a w0 := by
  have HM : Mm [] w0 w0 [] := Mm.start w0
  obtain ⟨i0, his, hss⟩ := size_ss
  obtain ⟨i2, his2, hss2⟩ := size_sect
  refine wp_seq (wp_region_lit ?_)
  refine wp_pure HF HM rfl 1 [] ((number_nil_S0 fb sg_ m i) ++ [(13, .bool (decide (((i : Nat) : Int) < ((m : Nat) : Int))))]) (by kernel_rfl) ?_
  clear HF; intro a HF
  rw [show decide (((i : Nat) : Int) < ((m : Nat) : Int)) = true from dec_t (by omega)] at HF
  refine nil_then ?_
  refine wp_seq ?_
  refine wp_condT HF rfl ?_
  refine wp_skip ?_
  repeat (first | refine then_norm ?_ | refine inb_norm ?_)
  replace HF := HF.sub (number_nil_S0 fb sg_ m i) (by kernel_rfl)
  refine wp_seq (wp_block ?_)
  refine wp_seq (wp_region_lit ?_)
  refine wp_pure HF HM rfl 1 [] ((number_nil_S0 fb sg_ m i) ++ [(14, i6_ i)]) (by kernel_rfl) ?_
  clear HF; intro a HF
  refine wp_run HF (by kernel_rfl) (.pointer (some ⟨sg_, i, none⟩)) (by kernel_rfl) (run_index (t := 126) Tryd.underlying126 his hss rfl i rfl rfl (by omega)) ?_
  clear HF; intro a HF; replace HF := HF.sub ((number_nil_S0 fb sg_ m i) ++ [(14, i6_ i), (15, .pointer (some ⟨sg_, i, none⟩))]) (by kernel_rfl)
  refine wp_run HF (by kernel_rfl) (pt_ p) (by kernel_rfl) (run_load_one rfl rfl (by kernel_rfl) ((cell_of_row w0 sg_ i _ _ _ hsg).trans hp)) ?_
  clear HF; intro a HF; replace HF := HF.sub ((number_nil_S0 fb sg_ m i) ++ [(14, i6_ i), (15, .pointer (some ⟨sg_, i, none⟩)), (16, pt_ p)]) (by kernel_rfl)
  refine wp_pure HF HM rfl 2 [] ((number_nil_S0 fb sg_ m i) ++ [(5, i6_ i), (6, pt_ p)]) (by kernel_rfl) ?_
  clear HF; intro a HF
  refine nil_then ?_
  refine wp_seq (wp_region_lit ?_)
  refine wp_pure HF HM rfl 2 [] ((number_nil_S0 fb sg_ m i) ++ [(5, i6_ i), (6, pt_ p), (17, pt_ p), (18, .pointer none)]) (by kernel_rfl) ?_
  clear HF; intro a HF
  refine wp_pure HF HM rfl 1 [] ((number_nil_S0 fb sg_ m i) ++ [(5, i6_ i), (6, pt_ p), (19, .bool false)]) (by kernel_rfl) ?_
  clear HF; intro a HF
  refine nil_then ?_
  refine wp_condF HF rfl ?_
  replace HF := HF.sub ((number_nil_S0 fb sg_ m i) ++ [(5, i6_ i), (6, pt_ p)]) (by kernel_rfl)
  refine wp_skip ?_
  repeat (first | refine then_norm ?_ | refine inb_norm ?_)
  replace HF := HF.sub (number_nil_S0 fb sg_ m i) (by kernel_rfl)
  refine wp_region_lit ?_
  refine wp_pure HF HM rfl 1 [] ((number_nil_S0 fb sg_ m i) ++ [(21, iI_ (IntKind.i64.wrap (((i : Nat) : Int) + 1)))]) (by kernel_rfl) ?_
  clear HF; intro a HF
  rw [show IntKind.i64.wrap (((i : Nat) : Int) + 1) = (((i + 1) : Nat) : Int) from (IntWalk.i64_in _ (by omega)).trans (by omega)] at HF
  refine wp_pure HF HM rfl 1 [] ((number_nil_S1 fb sg_ m) ++ [(12, i6_ (i + 1))]) (by kernel_rfl) ?_
  clear HF; intro a HF
  refine wpList_nil ?_
  repeat (first | refine then_norm ?_ | refine inb_norm ?_)
  exact KR a HF

abbrev number_miss_S0 := fun (fb : Nat) (q : Nat) (sg_ : Nat) (m : Nat) (i : Nat) => ([(0, pt_ fb), (1, pt_ q), (10, sl_ sg_ m m), (11, i6_ m), (12, i6_ i)] : Slots)
abbrev number_miss_S1 := fun (fb : Nat) (q : Nat) (sg_ : Nat) (m : Nat) => ([(0, pt_ fb), (1, pt_ q), (10, sl_ sg_ m m), (11, i6_ m)] : Slots)
set_option maxRecDepth 100000 in
set_option maxHeartbeats 1000000 in
theorem number_miss (fb sg_ m : Nat) (hm : m < 4611686018427387904) (cur : Array Value) (w0 : World) (hsg : w0.heap[sg_]? = some (.cells cur 133 (0, 0))) (hc : ∀ j, j < m → ∃ p cs t, cur[j]? = some (pt_ p) ∧ w0.heap[p]? = some (.cells cs t (0, 0))) (i : Nat) (hi : i < m) (p : Nat) (cs : Array Value) (t : TypeId) (hp : cur[i]? = some (pt_ p)) (hpc : w0.heap[p]? = some (.cells cs t (0, 0))) (q : Nat) (cq : Array Value) (tq : TypeId) (hqc : w0.heap[q]? = some (.cells cq tq (0, 0))) (hpq : ¬ p = q) {KX : Act → World → Prop} {KK : Act → World → Prop} {QQ : Exit → Act → World → Prop} (KR : ∀ a, Fr 22 a ((number_miss_S1 fb q sg_ m) ++ [(12, i6_ (i + 1))]) → KX a w0) (a : Act) (HF : Fr 22 a (number_miss_S0 fb q sg_ m i)) :
    (lpOf (spine Tryd.f69 1)).wp Tryd.prog (Exit.then KX (Exit.inBlock 0 (Exit.then KK QQ))) a w0 := by
  have HM : Mm [] w0 w0 [] := Mm.start w0
  obtain ⟨i0, his, hss⟩ := size_ss
  obtain ⟨i2, his2, hss2⟩ := size_sect
  refine wp_seq (wp_region_lit ?_)
  refine wp_pure HF HM rfl 1 [] ((number_miss_S0 fb q sg_ m i) ++ [(13, .bool (decide (((i : Nat) : Int) < ((m : Nat) : Int))))]) (by kernel_rfl) ?_
  clear HF; intro a HF
  rw [show decide (((i : Nat) : Int) < ((m : Nat) : Int)) = true from dec_t (by omega)] at HF
  refine nil_then ?_
  refine wp_seq ?_
  refine wp_condT HF rfl ?_
  refine wp_skip ?_
  repeat (first | refine then_norm ?_ | refine inb_norm ?_)
  replace HF := HF.sub (number_miss_S0 fb q sg_ m i) (by kernel_rfl)
  refine wp_seq (wp_block ?_)
  refine wp_seq (wp_region_lit ?_)
  refine wp_pure HF HM rfl 1 [] ((number_miss_S0 fb q sg_ m i) ++ [(14, i6_ i)]) (by kernel_rfl) ?_
  clear HF; intro a HF
  refine wp_run HF (by kernel_rfl) (.pointer (some ⟨sg_, i, none⟩)) (by kernel_rfl) (run_index (t := 126) Tryd.underlying126 his hss rfl i rfl rfl (by omega)) ?_
  clear HF; intro a HF; replace HF := HF.sub ((number_miss_S0 fb q sg_ m i) ++ [(14, i6_ i), (15, .pointer (some ⟨sg_, i, none⟩))]) (by kernel_rfl)
  refine wp_run HF (by kernel_rfl) (pt_ p) (by kernel_rfl) (run_load_one rfl rfl (by kernel_rfl) ((cell_of_row w0 sg_ i _ _ _ hsg).trans hp)) ?_
  clear HF; intro a HF; replace HF := HF.sub ((number_miss_S0 fb q sg_ m i) ++ [(14, i6_ i), (15, .pointer (some ⟨sg_, i, none⟩)), (16, pt_ p)]) (by kernel_rfl)
  refine wp_pure HF HM rfl 2 [] ((number_miss_S0 fb q sg_ m i) ++ [(5, i6_ i), (6, pt_ p)]) (by kernel_rfl) ?_
  clear HF; intro a HF
  refine nil_then ?_
  refine wp_seq (wp_region_lit ?_)
  refine wp_pure HF HM rfl 2 [] ((number_miss_S0 fb q sg_ m i) ++ [(5, i6_ i), (6, pt_ p), (17, pt_ p), (18, pt_ q)]) (by kernel_rfl) ?_
  clear HF; intro a HF
  refine wp_run HF (by kernel_rfl) (.bool (decide (p = q))) (by kernel_rfl) (run_op_eql rfl Tryd.underlying133 his2 hss2 rfl rfl hpc hqc) ?_
  clear HF; intro a HF; replace HF := HF.sub ((number_miss_S0 fb q sg_ m i) ++ [(5, i6_ i), (6, pt_ p), (17, pt_ p), (18, pt_ q), (19, .bool (decide (p = q)))]) (by kernel_rfl)
  replace HF := HF.sub ((number_miss_S0 fb q sg_ m i) ++ [(5, i6_ i), (6, pt_ p), (19, .bool (decide (p = q)))]) (by kernel_rfl)
  rw [show decide (p = q) = false from dec_f (hpq)] at HF
  refine nil_then ?_
  refine wp_condF HF rfl ?_
  replace HF := HF.sub ((number_miss_S0 fb q sg_ m i) ++ [(5, i6_ i), (6, pt_ p)]) (by kernel_rfl)
  refine wp_skip ?_
  repeat (first | refine then_norm ?_ | refine inb_norm ?_)
  replace HF := HF.sub (number_miss_S0 fb q sg_ m i) (by kernel_rfl)
  refine wp_region_lit ?_
  refine wp_pure HF HM rfl 1 [] ((number_miss_S0 fb q sg_ m i) ++ [(21, iI_ (IntKind.i64.wrap (((i : Nat) : Int) + 1)))]) (by kernel_rfl) ?_
  clear HF; intro a HF
  rw [show IntKind.i64.wrap (((i : Nat) : Int) + 1) = (((i + 1) : Nat) : Int) from (IntWalk.i64_in _ (by omega)).trans (by omega)] at HF
  refine wp_pure HF HM rfl 1 [] ((number_miss_S1 fb q sg_ m) ++ [(12, i6_ (i + 1))]) (by kernel_rfl) ?_
  clear HF; intro a HF
  refine wpList_nil ?_
  repeat (first | refine then_norm ?_ | refine inb_norm ?_)
  exact KR a HF

abbrev number_hit_S0 := fun (fb : Nat) (q : Nat) (sg_ : Nat) (m : Nat) (i : Nat) => ([(0, pt_ fb), (1, pt_ q), (10, sl_ sg_ m m), (11, i6_ m), (12, i6_ i)] : Slots)
set_option maxRecDepth 100000 in
set_option maxHeartbeats 1000000 in
theorem number_hit (fb sg_ m : Nat) (hm : m < 4611686018427387904) (cur : Array Value) (w0 : World) (hsg : w0.heap[sg_]? = some (.cells cur 133 (0, 0))) (hc : ∀ j, j < m → ∃ p cs t, cur[j]? = some (pt_ p) ∧ w0.heap[p]? = some (.cells cs t (0, 0))) (i : Nat) (hi : i < m) (p : Nat) (cs : Array Value) (t : TypeId) (hp : cur[i]? = some (pt_ p)) (hpc : w0.heap[p]? = some (.cells cs t (0, 0))) (q : Nat) (cq : Array Value) (tq : TypeId) (hqc : w0.heap[q]? = some (.cells cq tq (0, 0))) (hpq : p = q) {KX : Act → World → Prop} {KK : Act → World → Prop} {QQ : Exit → Act → World → Prop} (KH : ∀ a, Fr 22 a ((number_hit_S0 fb q sg_ m i) ++ [(4, i6_ i)]) → QQ .ret a w0) (a : Act) (HF : Fr 22 a (number_hit_S0 fb q sg_ m i)) :
    (lpOf (spine Tryd.f69 1)).wp Tryd.prog (Exit.then KX (Exit.inBlock 0 (Exit.then KK QQ))) a w0 := by
  have HM : Mm [] w0 w0 [] := Mm.start w0
  obtain ⟨i0, his, hss⟩ := size_ss
  obtain ⟨i2, his2, hss2⟩ := size_sect
  refine wp_seq (wp_region_lit ?_)
  refine wp_pure HF HM rfl 1 [] ((number_hit_S0 fb q sg_ m i) ++ [(13, .bool (decide (((i : Nat) : Int) < ((m : Nat) : Int))))]) (by kernel_rfl) ?_
  clear HF; intro a HF
  rw [show decide (((i : Nat) : Int) < ((m : Nat) : Int)) = true from dec_t (by omega)] at HF
  refine nil_then ?_
  refine wp_seq ?_
  refine wp_condT HF rfl ?_
  refine wp_skip ?_
  repeat (first | refine then_norm ?_ | refine inb_norm ?_)
  replace HF := HF.sub (number_hit_S0 fb q sg_ m i) (by kernel_rfl)
  refine wp_seq (wp_block ?_)
  refine wp_seq (wp_region_lit ?_)
  refine wp_pure HF HM rfl 1 [] ((number_hit_S0 fb q sg_ m i) ++ [(14, i6_ i)]) (by kernel_rfl) ?_
  clear HF; intro a HF
  refine wp_run HF (by kernel_rfl) (.pointer (some ⟨sg_, i, none⟩)) (by kernel_rfl) (run_index (t := 126) Tryd.underlying126 his hss rfl i rfl rfl (by omega)) ?_
  clear HF; intro a HF; replace HF := HF.sub ((number_hit_S0 fb q sg_ m i) ++ [(14, i6_ i), (15, .pointer (some ⟨sg_, i, none⟩))]) (by kernel_rfl)
  refine wp_run HF (by kernel_rfl) (pt_ p) (by kernel_rfl) (run_load_one rfl rfl (by kernel_rfl) ((cell_of_row w0 sg_ i _ _ _ hsg).trans hp)) ?_
  clear HF; intro a HF; replace HF := HF.sub ((number_hit_S0 fb q sg_ m i) ++ [(14, i6_ i), (15, .pointer (some ⟨sg_, i, none⟩)), (16, pt_ p)]) (by kernel_rfl)
  refine wp_pure HF HM rfl 2 [] ((number_hit_S0 fb q sg_ m i) ++ [(5, i6_ i), (6, pt_ p)]) (by kernel_rfl) ?_
  clear HF; intro a HF
  refine nil_then ?_
  refine wp_seq (wp_region_lit ?_)
  refine wp_pure HF HM rfl 2 [] ((number_hit_S0 fb q sg_ m i) ++ [(5, i6_ i), (6, pt_ p), (17, pt_ p), (18, pt_ q)]) (by kernel_rfl) ?_
  clear HF; intro a HF
  refine wp_run HF (by kernel_rfl) (.bool (decide (p = q))) (by kernel_rfl) (run_op_eql rfl Tryd.underlying133 his2 hss2 rfl rfl hpc hqc) ?_
  clear HF; intro a HF; replace HF := HF.sub ((number_hit_S0 fb q sg_ m i) ++ [(5, i6_ i), (6, pt_ p), (17, pt_ p), (18, pt_ q), (19, .bool (decide (p = q)))]) (by kernel_rfl)
  replace HF := HF.sub ((number_hit_S0 fb q sg_ m i) ++ [(5, i6_ i), (6, pt_ p), (19, .bool (decide (p = q)))]) (by kernel_rfl)
  rw [show decide (p = q) = true from dec_t (hpq)] at HF
  refine nil_then ?_
  refine wp_condT HF rfl ?_
  replace HF := HF.sub ((number_hit_S0 fb q sg_ m i) ++ [(5, i6_ i), (6, pt_ p)]) (by kernel_rfl)
  refine wp_seq (wp_region_lit ?_)
  refine wp_pure HF HM rfl 2 [] ((number_hit_S0 fb q sg_ m i) ++ [(4, i6_ i)]) (by kernel_rfl) ?_
  clear HF; intro a HF
  refine nil_then ?_
  refine wp_ret ?_
  repeat (first | refine then_ret ?_ | refine inb_ret ?_)
  exact KH a HF
theorem number_nils (fb sg_ m : Nat) (hm : m < 4611686018427387904) (cur : Array Value) (w0 : World) (hsg : w0.heap[sg_]? = some (.cells cur 133 (0, 0))) (hc : ∀ j, j < m → ∃ p cs t, cur[j]? = some (pt_ p) ∧ w0.heap[p]? = some (.cells cs t (0, 0))) {KK : Act → World → Prop} {QQ : Exit → Act → World → Prop} (KE : ∀ a, Fr 22 a [(0, pt_ fb), (1, .pointer none), (10, sl_ sg_ m m), (11, i6_ m), (12, i6_ m)] → KK a w0) : ∀ (r i : Nat), i + r = m → ∀ a, Fr 22 a [(0, pt_ fb), (1, .pointer none), (10, sl_ sg_ m m), (11, i6_ m), (12, i6_ i)] → Code.rounds Tryd.prog (lpOf (spine Tryd.f69 1)) (Exit.inBlock 0 (Exit.then KK QQ)) (r + 1) a w0
  | 0, i, hr, a, HF => by
    rw [rounds_succ]
    obtain rfl : i = m := by omega
    exact number_end fb sg_ i hm cur w0 hsg hc i rfl KE a HF
  | r + 1, i, hr, a, HF => by
    rw [rounds_succ]
    obtain ⟨p, cs, t, h1, h2⟩ := hc i (by omega)
    exact number_nil fb sg_ m hm cur w0 hsg hc i (by omega) p cs t h1 h2 (fun a HF => number_nils fb sg_ m hm cur w0 hsg hc KE r (i + 1) (by omega) a HF) a HF
theorem number_finds (fb sg_ m : Nat) (hm : m < 4611686018427387904) (cur : Array Value) (w0 : World) (hsg : w0.heap[sg_]? = some (.cells cur 133 (0, 0))) (hc : ∀ j, j < m → ∃ p cs t, cur[j]? = some (pt_ p) ∧ w0.heap[p]? = some (.cells cs t (0, 0))) (k q : Nat) (hk : k < m) (hq : cur[k]? = some (pt_ q)) (hne : ∀ j, j < k → cur[j]? ≠ cur[k]?) {KK : Act → World → Prop} {QQ : Exit → Act → World → Prop} (KH : ∀ a, Fr 22 a [(0, pt_ fb), (1, pt_ q), (10, sl_ sg_ m m), (11, i6_ m), (12, i6_ k), (4, i6_ k)] → QQ .ret a w0) : ∀ (r i : Nat), i + r = k → ∀ a, Fr 22 a [(0, pt_ fb), (1, pt_ q), (10, sl_ sg_ m m), (11, i6_ m), (12, i6_ i)] → Code.rounds Tryd.prog (lpOf (spine Tryd.f69 1)) (Exit.inBlock 0 (Exit.then KK QQ)) (r + 1) a w0
  | 0, i, hr, a, HF => by
    rw [rounds_succ]
    obtain rfl : i = k := by omega
    obtain ⟨p, cs, t, h1, h2⟩ := hc i hk
    have e : p = q := by rw [hq] at h1; injection h1 with h1; injection h1 with h1; injection h1 with h1; injection h1 with h1; exact h1.symm
    exact number_hit fb sg_ m hm cur w0 hsg hc i hk p cs t h1 h2 q cs t (e ▸ h2) e KH a HF
  | r + 1, i, hr, a, HF => by
    rw [rounds_succ]
    obtain ⟨p, cs, t, h1, h2⟩ := hc i (by omega)
    obtain ⟨p', cs', t', h1', h2'⟩ := hc k hk
    have e : p' = q := by rw [hq] at h1'; injection h1' with h1'; injection h1' with h1'; injection h1' with h1'; injection h1' with h1'; exact h1'.symm
    subst e
    exact number_miss fb sg_ m hm cur w0 hsg hc i (by omega) p cs t h1 h2 p' cs' t' h2' (fun e => hne i (by omega) (by rw [h1, hq, e])) (fun a HF => number_finds fb sg_ m hm cur w0 hsg hc k p' hk hq hne KH r (i + 1) (by omega) a HF) a HF

set_option maxRecDepth 100000 in
set_option maxHeartbeats 1000000 in
theorem number_none (fb sg_ m : Nat) (hm : m < 4611686018427387904) (cur : Array Value) (w0 : World) (hsg : w0.heap[sg_]? = some (.cells cur 133 (0, 0))) (hc : ∀ j, j < m → ∃ p cs t, cur[j]? = some (pt_ p) ∧ w0.heap[p]? = some (.cells cs t (0, 0))) (hfile : w0.cell? ⟨fb, 9, none⟩ = some (sl_ sg_ m m))  : Calls Tryd.prog 69 #[pt_ fb, .pointer none] w0 fun e w' => e = .returned (.int .i64 (-1)) ∧ w' = w0 := by
  have HM : Mm [] w0 w0 [] := Mm.start w0
  refine calls_start Tryd.func69 rfl Tryd.ntmps69 [(0, pt_ fb), (1, .pointer none)] (by kernel_rfl) (Nat.le_of_ble_eq_true rfl) ?_
  intro a HF
  refine reg_pure HF HM rfl [] [(0, pt_ fb), (1, .pointer none), (4, .int .i64 0)] (by kernel_rfl) ?_
  clear HF; intro a HF
  replace HF := HF.sub [(0, pt_ fb), (1, .pointer none)] (by kernel_rfl)
  refine wp_seq (wp_seq (wp_region_lit ?_))
  refine wp_pure HF HM rfl 3 [] [(0, pt_ fb), (1, .pointer none), (9, .pointer (some ⟨fb, 9, none⟩))] (by kernel_rfl) ?_
  clear HF; intro a HF
  refine wp_run HF (by kernel_rfl) (sl_ sg_ m m) (by kernel_rfl) (run_load_one rfl rfl (by kernel_rfl) hfile) ?_
  clear HF; intro a HF; replace HF := HF.sub [(0, pt_ fb), (1, .pointer none), (9, .pointer (some ⟨fb, 9, none⟩)), (10, sl_ sg_ m m)] (by kernel_rfl)
  refine wp_pure HF HM rfl 2 [] [(0, pt_ fb), (1, .pointer none), (10, sl_ sg_ m m), (11, i6_ m), (12, i6_ 0)] (by kernel_rfl) ?_
  clear HF; intro a HF
  refine nil_then ?_
  refine wp_block (wp_loop_rounds (m + 1) ?_)
  refine number_nils fb sg_ m hm cur w0 hsg hc (fun a HF => ?_) m 0 (by omega) a HF
  refine wp_seq (wp_region_lit ?_)
  replace HF := HF.sub [(0, pt_ fb), (1, .pointer none)] (by kernel_rfl)
  refine wp_pure HF HM rfl 1 [] [(0, pt_ fb), (1, .pointer none), (4, .int .i64 (-1))] (by kernel_rfl) ?_
  clear HF; intro a HF
  refine nil_then ?_
  refine wp_ret ?_
  exact ret_one HF rfl rfl ⟨rfl, rfl⟩

set_option maxRecDepth 100000 in
set_option maxHeartbeats 1000000 in
theorem number_of (fb sg_ m : Nat) (hm : m < 4611686018427387904) (cur : Array Value) (w0 : World) (hsg : w0.heap[sg_]? = some (.cells cur 133 (0, 0))) (hc : ∀ j, j < m → ∃ p cs t, cur[j]? = some (pt_ p) ∧ w0.heap[p]? = some (.cells cs t (0, 0))) (hfile : w0.cell? ⟨fb, 9, none⟩ = some (sl_ sg_ m m)) (k q : Nat) (hk : k < m) (hq : cur[k]? = some (pt_ q)) (hne : ∀ j, j < k → cur[j]? ≠ cur[k]?) : Calls Tryd.prog 69 #[pt_ fb, pt_ q] w0 fun e w' => e = .returned (i6_ k) ∧ w' = w0 := by
  have HM : Mm [] w0 w0 [] := Mm.start w0
  refine calls_start Tryd.func69 rfl Tryd.ntmps69 [(0, pt_ fb), (1, pt_ q)] (by kernel_rfl) (Nat.le_of_ble_eq_true rfl) ?_
  intro a HF
  refine reg_pure HF HM rfl [] [(0, pt_ fb), (1, pt_ q), (4, .int .i64 0)] (by kernel_rfl) ?_
  clear HF; intro a HF
  replace HF := HF.sub [(0, pt_ fb), (1, pt_ q)] (by kernel_rfl)
  refine wp_seq (wp_seq (wp_region_lit ?_))
  refine wp_pure HF HM rfl 3 [] [(0, pt_ fb), (1, pt_ q), (9, .pointer (some ⟨fb, 9, none⟩))] (by kernel_rfl) ?_
  clear HF; intro a HF
  refine wp_run HF (by kernel_rfl) (sl_ sg_ m m) (by kernel_rfl) (run_load_one rfl rfl (by kernel_rfl) hfile) ?_
  clear HF; intro a HF; replace HF := HF.sub [(0, pt_ fb), (1, pt_ q), (9, .pointer (some ⟨fb, 9, none⟩)), (10, sl_ sg_ m m)] (by kernel_rfl)
  refine wp_pure HF HM rfl 2 [] [(0, pt_ fb), (1, pt_ q), (10, sl_ sg_ m m), (11, i6_ m), (12, i6_ 0)] (by kernel_rfl) ?_
  clear HF; intro a HF
  refine nil_then ?_
  refine wp_block (wp_loop_rounds (k + 1) ?_)
  refine number_finds fb sg_ m hm cur w0 hsg hc k q hk hq hne (fun a HF => ?_) k 0 (by omega) a HF
  exact ret_one HF rfl rfl ⟨rfl, rfl⟩

end Go.Proofs.YtdgehpocmfjbiaaDoor
