/- Reads that fall short. · elf.NewFile, the pieces that end where a read falls short. -/
import Derived.Test.YtdgehpocmfjbiaaDoorUd
set_option linter.unusedVariables false
set_option linter.unusedSimpArgs false
set_option maxRecDepth 100000
set_option maxHeartbeats 2000000
namespace Go.Proofs.YtdgehpocmfjbiaaDoor
open Go.RowKit
theorem uN {w : World} {ea : Addr} (h : Row w (some ⟨2, 0, none⟩) [.iface 242 (.pointer (some ea))]) : w.cell? ⟨2, 0, none⟩ = some (.iface 242 (.pointer (some ea))) := by
 obtain ⟨b, off, e, hc⟩ := h 0 _ rfl
 cases e
 exact hc
theorem oz {w : World} {ea : Addr} (h : Row w (some ⟨2, 0, none⟩) [.iface 242 (.pointer (some ea))]) : 2 < w.heap.size := cell_lt (uN h)
theorem Lh {w : World} {A : Option Addr} {cs : List Value} (h : Row w A cs) (hp : 0 < cs.length) : ∃ b o, A = some ⟨b, o, none⟩ ∧ b < w.heap.size := by
 obtain ⟨b, off, e, hc⟩ := h 0 cs[0] (List.getElem?_eq_getElem hp)
 exact ⟨b, off, e, cell_lt hc⟩
theorem JC (ea : Addr) (w : World) : (binOp .neq 103 (.iface 242 (.pointer (some ea))) (.iface 242 (.pointer (some ea)))).run Tryd.prog w = .ok (.bool false) w := by
 have h1 : (Tryd.prog.info? 242).map (·.comparable) = some true := by kernel_rfl
 have h2 : (Tryd.prog.info? 244).map (·.size) = some 1 := by kernel_rfl
 obtain ⟨i, hi, hc⟩ := Option.map_eq_some_iff.1 h1
 obtain ⟨j, hj, -⟩ := Option.map_eq_some_iff.1 h2
 simp only [binOp]
 simp [Op.equal, Op.maxDepth, run_equalIn_iface_ptr_same w 9998 ea Tryd.underlying103 Tryd.underlying242 hi hc hj]
theorem FN (x y : Operand) (ea : Addr) (w : World) : (eqGuard .neq 103 x y (.iface 242 (.pointer (some ea))) (.iface 242 (.pointer (some ea)))).run Tryd.prog w = .ok () w := by
 simp [eqGuard]
theorem Aq {P : Program} {w : World} {ρ : Operand → Value} {o : Oper} {b : BinOp} {T U : TypeId} {x y : Operand} {u v r : Value} (ho : o.op = .binOp b T x y U) (hx : ρ x = u) (hy : ρ y = v) (hg : (eqGuard b T x y u v).run P w = .ok () w) (hr : (binOp b T u v).run P w = .ok r w) : (execOp ρ o).run P w = .ok (.value r) w := by
 unfold execOp
 simp only [ho, hx, hy, Sem.run_bind, hg, hr, Result.andThen_ok, Sem.run_pure]

abbrev iD := fun (s : Nat) (m : Nat) (off : Nat) => ([(0, .iface 144 (aG s)), (1, aJ m), (2, aB off)] : Slots)
abbrev qB := fun (s : Nat) (b : Nat) (o : Nat) (n : Nat) (c : Nat) (base : Nat) (bT : Int) (limit : Int) (sn : Int) => ((s, .cells #[.iface 178 (.slice (some ⟨b, o, none⟩) n c), aA (base : Nat), .int .i64 bT, .int .i64 limit, .int .i64 sn] 246 (0, 0)) : Nat × Obj)
theorem pR (l : List UInt8) (b o n c : Nat) (hl : n = l.length) (hnc : n ≤ c) (s : Nat) (m base off : Nat) (bT limit sn : Int) (k1 : ((base + off + m : Nat) : Int) ≤ limit) (k2 : limit ≤ 9223372036854775807) (k3 : ((base + off : Nat) : Int) < limit) (h0 : n ≤ base + off ∨ n < base + off + m) (hm0 : 0 < m) (hm1 : m < 10485760) (w0 : World) (hr : Row w0 (some ⟨b, o, none⟩) (l.map Bv)) (hbl : b < w0.heap.size) (hbs : b ≠ s) (hs : w0.heap[s]? = some (.cells #[.iface 178 (.slice (some ⟨b, o, none⟩) n c), aA (base : Nat), .int .i64 bT, .int .i64 limit, .int .i64 sn] 246 (0, 0))) (ea : Addr) (hE : Row w0 (some ⟨2, 0, none⟩) [.iface 242 (.pointer (some ea))]) (ou : 2 ≠ s) : Calls Tryd.prog 99 #[.iface 144 (aG s), aJ m, aB off] w0 fun e w' => e = .returned (.tuple #[aK, .iface 242 (.pointer (some ea))]) ∧ Below w0.heap.size w0 w' := by
 have hlt := oz hE
 obtain ⟨w, hw⟩ : ∃ w, w0 = w := ⟨_, rfl⟩
 have HM : Mm [] w0 w [] := hw ▸ Mm.start w0
 conv => arg 4; rw [hw]
 clear hw
 refine bV Tryd.func99 rfl Tryd.ntmps99 (iD s m off) (by kernel_rfl) (Nat.le_of_ble_eq_true rfl) ?_
 intro a HF
 replace HM : Mm [s] w0 w [qB s b o n c base bT limit sn] := HM.Jh hs (by simp)
 refine aW ?_
 refine wp_pure HF HM rfl 2 [] (iD s m off) (by kernel_rfl) fun a HF => ?_
 refine aI ?_
 refine wp_seq ?_
 refine aW ?_
 refine wp_pure HF HM rfl 2 [] ((iD s m off) ++ [(17, aA (IntKind.i64.wrap ((m : Nat) : Int)))]) (by kernel_rfl) fun a HF => ?_
 rw [show IntKind.i64.wrap ((m : Nat) : Int) = ((m : Nat) : Int) from IntWalk.i64_in _ (by omega)] at HF
 refine wp_pure HF HM rfl 2 [] ((iD s m off) ++ [(19, .bool (decide (((m : Nat) : Int) < 0)))]) (by kernel_rfl) fun a HF => ?_
 rw [show decide (((m : Nat) : Int) < 0) = false from bZ (by omega)] at HF
 refine wp_pure HF HM rfl 3 [] ((iD s m off) ++ [(19, .bool false), (20, aJ m), (22, aA (IntKind.i64.wrap ((m : Nat) : Int)))]) (by kernel_rfl) fun a HF => ?_
 rw [show IntKind.i64.wrap ((m : Nat) : Int) = ((m : Nat) : Int) from IntWalk.i64_in _ (by omega)] at HF
 refine wp_pure HF HM rfl 1 [] ((iD s m off) ++ [(19, .bool false), (20, aJ m), (23, bD (IntKind.u64.wrap ((m : Nat) : Int)))]) (by kernel_rfl) fun a HF => ?_
 rw [show IntKind.u64.wrap ((m : Nat) : Int) = ((m : Nat) : Int) from IntWalk.u64_in _ (by omega)] at HF
 refine wp_pure HF HM rfl 2 [] ((iD s m off) ++ [(25, .bool (((m : Nat) : Int) != ((m : Nat) : Int)))]) (by kernel_rfl) fun a HF => ?_
 refine aI ?_
 rw [show (((m : Nat) : Int) != ((m : Nat) : Int)) = false from Gy (fun hq => hq rfl)] at HF
 refine bf HF rfl ?_
 refine wp_skip ?_
 repeat first | refine aS ?_ | refine aU ?_
 refine wp_seq ?_
 refine aW ?_
 refine wp_pure HF HM rfl 2 [] ((iD s m off) ++ [(28, .bool (decide (((m : Nat) : Int) < 10485760)))]) (by kernel_rfl) fun a HF => ?_
 refine aI ?_
 rw [show decide (((m : Nat) : Int) < 10485760) = true from dM (by omega)] at HF
 refine bF HF rfl ?_
 refine aW ?_
 refine wp_pure HF HM rfl 1 [] ((iD s m off) ++ [(29, aJ m)]) (by kernel_rfl) fun a HF => ?_
 refine su HF HM rfl _ _ 33 rfl rfl 5 (aN 0) 1 Tryd.underlying33 qM rfl .u64 .u64 m rfl rfl (by omega) (by omega) ?_
 intro a w1 g hgw hbel bI HF2; have hg0 : w0.heap.size ≤ g := Nat.le_trans HM.size hgw; clear HF HM hbel hgw
 have HM : Mm [s] w0 w1 [(g, .cells (madeCells #[aN 0] m) 5 (0, 0)), qB s b o n c base bT limit sn] := bI
 have HF := HF2.sub ((iD s m off) ++ [(30, aH g m m)]) (by kernel_rfl); clear bI HF2
 refine wp_pure HF HM rfl 1 [] ((iD s m off) ++ [(8, aH g m m)]) (by kernel_rfl) fun a HF => ?_
 refine dK ?_
 refine wp_pure HF HM rfl 3 [] [(1, aJ m), (8, aH g m m), (32, .iface 144 (aG s)), (33, aH g m m), (34, aB off)] (by kernel_rfl) fun a HF => ?_
 have hbg : b ≠ g := by omega
 have u_ : 2 ≠ g := by omega
 refine bn HF (by kernel_rfl) 93 #[aG s, aH g m m, aB off] (by kernel_rfl) (fun w => by kernel_rfl) (Calls.mono (vH l (some ⟨b, o, none⟩) n c hl hnc g s _ 5 m m (kM _ _) base off bT limit sn k1 k2 k3 h0 w1 (HM.row hr (by intro b' o' s' e; injection e with e; injection e with e; subst e; simp [hbs])) (by intro b' o' s' e; injection e with e; injection e with e; subst e; exact ⟨hbg, hbs⟩) (HM.ne (i := 1) (j := 0) rfl rfl (by decide)) (HM.get (i := 1) rfl) (HM.get (i := 0) rfl) _ (uN (HM.row hE (by intro b' o' s' e; injection e with e; injection e with e; subst e; simp [ou]))) u_ ou) ?_)
 rintro _ w2 ⟨kk, rfl, hkp, hsn, cs', hgn, hcz⟩
 replace HM : Mm [s] w0 w2 [(g, .cells cs' 5 (0, 0)), qB s b o n c base bT limit sn] := HM.Bc (i := 1) (j := 0) rfl rfl (by decide) hsn hgn hkp
 clear hkp hsn
 refine ⟨_, rfl, ?_⟩; clear HF; intro a HF
 refine wp_pure HF HM rfl 5 [] [(1, aJ m), (8, aH g m m), (10, .iface 242 (.pointer (some ea)))] (by kernel_rfl) fun a HF => ?_
 refine aI ?_
 refine wp_seq ?_
 refine aW ?_
 refine wp_pure HF HM rfl 2 [] [(1, aJ m), (8, aH g m m), (10, .iface 242 (.pointer (some ea))), (39, .bool true)] (by kernel_rfl) fun a HF => ?_
 refine aI ?_
 refine bF HF rfl ?_
 refine aW ?_
 refine wp_pure HF HM rfl 1 [] [(1, aJ m), (8, aH g m m), (10, .iface 242 (.pointer (some ea))), (40, .iface 242 (.pointer (some ea)))] (by kernel_rfl) fun a HF => ?_
 refine dP HF (by kernel_rfl) (.iface 242 (.pointer (some ea))) (by kernel_rfl) (oH rfl rfl (HM.row hE (by intro b' o' s' e; injection e with e; injection e with e; subst e; simp [ou])) (by kernel_rfl)) fun a HF => ?_
 refine dP HF (by kernel_rfl) (.bool false) (by kernel_rfl) (Aq rfl rfl rfl (FN _ _ ea _) (JC ea _)) fun a HF => ?_
 refine wp_pure HF HM rfl 4 [] [(8, aH g m m), (10, .iface 242 (.pointer (some ea))), (46, .bool (decide (0 < ((m : Nat) : Int))))] (by kernel_rfl) fun a HF => ?_
 refine aI ?_
 rw [show decide (0 < ((m : Nat) : Int)) = true from dM (by omega)] at HF
 refine bF HF rfl ?_
 refine aW ?_
 refine wp_pure HF HM rfl 3 [] [(6, aK), (7, .iface 242 (.pointer (some ea)))] (by kernel_rfl) fun a HF => ?_
 refine aI ?_
 refine wp_ret ?_
 repeat first | refine cu ?_ | refine dw ?_
 exact h_ HF rfl rfl rfl ⟨rfl, (HM.keep.less (by rw [HM.get (i := 1) rfl, hs])).below⟩

abbrev iM := fun (s : Nat) (m : Nat) (off : Nat) => ([(0, .iface 144 (aG s)), (1, aJ m), (2, aB off)] : Slots)
abbrev qK := fun (s : Nat) (b : Nat) (o : Nat) (n : Nat) (c : Nat) (base : Nat) (bT : Int) (limit : Int) (sn : Int) => ((s, .cells #[.iface 178 (.slice (some ⟨b, o, none⟩) n c), aA (base : Nat), .int .i64 bT, .int .i64 limit, .int .i64 sn] 246 (0, 0)) : Nat × Obj)
theorem xH (l : List UInt8) (b o n c : Nat) (hl : n = l.length) (hnc : n ≤ c) (s : Nat) (m base off : Nat) (bT limit sn : Int) (k1 : ((base + off + m : Nat) : Int) ≤ limit) (k2 : limit ≤ 9223372036854775807) (k3 : ((base + off : Nat) : Int) < limit) (h0 : n ≤ base + off ∨ n < base + off + m) (hm0 : m = 0) (hm1 : m < 10485760) (w0 : World) (hr : Row w0 (some ⟨b, o, none⟩) (l.map Bv)) (hbl : b < w0.heap.size) (hbs : b ≠ s) (hs : w0.heap[s]? = some (.cells #[.iface 178 (.slice (some ⟨b, o, none⟩) n c), aA (base : Nat), .int .i64 bT, .int .i64 limit, .int .i64 sn] 246 (0, 0))) (ea : Addr) (hE : Row w0 (some ⟨2, 0, none⟩) [.iface 242 (.pointer (some ea))]) (ou : 2 ≠ s) : Calls Tryd.prog 99 #[.iface 144 (aG s), aJ m, aB off] w0 fun e w' => ∃ g, e = .returned (.tuple #[aH g m m, .nilIface]) ∧ Below w0.heap.size w0 w' ∧ w0.heap.size ≤ g ∧ w'.heap[g]? = some (.cells (((l.drop (base + off)).take m).map Bv).toArray 5 (0, 0)) := by
 have hlt := oz hE
 obtain ⟨w, hw⟩ : ∃ w, w0 = w := ⟨_, rfl⟩
 have HM : Mm [] w0 w [] := hw ▸ Mm.start w0
 conv => arg 4; rw [hw]
 clear hw
 refine bV Tryd.func99 rfl Tryd.ntmps99 (iM s m off) (by kernel_rfl) (Nat.le_of_ble_eq_true rfl) ?_
 intro a HF
 replace HM : Mm [s] w0 w [qK s b o n c base bT limit sn] := HM.Jh hs (by simp)
 refine aW ?_
 refine wp_pure HF HM rfl 2 [] (iM s m off) (by kernel_rfl) fun a HF => ?_
 refine aI ?_
 refine wp_seq ?_
 refine aW ?_
 refine wp_pure HF HM rfl 2 [] ((iM s m off) ++ [(17, aA (IntKind.i64.wrap ((m : Nat) : Int)))]) (by kernel_rfl) fun a HF => ?_
 rw [show IntKind.i64.wrap ((m : Nat) : Int) = ((m : Nat) : Int) from IntWalk.i64_in _ (by omega)] at HF
 refine wp_pure HF HM rfl 2 [] ((iM s m off) ++ [(19, .bool (decide (((m : Nat) : Int) < 0)))]) (by kernel_rfl) fun a HF => ?_
 rw [show decide (((m : Nat) : Int) < 0) = false from bZ (by omega)] at HF
 refine wp_pure HF HM rfl 3 [] ((iM s m off) ++ [(19, .bool false), (20, aJ m), (22, aA (IntKind.i64.wrap ((m : Nat) : Int)))]) (by kernel_rfl) fun a HF => ?_
 rw [show IntKind.i64.wrap ((m : Nat) : Int) = ((m : Nat) : Int) from IntWalk.i64_in _ (by omega)] at HF
 refine wp_pure HF HM rfl 1 [] ((iM s m off) ++ [(19, .bool false), (20, aJ m), (23, bD (IntKind.u64.wrap ((m : Nat) : Int)))]) (by kernel_rfl) fun a HF => ?_
 rw [show IntKind.u64.wrap ((m : Nat) : Int) = ((m : Nat) : Int) from IntWalk.u64_in _ (by omega)] at HF
 refine wp_pure HF HM rfl 2 [] ((iM s m off) ++ [(25, .bool (((m : Nat) : Int) != ((m : Nat) : Int)))]) (by kernel_rfl) fun a HF => ?_
 refine aI ?_
 rw [show (((m : Nat) : Int) != ((m : Nat) : Int)) = false from Gy (fun hq => hq rfl)] at HF
 refine bf HF rfl ?_
 refine wp_skip ?_
 repeat first | refine aS ?_ | refine aU ?_
 refine wp_seq ?_
 refine aW ?_
 refine wp_pure HF HM rfl 2 [] ((iM s m off) ++ [(28, .bool (decide (((m : Nat) : Int) < 10485760)))]) (by kernel_rfl) fun a HF => ?_
 refine aI ?_
 rw [show decide (((m : Nat) : Int) < 10485760) = true from dM (by omega)] at HF
 refine bF HF rfl ?_
 refine aW ?_
 refine wp_pure HF HM rfl 1 [] ((iM s m off) ++ [(29, aJ m)]) (by kernel_rfl) fun a HF => ?_
 refine su HF HM rfl _ _ 33 rfl rfl 5 (aN 0) 1 Tryd.underlying33 qM rfl .u64 .u64 m rfl rfl (by omega) (by omega) ?_
 intro a w1 g hgw hbel bI HF2; have hg0 : w0.heap.size ≤ g := Nat.le_trans HM.size hgw; clear HF HM hbel hgw
 have HM : Mm [s] w0 w1 [(g, .cells (madeCells #[aN 0] m) 5 (0, 0)), qK s b o n c base bT limit sn] := bI
 have HF := HF2.sub ((iM s m off) ++ [(30, aH g m m)]) (by kernel_rfl); clear bI HF2
 refine wp_pure HF HM rfl 1 [] ((iM s m off) ++ [(8, aH g m m)]) (by kernel_rfl) fun a HF => ?_
 refine dK ?_
 refine wp_pure HF HM rfl 3 [] [(1, aJ m), (8, aH g m m), (32, .iface 144 (aG s)), (33, aH g m m), (34, aB off)] (by kernel_rfl) fun a HF => ?_
 have hbg : b ≠ g := by omega
 have u_ : 2 ≠ g := by omega
 refine bn HF (by kernel_rfl) 93 #[aG s, aH g m m, aB off] (by kernel_rfl) (fun w => by kernel_rfl) (Calls.mono (vH l (some ⟨b, o, none⟩) n c hl hnc g s _ 5 m m (kM _ _) base off bT limit sn k1 k2 k3 h0 w1 (HM.row hr (by intro b' o' s' e; injection e with e; injection e with e; subst e; simp [hbs])) (by intro b' o' s' e; injection e with e; injection e with e; subst e; exact ⟨hbg, hbs⟩) (HM.ne (i := 1) (j := 0) rfl rfl (by decide)) (HM.get (i := 1) rfl) (HM.get (i := 0) rfl) _ (uN (HM.row hE (by intro b' o' s' e; injection e with e; injection e with e; subst e; simp [ou]))) u_ ou) ?_)
 rintro _ w2 ⟨kk, rfl, hkp, hsn, cs', hgn, hcz⟩
 replace HM : Mm [s] w0 w2 [(g, .cells cs' 5 (0, 0)), qK s b o n c base bT limit sn] := HM.Bc (i := 1) (j := 0) rfl rfl (by decide) hsn hgn hkp
 clear hkp hsn
 refine ⟨_, rfl, ?_⟩; clear HF; intro a HF
 replace HF := HF.sub [(1, aJ m), (8, aH g m m), (35, .tuple #[.int .i64 kk, .iface 242 (.pointer (some ea))])] (by kernel_rfl)
 have hcs : cs' = (((l.drop (base + off)).take m).map Bv).toArray := by subst hm0; exact Array.eq_empty_of_size_eq_zero (hcz.trans (kM _ _))
 refine wp_pure HF HM rfl 5 [] [(1, aJ m), (8, aH g m m), (10, .iface 242 (.pointer (some ea)))] (by kernel_rfl) fun a HF => ?_
 refine aI ?_
 refine wp_seq ?_
 refine aW ?_
 refine wp_pure HF HM rfl 2 [] [(1, aJ m), (8, aH g m m), (10, .iface 242 (.pointer (some ea))), (39, .bool true)] (by kernel_rfl) fun a HF => ?_
 refine aI ?_
 refine bF HF rfl ?_
 refine aW ?_
 refine wp_pure HF HM rfl 1 [] [(1, aJ m), (8, aH g m m), (10, .iface 242 (.pointer (some ea))), (40, .iface 242 (.pointer (some ea)))] (by kernel_rfl) fun a HF => ?_
 refine dP HF (by kernel_rfl) (.iface 242 (.pointer (some ea))) (by kernel_rfl) (oH rfl rfl (HM.row hE (by intro b' o' s' e; injection e with e; injection e with e; subst e; simp [ou])) (by kernel_rfl)) fun a HF => ?_
 refine dP HF (by kernel_rfl) (.bool false) (by kernel_rfl) (Aq rfl rfl rfl (FN _ _ ea _) (JC ea _)) fun a HF => ?_
 refine wp_pure HF HM rfl 4 [] [(8, aH g m m), (10, .iface 242 (.pointer (some ea))), (46, .bool (decide (0 < ((m : Nat) : Int))))] (by kernel_rfl) fun a HF => ?_
 refine aI ?_
 rw [show decide (0 < ((m : Nat) : Int)) = false from bZ (by omega)] at HF
 refine bf HF rfl ?_
 refine wp_skip ?_
 repeat first | refine aS ?_ | refine aU ?_
 refine aW ?_
 refine wp_pure HF HM rfl 3 [] [(6, aH g m m), (7, .nilIface)] (by kernel_rfl) fun a HF => ?_
 refine aI ?_
 refine wp_ret ?_
 repeat first | refine cu ?_ | refine dw ?_
 exact h_ HF rfl rfl rfl ⟨g, rfl, (HM.keep.less (by rw [HM.get (i := 1) rfl, hs])).below, hg0, by rw [HM.get (i := 0) rfl, hcs]⟩

end Go.Proofs.YtdgehpocmfjbiaaDoor
namespace Go.Proofs.YtdgehpocmfjbiaaDoor
open Go.RowKit

abbrev Ae := fun (fb : Nat) (dat : Int) (abi : Nat) (aC : Nat) (big : Bool) => ((fb, .cells #[aN 1, .int .u8 dat, aN 1, aV abi, aV aC, (aP big), .int .u16 0, .int .u16 0, bD 0, aK, aK, aK, aK, aK] 131 (0, 0)) : Nat × Obj)
abbrev Ad := fun (s : Nat) (b : Nat) (o : Nat) (n : Nat) (c : Nat) => ((s, .cells #[.iface 178 (.slice (some ⟨b, o, none⟩) n c), aA 0, aA 0, aA 9223372036854775807, aA 9223372036854775807] 246 (0, 0)) : Nat × Obj)
abbrev oO := fun (b : Nat) (o : Nat) (n : Nat) (c : Nat) (s : Nat) (fb : Nat) (big : Bool) => ([(0, .iface 178 (.slice (some ⟨b, o, none⟩) n c)), (4, aG s), (8, aG fb), (9, (aP big))] : Slots)
theorem Jw (l : List UInt8) (b o n c : Nat) (hl : n = l.length) (hnc : n ≤ c) (hsh : n < 52) (big : Bool) (abi aC : Nat) (dat : Int) {Q : Exit → Act → World → Prop} (w0 : World) (hbl : b < w0.heap.size) (hr : Row w0 (some ⟨b, o, none⟩) (l.map Bv)) (ea : Addr) (hE : Row w0 (some ⟨2, 0, none⟩) [.iface 242 (.pointer (some ea))]) (a : Act) (w : World) (s fb : Nat) (HF : Fr 1287 a (oO b o n c s fb big)) (HM : Mm [] w0 w [Ae fb dat abi aC big, Ad s b o n c]) (K : ∀ a w', Fr 1287 a [(2, .pointer none), (3, .iface 242 (.pointer (some ea)))] → Keep [] w0 w' → Q .ret a w') : (spine Tryd.f78 20).wp Tryd.prog Q a w := by
 have hlt := oz hE
 refine wp_seq ?_
 refine aW ?_
 refine wp_pure HF HM rfl 5 [[1]] ((oO b o n c s fb big) ++ [(188, aN 1)]) (by kernel_rfl) fun a HF => ?_
 refine aI ?_
 refine wp_block ?_
 refine aW ?_
 refine wp_pure HF HM rfl 2 [] ((oO b o n c s fb big) ++ [(188, aN 1), (189, .bool true)]) (by kernel_rfl) fun a HF => ?_
 refine aI ?_
 refine bF HF rfl ?_
 refine aW ?_
 refine su HF HM rfl _ _ 33 rfl rfl 5 (aN 0) 1 Tryd.underlying33 qM rfl .i64 .i64 52 rfl rfl (by omega) (by omega) ?_
 intro a w1 g hgw hbel bI HF2; have hg0 : w0.heap.size ≤ g := Nat.le_trans HM.size hgw; clear HF HM hbel hgw
 have HM : Mm [] w0 w1 [(g, .cells (madeCells #[aN 0] 52) 5 (0, 0)), Ae fb dat abi aC big, Ad s b o n c] := bI
 have HF := HF2.sub ((oO b o n c s fb big) ++ [(191, aH g 52 52)]) (by kernel_rfl); clear bI HF2
 refine wp_pure HF HM rfl 1 [] ((oO b o n c s fb big) ++ [(17, aH g 52 52)]) (by kernel_rfl) fun a HF => ?_
 refine aI ?_
 refine wp_seq ?_
 refine aW ?_
 refine wp_pure HF HM rfl 2 [] ((oO b o n c s fb big) ++ [(17, aH g 52 52), (193, aG s), (194, aH g 52 52)]) (by kernel_rfl) fun a HF => ?_
 have hbs : b ≠ s := fun e => absurd hbl (Nat.not_lt_of_le (e ▸ HM.ge (i := 2) rfl))
 have ou : 2 ≠ s := fun e => absurd hlt (Nat.not_lt_of_le (e ▸ HM.ge (i := 2) rfl))
 have hbg : b ≠ g := by omega
 have u_ : 2 ≠ g := by omega
 refine bn HF (by kernel_rfl) 93 #[aG s, aH g 52 52, aB 0] (by kernel_rfl) (fun w => by kernel_rfl) (Calls.mono (vH l (some ⟨b, o, none⟩) n c hl hnc g s _ 5 52 52 (kM _ _) 0 0 0 9223372036854775807 9223372036854775807 (by omega) (by omega) (by omega) (by omega) w1 (HM.row hr) (by intro b' o' s' e; injection e with e; injection e with e; subst e; exact ⟨hbg, hbs⟩) (HM.ne (i := 2) (j := 0) rfl rfl (by decide)) (HM.get (i := 2) rfl) (HM.get (i := 0) rfl) _ (uN (HM.row hE)) u_ ou) ?_)
 rintro _ w2 ⟨kk, rfl, hkp, hsn, cs', hgn, hcz⟩
 replace HM : Mm [] w0 w2 [(g, .cells cs' 5 (0, 0)), Ae fb dat abi aC big, Ad s b o n c] := HM.Bc (i := 2) (j := 0) rfl rfl (by decide) hsn hgn hkp
 clear hkp hsn
 refine ⟨_, rfl, ?_⟩; clear HF; intro a HF
 refine wp_pure HF HM rfl 5 [] ((oO b o n c s fb big) ++ [(17, aH g 52 52), (19, .iface 242 (.pointer (some ea)))]) (by kernel_rfl) fun a HF => ?_
 refine dK ?_
 refine wp_pure HF HM rfl 2 [] ((oO b o n c s fb big) ++ [(17, aH g 52 52), (19, .iface 242 (.pointer (some ea))), (199, .bool true)]) (by kernel_rfl) fun a HF => ?_
 refine aI ?_
 refine bF HF rfl ?_
 refine aW ?_
 refine wp_pure HF HM rfl 3 [] [(2, .pointer none), (3, .iface 242 (.pointer (some ea)))] (by kernel_rfl) fun a HF => ?_
 refine aI ?_
 refine wp_ret ?_
 repeat first | refine cu ?_ | refine dw ?_
 exact K a w2 (HF.sub [(2, .pointer none), (3, .iface 242 (.pointer (some ea)))] (by kernel_rfl)) HM.keep

abbrev Ep := fun (fb : Nat) (dat : Int) (abi : Nat) (aC : Nat) (big : Bool) (aQ : Nat) (aF : Nat) (ay : Nat) => ((fb, .cells #[aN 1, .int .u8 dat, aN 1, aV abi, aV aC, (aP big), aZ aQ, aZ aF, aJ ay, aK, aK, aK, aK, aK] 131 (0, 0)) : Nat × Obj)
abbrev z_ := fun (s : Nat) (b : Nat) (o : Nat) (n : Nat) (c : Nat) => ((s, .cells #[.iface 178 (.slice (some ⟨b, o, none⟩) n c), aA 0, aA 0, aA 9223372036854775807, aA 9223372036854775807] 246 (0, 0)) : Nat × Obj)
abbrev jZ := fun (b : Nat) (o : Nat) (n : Nat) (c : Nat) (s : Nat) (fb : Nat) (big : Bool) (ak : Nat) (aj : Nat) (au : Nat) (ah : Nat) => ([(0, .iface 178 (.slice (some ⟨b, o, none⟩) n c)), (4, aG s), (8, aG fb), (9, (aP big)), (10, aB ak), (11, aA 32), (12, aB aj), (13, aB au), (14, aA 40), (15, aB ah), (16, aB (ah - 1)), (26, aA 40)] : Slots)
theorem Ju (l : List UInt8) (b o n c : Nat) (hl : n = l.length) (hnc : n ≤ c) (big : Bool) (abi aC aQ aF ay ak aj au ah : Nat) (dat : Int) (b1 : aQ < 65536) (b2 : aF < 65536) (b3 : ay ≤ 18446744073709551615) (b4 : ak < 4611686018427387904) (b5 : au < 4611686018427387904) (b6 : aj < 200) (b7 : ah < 200) (c3 : 0 < aj) (hsh : n < ak + 32 * aj) {Q : Exit → Act → World → Prop} (w0 : World) (hbl : b < w0.heap.size) (hr : Row w0 (some ⟨b, o, none⟩) (l.map Bv)) (ea : Addr) (hE : Row w0 (some ⟨2, 0, none⟩) [.iface 242 (.pointer (some ea))]) (a : Act) (w : World) (s fb : Nat) (HF : Fr 1287 a (jZ b o n c s fb big ak aj au ah)) (HM : Mm [] w0 w [Ep fb dat abi aC big aQ aF ay, z_ s b o n c]) (K : ∀ a w', Fr 1287 a [(2, .pointer none), (3, .iface 242 (.pointer (some ea)))] → Keep [] w0 w' → Q .ret a w') : (spine Tryd.f78 29).wp Tryd.prog Q a w := by
 have hlt := oz hE
 refine aW ?_
 refine wp_pure HF HM rfl 2 [] ((jZ b o n c s fb big ak aj au ah) ++ [(547, bD (IntKind.u64.wrap ((aj : Nat) : Int)))]) (by kernel_rfl) fun a HF => ?_
 rw [show IntKind.u64.wrap ((aj : Nat) : Int) = ((aj : Nat) : Int) from IntWalk.u64_in _ (by omega)] at HF
 refine bn HF (by kernel_rfl) 98 #[bD 8, aJ aj] (by kernel_rfl) (fun w => by kernel_rfl) (Calls.mono (oJ aj (by omega) w) ?_)
 rintro _ w1 ⟨rfl, hq⟩
 replace hq := hq.symm; subst hq
 refine ⟨_, rfl, ?_⟩; clear HF; intro a HF
 refine wp_pure HF HM rfl 1 [] ((jZ b o n c s fb big ak aj au ah) ++ [(35, aB aj)]) (by kernel_rfl) fun a HF => ?_
 refine aI ?_
 refine wp_seq ?_
 refine aW ?_
 refine wp_pure HF HM rfl 2 [] ((jZ b o n c s fb big ak aj au ah) ++ [(35, aB aj), (550, .bool (decide (((aj : Nat) : Int) < 0)))]) (by kernel_rfl) fun a HF => ?_
 refine aI ?_
 rw [show decide (((aj : Nat) : Int) < 0) = false from bZ (by omega)] at HF
 refine bf HF rfl ?_
 refine wp_skip ?_
 repeat first | refine aS ?_ | refine aU ?_
 refine wp_seq ?_
 refine aW ?_
 refine wp_pure HF HM rfl 3 [] ((jZ b o n c s fb big ak aj au ah) ++ [(35, aB aj), (558, .bool (decide (0 < ((aj : Nat) : Int))))]) (by kernel_rfl) fun a HF => ?_
 rw [show decide (0 < ((aj : Nat) : Int)) = true from dM (by omega)] at HF
 refine wp_pure HF HM rfl 2 [] ((jZ b o n c s fb big ak aj au ah) ++ [(35, aB aj), (558, .bool true), (560, bD (IntKind.u64.wrap ((aj : Nat) : Int)))]) (by kernel_rfl) fun a HF => ?_
 rw [show IntKind.u64.wrap ((aj : Nat) : Int) = ((aj : Nat) : Int) from IntWalk.u64_in _ (by omega)] at HF
 refine dP HF (by kernel_rfl) (bD (IntKind.u64.wrap ((18446744073709551615 : Int).tdiv ((aj : Nat) : Int)))) (by kernel_rfl) (sD rfl rfl rfl (by omega)) ?_
 clear HF; intro a HF; replace HF := HF.sub [(0, .iface 178 (.slice (some ⟨b, o, none⟩) n c)), (4, aG s), (8, aG fb), (9, (aP big)), (10, aB ak), (11, aA 32), (12, aB aj), (13, aB au), (14, aA 40), (15, aB ah), (16, aB (ah - 1)), (26, aA 40), (35, aB aj), (558, .bool true), (561, bD (IntKind.u64.wrap ((18446744073709551615 : Int).tdiv ((aj : Nat) : Int))))] (by kernel_rfl)
 have hq := sN aj c3 b6
 rw [IntWalk.u64_in ((18446744073709551615 : Int).tdiv ((aj : Nat) : Int)) (by omega)] at HF
 refine wp_pure HF HM rfl 4 [] ((jZ b o n c s fb big ak aj au ah) ++ [(35, aB aj), (565, .bool (decide ((((18446744073709551615 : Int).tdiv ((aj : Nat) : Int))) < 32)))]) (by kernel_rfl) fun a HF => ?_
 refine aI ?_
 rw [show decide ((((18446744073709551615 : Int).tdiv ((aj : Nat) : Int))) < 32) = false from bZ (by omega)] at HF
 refine bf HF rfl ?_
 refine wp_skip ?_
 repeat first | refine aS ?_ | refine aU ?_
 refine aW ?_
 refine wp_pure HF HM rfl 2 [] ((jZ b o n c s fb big ak aj au ah) ++ [(571, aG fb), (572, aB aj)]) (by kernel_rfl) fun a HF => ?_
 refine jq HF HM rfl _ _ 127 rfl rfl 136 (.pointer none) 8 Tryd.underlying127 qy .i64 .i64 aj rfl rfl (by omega) (by unfold maxLen; omega) ?_
 intro a w2 pg pgC hgw hpg bI HF2; clear HF HM hgw
 have HM : Mm [] w0 w2 [(pg, .cells pgC 136 (0, 0)), Ep fb dat abi aC big aQ aF ay, z_ s b o n c] := bI
 have HF := HF2.sub ((jZ b o n c s fb big ak aj au ah) ++ [(571, aG fb), (573, aH pg 0 aj)]) (by kernel_rfl); clear bI HF2
 refine aO HF HM rfl 3 [[1]] (jZ b o n c s fb big ak aj au ah) [(pg, .cells pgC 136 (0, 0)), (fb, .cells #[aN 1, .int .u8 dat, aN 1, aV abi, aV aC, (aP big), aZ aQ, aZ aF, aJ ay, aK, aH pg 0 aj, aK, aK, aK] 131 (0, 0)), z_ s b o n c] (by kernel_rfl) fun a w HF HM => ?_
 refine dK ?_
 refine wp_pure HF HM rfl 4 [] ((jZ b o n c s fb big ak aj au ah) ++ [(578, .iface 144 (aG s)), (580, bD (IntKind.u64.wrap ((aj : Nat) : Int)))]) (by kernel_rfl) fun a HF => ?_
 rw [show IntKind.u64.wrap ((aj : Nat) : Int) = ((aj : Nat) : Int) from IntWalk.u64_in _ (by omega)] at HF
 refine wp_pure HF HM rfl 3 [] ((jZ b o n c s fb big ak aj au ah) ++ [(578, .iface 144 (aG s)), (583, bD (IntKind.u64.wrap (((aj : Nat) : Int) * 32)))]) (by kernel_rfl) fun a HF => ?_
 rw [show IntKind.u64.wrap (((aj : Nat) : Int) * 32) = (((32 * aj) : Nat) : Int) from (IntWalk.u64_in _ (by omega)).trans (by omega)] at HF
 refine wp_pure HF HM rfl 1 [] ((jZ b o n c s fb big ak aj au ah) ++ [(578, .iface 144 (aG s)), (583, aJ (32 * aj)), (584, aB ak)]) (by kernel_rfl) fun a HF => ?_
 have hbs : b ≠ s := fun e => absurd hbl (Nat.not_lt_of_le (e ▸ HM.ge (i := 2) rfl))
 have ou : 2 ≠ s := fun e => absurd hlt (Nat.not_lt_of_le (e ▸ HM.ge (i := 2) rfl))
 refine bn HF (by kernel_rfl) 99 #[.iface 144 (aG s), aJ (32 * aj), aB ak] (by kernel_rfl) (fun w => by kernel_rfl) (Calls.mono (pR l b o n c hl hnc s (32 * aj) 0 ak 0 9223372036854775807 9223372036854775807 (by omega) (by omega) (by omega) (by omega) (by omega) (by omega) w (HM.row hr) (Nat.lt_of_lt_of_le hbl HM.size) hbs (HM.get (i := 2) rfl) ea (HM.row hE) ou) ?_)
 rintro _ w3 ⟨rfl, hb⟩
 replace HM := HM.call hb
 clear hb
 refine ⟨_, rfl, ?_⟩; clear HF; intro a HF
 refine wp_pure HF HM rfl 5 [] ((jZ b o n c s fb big ak aj au ah) ++ [(36, aK), (37, .iface 242 (.pointer (some ea)))]) (by kernel_rfl) fun a HF => ?_
 refine aI ?_
 refine wp_seq ?_
 refine aW ?_
 refine wp_pure HF HM rfl 2 [] ((jZ b o n c s fb big ak aj au ah) ++ [(36, aK), (37, .iface 242 (.pointer (some ea))), (589, .bool true)]) (by kernel_rfl) fun a HF => ?_
 refine aI ?_
 refine bF HF rfl ?_
 refine aW ?_
 refine wp_pure HF HM rfl 3 [] [(2, .pointer none), (3, .iface 242 (.pointer (some ea)))] (by kernel_rfl) fun a HF => ?_
 refine aI ?_
 refine wp_ret ?_
 repeat first | refine cu ?_ | refine dw ?_
 exact K a w3 (HF.sub [(2, .pointer none), (3, .iface 242 (.pointer (some ea)))] (by kernel_rfl)) HM.keep

abbrev En := fun (fb : Nat) (dat : Int) (abi : Nat) (aC : Nat) (big : Bool) (aQ : Nat) (aF : Nat) (ay : Nat) (pg : Nat) (aj : Nat) => ((fb, .cells #[aN 1, .int .u8 dat, aN 1, aV abi, aV aC, (aP big), aZ aQ, aZ aF, aJ ay, aK, aH pg aj aj, aK, aK, aK] 131 (0, 0)) : Nat × Obj)
abbrev wJ := fun (s : Nat) (b : Nat) (o : Nat) (n : Nat) (c : Nat) => ((s, .cells #[.iface 178 (.slice (some ⟨b, o, none⟩) n c), aA 0, aA 0, aA 9223372036854775807, aA 9223372036854775807] 246 (0, 0)) : Nat × Obj)
abbrev Ej := fun (b : Nat) (o : Nat) (n : Nat) (c : Nat) (s : Nat) (fb : Nat) (big : Bool) => ([(0, .iface 178 (.slice (some ⟨b, o, none⟩) n c)), (4, aG s), (8, aG fb), (9, (aP big))] : Slots)
abbrev kL := fun (b : Nat) (o : Nat) (n : Nat) (c : Nat) (s : Nat) (fb : Nat) (big : Bool) (au : Nat) (ah : Nat) => ((Ej b o n c s fb big) ++ [(13, aB au), (14, aA 40), (15, aB ah), (16, aB (ah - 1))] : Slots)
abbrev Em := fun (fb : Nat) (dat : Int) (abi : Nat) (aC : Nat) (big : Bool) (aQ : Nat) (aF : Nat) (ay : Nat) aX (ah : Nat) (pg : Nat) (aj : Nat) => ((fb, .cells #[aN 1, .int .u8 dat, aN 1, aV abi, aV aC, (aP big), aZ aQ, aZ aF, aJ ay, aH aX 0 ah, aH pg aj aj, aK, aK, aK] 131 (0, 0)) : Nat × Obj)
abbrev t_ := fun (b : Nat) (o : Nat) (n : Nat) (c : Nat) (fb : Nat) (big : Bool) (au : Nat) (ah : Nat) => ([(0, .iface 178 (.slice (some ⟨b, o, none⟩) n c)), (8, aG fb), (9, (aP big)), (13, aB au), (14, aA 40), (15, aB ah), (16, aB (ah - 1))] : Slots)
theorem Jq (l : List UInt8) (b o n c : Nat) (hl : n = l.length) (hnc : n ≤ c) (big : Bool) (abi aC aQ aF ay ak aj au ah : Nat) (dat : Int) (b1 : aQ < 65536) (b2 : aF < 65536) (b3 : ay ≤ 18446744073709551615) (b4 : ak < 4611686018427387904) (b5 : au < 4611686018427387904) (b6 : aj < 200) (b7 : ah < 200) (c2 : 0 < ah) (hsh : n < au + 40 * ah) {Q : Exit → Act → World → Prop} (w0 : World) (hbl : b < w0.heap.size) (hr : Row w0 (some ⟨b, o, none⟩) (l.map Bv)) (ea : Addr) (hE : Row w0 (some ⟨2, 0, none⟩) [.iface 242 (.pointer (some ea))]) (G : List Nat) (qP : b ∉ G) (hEG : 2 ∉ G) (a : Act) (w : World) (s fb pg : Nat) (hbs : b ≠ s) (ou : 2 ≠ s) (HF : Fr 1287 a ((Ej b o n c s fb big) ++ [(10, aB ak), (11, aA 32), (12, aB aj), (13, aB au), (14, aA 40), (15, aB ah), (16, aB (ah - 1)), (26, aA 40)])) (HM : Mm G w0 w [En fb dat abi aC big aQ aF ay pg aj, wJ s b o n c]) (K : ∀ a w', Fr 1287 a [(2, .pointer none), (3, .iface 242 (.pointer (some ea)))] → Keep G w0 w' → Q .ret a w') : (spine Tryd.f78 36).wp Tryd.prog Q a w := by
 have hlt := oz hE
 refine wp_seq ?_
 refine aW ?_
 refine wp_pure HF HM rfl 3 [] ((kL b o n c s fb big au ah) ++ [(26, aA 40), (800, .bool (decide (0 < ((ah : Nat) : Int))))]) (by kernel_rfl) fun a HF => ?_
 rw [show decide (0 < ((ah : Nat) : Int)) = true from dM (by omega)] at HF
 refine wp_pure HF HM rfl 4 [] ((kL b o n c s fb big au ah) ++ [(804, .bool false)]) (by kernel_rfl) fun a HF => ?_
 refine aI ?_
 refine bf HF rfl ?_
 refine wp_skip ?_
 repeat first | refine aS ?_ | refine aU ?_
 refine aW ?_
 refine wp_pure HF HM rfl 2 [] ((kL b o n c s fb big au ah) ++ [(811, bD (IntKind.u64.wrap ((ah : Nat) : Int)))]) (by kernel_rfl) fun a HF => ?_
 rw [show IntKind.u64.wrap ((ah : Nat) : Int) = ((ah : Nat) : Int) from IntWalk.u64_in _ (by omega)] at HF
 refine bn HF (by kernel_rfl) 98 #[bD 120, aJ ah] (by kernel_rfl) (fun w => by kernel_rfl) (Calls.mono (sS ah (by omega) w) ?_)
 rintro _ w1 ⟨rfl, hq⟩
 replace hq := hq.symm; subst hq
 refine ⟨_, rfl, ?_⟩; clear HF; intro a HF
 refine wp_pure HF HM rfl 1 [] ((kL b o n c s fb big au ah) ++ [(35, aB ah)]) (by kernel_rfl) fun a HF => ?_
 refine aI ?_
 refine wp_seq ?_
 refine aW ?_
 refine wp_pure HF HM rfl 2 [] ((kL b o n c s fb big au ah) ++ [(35, aB ah), (814, .bool (decide (((ah : Nat) : Int) < 0)))]) (by kernel_rfl) fun a HF => ?_
 refine aI ?_
 rw [show decide (((ah : Nat) : Int) < 0) = false from bZ (by omega)] at HF
 refine bf HF rfl ?_
 refine wp_skip ?_
 repeat first | refine aS ?_ | refine aU ?_
 refine wp_seq ?_
 refine aW ?_
 refine wp_pure HF HM rfl 3 [] ((kL b o n c s fb big au ah) ++ [(35, aB ah), (822, .bool (decide (0 < ((ah : Nat) : Int))))]) (by kernel_rfl) fun a HF => ?_
 rw [show decide (0 < ((ah : Nat) : Int)) = true from dM (by omega)] at HF
 refine wp_pure HF HM rfl 2 [] ((kL b o n c s fb big au ah) ++ [(35, aB ah), (822, .bool true), (824, bD (IntKind.u64.wrap ((ah : Nat) : Int)))]) (by kernel_rfl) fun a HF => ?_
 rw [show IntKind.u64.wrap ((ah : Nat) : Int) = ((ah : Nat) : Int) from IntWalk.u64_in _ (by omega)] at HF
 refine dP HF (by kernel_rfl) (bD (IntKind.u64.wrap ((18446744073709551615 : Int).tdiv ((ah : Nat) : Int)))) (by kernel_rfl) (sD rfl rfl rfl (by omega)) ?_
 clear HF; intro a HF; replace HF := HF.sub [(0, .iface 178 (.slice (some ⟨b, o, none⟩) n c)), (4, aG s), (8, aG fb), (9, (aP big)), (13, aB au), (14, aA 40), (15, aB ah), (16, aB (ah - 1)), (35, aB ah), (822, .bool true), (825, bD (IntKind.u64.wrap ((18446744073709551615 : Int).tdiv ((ah : Nat) : Int))))] (by kernel_rfl)
 have hq := sN ah c2 b7
 rw [IntWalk.u64_in ((18446744073709551615 : Int).tdiv ((ah : Nat) : Int)) (by omega)] at HF
 refine wp_pure HF HM rfl 4 [] ((kL b o n c s fb big au ah) ++ [(35, aB ah), (829, .bool (decide ((((18446744073709551615 : Int).tdiv ((ah : Nat) : Int))) < 40)))]) (by kernel_rfl) fun a HF => ?_
 refine aI ?_
 rw [show decide ((((18446744073709551615 : Int).tdiv ((ah : Nat) : Int))) < 40) = false from bZ (by omega)] at HF
 refine bf HF rfl ?_
 refine wp_skip ?_
 repeat first | refine aS ?_ | refine aU ?_
 refine aW ?_
 refine wp_pure HF HM rfl 2 [] ((kL b o n c s fb big au ah) ++ [(35, aB ah), (835, aG fb), (836, aB ah)]) (by kernel_rfl) fun a HF => ?_
 refine jq HF HM rfl _ _ 126 rfl rfl 133 (.pointer none) 8 Tryd.underlying126 uM .i64 .i64 ah rfl rfl (by omega) (by unfold maxLen; omega) ?_
 intro a w2 aX je hgw Hw bI HF2; clear HF HM hgw
 have HM : Mm G w0 w2 [(aX, .cells je 133 (0, 0)), En fb dat abi aC big aQ aF ay pg aj, wJ s b o n c] := bI
 have HF := HF2.sub ((kL b o n c s fb big au ah) ++ [(35, aB ah), (835, aG fb), (837, aH aX 0 ah)]) (by kernel_rfl); clear bI HF2
 refine aO HF HM rfl 3 [[1]] ((kL b o n c s fb big au ah) ++ [(35, aB ah)]) [(aX, .cells je 133 (0, 0)), Em fb dat abi aC big aQ aF ay aX ah pg aj, wJ s b o n c] (by kernel_rfl) fun a w HF HM => ?_
 refine dK ?_
 refine wp_pure HF HM rfl 1 [] ((kL b o n c s fb big au ah) ++ [(840, aB ah)]) (by kernel_rfl) fun a HF => ?_
 refine jq HF HM rfl _ _ 222 rfl rfl 36 (lu 0) 4 Tryd.underlying222 rY .i64 .i64 ah rfl rfl (by omega) (by unfold maxLen; omega) ?_
 intro a w3 aT jU hgw Hz bI HF2; clear HF HM hgw
 have HM : Mm G w0 w3 [(aT, .cells jU 36 (0, 0)), (aX, .cells je 133 (0, 0)), Em fb dat abi aC big aQ aF ay aX ah pg aj, wJ s b o n c] := bI
 have HF := HF2.sub ((kL b o n c s fb big au ah) ++ [(841, aH aT 0 ah)]) (by kernel_rfl); clear bI HF2
 refine wp_pure HF HM rfl 1 [] ((kL b o n c s fb big au ah) ++ [(41, aH aT 0 ah)]) (by kernel_rfl) fun a HF => ?_
 refine dK ?_
 refine wp_pure HF HM rfl 4 [] ((t_ b o n c fb big au ah) ++ [(41, aH aT 0 ah), (844, .iface 144 (aG s)), (846, bD (IntKind.u64.wrap ((ah : Nat) : Int)))]) (by kernel_rfl) fun a HF => ?_
 rw [show IntKind.u64.wrap ((ah : Nat) : Int) = ((ah : Nat) : Int) from IntWalk.u64_in _ (by omega)] at HF
 refine wp_pure HF HM rfl 3 [] ((t_ b o n c fb big au ah) ++ [(41, aH aT 0 ah), (844, .iface 144 (aG s)), (849, bD (IntKind.u64.wrap (((ah : Nat) : Int) * 40)))]) (by kernel_rfl) fun a HF => ?_
 rw [show IntKind.u64.wrap (((ah : Nat) : Int) * 40) = (((40 * ah) : Nat) : Int) from (IntWalk.u64_in _ (by omega)).trans (by omega)] at HF
 refine wp_pure HF HM rfl 1 [] ((t_ b o n c fb big au ah) ++ [(41, aH aT 0 ah), (844, .iface 144 (aG s)), (849, aJ (40 * ah)), (850, aB au)]) (by kernel_rfl) fun a HF => ?_
 refine bn HF (by kernel_rfl) 99 #[.iface 144 (aG s), aJ (40 * ah), aB au] (by kernel_rfl) (fun w => by kernel_rfl) (Calls.mono (pR l b o n c hl hnc s (40 * ah) 0 au 0 9223372036854775807 9223372036854775807 (by omega) (by omega) (by omega) (by omega) (by omega) (by omega) w3 (HM.row hr (by intro b' o' s' e; injection e with e; injection e with e; subst e; exact qP)) (Nat.lt_of_lt_of_le hbl HM.size) hbs (HM.get (i := 3) rfl) ea (HM.row hE (by intro b' o' s' e; injection e with e; injection e with e; subst e; exact hEG)) ou) ?_)
 rintro _ w4 ⟨rfl, hb⟩
 replace HM := HM.call hb
 clear hb
 refine ⟨_, rfl, ?_⟩; clear HF; intro a HF
 refine wp_pure HF HM rfl 5 [] ((t_ b o n c fb big au ah) ++ [(37, .iface 242 (.pointer (some ea))), (41, aH aT 0 ah), (42, aK)]) (by kernel_rfl) fun a HF => ?_
 refine aI ?_
 refine wp_seq ?_
 refine aW ?_
 refine wp_pure HF HM rfl 2 [] ((t_ b o n c fb big au ah) ++ [(37, .iface 242 (.pointer (some ea))), (41, aH aT 0 ah), (42, aK), (855, .bool true)]) (by kernel_rfl) fun a HF => ?_
 refine aI ?_
 refine bF HF rfl ?_
 refine aW ?_
 refine wp_pure HF HM rfl 3 [] [(2, .pointer none), (3, .iface 242 (.pointer (some ea)))] (by kernel_rfl) fun a HF => ?_
 refine aI ?_
 refine wp_ret ?_
 repeat first | refine cu ?_ | refine dw ?_
 exact K a w4 (HF.sub [(2, .pointer none), (3, .iface 242 (.pointer (some ea)))] (by kernel_rfl)) HM.keep

abbrev Ac := fun (fb : Nat) (dat : Int) (abi : Nat) (aC : Nat) (big : Bool) => ((fb, .cells #[aN 2, .int .u8 dat, aN 1, aV abi, aV aC, (aP big), .int .u16 0, .int .u16 0, bD 0, aK, aK, aK, aK, aK] 131 (0, 0)) : Nat × Obj)
abbrev Aa := fun (s : Nat) (b : Nat) (o : Nat) (n : Nat) (c : Nat) => ((s, .cells #[.iface 178 (.slice (some ⟨b, o, none⟩) n c), aA 0, aA 0, aA 9223372036854775807, aA 9223372036854775807] 246 (0, 0)) : Nat × Obj)
abbrev nO := fun (b : Nat) (o : Nat) (n : Nat) (c : Nat) (s : Nat) (fb : Nat) (big : Bool) => ([(0, .iface 178 (.slice (some ⟨b, o, none⟩) n c)), (4, aG s), (8, aG fb), (9, (aP big))] : Slots)
theorem Jv (l : List UInt8) (b o n c : Nat) (hl : n = l.length) (hnc : n ≤ c) (hsh : n < 64) (big : Bool) (abi aC : Nat) (dat : Int) {Q : Exit → Act → World → Prop} (w0 : World) (hbl : b < w0.heap.size) (hr : Row w0 (some ⟨b, o, none⟩) (l.map Bv)) (ea : Addr) (hE : Row w0 (some ⟨2, 0, none⟩) [.iface 242 (.pointer (some ea))]) (a : Act) (w : World) (s fb : Nat) (HF : Fr 1287 a (nO b o n c s fb big)) (HM : Mm [] w0 w [Ac fb dat abi aC big, Aa s b o n c]) (K : ∀ a w', Fr 1287 a [(2, .pointer none), (3, .iface 242 (.pointer (some ea)))] → Keep [] w0 w' → Q .ret a w') : (spine Tryd.f78 20).wp Tryd.prog Q a w := by
 have hlt := oz hE
 refine wp_seq ?_
 refine aW ?_
 refine wp_pure HF HM rfl 5 [[1]] ((nO b o n c s fb big) ++ [(188, aN 2)]) (by kernel_rfl) fun a HF => ?_
 refine aI ?_
 refine wp_block ?_
 refine aW ?_
 refine wp_pure HF HM rfl 2 [] ((nO b o n c s fb big) ++ [(188, aN 2), (189, .bool false)]) (by kernel_rfl) fun a HF => ?_
 refine aI ?_
 refine bf HF rfl ?_
 refine aW ?_
 refine wp_pure HF HM rfl 2 [] ((nO b o n c s fb big) ++ [(278, .bool true)]) (by kernel_rfl) fun a HF => ?_
 refine aI ?_
 refine bF HF rfl ?_
 refine aW ?_
 refine su HF HM rfl _ _ 33 rfl rfl 5 (aN 0) 1 Tryd.underlying33 qM rfl .i64 .i64 64 rfl rfl (by omega) (by omega) ?_
 intro a w1 g hgw hbel bI HF2; have hg0 : w0.heap.size ≤ g := Nat.le_trans HM.size hgw; clear HF HM hbel hgw
 have HM : Mm [] w0 w1 [(g, .cells (madeCells #[aN 0] 64) 5 (0, 0)), Ac fb dat abi aC big, Aa s b o n c] := bI
 have HF := HF2.sub ((nO b o n c s fb big) ++ [(280, aH g 64 64)]) (by kernel_rfl); clear bI HF2
 refine wp_pure HF HM rfl 1 [] ((nO b o n c s fb big) ++ [(21, aH g 64 64)]) (by kernel_rfl) fun a HF => ?_
 refine aI ?_
 refine wp_seq ?_
 refine aW ?_
 refine wp_pure HF HM rfl 2 [] ((nO b o n c s fb big) ++ [(21, aH g 64 64), (282, aG s), (283, aH g 64 64)]) (by kernel_rfl) fun a HF => ?_
 have hbs : b ≠ s := fun e => absurd hbl (Nat.not_lt_of_le (e ▸ HM.ge (i := 2) rfl))
 have ou : 2 ≠ s := fun e => absurd hlt (Nat.not_lt_of_le (e ▸ HM.ge (i := 2) rfl))
 have hbg : b ≠ g := by omega
 have u_ : 2 ≠ g := by omega
 refine bn HF (by kernel_rfl) 93 #[aG s, aH g 64 64, aB 0] (by kernel_rfl) (fun w => by kernel_rfl) (Calls.mono (vH l (some ⟨b, o, none⟩) n c hl hnc g s _ 5 64 64 (kM _ _) 0 0 0 9223372036854775807 9223372036854775807 (by omega) (by omega) (by omega) (by omega) w1 (HM.row hr) (by intro b' o' s' e; injection e with e; injection e with e; subst e; exact ⟨hbg, hbs⟩) (HM.ne (i := 2) (j := 0) rfl rfl (by decide)) (HM.get (i := 2) rfl) (HM.get (i := 0) rfl) _ (uN (HM.row hE)) u_ ou) ?_)
 rintro _ w2 ⟨kk, rfl, hkp, hsn, cs', hgn, hcz⟩
 replace HM : Mm [] w0 w2 [(g, .cells cs' 5 (0, 0)), Ac fb dat abi aC big, Aa s b o n c] := HM.Bc (i := 2) (j := 0) rfl rfl (by decide) hsn hgn hkp
 clear hkp hsn
 refine ⟨_, rfl, ?_⟩; clear HF; intro a HF
 refine wp_pure HF HM rfl 5 [] ((nO b o n c s fb big) ++ [(21, aH g 64 64), (23, .iface 242 (.pointer (some ea)))]) (by kernel_rfl) fun a HF => ?_
 refine dK ?_
 refine wp_pure HF HM rfl 2 [] ((nO b o n c s fb big) ++ [(21, aH g 64 64), (23, .iface 242 (.pointer (some ea))), (288, .bool true)]) (by kernel_rfl) fun a HF => ?_
 refine aI ?_
 refine bF HF rfl ?_
 refine aW ?_
 refine wp_pure HF HM rfl 3 [] [(2, .pointer none), (3, .iface 242 (.pointer (some ea)))] (by kernel_rfl) fun a HF => ?_
 refine aI ?_
 refine wp_ret ?_
 repeat first | refine cu ?_ | refine dw ?_
 exact K a w2 (HF.sub [(2, .pointer none), (3, .iface 242 (.pointer (some ea)))] (by kernel_rfl)) HM.keep

abbrev Eo := fun (fb : Nat) (dat : Int) (abi : Nat) (aC : Nat) (big : Bool) (aQ : Nat) (aF : Nat) (ay : Nat) => ((fb, .cells #[aN 2, .int .u8 dat, aN 1, aV abi, aV aC, (aP big), aZ aQ, aZ aF, aJ ay, aK, aK, aK, aK, aK] 131 (0, 0)) : Nat × Obj)
abbrev zZ := fun (s : Nat) (b : Nat) (o : Nat) (n : Nat) (c : Nat) => ((s, .cells #[.iface 178 (.slice (some ⟨b, o, none⟩) n c), aA 0, aA 0, aA 9223372036854775807, aA 9223372036854775807] 246 (0, 0)) : Nat × Obj)
abbrev jY := fun (b : Nat) (o : Nat) (n : Nat) (c : Nat) (s : Nat) (fb : Nat) (big : Bool) (ak : Nat) (aj : Nat) (au : Nat) (ah : Nat) => ([(0, .iface 178 (.slice (some ⟨b, o, none⟩) n c)), (4, aG s), (8, aG fb), (9, (aP big)), (10, aB ak), (11, aA 56), (12, aB aj), (13, aB au), (14, aA 64), (15, aB ah), (16, aB (ah - 1)), (26, aA 64)] : Slots)
theorem Jt (l : List UInt8) (b o n c : Nat) (hl : n = l.length) (hnc : n ≤ c) (big : Bool) (abi aC aQ aF ay ak aj au ah : Nat) (dat : Int) (b1 : aQ < 65536) (b2 : aF < 65536) (b3 : ay ≤ 18446744073709551615) (b4 : ak < 4611686018427387904) (b5 : au < 4611686018427387904) (b6 : aj < 200) (b7 : ah < 200) (c3 : 0 < aj) (hsh : n < ak + 56 * aj) {Q : Exit → Act → World → Prop} (w0 : World) (hbl : b < w0.heap.size) (hr : Row w0 (some ⟨b, o, none⟩) (l.map Bv)) (ea : Addr) (hE : Row w0 (some ⟨2, 0, none⟩) [.iface 242 (.pointer (some ea))]) (a : Act) (w : World) (s fb : Nat) (HF : Fr 1287 a (jY b o n c s fb big ak aj au ah)) (HM : Mm [] w0 w [Eo fb dat abi aC big aQ aF ay, zZ s b o n c]) (K : ∀ a w', Fr 1287 a [(2, .pointer none), (3, .iface 242 (.pointer (some ea)))] → Keep [] w0 w' → Q .ret a w') : (spine Tryd.f78 29).wp Tryd.prog Q a w := by
 have hlt := oz hE
 refine aW ?_
 refine wp_pure HF HM rfl 2 [] ((jY b o n c s fb big ak aj au ah) ++ [(547, bD (IntKind.u64.wrap ((aj : Nat) : Int)))]) (by kernel_rfl) fun a HF => ?_
 rw [show IntKind.u64.wrap ((aj : Nat) : Int) = ((aj : Nat) : Int) from IntWalk.u64_in _ (by omega)] at HF
 refine bn HF (by kernel_rfl) 98 #[bD 8, aJ aj] (by kernel_rfl) (fun w => by kernel_rfl) (Calls.mono (oJ aj (by omega) w) ?_)
 rintro _ w1 ⟨rfl, hq⟩
 replace hq := hq.symm; subst hq
 refine ⟨_, rfl, ?_⟩; clear HF; intro a HF
 refine wp_pure HF HM rfl 1 [] ((jY b o n c s fb big ak aj au ah) ++ [(35, aB aj)]) (by kernel_rfl) fun a HF => ?_
 refine aI ?_
 refine wp_seq ?_
 refine aW ?_
 refine wp_pure HF HM rfl 2 [] ((jY b o n c s fb big ak aj au ah) ++ [(35, aB aj), (550, .bool (decide (((aj : Nat) : Int) < 0)))]) (by kernel_rfl) fun a HF => ?_
 refine aI ?_
 rw [show decide (((aj : Nat) : Int) < 0) = false from bZ (by omega)] at HF
 refine bf HF rfl ?_
 refine wp_skip ?_
 repeat first | refine aS ?_ | refine aU ?_
 refine wp_seq ?_
 refine aW ?_
 refine wp_pure HF HM rfl 3 [] ((jY b o n c s fb big ak aj au ah) ++ [(35, aB aj), (558, .bool (decide (0 < ((aj : Nat) : Int))))]) (by kernel_rfl) fun a HF => ?_
 rw [show decide (0 < ((aj : Nat) : Int)) = true from dM (by omega)] at HF
 refine wp_pure HF HM rfl 2 [] ((jY b o n c s fb big ak aj au ah) ++ [(35, aB aj), (558, .bool true), (560, bD (IntKind.u64.wrap ((aj : Nat) : Int)))]) (by kernel_rfl) fun a HF => ?_
 rw [show IntKind.u64.wrap ((aj : Nat) : Int) = ((aj : Nat) : Int) from IntWalk.u64_in _ (by omega)] at HF
 refine dP HF (by kernel_rfl) (bD (IntKind.u64.wrap ((18446744073709551615 : Int).tdiv ((aj : Nat) : Int)))) (by kernel_rfl) (sD rfl rfl rfl (by omega)) ?_
 clear HF; intro a HF; replace HF := HF.sub [(0, .iface 178 (.slice (some ⟨b, o, none⟩) n c)), (4, aG s), (8, aG fb), (9, (aP big)), (10, aB ak), (11, aA 56), (12, aB aj), (13, aB au), (14, aA 64), (15, aB ah), (16, aB (ah - 1)), (26, aA 64), (35, aB aj), (558, .bool true), (561, bD (IntKind.u64.wrap ((18446744073709551615 : Int).tdiv ((aj : Nat) : Int))))] (by kernel_rfl)
 have hq := sN aj c3 b6
 rw [IntWalk.u64_in ((18446744073709551615 : Int).tdiv ((aj : Nat) : Int)) (by omega)] at HF
 refine wp_pure HF HM rfl 4 [] ((jY b o n c s fb big ak aj au ah) ++ [(35, aB aj), (565, .bool (decide ((((18446744073709551615 : Int).tdiv ((aj : Nat) : Int))) < 56)))]) (by kernel_rfl) fun a HF => ?_
 refine aI ?_
 rw [show decide ((((18446744073709551615 : Int).tdiv ((aj : Nat) : Int))) < 56) = false from bZ (by omega)] at HF
 refine bf HF rfl ?_
 refine wp_skip ?_
 repeat first | refine aS ?_ | refine aU ?_
 refine aW ?_
 refine wp_pure HF HM rfl 2 [] ((jY b o n c s fb big ak aj au ah) ++ [(571, aG fb), (572, aB aj)]) (by kernel_rfl) fun a HF => ?_
 refine jq HF HM rfl _ _ 127 rfl rfl 136 (.pointer none) 8 Tryd.underlying127 qy .i64 .i64 aj rfl rfl (by omega) (by unfold maxLen; omega) ?_
 intro a w2 pg pgC hgw hpg bI HF2; clear HF HM hgw
 have HM : Mm [] w0 w2 [(pg, .cells pgC 136 (0, 0)), Eo fb dat abi aC big aQ aF ay, zZ s b o n c] := bI
 have HF := HF2.sub ((jY b o n c s fb big ak aj au ah) ++ [(571, aG fb), (573, aH pg 0 aj)]) (by kernel_rfl); clear bI HF2
 refine aO HF HM rfl 3 [[1]] (jY b o n c s fb big ak aj au ah) [(pg, .cells pgC 136 (0, 0)), (fb, .cells #[aN 2, .int .u8 dat, aN 1, aV abi, aV aC, (aP big), aZ aQ, aZ aF, aJ ay, aK, aH pg 0 aj, aK, aK, aK] 131 (0, 0)), zZ s b o n c] (by kernel_rfl) fun a w HF HM => ?_
 refine dK ?_
 refine wp_pure HF HM rfl 4 [] ((jY b o n c s fb big ak aj au ah) ++ [(578, .iface 144 (aG s)), (580, bD (IntKind.u64.wrap ((aj : Nat) : Int)))]) (by kernel_rfl) fun a HF => ?_
 rw [show IntKind.u64.wrap ((aj : Nat) : Int) = ((aj : Nat) : Int) from IntWalk.u64_in _ (by omega)] at HF
 refine wp_pure HF HM rfl 3 [] ((jY b o n c s fb big ak aj au ah) ++ [(578, .iface 144 (aG s)), (583, bD (IntKind.u64.wrap (((aj : Nat) : Int) * 56)))]) (by kernel_rfl) fun a HF => ?_
 rw [show IntKind.u64.wrap (((aj : Nat) : Int) * 56) = (((56 * aj) : Nat) : Int) from (IntWalk.u64_in _ (by omega)).trans (by omega)] at HF
 refine wp_pure HF HM rfl 1 [] ((jY b o n c s fb big ak aj au ah) ++ [(578, .iface 144 (aG s)), (583, aJ (56 * aj)), (584, aB ak)]) (by kernel_rfl) fun a HF => ?_
 have hbs : b ≠ s := fun e => absurd hbl (Nat.not_lt_of_le (e ▸ HM.ge (i := 2) rfl))
 have ou : 2 ≠ s := fun e => absurd hlt (Nat.not_lt_of_le (e ▸ HM.ge (i := 2) rfl))
 refine bn HF (by kernel_rfl) 99 #[.iface 144 (aG s), aJ (56 * aj), aB ak] (by kernel_rfl) (fun w => by kernel_rfl) (Calls.mono (pR l b o n c hl hnc s (56 * aj) 0 ak 0 9223372036854775807 9223372036854775807 (by omega) (by omega) (by omega) (by omega) (by omega) (by omega) w (HM.row hr) (Nat.lt_of_lt_of_le hbl HM.size) hbs (HM.get (i := 2) rfl) ea (HM.row hE) ou) ?_)
 rintro _ w3 ⟨rfl, hb⟩
 replace HM := HM.call hb
 clear hb
 refine ⟨_, rfl, ?_⟩; clear HF; intro a HF
 refine wp_pure HF HM rfl 5 [] ((jY b o n c s fb big ak aj au ah) ++ [(36, aK), (37, .iface 242 (.pointer (some ea)))]) (by kernel_rfl) fun a HF => ?_
 refine aI ?_
 refine wp_seq ?_
 refine aW ?_
 refine wp_pure HF HM rfl 2 [] ((jY b o n c s fb big ak aj au ah) ++ [(36, aK), (37, .iface 242 (.pointer (some ea))), (589, .bool true)]) (by kernel_rfl) fun a HF => ?_
 refine aI ?_
 refine bF HF rfl ?_
 refine aW ?_
 refine wp_pure HF HM rfl 3 [] [(2, .pointer none), (3, .iface 242 (.pointer (some ea)))] (by kernel_rfl) fun a HF => ?_
 refine aI ?_
 refine wp_ret ?_
 repeat first | refine cu ?_ | refine dw ?_
 exact K a w3 (HF.sub [(2, .pointer none), (3, .iface 242 (.pointer (some ea)))] (by kernel_rfl)) HM.keep

abbrev Ei := fun (fb : Nat) (dat : Int) (abi : Nat) (aC : Nat) (big : Bool) (aQ : Nat) (aF : Nat) (ay : Nat) (pg : Nat) (aj : Nat) => ((fb, .cells #[aN 2, .int .u8 dat, aN 1, aV abi, aV aC, (aP big), aZ aQ, aZ aF, aJ ay, aK, aH pg aj aj, aK, aK, aK] 131 (0, 0)) : Nat × Obj)
abbrev wI := fun (s : Nat) (b : Nat) (o : Nat) (n : Nat) (c : Nat) => ((s, .cells #[.iface 178 (.slice (some ⟨b, o, none⟩) n c), aA 0, aA 0, aA 9223372036854775807, aA 9223372036854775807] 246 (0, 0)) : Nat × Obj)
abbrev Ef := fun (b : Nat) (o : Nat) (n : Nat) (c : Nat) (s : Nat) (fb : Nat) (big : Bool) => ([(0, .iface 178 (.slice (some ⟨b, o, none⟩) n c)), (4, aG s), (8, aG fb), (9, (aP big))] : Slots)
abbrev kK := fun (b : Nat) (o : Nat) (n : Nat) (c : Nat) (s : Nat) (fb : Nat) (big : Bool) (au : Nat) (ah : Nat) => ((Ef b o n c s fb big) ++ [(13, aB au), (14, aA 64), (15, aB ah), (16, aB (ah - 1))] : Slots)
abbrev Eh := fun (fb : Nat) (dat : Int) (abi : Nat) (aC : Nat) (big : Bool) (aQ : Nat) (aF : Nat) (ay : Nat) aX (ah : Nat) (pg : Nat) (aj : Nat) => ((fb, .cells #[aN 2, .int .u8 dat, aN 1, aV abi, aV aC, (aP big), aZ aQ, aZ aF, aJ ay, aH aX 0 ah, aH pg aj aj, aK, aK, aK] 131 (0, 0)) : Nat × Obj)
abbrev tZ := fun (b : Nat) (o : Nat) (n : Nat) (c : Nat) (fb : Nat) (big : Bool) (au : Nat) (ah : Nat) => ([(0, .iface 178 (.slice (some ⟨b, o, none⟩) n c)), (8, aG fb), (9, (aP big)), (13, aB au), (14, aA 64), (15, aB ah), (16, aB (ah - 1))] : Slots)
theorem Jp (l : List UInt8) (b o n c : Nat) (hl : n = l.length) (hnc : n ≤ c) (big : Bool) (abi aC aQ aF ay ak aj au ah : Nat) (dat : Int) (b1 : aQ < 65536) (b2 : aF < 65536) (b3 : ay ≤ 18446744073709551615) (b4 : ak < 4611686018427387904) (b5 : au < 4611686018427387904) (b6 : aj < 200) (b7 : ah < 200) (c2 : 0 < ah) (hsh : n < au + 64 * ah) {Q : Exit → Act → World → Prop} (w0 : World) (hbl : b < w0.heap.size) (hr : Row w0 (some ⟨b, o, none⟩) (l.map Bv)) (ea : Addr) (hE : Row w0 (some ⟨2, 0, none⟩) [.iface 242 (.pointer (some ea))]) (G : List Nat) (qP : b ∉ G) (hEG : 2 ∉ G) (a : Act) (w : World) (s fb pg : Nat) (hbs : b ≠ s) (ou : 2 ≠ s) (HF : Fr 1287 a ((Ef b o n c s fb big) ++ [(10, aB ak), (11, aA 56), (12, aB aj), (13, aB au), (14, aA 64), (15, aB ah), (16, aB (ah - 1)), (26, aA 64)])) (HM : Mm G w0 w [Ei fb dat abi aC big aQ aF ay pg aj, wI s b o n c]) (K : ∀ a w', Fr 1287 a [(2, .pointer none), (3, .iface 242 (.pointer (some ea)))] → Keep G w0 w' → Q .ret a w') : (spine Tryd.f78 36).wp Tryd.prog Q a w := by
 have hlt := oz hE
 refine wp_seq ?_
 refine aW ?_
 refine wp_pure HF HM rfl 3 [] ((kK b o n c s fb big au ah) ++ [(26, aA 64), (800, .bool (decide (0 < ((ah : Nat) : Int))))]) (by kernel_rfl) fun a HF => ?_
 rw [show decide (0 < ((ah : Nat) : Int)) = true from dM (by omega)] at HF
 refine wp_pure HF HM rfl 4 [] ((kK b o n c s fb big au ah) ++ [(804, .bool false)]) (by kernel_rfl) fun a HF => ?_
 refine aI ?_
 refine bf HF rfl ?_
 refine wp_skip ?_
 repeat first | refine aS ?_ | refine aU ?_
 refine aW ?_
 refine wp_pure HF HM rfl 2 [] ((kK b o n c s fb big au ah) ++ [(811, bD (IntKind.u64.wrap ((ah : Nat) : Int)))]) (by kernel_rfl) fun a HF => ?_
 rw [show IntKind.u64.wrap ((ah : Nat) : Int) = ((ah : Nat) : Int) from IntWalk.u64_in _ (by omega)] at HF
 refine bn HF (by kernel_rfl) 98 #[bD 120, aJ ah] (by kernel_rfl) (fun w => by kernel_rfl) (Calls.mono (sS ah (by omega) w) ?_)
 rintro _ w1 ⟨rfl, hq⟩
 replace hq := hq.symm; subst hq
 refine ⟨_, rfl, ?_⟩; clear HF; intro a HF
 refine wp_pure HF HM rfl 1 [] ((kK b o n c s fb big au ah) ++ [(35, aB ah)]) (by kernel_rfl) fun a HF => ?_
 refine aI ?_
 refine wp_seq ?_
 refine aW ?_
 refine wp_pure HF HM rfl 2 [] ((kK b o n c s fb big au ah) ++ [(35, aB ah), (814, .bool (decide (((ah : Nat) : Int) < 0)))]) (by kernel_rfl) fun a HF => ?_
 refine aI ?_
 rw [show decide (((ah : Nat) : Int) < 0) = false from bZ (by omega)] at HF
 refine bf HF rfl ?_
 refine wp_skip ?_
 repeat first | refine aS ?_ | refine aU ?_
 refine wp_seq ?_
 refine aW ?_
 refine wp_pure HF HM rfl 3 [] ((kK b o n c s fb big au ah) ++ [(35, aB ah), (822, .bool (decide (0 < ((ah : Nat) : Int))))]) (by kernel_rfl) fun a HF => ?_
 rw [show decide (0 < ((ah : Nat) : Int)) = true from dM (by omega)] at HF
 refine wp_pure HF HM rfl 2 [] ((kK b o n c s fb big au ah) ++ [(35, aB ah), (822, .bool true), (824, bD (IntKind.u64.wrap ((ah : Nat) : Int)))]) (by kernel_rfl) fun a HF => ?_
 rw [show IntKind.u64.wrap ((ah : Nat) : Int) = ((ah : Nat) : Int) from IntWalk.u64_in _ (by omega)] at HF
 refine dP HF (by kernel_rfl) (bD (IntKind.u64.wrap ((18446744073709551615 : Int).tdiv ((ah : Nat) : Int)))) (by kernel_rfl) (sD rfl rfl rfl (by omega)) ?_
 clear HF; intro a HF; replace HF := HF.sub [(0, .iface 178 (.slice (some ⟨b, o, none⟩) n c)), (4, aG s), (8, aG fb), (9, (aP big)), (13, aB au), (14, aA 64), (15, aB ah), (16, aB (ah - 1)), (35, aB ah), (822, .bool true), (825, bD (IntKind.u64.wrap ((18446744073709551615 : Int).tdiv ((ah : Nat) : Int))))] (by kernel_rfl)
 have hq := sN ah c2 b7
 rw [IntWalk.u64_in ((18446744073709551615 : Int).tdiv ((ah : Nat) : Int)) (by omega)] at HF
 refine wp_pure HF HM rfl 4 [] ((kK b o n c s fb big au ah) ++ [(35, aB ah), (829, .bool (decide ((((18446744073709551615 : Int).tdiv ((ah : Nat) : Int))) < 64)))]) (by kernel_rfl) fun a HF => ?_
 refine aI ?_
 rw [show decide ((((18446744073709551615 : Int).tdiv ((ah : Nat) : Int))) < 64) = false from bZ (by omega)] at HF
 refine bf HF rfl ?_
 refine wp_skip ?_
 repeat first | refine aS ?_ | refine aU ?_
 refine aW ?_
 refine wp_pure HF HM rfl 2 [] ((kK b o n c s fb big au ah) ++ [(35, aB ah), (835, aG fb), (836, aB ah)]) (by kernel_rfl) fun a HF => ?_
 refine jq HF HM rfl _ _ 126 rfl rfl 133 (.pointer none) 8 Tryd.underlying126 uM .i64 .i64 ah rfl rfl (by omega) (by unfold maxLen; omega) ?_
 intro a w2 aX je hgw Hw bI HF2; clear HF HM hgw
 have HM : Mm G w0 w2 [(aX, .cells je 133 (0, 0)), Ei fb dat abi aC big aQ aF ay pg aj, wI s b o n c] := bI
 have HF := HF2.sub ((kK b o n c s fb big au ah) ++ [(35, aB ah), (835, aG fb), (837, aH aX 0 ah)]) (by kernel_rfl); clear bI HF2
 refine aO HF HM rfl 3 [[1]] ((kK b o n c s fb big au ah) ++ [(35, aB ah)]) [(aX, .cells je 133 (0, 0)), Eh fb dat abi aC big aQ aF ay aX ah pg aj, wI s b o n c] (by kernel_rfl) fun a w HF HM => ?_
 refine dK ?_
 refine wp_pure HF HM rfl 1 [] ((kK b o n c s fb big au ah) ++ [(840, aB ah)]) (by kernel_rfl) fun a HF => ?_
 refine jq HF HM rfl _ _ 222 rfl rfl 36 (lu 0) 4 Tryd.underlying222 rY .i64 .i64 ah rfl rfl (by omega) (by unfold maxLen; omega) ?_
 intro a w3 aT jU hgw Hz bI HF2; clear HF HM hgw
 have HM : Mm G w0 w3 [(aT, .cells jU 36 (0, 0)), (aX, .cells je 133 (0, 0)), Eh fb dat abi aC big aQ aF ay aX ah pg aj, wI s b o n c] := bI
 have HF := HF2.sub ((kK b o n c s fb big au ah) ++ [(841, aH aT 0 ah)]) (by kernel_rfl); clear bI HF2
 refine wp_pure HF HM rfl 1 [] ((kK b o n c s fb big au ah) ++ [(41, aH aT 0 ah)]) (by kernel_rfl) fun a HF => ?_
 refine dK ?_
 refine wp_pure HF HM rfl 4 [] ((tZ b o n c fb big au ah) ++ [(41, aH aT 0 ah), (844, .iface 144 (aG s)), (846, bD (IntKind.u64.wrap ((ah : Nat) : Int)))]) (by kernel_rfl) fun a HF => ?_
 rw [show IntKind.u64.wrap ((ah : Nat) : Int) = ((ah : Nat) : Int) from IntWalk.u64_in _ (by omega)] at HF
 refine wp_pure HF HM rfl 3 [] ((tZ b o n c fb big au ah) ++ [(41, aH aT 0 ah), (844, .iface 144 (aG s)), (849, bD (IntKind.u64.wrap (((ah : Nat) : Int) * 64)))]) (by kernel_rfl) fun a HF => ?_
 rw [show IntKind.u64.wrap (((ah : Nat) : Int) * 64) = (((64 * ah) : Nat) : Int) from (IntWalk.u64_in _ (by omega)).trans (by omega)] at HF
 refine wp_pure HF HM rfl 1 [] ((tZ b o n c fb big au ah) ++ [(41, aH aT 0 ah), (844, .iface 144 (aG s)), (849, aJ (64 * ah)), (850, aB au)]) (by kernel_rfl) fun a HF => ?_
 refine bn HF (by kernel_rfl) 99 #[.iface 144 (aG s), aJ (64 * ah), aB au] (by kernel_rfl) (fun w => by kernel_rfl) (Calls.mono (pR l b o n c hl hnc s (64 * ah) 0 au 0 9223372036854775807 9223372036854775807 (by omega) (by omega) (by omega) (by omega) (by omega) (by omega) w3 (HM.row hr (by intro b' o' s' e; injection e with e; injection e with e; subst e; exact qP)) (Nat.lt_of_lt_of_le hbl HM.size) hbs (HM.get (i := 3) rfl) ea (HM.row hE (by intro b' o' s' e; injection e with e; injection e with e; subst e; exact hEG)) ou) ?_)
 rintro _ w4 ⟨rfl, hb⟩
 replace HM := HM.call hb
 clear hb
 refine ⟨_, rfl, ?_⟩; clear HF; intro a HF
 refine wp_pure HF HM rfl 5 [] ((tZ b o n c fb big au ah) ++ [(37, .iface 242 (.pointer (some ea))), (41, aH aT 0 ah), (42, aK)]) (by kernel_rfl) fun a HF => ?_
 refine aI ?_
 refine wp_seq ?_
 refine aW ?_
 refine wp_pure HF HM rfl 2 [] ((tZ b o n c fb big au ah) ++ [(37, .iface 242 (.pointer (some ea))), (41, aH aT 0 ah), (42, aK), (855, .bool true)]) (by kernel_rfl) fun a HF => ?_
 refine aI ?_
 refine bF HF rfl ?_
 refine aW ?_
 refine wp_pure HF HM rfl 3 [] [(2, .pointer none), (3, .iface 242 (.pointer (some ea)))] (by kernel_rfl) fun a HF => ?_
 refine aI ?_
 refine wp_ret ?_
 repeat first | refine cu ?_ | refine dw ?_
 exact K a w4 (HF.sub [(2, .pointer none), (3, .iface 242 (.pointer (some ea)))] (by kernel_rfl)) HM.keep

abbrev jX := fun (b : Nat) (o : Nat) (n : Nat) (c : Nat) (s : Nat) (fb : Nat) (big : Bool) (ak : Nat) (au : Nat) (ah : Nat) => ([(0, .iface 178 (.slice (some ⟨b, o, none⟩) n c)), (4, aG s), (8, aG fb), (9, (aP big)), (10, aB ak), (11, aA 32), (12, aA 0), (13, aB au), (14, aA 40), (15, aB ah), (16, aB (ah - 1)), (26, aA 40)] : Slots)
theorem Js (l : List UInt8) (b o n c : Nat) (hl : n = l.length) (hnc : n ≤ c) (big : Bool) (abi aC aQ aF ay ak aj au ah : Nat) (dat : Int) (b1 : aQ < 65536) (b2 : aF < 65536) (b3 : ay ≤ 18446744073709551615) (b4 : ak < 4611686018427387904) (b5 : au < 4611686018427387904) (b6 : aj < 200) (b7 : ah < 200) (c1 : 0 < au) (c2 : 0 < ah) (c4 : n ≤ ak) {Q : Exit → Act → World → Prop} (w0 : World) (hbl : b < w0.heap.size) (hr : Row w0 (some ⟨b, o, none⟩) (l.map Bv)) (ea : Addr) (hE : Row w0 (some ⟨2, 0, none⟩) [.iface 242 (.pointer (some ea))]) (a : Act) (w : World) (s fb : Nat) (HF : Fr 1287 a (jX b o n c s fb big ak au ah)) (HM : Mm [] w0 w [(fb, .cells #[aN 1, .int .u8 dat, aN 1, aV abi, aV aC, (aP big), aZ aQ, aZ aF, aJ ay, aK, aK, aK, aK, aK] 131 (0, 0)), (s, .cells #[.iface 178 (.slice (some ⟨b, o, none⟩) n c), aA 0, aA 0, aA 9223372036854775807, aA 9223372036854775807] 246 (0, 0))])
  (K : ∀ a w pg cur pd, cur.size = 0 → Fr 1287 a ((jX b o n c s fb big ak au ah) ++ [(36, aH pd (0 * 32) (0 * 32))]) → Mm [] w0 w [(pd, .cells (((l.drop ak).take (0 * 32)).map Bv).toArray 5 (0, 0)), (pg, .cells cur 136 (0, 0)), (fb, .cells #[aN 1, .int .u8 dat, aN 1, aV abi, aV aC, (aP big), aZ aQ, aZ aF, aJ ay, aK, aH pg 0 0, aK, aK, aK] 131 (0, 0)), (s, .cells #[.iface 178 (.slice (some ⟨b, o, none⟩) n c), aA 0, aA 0, aA 9223372036854775807, aA 9223372036854775807] 246 (0, 0))] → (spine Tryd.f78 35).wp Tryd.prog Q a w) : (spine Tryd.f78 29).wp Tryd.prog Q a w := by
 refine aW ?_
 refine aO HF HM rfl 2 [] ((jX b o n c s fb big ak au ah) ++ [(547, bD 0)]) [(fb, .cells #[aN 1, .int .u8 dat, aN 1, aV abi, aV aC, (aP big), aZ aQ, aZ aF, aJ ay, aK, aK, aK, aK, aK] 131 (0, 0)), (s, .cells #[.iface 178 (.slice (some ⟨b, o, none⟩) n c), aA 0, aA 0, aA 9223372036854775807, aA 9223372036854775807] 246 (0, 0))] (by kernel_rfl) fun a w HF HM => ?_
 refine bn HF (by kernel_rfl) 98 #[bD 8, aJ 0] (by kernel_rfl) (fun w => by kernel_rfl) (Calls.mono (oJ 0 (by omega) w) ?_)
 rintro _ w1 ⟨rfl, hq⟩
 replace HM : Mm [] w0 w1 [(fb, .cells #[aN 1, .int .u8 dat, aN 1, aV abi, aV aC, (aP big), aZ aQ, aZ aF, aJ ay, aK, aK, aK, aK, aK] 131 (0, 0)), (s, .cells #[.iface 178 (.slice (some ⟨b, o, none⟩) n c), aA 0, aA 0, aA 9223372036854775807, aA 9223372036854775807] 246 (0, 0))] := by first | (rw [hq]; exact HM) | (rw [← hq]; exact HM)
 clear hq
 refine ⟨_, rfl, ?_⟩; clear HF; intro a HF
 refine aO HF HM rfl 1 [] ((jX b o n c s fb big ak au ah) ++ [(35, aB 0)]) [(fb, .cells #[aN 1, .int .u8 dat, aN 1, aV abi, aV aC, (aP big), aZ aQ, aZ aF, aJ ay, aK, aK, aK, aK, aK] 131 (0, 0)), (s, .cells #[.iface 178 (.slice (some ⟨b, o, none⟩) n c), aA 0, aA 0, aA 9223372036854775807, aA 9223372036854775807] 246 (0, 0))] (by kernel_rfl) fun a w HF HM => ?_
 refine aI ?_
 refine wp_seq ?_
 refine aW ?_
 refine aO HF HM rfl 2 [] ((jX b o n c s fb big ak au ah) ++ [(35, aB 0), (550, .bool (decide (((0 : Nat) : Int) < 0)))]) [(fb, .cells #[aN 1, .int .u8 dat, aN 1, aV abi, aV aC, (aP big), aZ aQ, aZ aF, aJ ay, aK, aK, aK, aK, aK] 131 (0, 0)), (s, .cells #[.iface 178 (.slice (some ⟨b, o, none⟩) n c), aA 0, aA 0, aA 9223372036854775807, aA 9223372036854775807] 246 (0, 0))] (by kernel_rfl) fun a w HF HM => ?_
 rw [show decide (((0 : Nat) : Int) < 0) = false from bZ (by omega)] at HF
 refine aI ?_
 refine bf HF rfl ?_
 refine wp_skip ?_
 repeat first | refine aS ?_ | refine aU ?_
 replace HF := HF.sub ((jX b o n c s fb big ak au ah) ++ [(35, aB 0)]) (by kernel_rfl)
 refine wp_seq ?_
 refine aW ?_
 refine aO HF HM rfl 10 [] ((jX b o n c s fb big ak au ah) ++ [(35, aB 0), (565, .bool false)]) [(fb, .cells #[aN 1, .int .u8 dat, aN 1, aV abi, aV aC, (aP big), aZ aQ, aZ aF, aJ ay, aK, aK, aK, aK, aK] 131 (0, 0)), (s, .cells #[.iface 178 (.slice (some ⟨b, o, none⟩) n c), aA 0, aA 0, aA 9223372036854775807, aA 9223372036854775807] 246 (0, 0))] (by kernel_rfl) fun a w HF HM => ?_
 refine aI ?_
 refine bf HF rfl ?_
 refine wp_skip ?_
 repeat first | refine aS ?_ | refine aU ?_
 replace HF := HF.sub ((jX b o n c s fb big ak au ah) ++ [(35, aB 0)]) (by kernel_rfl)
 refine aW ?_
 refine aO HF HM rfl 2 [] ((jX b o n c s fb big ak au ah) ++ [(35, aB 0), (571, aG fb), (572, aB 0)]) [(fb, .cells #[aN 1, .int .u8 dat, aN 1, aV abi, aV aC, (aP big), aZ aQ, aZ aF, aJ ay, aK, aK, aK, aK, aK] 131 (0, 0)), (s, .cells #[.iface 178 (.slice (some ⟨b, o, none⟩) n c), aA 0, aA 0, aA 9223372036854775807, aA 9223372036854775807] 246 (0, 0))] (by kernel_rfl) fun a w HF HM => ?_
 refine jq HF HM rfl _ _ 127 rfl rfl 136 (.pointer none) 8 Tryd.underlying127 qy .i64 .i64 0 rfl rfl (by omega) (by unfold maxLen; omega) ?_
 intro a2 w2 pg cur hgw hcs bI HF2; have hg0 : w0.heap.size ≤ pg := Nat.le_trans HM.size hgw; clear HF HM hgw; have HM := bI; have HF := HF2; clear bI HF2
 refine aO HF HM rfl 3 [[1]] ((jX b o n c s fb big ak au ah) ++ [(35, aB 0)]) [(pg, .cells cur 136 (0, 0)), (fb, .cells #[aN 1, .int .u8 dat, aN 1, aV abi, aV aC, (aP big), aZ aQ, aZ aF, aJ ay, aK, aH pg 0 0, aK, aK, aK] 131 (0, 0)), (s, .cells #[.iface 178 (.slice (some ⟨b, o, none⟩) n c), aA 0, aA 0, aA 9223372036854775807, aA 9223372036854775807] 246 (0, 0))] (by kernel_rfl) fun a w HF HM => ?_
 refine aI ?_
 have hbs : b ≠ s := fun e => absurd hbl (Nat.not_lt_of_le (e ▸ HM.ge (i := 2) rfl))
 have hsz : w0.heap.size ≤ w.heap.size := HM.size
 refine aW ?_
 refine aO HF HM rfl 8 [] ((jX b o n c s fb big ak au ah) ++ [(35, aB 0), (578, .iface 144 (aG s)), (583, bD 0), (584, aB ak)]) [(pg, .cells cur 136 (0, 0)), (fb, .cells #[aN 1, .int .u8 dat, aN 1, aV abi, aV aC, (aP big), aZ aQ, aZ aF, aJ ay, aK, aH pg 0 0, aK, aK, aK] 131 (0, 0)), (s, .cells #[.iface 178 (.slice (some ⟨b, o, none⟩) n c), aA 0, aA 0, aA 9223372036854775807, aA 9223372036854775807] 246 (0, 0))] (by kernel_rfl) fun a w HF HM => ?_
 refine bn HF (by kernel_rfl) 99 #[.iface 144 (aG s), aJ (0 * 32), aB ak] (by kernel_rfl) (fun w => by kernel_rfl) (Calls.mono (xH l b o n c hl hnc s (0 * 32) 0 ak 0 9223372036854775807 9223372036854775807 (by omega) (by omega) (by omega) (by omega) (by omega) (by omega) w (HM.row hr (by intro b' o' s' _; simp)) (Nat.lt_of_lt_of_le hbl HM.size) hbs (HM.get (i := 2) rfl) ea (HM.row hE) (fun e => absurd (oz hE) (Nat.not_lt_of_le (e ▸ HM.ge (i := 2) rfl)))) ?_)
 rintro _ w3 ⟨pd, rfl, hb, hge, hgn⟩
 replace HM : Mm [] w0 w3 [(pd, .cells (((l.drop (0 + ak)).take (0 * 32)).map Bv).toArray 5 (0, 0)), (pg, .cells cur 136 (0, 0)), (fb, .cells #[aN 1, .int .u8 dat, aN 1, aV abi, aV aC, (aP big), aZ aQ, aZ aF, aJ ay, aK, aH pg 0 0, aK, aK, aK] 131 (0, 0)), (s, .cells #[.iface 178 (.slice (some ⟨b, o, none⟩) n c), aA 0, aA 0, aA 9223372036854775807, aA 9223372036854775807] 246 (0, 0))] := HM.push hb hge hgn
 clear hb hge hgn
 refine ⟨_, rfl, ?_⟩; clear HF; intro a HF
 refine aO HF HM rfl 5 [] ((jX b o n c s fb big ak au ah) ++ [(35, aB 0), (36, aH pd (0 * 32) (0 * 32)), (37, .nilIface)]) [(pd, .cells (((l.drop (0 + ak)).take (0 * 32)).map Bv).toArray 5 (0, 0)), (pg, .cells cur 136 (0, 0)), (fb, .cells #[aN 1, .int .u8 dat, aN 1, aV abi, aV aC, (aP big), aZ aQ, aZ aF, aJ ay, aK, aH pg 0 0, aK, aK, aK] 131 (0, 0)), (s, .cells #[.iface 178 (.slice (some ⟨b, o, none⟩) n c), aA 0, aA 0, aA 9223372036854775807, aA 9223372036854775807] 246 (0, 0))] (by kernel_rfl) fun a w HF HM => ?_
 refine aI ?_
 refine wp_seq ?_
 refine aW ?_
 refine aO HF HM rfl 2 [] ((jX b o n c s fb big ak au ah) ++ [(35, aB 0), (36, aH pd (0 * 32) (0 * 32)), (37, .nilIface), (589, .bool false)]) [(pd, .cells (((l.drop (0 + ak)).take (0 * 32)).map Bv).toArray 5 (0, 0)), (pg, .cells cur 136 (0, 0)), (fb, .cells #[aN 1, .int .u8 dat, aN 1, aV abi, aV aC, (aP big), aZ aQ, aZ aF, aJ ay, aK, aH pg 0 0, aK, aK, aK] 131 (0, 0)), (s, .cells #[.iface 178 (.slice (some ⟨b, o, none⟩) n c), aA 0, aA 0, aA 9223372036854775807, aA 9223372036854775807] 246 (0, 0))] (by kernel_rfl) fun a w HF HM => ?_
 refine aI ?_
 refine bf HF rfl ?_
 refine wp_skip ?_
 repeat first | refine aS ?_ | refine aU ?_
 replace HF := HF.sub ((jX b o n c s fb big ak au ah) ++ [(36, aH pd (0 * 32) (0 * 32))]) (by kernel_rfl)
 replace HF := HF.sub ((jX b o n c s fb big ak au ah) ++ [(36, aH pd (0 * 32) (0 * 32))]) (by kernel_rfl)
 rw [Nat.zero_add] at HM
 exact K a w pg cur pd hcs HF HM

abbrev jW := fun (b : Nat) (o : Nat) (n : Nat) (c : Nat) (s : Nat) (fb : Nat) (big : Bool) (ak : Nat) (au : Nat) (ah : Nat) => ([(0, .iface 178 (.slice (some ⟨b, o, none⟩) n c)), (4, aG s), (8, aG fb), (9, (aP big)), (10, aB ak), (11, aA 56), (12, aA 0), (13, aB au), (14, aA 64), (15, aB ah), (16, aB (ah - 1)), (26, aA 64)] : Slots)
theorem Jr (l : List UInt8) (b o n c : Nat) (hl : n = l.length) (hnc : n ≤ c) (big : Bool) (abi aC aQ aF ay ak aj au ah : Nat) (dat : Int) (b1 : aQ < 65536) (b2 : aF < 65536) (b3 : ay ≤ 18446744073709551615) (b4 : ak < 4611686018427387904) (b5 : au < 4611686018427387904) (b6 : aj < 200) (b7 : ah < 200) (c1 : 0 < au) (c2 : 0 < ah) (c4 : n ≤ ak) {Q : Exit → Act → World → Prop} (w0 : World) (hbl : b < w0.heap.size) (hr : Row w0 (some ⟨b, o, none⟩) (l.map Bv)) (ea : Addr) (hE : Row w0 (some ⟨2, 0, none⟩) [.iface 242 (.pointer (some ea))]) (a : Act) (w : World) (s fb : Nat) (HF : Fr 1287 a (jW b o n c s fb big ak au ah)) (HM : Mm [] w0 w [(fb, .cells #[aN 2, .int .u8 dat, aN 1, aV abi, aV aC, (aP big), aZ aQ, aZ aF, aJ ay, aK, aK, aK, aK, aK] 131 (0, 0)), (s, .cells #[.iface 178 (.slice (some ⟨b, o, none⟩) n c), aA 0, aA 0, aA 9223372036854775807, aA 9223372036854775807] 246 (0, 0))])
  (K : ∀ a w pg cur pd, cur.size = 0 → Fr 1287 a ((jW b o n c s fb big ak au ah) ++ [(36, aH pd (0 * 56) (0 * 56))]) → Mm [] w0 w [(pd, .cells (((l.drop ak).take (0 * 56)).map Bv).toArray 5 (0, 0)), (pg, .cells cur 136 (0, 0)), (fb, .cells #[aN 2, .int .u8 dat, aN 1, aV abi, aV aC, (aP big), aZ aQ, aZ aF, aJ ay, aK, aH pg 0 0, aK, aK, aK] 131 (0, 0)), (s, .cells #[.iface 178 (.slice (some ⟨b, o, none⟩) n c), aA 0, aA 0, aA 9223372036854775807, aA 9223372036854775807] 246 (0, 0))] → (spine Tryd.f78 35).wp Tryd.prog Q a w) : (spine Tryd.f78 29).wp Tryd.prog Q a w := by
 refine aW ?_
 refine aO HF HM rfl 2 [] ((jW b o n c s fb big ak au ah) ++ [(547, bD 0)]) [(fb, .cells #[aN 2, .int .u8 dat, aN 1, aV abi, aV aC, (aP big), aZ aQ, aZ aF, aJ ay, aK, aK, aK, aK, aK] 131 (0, 0)), (s, .cells #[.iface 178 (.slice (some ⟨b, o, none⟩) n c), aA 0, aA 0, aA 9223372036854775807, aA 9223372036854775807] 246 (0, 0))] (by kernel_rfl) fun a w HF HM => ?_
 refine bn HF (by kernel_rfl) 98 #[bD 8, aJ 0] (by kernel_rfl) (fun w => by kernel_rfl) (Calls.mono (oJ 0 (by omega) w) ?_)
 rintro _ w1 ⟨rfl, hq⟩
 replace HM : Mm [] w0 w1 [(fb, .cells #[aN 2, .int .u8 dat, aN 1, aV abi, aV aC, (aP big), aZ aQ, aZ aF, aJ ay, aK, aK, aK, aK, aK] 131 (0, 0)), (s, .cells #[.iface 178 (.slice (some ⟨b, o, none⟩) n c), aA 0, aA 0, aA 9223372036854775807, aA 9223372036854775807] 246 (0, 0))] := by first | (rw [hq]; exact HM) | (rw [← hq]; exact HM)
 clear hq
 refine ⟨_, rfl, ?_⟩; clear HF; intro a HF
 refine aO HF HM rfl 1 [] ((jW b o n c s fb big ak au ah) ++ [(35, aB 0)]) [(fb, .cells #[aN 2, .int .u8 dat, aN 1, aV abi, aV aC, (aP big), aZ aQ, aZ aF, aJ ay, aK, aK, aK, aK, aK] 131 (0, 0)), (s, .cells #[.iface 178 (.slice (some ⟨b, o, none⟩) n c), aA 0, aA 0, aA 9223372036854775807, aA 9223372036854775807] 246 (0, 0))] (by kernel_rfl) fun a w HF HM => ?_
 refine aI ?_
 refine wp_seq ?_
 refine aW ?_
 refine aO HF HM rfl 2 [] ((jW b o n c s fb big ak au ah) ++ [(35, aB 0), (550, .bool (decide (((0 : Nat) : Int) < 0)))]) [(fb, .cells #[aN 2, .int .u8 dat, aN 1, aV abi, aV aC, (aP big), aZ aQ, aZ aF, aJ ay, aK, aK, aK, aK, aK] 131 (0, 0)), (s, .cells #[.iface 178 (.slice (some ⟨b, o, none⟩) n c), aA 0, aA 0, aA 9223372036854775807, aA 9223372036854775807] 246 (0, 0))] (by kernel_rfl) fun a w HF HM => ?_
 rw [show decide (((0 : Nat) : Int) < 0) = false from bZ (by omega)] at HF
 refine aI ?_
 refine bf HF rfl ?_
 refine wp_skip ?_
 repeat first | refine aS ?_ | refine aU ?_
 replace HF := HF.sub ((jW b o n c s fb big ak au ah) ++ [(35, aB 0)]) (by kernel_rfl)
 refine wp_seq ?_
 refine aW ?_
 refine aO HF HM rfl 10 [] ((jW b o n c s fb big ak au ah) ++ [(35, aB 0), (565, .bool false)]) [(fb, .cells #[aN 2, .int .u8 dat, aN 1, aV abi, aV aC, (aP big), aZ aQ, aZ aF, aJ ay, aK, aK, aK, aK, aK] 131 (0, 0)), (s, .cells #[.iface 178 (.slice (some ⟨b, o, none⟩) n c), aA 0, aA 0, aA 9223372036854775807, aA 9223372036854775807] 246 (0, 0))] (by kernel_rfl) fun a w HF HM => ?_
 refine aI ?_
 refine bf HF rfl ?_
 refine wp_skip ?_
 repeat first | refine aS ?_ | refine aU ?_
 replace HF := HF.sub ((jW b o n c s fb big ak au ah) ++ [(35, aB 0)]) (by kernel_rfl)
 refine aW ?_
 refine aO HF HM rfl 2 [] ((jW b o n c s fb big ak au ah) ++ [(35, aB 0), (571, aG fb), (572, aB 0)]) [(fb, .cells #[aN 2, .int .u8 dat, aN 1, aV abi, aV aC, (aP big), aZ aQ, aZ aF, aJ ay, aK, aK, aK, aK, aK] 131 (0, 0)), (s, .cells #[.iface 178 (.slice (some ⟨b, o, none⟩) n c), aA 0, aA 0, aA 9223372036854775807, aA 9223372036854775807] 246 (0, 0))] (by kernel_rfl) fun a w HF HM => ?_
 refine jq HF HM rfl _ _ 127 rfl rfl 136 (.pointer none) 8 Tryd.underlying127 qy .i64 .i64 0 rfl rfl (by omega) (by unfold maxLen; omega) ?_
 intro a2 w2 pg cur hgw hcs bI HF2; have hg0 : w0.heap.size ≤ pg := Nat.le_trans HM.size hgw; clear HF HM hgw; have HM := bI; have HF := HF2; clear bI HF2
 refine aO HF HM rfl 3 [[1]] ((jW b o n c s fb big ak au ah) ++ [(35, aB 0)]) [(pg, .cells cur 136 (0, 0)), (fb, .cells #[aN 2, .int .u8 dat, aN 1, aV abi, aV aC, (aP big), aZ aQ, aZ aF, aJ ay, aK, aH pg 0 0, aK, aK, aK] 131 (0, 0)), (s, .cells #[.iface 178 (.slice (some ⟨b, o, none⟩) n c), aA 0, aA 0, aA 9223372036854775807, aA 9223372036854775807] 246 (0, 0))] (by kernel_rfl) fun a w HF HM => ?_
 refine aI ?_
 have hbs : b ≠ s := fun e => absurd hbl (Nat.not_lt_of_le (e ▸ HM.ge (i := 2) rfl))
 have hsz : w0.heap.size ≤ w.heap.size := HM.size
 refine aW ?_
 refine aO HF HM rfl 8 [] ((jW b o n c s fb big ak au ah) ++ [(35, aB 0), (578, .iface 144 (aG s)), (583, bD 0), (584, aB ak)]) [(pg, .cells cur 136 (0, 0)), (fb, .cells #[aN 2, .int .u8 dat, aN 1, aV abi, aV aC, (aP big), aZ aQ, aZ aF, aJ ay, aK, aH pg 0 0, aK, aK, aK] 131 (0, 0)), (s, .cells #[.iface 178 (.slice (some ⟨b, o, none⟩) n c), aA 0, aA 0, aA 9223372036854775807, aA 9223372036854775807] 246 (0, 0))] (by kernel_rfl) fun a w HF HM => ?_
 refine bn HF (by kernel_rfl) 99 #[.iface 144 (aG s), aJ (0 * 56), aB ak] (by kernel_rfl) (fun w => by kernel_rfl) (Calls.mono (xH l b o n c hl hnc s (0 * 56) 0 ak 0 9223372036854775807 9223372036854775807 (by omega) (by omega) (by omega) (by omega) (by omega) (by omega) w (HM.row hr (by intro b' o' s' _; simp)) (Nat.lt_of_lt_of_le hbl HM.size) hbs (HM.get (i := 2) rfl) ea (HM.row hE) (fun e => absurd (oz hE) (Nat.not_lt_of_le (e ▸ HM.ge (i := 2) rfl)))) ?_)
 rintro _ w3 ⟨pd, rfl, hb, hge, hgn⟩
 replace HM : Mm [] w0 w3 [(pd, .cells (((l.drop (0 + ak)).take (0 * 56)).map Bv).toArray 5 (0, 0)), (pg, .cells cur 136 (0, 0)), (fb, .cells #[aN 2, .int .u8 dat, aN 1, aV abi, aV aC, (aP big), aZ aQ, aZ aF, aJ ay, aK, aH pg 0 0, aK, aK, aK] 131 (0, 0)), (s, .cells #[.iface 178 (.slice (some ⟨b, o, none⟩) n c), aA 0, aA 0, aA 9223372036854775807, aA 9223372036854775807] 246 (0, 0))] := HM.push hb hge hgn
 clear hb hge hgn
 refine ⟨_, rfl, ?_⟩; clear HF; intro a HF
 refine aO HF HM rfl 5 [] ((jW b o n c s fb big ak au ah) ++ [(35, aB 0), (36, aH pd (0 * 56) (0 * 56)), (37, .nilIface)]) [(pd, .cells (((l.drop (0 + ak)).take (0 * 56)).map Bv).toArray 5 (0, 0)), (pg, .cells cur 136 (0, 0)), (fb, .cells #[aN 2, .int .u8 dat, aN 1, aV abi, aV aC, (aP big), aZ aQ, aZ aF, aJ ay, aK, aH pg 0 0, aK, aK, aK] 131 (0, 0)), (s, .cells #[.iface 178 (.slice (some ⟨b, o, none⟩) n c), aA 0, aA 0, aA 9223372036854775807, aA 9223372036854775807] 246 (0, 0))] (by kernel_rfl) fun a w HF HM => ?_
 refine aI ?_
 refine wp_seq ?_
 refine aW ?_
 refine aO HF HM rfl 2 [] ((jW b o n c s fb big ak au ah) ++ [(35, aB 0), (36, aH pd (0 * 56) (0 * 56)), (37, .nilIface), (589, .bool false)]) [(pd, .cells (((l.drop (0 + ak)).take (0 * 56)).map Bv).toArray 5 (0, 0)), (pg, .cells cur 136 (0, 0)), (fb, .cells #[aN 2, .int .u8 dat, aN 1, aV abi, aV aC, (aP big), aZ aQ, aZ aF, aJ ay, aK, aH pg 0 0, aK, aK, aK] 131 (0, 0)), (s, .cells #[.iface 178 (.slice (some ⟨b, o, none⟩) n c), aA 0, aA 0, aA 9223372036854775807, aA 9223372036854775807] 246 (0, 0))] (by kernel_rfl) fun a w HF HM => ?_
 refine aI ?_
 refine bf HF rfl ?_
 refine wp_skip ?_
 repeat first | refine aS ?_ | refine aU ?_
 replace HF := HF.sub ((jW b o n c s fb big ak au ah) ++ [(36, aH pd (0 * 56) (0 * 56))]) (by kernel_rfl)
 replace HF := HF.sub ((jW b o n c s fb big ak au ah) ++ [(36, aH pd (0 * 56) (0 * 56))]) (by kernel_rfl)
 rw [Nat.zero_add] at HM
 exact K a w pg cur pd hcs HF HM

end Go.Proofs.YtdgehpocmfjbiaaDoor
