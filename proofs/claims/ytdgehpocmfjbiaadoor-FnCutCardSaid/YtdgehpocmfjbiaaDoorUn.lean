/- elf.NewFile on a file that is cut. · impl.open and impl.Head on a file that is cut. · The sentinel of a file's end, out of what is laid. -/
import Derived.Test.YtdgehpocmfjbiaaDoorUm
import Derived.Test.YtdgehpocmfjbiaaDoorUf
import Derived.Test.YtdgehpocmfjbiaaDoorUd
import Derived.Test.YtdgehpocmfjbiaaDoorUh
import Derived.Test.YtdgehpocmfjbiaaDoorRows
import Derived.Stop.LaidErr
import Derived.LaidSub
import Derived.RowKitTokens
set_option linter.unusedVariables false
set_option linter.unusedSimpArgs false
set_option maxRecDepth 100000
set_option maxHeartbeats 2000000
namespace Go.Proofs.YtdgehpocmfjbiaaDoor
open Go.RowKit
theorem yS {l : List UInt8} {k : Nat} (h : k < l.length) : k = (l.take k).length := by rw [List.length_take]; omega
theorem yO {l : List UInt8} {wide big : Bool} {abi aC : Nat} (h : ∃ r, l = rU wide big abi aC ++ r) (k : Nat) (hk : 16 ≤ k) : ∃ r, l.take k = rU wide big abi aC ++ r := by
 obtain ⟨r, rfl⟩ := h
 refine ⟨r.take (k - 16), ?_⟩
 rw [List.take_append]
 have e : (rU wide big abi aC).length = 16 := rfl
 rw [e, List.take_of_length_le (by rw [e]; exact hk)]
theorem uQ {l : List UInt8} {wide big : Bool} {abi aC aQ aF ay ak aj au ah : Nat} (H : yU l wide big abi aC aQ aF ay ak aj au ah) (k : Nat) (hk : fB wide ≤ k) (hkl : k ≤ l.length) : yU (l.take k) wide big abi aC aQ aF ay ak aj au ah := by
 have h2 : ∀ off s, off + s ≤ k → num big (l.take k) off s = num big l off s := fun off s h => Dz big l k off s h
 have hs : 40 + 3 * g_ wide ≤ k := by cases wide <;> simp [fB, g_] at hk ⊢ <;> omega
 exact ⟨by rw [List.length_take]; omega, yO H.id k (by omega), (h2 _ _ (by omega)).trans H.ty, (h2 _ _ (by omega)).trans H.machine, (h2 _ _ (by omega)).trans H.ver, (h2 _ _ (by omega)).trans H.entry, (h2 _ _ (by omega)).trans H.J5, (h2 _ _ (by omega)).trans H.kJ, (h2 _ _ (by omega)).trans H.J7, (h2 _ _ (by omega)).trans H.J6, (h2 _ _ (by omega)).trans H.JX, (h2 _ _ (by omega)).trans H.JW, (h2 _ _ (by omega)).trans H.vI⟩
theorem zh (l : List UInt8) (k p m : Nat) (h : m = 0 ∨ p + m ≤ k) : ((l.take k).drop p).take m = (l.drop p).take m := by
 rcases h with rfl | h
 ·rw [List.take_zero, List.take_zero]
 ·rw [List.drop_take, List.take_take, Nat.min_eq_left (by omega)]
theorem Lj (A : Option Addr) (l : List UInt8) (n c : Nat) (hl : n = l.length) (hnc : n ≤ c) (g : Nat) (cs : Array Value) (t : TypeId) (m mc : Nat) (hm : cs.size = m) (h0 : n < m) (w0 : World) (hr : Row w0 A (l.map Bv)) (hA : 0 < n → ∀ b o s, A = some ⟨b, o, s⟩ → b ≠ g) (hg : w0.heap[g]? = some (.cells cs t (0, 0))) (eof : Value) (uw : w0.cell? ⟨2, 0, none⟩ = some eof) (hge : 2 ≠ g) :
  Calls Tryd.prog 127 #[.slice A n c, aH g m mc, aB 0] w0 fun e w' => ∃ k : Int, e = .returned (.tuple #[.int .i64 k, eof]) ∧ Keep [g] w0 w' ∧ ∃ cs' : Array Value, w'.heap[g]? = some (.cells cs' t (0, 0)) ∧ cs'.size = cs.size := by
 rcases Nat.eq_zero_or_pos n with h | h
 ·exact D6 A n c g cs t m mc 0 (by omega) w0 hg eof uw hge
 ·exact AZ A l n c hl hnc g cs t m mc hm 0 (.inr (by omega)) w0 hr (hA h) hg eof uw hge

abbrev oq := fun s (A : Option Addr) (n : Nat) (c : Nat) => ((s, .cells #[.iface 178 (.slice A n c), aA 0, aA 0, aA 9223372036854775807, aA 9223372036854775807] 246 (0, 0)) : Nat × Obj)
theorem Gg (l : List UInt8) (A : Option Addr) (n c : Nat) (hl : n = l.length) (hnc : n ≤ c) (hsh : n < 16) (w0 : World) (hr : Row w0 A (l.map Bv)) (ea : Addr) (hE : Row w0 (some ⟨2, 0, none⟩) [.iface 242 (.pointer (some ea))]) : Calls Tryd.prog 78 #[.iface 178 (.slice A n c)] w0 fun e w' => ∃ t v, e = .returned (.tuple #[.pointer none, .iface t v]) ∧ Below w0.heap.size w0 w' := by
 have hlt := oz hE
 obtain ⟨w, hw⟩ : ∃ w, w0 = w := ⟨_, rfl⟩
 have HM : Mm [] w0 w [] := hw ▸ Mm.start w0
 conv => arg 4; rw [hw]
 clear hw
 refine bV (c := spine Tryd.f78 0) Tryd.func78 rfl Tryd.ntmps78 [(0, .iface 178 (.slice A n c))] (by kernel_rfl) (Nat.le_of_ble_eq_true rfl) ?_
 intro a HF
 refine aW ?_
 refine wp_pure HF HM rfl 2 [] [(0, .iface 178 (.slice A n c))] (by kernel_rfl) fun a HF => ?_
 refine dK ?_
 refine wp_pure HF HM rfl 1 [] [(0, .iface 178 (.slice A n c)), (57, .iface 178 (.slice A n c))] (by kernel_rfl) fun a HF => ?_
 refine bn HF (by kernel_rfl) 92 #[.iface 178 (.slice A n c), aA 0, aA 9223372036854775807] (by kernel_rfl) (fun w => by kernel_rfl) (Calls.mono (nX 178 (.slice A n c) 0 9223372036854775807 (by omega) (by omega) (by omega) w) ?_)
 rintro _ w1 ⟨s, rfl, hb, hge, hgn⟩
 replace HM : Mm [] w0 w1 [oq s A n c] := HM.push hb hge hgn
 clear hb hge hgn
 refine ⟨_, rfl, ?_⟩; clear HF; intro a HF
 refine wp_pure HF HM rfl 1 [] [(0, .iface 178 (.slice A n c)), (4, aG s)] (by kernel_rfl) fun a HF => ?_
 refine dK ?_
 obtain ⟨z4, nH⟩ : ∃ z, w1.heap.size = z := ⟨_, rfl⟩
 refine aO HF HM nH 1 [] [(0, .iface 178 (.slice A n c)), (4, aG s), (5, aG z4)] [(z4, .cells #[aN 0, aN 0, aN 0, aN 0, aN 0, aN 0, aN 0, aN 0, aN 0, aN 0, aN 0, aN 0, aN 0, aN 0, aN 0, aN 0] 205 (0, 0)), oq s A n c] (by kernel_rfl) fun a w HF HM => ?_
 clear nH
 refine aI ?_
 refine wp_seq ?_
 refine pK HM (by kernel_rfl) [oq s A n c] [(0, false), (1, false), (2, false), (3, false), (4, false), (5, true), (6, false), (7, false), (8, false), (9, false), (10, false)] (by kernel_rfl) fun w2 HM => ?_
 refine bH HF (HM.told [1] rfl) 5 [] [(0, .iface 178 (.slice A n c)), (4, aG s), (5, aG z4), (61, aH z4 16 16), (64, .iface 178 (.slice A n c))] (by kernel_rfl) fun a HF => ?_
 refine b_ rfl ?_
 have u_ : 2 ≠ z4 := fun e => absurd hlt (Nat.not_lt_of_le (e ▸ HM.ge (i := 0) rfl))
 refine bn HF (by kernel_rfl) 127 #[.slice A n c, aH z4 16 16, aB 0] (by kernel_rfl) (fun w => by kernel_rfl) (Calls.mono (Lj A l n c hl hnc z4 #[aN 0, aN 0, aN 0, aN 0, aN 0, aN 0, aN 0, aN 0, aN 0, aN 0, aN 0, aN 0, aN 0, aN 0, aN 0, aN 0] 205 16 16 rfl hsh w2 (HM.row hr) (fun hp b' o' s' e he => by obtain ⟨b1, o1, e1, h1⟩ := Lh hr (by rw [List.length_map]; omega); rw [e1] at e; injection e with e; injection e with e; subst e; exact absurd h1 (Nat.not_lt_of_le (he ▸ HM.ge (i := 0) rfl))) (HM.get (i := 0) rfl) _ (uN (HM.row hE)) u_) ?_)
 rintro _ w3 ⟨kk, rfl, hkp, cs', hgn, -⟩
 replace HM : Mm [] w0 w3 [(z4, .cells cs' 205 (0, 0)), oq s A n c] := HM.put (i := 0) rfl hgn hkp
 clear hkp hgn
 refine ⟨_, rfl, ?_⟩; clear HF; intro a HF
 replace HF := HF.sub [(0, .iface 178 (.slice A n c)), (4, aG s), (5, aG z4), (65, .tuple #[.int .i64 kk, .iface 242 (.pointer (some ea))])] (by kernel_rfl)
 refine dF (HM.told [1] rfl) ?_
 refine bH HF (HM.told [1] rfl) 5 [] [(0, .iface 178 (.slice A n c)), (4, aG s), (5, aG z4), (7, .iface 242 (.pointer (some ea)))] (by kernel_rfl) fun a HF => ?_
 refine lI ?_
 refine aS ?_
 refine aW ?_
 refine wp_pure HF HM rfl 2 [] [(0, .iface 178 (.slice A n c)), (4, aG s), (5, aG z4), (7, .iface 242 (.pointer (some ea))), (69, .bool true)] (by kernel_rfl) fun a HF => ?_
 refine aI ?_
 refine bF HF rfl ?_
 refine aW ?_
 obtain ⟨z6, BD⟩ : ∃ z, w3.heap.size = z := ⟨_, rfl⟩
 refine aO HF HM BD 6 [] [(2, .pointer none), (3, .iface 206 (aG z6))] [(z6, .cells #[aA 0, .string (⟨#[99, 97, 110, 110, 111, 116, 32, 114, 101, 97, 100, 32, 69, 76, 70, 32, 105, 100, 101, 110, 116, 105, 102, 105, 101, 114]⟩ : ByteArray), .iface 242 (.pointer (some ea))] 208 (0, 0)), (z4, .cells cs' 205 (0, 0)), oq s A n c] (by kernel_rfl) fun a w HF HM => ?_
 clear BD
 refine aI ?_
 refine wp_ret ?_
 repeat first | refine cu ?_ | refine dw ?_
 exact h_ HF rfl rfl rfl ⟨_, _, rfl, HM.below⟩

theorem ET (l : List UInt8) (n : Nat) (hl : n = l.length) (abi aC aQ aF ay ak aj au ah : Nat) (sg : Nat → jQ) (sc : Nat → gV) (nb : Nat → List UInt8) (H : lJ l n false false abi aC aQ aF ay ak aj au ah sg sc nb) (k : Nat) (hk : k < n) (xk : 16 ≤ k) (hend : n ≤ au + 40 * ah) (b o c : Nat) (hkc : k ≤ c) (w0 : World) (hbl : b < w0.heap.size) (hr : Row w0 (some ⟨b, o, none⟩) ((l.take k).map Bv)) (ea : Addr) (hE : Row w0 (some ⟨2, 0, none⟩) [.iface 242 (.pointer (some ea))]) :
  Calls Tryd.prog 78 #[.iface 178 (.slice (some ⟨b, o, none⟩) k c)] w0 fun e w' => ∃ t v, e = .returned (.tuple #[.pointer none, .iface t v]) ∧ Below w0.heap.size w0 w' := by
 have hlk : k = (l.take k).length := yS (by omega)
 have h2 := oz hE
 refine bV (c := spine Tryd.f78 0) Tryd.func78 rfl Tryd.ntmps78 [(0, .iface 178 (.slice (some ⟨b, o, none⟩) k c))] (by kernel_rfl) (Nat.le_of_ble_eq_true rfl) ?_
 intro a HF
 refine JA (l.take k) b o k c hlk hkc xk abi aC (qN (yO H.head.id k xk) H.a1 H.a2) w0 hbl hr a w0 HF (Mm.start w0) ?_
 clear HF
 intro a w s fb HF HM
 by_cases hB : k < 52
 ·exact Jw (l.take k) b o k c hlk hkc hB false abi aC 1 w0 hbl hr ea hE a w s fb HF HM (fun a w' HF hk => h_ HF rfl rfl rfl ⟨_, _, rfl, hk.below⟩)
 refine Et (l.take k) b o k c hlk hkc (by omega) false abi aC aQ aF ay ak aj au ah 1 (uQ H.head k (by show 52 ≤ k; omega) (by omega)) H.b1 H.b2 H.b3 H.b4 H.b5 H.b6 H.b7 w0 hbl hr a w s fb HF HM ?_
 clear HF HM
 intro a w HF HM
 have hp2 : ak + aj * 32 ≤ n := H.p2
 have hD : (aj * 32 = 0 ∨ ak + aj * 32 ≤ k) → ∀ (a : Act) (w : World) (pg : Nat) (cur : Array Value) (pd : Nat), cur.size = aj → Fr 1287 a [(0, .iface 178 (.slice (some ⟨b, o, none⟩) k c)), (4, aG s), (8, aG fb), (9, (aP false)), (10, aB ak), (11, aA 32), (12, aB aj), (13, aB au), (14, aA 40), (15, aB ah), (16, aB (ah - 1)), (26, aA 40), (36, aH pd (aj * 32) (aj * 32))] → Mm [] w0 w [(pd, .cells ((((l.take k).drop ak).take (aj * 32)).map Bv).toArray 5 (0, 0)), (pg, .cells cur 136 (0, 0)), (fb, .cells #[aN 1, aN 1, aN 1, aV abi, aV aC, (aP false), aZ aQ, aZ aF, aJ ay, aK, aH pg 0 aj, aK, aK, aK] 131 (0, 0)), (s, .cells #[.iface 178 (.slice (some ⟨b, o, none⟩) k c), aA 0, aA 0, aA 9223372036854775807, aA 9223372036854775807] 246 (0, 0))] → (spine Tryd.f78 35).wp Tryd.prog (bodyPost Tryd.prog Tryd.f78 fun e w' => ∃ t v, e = .returned (.tuple #[.pointer none, .iface t v]) ∧ Below w0.heap.size w0 w') a w := by
  clear HF HM a w
  intro hX a w pg cur pd hcs HF HM
  rw [zh l k ak (aj * 32) hX] at HM
  refine Ee (l.take k) b o k c hlk hkc false abi aC aQ aF ay ak aj au ah 1 H.b1 H.b2 H.b3 H.b4 H.b5 H.b6 H.b7 _ (by simp; omega) sg H.seg H.v1 H.v2 H.v3 H.v4 H.v5 H.v6 w0 s fb pg pd a w cur hcs HF HM ?_
  clear HF HM hcs cur a w
  intro a w cur hcs hP HF HM
  have hbs : b ≠ s := fun e => absurd hbl (Nat.not_lt_of_le (e ▸ HM.ge (i := 3) rfl))
  have hbf : b ≠ fb := fun e => absurd hbl (Nat.not_lt_of_le (e ▸ HM.ge (i := 2) rfl))
  have ou : 2 ≠ s := fun e => absurd h2 (Nat.not_lt_of_le (e ▸ HM.ge (i := 3) rfl))
  have Ib : 2 ≠ fb := fun e => absurd h2 (Nat.not_lt_of_le (e ▸ HM.ge (i := 2) rfl))
  have uI : Mm [s, fb] w w [(fb, .cells #[aN 1, aN 1, aN 1, aV abi, aV aC, (aP false), aZ aQ, aZ aF, aJ ay, aK, aH pg aj aj, aK, aK, aK] 131 (0, 0)), (s, .cells #[.iface 178 (.slice (some ⟨b, o, none⟩) k c), aA 0, aA 0, aA 9223372036854775807, aA 9223372036854775807] 246 (0, 0))] :=
   ⟨Keep.refl _ _, fun p hp => by
    simp only [List.mem_cons, List.not_mem_nil, or_false] at hp
    rcases hp with rfl | rfl
    ·exact ⟨HM.get (i := 2) rfl, .inr (by simp)⟩
    ·exact ⟨HM.get (i := 3) rfl, .inr (by simp)⟩, by
    have := HM.ne (i := 2) (j := 3) rfl rfl (by decide)
    simp [this]⟩
  exact Jq (l.take k) b o k c hlk hkc false abi aC aQ aF ay ak aj au ah 1 H.b1 H.b2 H.b3 H.b4 H.b5 H.b6 H.b7 (by have := H.c3; omega) (by omega) w (Nat.lt_of_lt_of_le hbl HM.size) (HM.row hr) ea (HM.row hE) [s, fb] (by simp [hbs, hbf]) (by simp [ou, Ib]) a w s fb pg hbs ou (HF.sub _ (by kernel_rfl)) uI (fun a w' HF hk => h_ HF rfl rfl rfl ⟨_, _, rfl, (HM.keep.step hk (fun g hg => by
   simp only [List.mem_cons, List.not_mem_nil, or_false] at hg
   rcases hg with rfl | rfl
   ·exact .inl (HM.ge (i := 3) rfl)
   ·exact .inl (HM.ge (i := 2) rfl))).below⟩)
 rcases Nat.eq_zero_or_pos aj with h0 | h0
 ·subst h0
  refine CZ (l.take k) b o k c hlk hkc false abi aC aQ aF ay ak 0 au ah 1 H.b1 H.b2 H.b3 H.b4 H.b5 H.b6 H.b7 H.c1 (by have := H.c3; omega) w0 a w s fb HF HM ?_
  clear HF HM a w
  intro a w HF HM
  by_cases hq : k ≤ ak
  ·exact Js (l.take k) b o k c hlk hkc false abi aC aQ aF ay ak 0 au ah 1 H.b1 H.b2 H.b3 H.b4 H.b5 H.b6 H.b7 H.c1 (by have := H.c3; omega) hq w0 hbl hr ea hE a w s fb HF HM (hD (.inl rfl))
  ·exact CV (l.take k) b o k c hlk hkc false abi aC aQ aF ay ak 0 au ah 1 H.b1 H.b2 H.b3 H.b4 H.b5 H.b6 H.b7 H.c1 (by have := H.c3; omega) (by omega) (by omega) w0 hbl hr a w s fb HF HM (hD (.inl rfl))
 ·refine CY (l.take k) b o k c hlk hkc false abi aC aQ aF ay ak aj au ah 1 H.b1 H.b2 H.b3 H.b4 H.b5 H.b6 H.b7 H.c1 (by have := H.c3; omega) h0 w0 a w s fb HF HM ?_
  clear HF HM a w
  intro a w HF HM
  by_cases hq : k < ak + 32 * aj
  ·exact Ju (l.take k) b o k c hlk hkc false abi aC aQ aF ay ak aj au ah 1 H.b1 H.b2 H.b3 H.b4 H.b5 H.b6 H.b7 h0 hq w0 hbl hr ea hE a w s fb HF HM (fun a w' HF hk => h_ HF rfl rfl rfl ⟨_, _, rfl, hk.below⟩)
  ·exact CU (l.take k) b o k c hlk hkc false abi aC aQ aF ay ak aj au ah 1 H.b1 H.b2 H.b3 H.b4 H.b5 H.b6 H.b7 H.c1 (by have := H.c3; omega) h0 (by omega) (by omega) w0 hbl hr a w s fb HF HM (hD (.inr (by omega)))

theorem EU (l : List UInt8) (n : Nat) (hl : n = l.length) (abi aC aQ aF ay ak aj au ah : Nat) (sg : Nat → jQ) (sc : Nat → gV) (nb : Nat → List UInt8) (H : lJ l n false true abi aC aQ aF ay ak aj au ah sg sc nb) (k : Nat) (hk : k < n) (xk : 16 ≤ k) (hend : n ≤ au + 40 * ah) (b o c : Nat) (hkc : k ≤ c) (w0 : World) (hbl : b < w0.heap.size) (hr : Row w0 (some ⟨b, o, none⟩) ((l.take k).map Bv)) (ea : Addr) (hE : Row w0 (some ⟨2, 0, none⟩) [.iface 242 (.pointer (some ea))]) :
  Calls Tryd.prog 78 #[.iface 178 (.slice (some ⟨b, o, none⟩) k c)] w0 fun e w' => ∃ t v, e = .returned (.tuple #[.pointer none, .iface t v]) ∧ Below w0.heap.size w0 w' := by
 have hlk : k = (l.take k).length := yS (by omega)
 have h2 := oz hE
 refine bV (c := spine Tryd.f78 0) Tryd.func78 rfl Tryd.ntmps78 [(0, .iface 178 (.slice (some ⟨b, o, none⟩) k c))] (by kernel_rfl) (Nat.le_of_ble_eq_true rfl) ?_
 intro a HF
 refine JB (l.take k) b o k c hlk hkc xk abi aC (qN (yO H.head.id k xk) H.a1 H.a2) w0 hbl hr a w0 HF (Mm.start w0) ?_
 clear HF
 intro a w s fb HF HM
 by_cases hB : k < 52
 ·exact Jw (l.take k) b o k c hlk hkc hB true abi aC 2 w0 hbl hr ea hE a w s fb HF HM (fun a w' HF hk => h_ HF rfl rfl rfl ⟨_, _, rfl, hk.below⟩)
 refine Et (l.take k) b o k c hlk hkc (by omega) true abi aC aQ aF ay ak aj au ah 2 (uQ H.head k (by show 52 ≤ k; omega) (by omega)) H.b1 H.b2 H.b3 H.b4 H.b5 H.b6 H.b7 w0 hbl hr a w s fb HF HM ?_
 clear HF HM
 intro a w HF HM
 have hp2 : ak + aj * 32 ≤ n := H.p2
 have hD : (aj * 32 = 0 ∨ ak + aj * 32 ≤ k) → ∀ (a : Act) (w : World) (pg : Nat) (cur : Array Value) (pd : Nat), cur.size = aj → Fr 1287 a [(0, .iface 178 (.slice (some ⟨b, o, none⟩) k c)), (4, aG s), (8, aG fb), (9, (aP true)), (10, aB ak), (11, aA 32), (12, aB aj), (13, aB au), (14, aA 40), (15, aB ah), (16, aB (ah - 1)), (26, aA 40), (36, aH pd (aj * 32) (aj * 32))] → Mm [] w0 w [(pd, .cells ((((l.take k).drop ak).take (aj * 32)).map Bv).toArray 5 (0, 0)), (pg, .cells cur 136 (0, 0)), (fb, .cells #[aN 1, aN 2, aN 1, aV abi, aV aC, (aP true), aZ aQ, aZ aF, aJ ay, aK, aH pg 0 aj, aK, aK, aK] 131 (0, 0)), (s, .cells #[.iface 178 (.slice (some ⟨b, o, none⟩) k c), aA 0, aA 0, aA 9223372036854775807, aA 9223372036854775807] 246 (0, 0))] → (spine Tryd.f78 35).wp Tryd.prog (bodyPost Tryd.prog Tryd.f78 fun e w' => ∃ t v, e = .returned (.tuple #[.pointer none, .iface t v]) ∧ Below w0.heap.size w0 w') a w := by
  clear HF HM a w
  intro hX a w pg cur pd hcs HF HM
  rw [zh l k ak (aj * 32) hX] at HM
  refine Ee (l.take k) b o k c hlk hkc true abi aC aQ aF ay ak aj au ah 2 H.b1 H.b2 H.b3 H.b4 H.b5 H.b6 H.b7 _ (by simp; omega) sg H.seg H.v1 H.v2 H.v3 H.v4 H.v5 H.v6 w0 s fb pg pd a w cur hcs HF HM ?_
  clear HF HM hcs cur a w
  intro a w cur hcs hP HF HM
  have hbs : b ≠ s := fun e => absurd hbl (Nat.not_lt_of_le (e ▸ HM.ge (i := 3) rfl))
  have hbf : b ≠ fb := fun e => absurd hbl (Nat.not_lt_of_le (e ▸ HM.ge (i := 2) rfl))
  have ou : 2 ≠ s := fun e => absurd h2 (Nat.not_lt_of_le (e ▸ HM.ge (i := 3) rfl))
  have Ib : 2 ≠ fb := fun e => absurd h2 (Nat.not_lt_of_le (e ▸ HM.ge (i := 2) rfl))
  have uI : Mm [s, fb] w w [(fb, .cells #[aN 1, aN 2, aN 1, aV abi, aV aC, (aP true), aZ aQ, aZ aF, aJ ay, aK, aH pg aj aj, aK, aK, aK] 131 (0, 0)), (s, .cells #[.iface 178 (.slice (some ⟨b, o, none⟩) k c), aA 0, aA 0, aA 9223372036854775807, aA 9223372036854775807] 246 (0, 0))] :=
   ⟨Keep.refl _ _, fun p hp => by
    simp only [List.mem_cons, List.not_mem_nil, or_false] at hp
    rcases hp with rfl | rfl
    ·exact ⟨HM.get (i := 2) rfl, .inr (by simp)⟩
    ·exact ⟨HM.get (i := 3) rfl, .inr (by simp)⟩, by
    have := HM.ne (i := 2) (j := 3) rfl rfl (by decide)
    simp [this]⟩
  exact Jq (l.take k) b o k c hlk hkc true abi aC aQ aF ay ak aj au ah 2 H.b1 H.b2 H.b3 H.b4 H.b5 H.b6 H.b7 (by have := H.c3; omega) (by omega) w (Nat.lt_of_lt_of_le hbl HM.size) (HM.row hr) ea (HM.row hE) [s, fb] (by simp [hbs, hbf]) (by simp [ou, Ib]) a w s fb pg hbs ou (HF.sub _ (by kernel_rfl)) uI (fun a w' HF hk => h_ HF rfl rfl rfl ⟨_, _, rfl, (HM.keep.step hk (fun g hg => by
   simp only [List.mem_cons, List.not_mem_nil, or_false] at hg
   rcases hg with rfl | rfl
   ·exact .inl (HM.ge (i := 3) rfl)
   ·exact .inl (HM.ge (i := 2) rfl))).below⟩)
 rcases Nat.eq_zero_or_pos aj with h0 | h0
 ·subst h0
  refine CZ (l.take k) b o k c hlk hkc true abi aC aQ aF ay ak 0 au ah 2 H.b1 H.b2 H.b3 H.b4 H.b5 H.b6 H.b7 H.c1 (by have := H.c3; omega) w0 a w s fb HF HM ?_
  clear HF HM a w
  intro a w HF HM
  by_cases hq : k ≤ ak
  ·exact Js (l.take k) b o k c hlk hkc true abi aC aQ aF ay ak 0 au ah 2 H.b1 H.b2 H.b3 H.b4 H.b5 H.b6 H.b7 H.c1 (by have := H.c3; omega) hq w0 hbl hr ea hE a w s fb HF HM (hD (.inl rfl))
  ·exact CV (l.take k) b o k c hlk hkc true abi aC aQ aF ay ak 0 au ah 2 H.b1 H.b2 H.b3 H.b4 H.b5 H.b6 H.b7 H.c1 (by have := H.c3; omega) (by omega) (by omega) w0 hbl hr a w s fb HF HM (hD (.inl rfl))
 ·refine CY (l.take k) b o k c hlk hkc true abi aC aQ aF ay ak aj au ah 2 H.b1 H.b2 H.b3 H.b4 H.b5 H.b6 H.b7 H.c1 (by have := H.c3; omega) h0 w0 a w s fb HF HM ?_
  clear HF HM a w
  intro a w HF HM
  by_cases hq : k < ak + 32 * aj
  ·exact Ju (l.take k) b o k c hlk hkc true abi aC aQ aF ay ak aj au ah 2 H.b1 H.b2 H.b3 H.b4 H.b5 H.b6 H.b7 h0 hq w0 hbl hr ea hE a w s fb HF HM (fun a w' HF hk => h_ HF rfl rfl rfl ⟨_, _, rfl, hk.below⟩)
  ·exact CU (l.take k) b o k c hlk hkc true abi aC aQ aF ay ak aj au ah 2 H.b1 H.b2 H.b3 H.b4 H.b5 H.b6 H.b7 H.c1 (by have := H.c3; omega) h0 (by omega) (by omega) w0 hbl hr a w s fb HF HM (hD (.inr (by omega)))

theorem ER (l : List UInt8) (n : Nat) (hl : n = l.length) (abi aC aQ aF ay ak aj au ah : Nat) (sg : Nat → jQ) (sc : Nat → gV) (nb : Nat → List UInt8) (H : lJ l n true false abi aC aQ aF ay ak aj au ah sg sc nb) (k : Nat) (hk : k < n) (xk : 16 ≤ k) (hend : n ≤ au + 64 * ah) (b o c : Nat) (hkc : k ≤ c) (w0 : World) (hbl : b < w0.heap.size) (hr : Row w0 (some ⟨b, o, none⟩) ((l.take k).map Bv)) (ea : Addr) (hE : Row w0 (some ⟨2, 0, none⟩) [.iface 242 (.pointer (some ea))]) :
  Calls Tryd.prog 78 #[.iface 178 (.slice (some ⟨b, o, none⟩) k c)] w0 fun e w' => ∃ t v, e = .returned (.tuple #[.pointer none, .iface t v]) ∧ Below w0.heap.size w0 w' := by
 have hlk : k = (l.take k).length := yS (by omega)
 have h2 := oz hE
 refine bV (c := spine Tryd.f78 0) Tryd.func78 rfl Tryd.ntmps78 [(0, .iface 178 (.slice (some ⟨b, o, none⟩) k c))] (by kernel_rfl) (Nat.le_of_ble_eq_true rfl) ?_
 intro a HF
 refine Jy (l.take k) b o k c hlk hkc xk abi aC (qN (yO H.head.id k xk) H.a1 H.a2) w0 hbl hr a w0 HF (Mm.start w0) ?_
 clear HF
 intro a w s fb HF HM
 by_cases hB : k < 64
 ·exact Jv (l.take k) b o k c hlk hkc hB false abi aC 1 w0 hbl hr ea hE a w s fb HF HM (fun a w' HF hk => h_ HF rfl rfl rfl ⟨_, _, rfl, hk.below⟩)
 refine Es (l.take k) b o k c hlk hkc (by omega) false abi aC aQ aF ay ak aj au ah 1 (uQ H.head k (by show 64 ≤ k; omega) (by omega)) H.b1 H.b2 H.b3 H.b4 H.b5 H.b6 H.b7 w0 hbl hr a w s fb HF HM ?_
 clear HF HM
 intro a w HF HM
 have hp2 : ak + aj * 56 ≤ n := H.p2
 have hD : (aj * 56 = 0 ∨ ak + aj * 56 ≤ k) → ∀ (a : Act) (w : World) (pg : Nat) (cur : Array Value) (pd : Nat), cur.size = aj → Fr 1287 a [(0, .iface 178 (.slice (some ⟨b, o, none⟩) k c)), (4, aG s), (8, aG fb), (9, (aP false)), (10, aB ak), (11, aA 56), (12, aB aj), (13, aB au), (14, aA 64), (15, aB ah), (16, aB (ah - 1)), (26, aA 64), (36, aH pd (aj * 56) (aj * 56))] → Mm [] w0 w [(pd, .cells ((((l.take k).drop ak).take (aj * 56)).map Bv).toArray 5 (0, 0)), (pg, .cells cur 136 (0, 0)), (fb, .cells #[aN 2, aN 1, aN 1, aV abi, aV aC, (aP false), aZ aQ, aZ aF, aJ ay, aK, aH pg 0 aj, aK, aK, aK] 131 (0, 0)), (s, .cells #[.iface 178 (.slice (some ⟨b, o, none⟩) k c), aA 0, aA 0, aA 9223372036854775807, aA 9223372036854775807] 246 (0, 0))] → (spine Tryd.f78 35).wp Tryd.prog (bodyPost Tryd.prog Tryd.f78 fun e w' => ∃ t v, e = .returned (.tuple #[.pointer none, .iface t v]) ∧ Below w0.heap.size w0 w') a w := by
  clear HF HM a w
  intro hX a w pg cur pd hcs HF HM
  rw [zh l k ak (aj * 56) hX] at HM
  refine Ed (l.take k) b o k c hlk hkc false abi aC aQ aF ay ak aj au ah 1 H.b1 H.b2 H.b3 H.b4 H.b5 H.b6 H.b7 _ (by simp; omega) sg H.seg H.v1 H.v2 H.v3 H.v4 H.v5 H.v6 w0 s fb pg pd a w cur hcs HF HM ?_
  clear HF HM hcs cur a w
  intro a w cur hcs hP HF HM
  have hbs : b ≠ s := fun e => absurd hbl (Nat.not_lt_of_le (e ▸ HM.ge (i := 3) rfl))
  have hbf : b ≠ fb := fun e => absurd hbl (Nat.not_lt_of_le (e ▸ HM.ge (i := 2) rfl))
  have ou : 2 ≠ s := fun e => absurd h2 (Nat.not_lt_of_le (e ▸ HM.ge (i := 3) rfl))
  have Ib : 2 ≠ fb := fun e => absurd h2 (Nat.not_lt_of_le (e ▸ HM.ge (i := 2) rfl))
  have uI : Mm [s, fb] w w [(fb, .cells #[aN 2, aN 1, aN 1, aV abi, aV aC, (aP false), aZ aQ, aZ aF, aJ ay, aK, aH pg aj aj, aK, aK, aK] 131 (0, 0)), (s, .cells #[.iface 178 (.slice (some ⟨b, o, none⟩) k c), aA 0, aA 0, aA 9223372036854775807, aA 9223372036854775807] 246 (0, 0))] :=
   ⟨Keep.refl _ _, fun p hp => by
    simp only [List.mem_cons, List.not_mem_nil, or_false] at hp
    rcases hp with rfl | rfl
    ·exact ⟨HM.get (i := 2) rfl, .inr (by simp)⟩
    ·exact ⟨HM.get (i := 3) rfl, .inr (by simp)⟩, by
    have := HM.ne (i := 2) (j := 3) rfl rfl (by decide)
    simp [this]⟩
  exact Jp (l.take k) b o k c hlk hkc false abi aC aQ aF ay ak aj au ah 1 H.b1 H.b2 H.b3 H.b4 H.b5 H.b6 H.b7 (by have := H.c3; omega) (by omega) w (Nat.lt_of_lt_of_le hbl HM.size) (HM.row hr) ea (HM.row hE) [s, fb] (by simp [hbs, hbf]) (by simp [ou, Ib]) a w s fb pg hbs ou (HF.sub _ (by kernel_rfl)) uI (fun a w' HF hk => h_ HF rfl rfl rfl ⟨_, _, rfl, (HM.keep.step hk (fun g hg => by
   simp only [List.mem_cons, List.not_mem_nil, or_false] at hg
   rcases hg with rfl | rfl
   ·exact .inl (HM.ge (i := 3) rfl)
   ·exact .inl (HM.ge (i := 2) rfl))).below⟩)
 rcases Nat.eq_zero_or_pos aj with h0 | h0
 ·subst h0
  refine CX (l.take k) b o k c hlk hkc false abi aC aQ aF ay ak 0 au ah 1 H.b1 H.b2 H.b3 H.b4 H.b5 H.b6 H.b7 H.c1 (by have := H.c3; omega) w0 a w s fb HF HM ?_
  clear HF HM a w
  intro a w HF HM
  by_cases hq : k ≤ ak
  ·exact Jr (l.take k) b o k c hlk hkc false abi aC aQ aF ay ak 0 au ah 1 H.b1 H.b2 H.b3 H.b4 H.b5 H.b6 H.b7 H.c1 (by have := H.c3; omega) hq w0 hbl hr ea hE a w s fb HF HM (hD (.inl rfl))
  ·exact CS (l.take k) b o k c hlk hkc false abi aC aQ aF ay ak 0 au ah 1 H.b1 H.b2 H.b3 H.b4 H.b5 H.b6 H.b7 H.c1 (by have := H.c3; omega) (by omega) (by omega) w0 hbl hr a w s fb HF HM (hD (.inl rfl))
 ·refine CW (l.take k) b o k c hlk hkc false abi aC aQ aF ay ak aj au ah 1 H.b1 H.b2 H.b3 H.b4 H.b5 H.b6 H.b7 H.c1 (by have := H.c3; omega) h0 w0 a w s fb HF HM ?_
  clear HF HM a w
  intro a w HF HM
  by_cases hq : k < ak + 56 * aj
  ·exact Jt (l.take k) b o k c hlk hkc false abi aC aQ aF ay ak aj au ah 1 H.b1 H.b2 H.b3 H.b4 H.b5 H.b6 H.b7 h0 hq w0 hbl hr ea hE a w s fb HF HM (fun a w' HF hk => h_ HF rfl rfl rfl ⟨_, _, rfl, hk.below⟩)
  ·exact CQ (l.take k) b o k c hlk hkc false abi aC aQ aF ay ak aj au ah 1 H.b1 H.b2 H.b3 H.b4 H.b5 H.b6 H.b7 H.c1 (by have := H.c3; omega) h0 (by omega) (by omega) w0 hbl hr a w s fb HF HM (hD (.inr (by omega)))

theorem ES (l : List UInt8) (n : Nat) (hl : n = l.length) (abi aC aQ aF ay ak aj au ah : Nat) (sg : Nat → jQ) (sc : Nat → gV) (nb : Nat → List UInt8) (H : lJ l n true true abi aC aQ aF ay ak aj au ah sg sc nb) (k : Nat) (hk : k < n) (xk : 16 ≤ k) (hend : n ≤ au + 64 * ah) (b o c : Nat) (hkc : k ≤ c) (w0 : World) (hbl : b < w0.heap.size) (hr : Row w0 (some ⟨b, o, none⟩) ((l.take k).map Bv)) (ea : Addr) (hE : Row w0 (some ⟨2, 0, none⟩) [.iface 242 (.pointer (some ea))]) :
  Calls Tryd.prog 78 #[.iface 178 (.slice (some ⟨b, o, none⟩) k c)] w0 fun e w' => ∃ t v, e = .returned (.tuple #[.pointer none, .iface t v]) ∧ Below w0.heap.size w0 w' := by
 have hlk : k = (l.take k).length := yS (by omega)
 have h2 := oz hE
 refine bV (c := spine Tryd.f78 0) Tryd.func78 rfl Tryd.ntmps78 [(0, .iface 178 (.slice (some ⟨b, o, none⟩) k c))] (by kernel_rfl) (Nat.le_of_ble_eq_true rfl) ?_
 intro a HF
 refine Jz (l.take k) b o k c hlk hkc xk abi aC (qN (yO H.head.id k xk) H.a1 H.a2) w0 hbl hr a w0 HF (Mm.start w0) ?_
 clear HF
 intro a w s fb HF HM
 by_cases hB : k < 64
 ·exact Jv (l.take k) b o k c hlk hkc hB true abi aC 2 w0 hbl hr ea hE a w s fb HF HM (fun a w' HF hk => h_ HF rfl rfl rfl ⟨_, _, rfl, hk.below⟩)
 refine Es (l.take k) b o k c hlk hkc (by omega) true abi aC aQ aF ay ak aj au ah 2 (uQ H.head k (by show 64 ≤ k; omega) (by omega)) H.b1 H.b2 H.b3 H.b4 H.b5 H.b6 H.b7 w0 hbl hr a w s fb HF HM ?_
 clear HF HM
 intro a w HF HM
 have hp2 : ak + aj * 56 ≤ n := H.p2
 have hD : (aj * 56 = 0 ∨ ak + aj * 56 ≤ k) → ∀ (a : Act) (w : World) (pg : Nat) (cur : Array Value) (pd : Nat), cur.size = aj → Fr 1287 a [(0, .iface 178 (.slice (some ⟨b, o, none⟩) k c)), (4, aG s), (8, aG fb), (9, (aP true)), (10, aB ak), (11, aA 56), (12, aB aj), (13, aB au), (14, aA 64), (15, aB ah), (16, aB (ah - 1)), (26, aA 64), (36, aH pd (aj * 56) (aj * 56))] → Mm [] w0 w [(pd, .cells ((((l.take k).drop ak).take (aj * 56)).map Bv).toArray 5 (0, 0)), (pg, .cells cur 136 (0, 0)), (fb, .cells #[aN 2, aN 2, aN 1, aV abi, aV aC, (aP true), aZ aQ, aZ aF, aJ ay, aK, aH pg 0 aj, aK, aK, aK] 131 (0, 0)), (s, .cells #[.iface 178 (.slice (some ⟨b, o, none⟩) k c), aA 0, aA 0, aA 9223372036854775807, aA 9223372036854775807] 246 (0, 0))] → (spine Tryd.f78 35).wp Tryd.prog (bodyPost Tryd.prog Tryd.f78 fun e w' => ∃ t v, e = .returned (.tuple #[.pointer none, .iface t v]) ∧ Below w0.heap.size w0 w') a w := by
  clear HF HM a w
  intro hX a w pg cur pd hcs HF HM
  rw [zh l k ak (aj * 56) hX] at HM
  refine Ed (l.take k) b o k c hlk hkc true abi aC aQ aF ay ak aj au ah 2 H.b1 H.b2 H.b3 H.b4 H.b5 H.b6 H.b7 _ (by simp; omega) sg H.seg H.v1 H.v2 H.v3 H.v4 H.v5 H.v6 w0 s fb pg pd a w cur hcs HF HM ?_
  clear HF HM hcs cur a w
  intro a w cur hcs hP HF HM
  have hbs : b ≠ s := fun e => absurd hbl (Nat.not_lt_of_le (e ▸ HM.ge (i := 3) rfl))
  have hbf : b ≠ fb := fun e => absurd hbl (Nat.not_lt_of_le (e ▸ HM.ge (i := 2) rfl))
  have ou : 2 ≠ s := fun e => absurd h2 (Nat.not_lt_of_le (e ▸ HM.ge (i := 3) rfl))
  have Ib : 2 ≠ fb := fun e => absurd h2 (Nat.not_lt_of_le (e ▸ HM.ge (i := 2) rfl))
  have uI : Mm [s, fb] w w [(fb, .cells #[aN 2, aN 2, aN 1, aV abi, aV aC, (aP true), aZ aQ, aZ aF, aJ ay, aK, aH pg aj aj, aK, aK, aK] 131 (0, 0)), (s, .cells #[.iface 178 (.slice (some ⟨b, o, none⟩) k c), aA 0, aA 0, aA 9223372036854775807, aA 9223372036854775807] 246 (0, 0))] :=
   ⟨Keep.refl _ _, fun p hp => by
    simp only [List.mem_cons, List.not_mem_nil, or_false] at hp
    rcases hp with rfl | rfl
    ·exact ⟨HM.get (i := 2) rfl, .inr (by simp)⟩
    ·exact ⟨HM.get (i := 3) rfl, .inr (by simp)⟩, by
    have := HM.ne (i := 2) (j := 3) rfl rfl (by decide)
    simp [this]⟩
  exact Jp (l.take k) b o k c hlk hkc true abi aC aQ aF ay ak aj au ah 2 H.b1 H.b2 H.b3 H.b4 H.b5 H.b6 H.b7 (by have := H.c3; omega) (by omega) w (Nat.lt_of_lt_of_le hbl HM.size) (HM.row hr) ea (HM.row hE) [s, fb] (by simp [hbs, hbf]) (by simp [ou, Ib]) a w s fb pg hbs ou (HF.sub _ (by kernel_rfl)) uI (fun a w' HF hk => h_ HF rfl rfl rfl ⟨_, _, rfl, (HM.keep.step hk (fun g hg => by
   simp only [List.mem_cons, List.not_mem_nil, or_false] at hg
   rcases hg with rfl | rfl
   ·exact .inl (HM.ge (i := 3) rfl)
   ·exact .inl (HM.ge (i := 2) rfl))).below⟩)
 rcases Nat.eq_zero_or_pos aj with h0 | h0
 ·subst h0
  refine CX (l.take k) b o k c hlk hkc true abi aC aQ aF ay ak 0 au ah 2 H.b1 H.b2 H.b3 H.b4 H.b5 H.b6 H.b7 H.c1 (by have := H.c3; omega) w0 a w s fb HF HM ?_
  clear HF HM a w
  intro a w HF HM
  by_cases hq : k ≤ ak
  ·exact Jr (l.take k) b o k c hlk hkc true abi aC aQ aF ay ak 0 au ah 2 H.b1 H.b2 H.b3 H.b4 H.b5 H.b6 H.b7 H.c1 (by have := H.c3; omega) hq w0 hbl hr ea hE a w s fb HF HM (hD (.inl rfl))
  ·exact CS (l.take k) b o k c hlk hkc true abi aC aQ aF ay ak 0 au ah 2 H.b1 H.b2 H.b3 H.b4 H.b5 H.b6 H.b7 H.c1 (by have := H.c3; omega) (by omega) (by omega) w0 hbl hr a w s fb HF HM (hD (.inl rfl))
 ·refine CW (l.take k) b o k c hlk hkc true abi aC aQ aF ay ak aj au ah 2 H.b1 H.b2 H.b3 H.b4 H.b5 H.b6 H.b7 H.c1 (by have := H.c3; omega) h0 w0 a w s fb HF HM ?_
  clear HF HM a w
  intro a w HF HM
  by_cases hq : k < ak + 56 * aj
  ·exact Jt (l.take k) b o k c hlk hkc true abi aC aQ aF ay ak aj au ah 2 H.b1 H.b2 H.b3 H.b4 H.b5 H.b6 H.b7 h0 hq w0 hbl hr ea hE a w s fb HF HM (fun a w' HF hk => h_ HF rfl rfl rfl ⟨_, _, rfl, hk.below⟩)
  ·exact CQ (l.take k) b o k c hlk hkc true abi aC aQ aF ay ak aj au ah 2 H.b1 H.b2 H.b3 H.b4 H.b5 H.b6 H.b7 H.c1 (by have := H.c3; omega) h0 (by omega) (by omega) w0 hbl hr a w s fb HF HM (hD (.inr (by omega)))
theorem I7 (l : List UInt8) (n : Nat) (hl : n = l.length) (wide big : Bool) (abi aC aQ aF ay ak aj au ah : Nat) (sg : Nat → jQ) (sc : Nat → gV) (nb : Nat → List UInt8) (H : lJ l n wide big abi aC aQ aF ay ak aj au ah sg sc nb) (hend : n ≤ au + gQ wide * ah) (k : Nat) (hk : k < n) (A : Option Addr) (c : Nat) (hkc : k ≤ c) (w0 : World) (hr : Row w0 A ((l.take k).map Bv)) (ea : Addr) (hE : Row w0 (some ⟨2, 0, none⟩) [.iface 242 (.pointer (some ea))]) : Calls Tryd.prog 78 #[.iface 178 (.slice A k c)] w0 fun e w' => ∃ t v, e = .returned (.tuple #[.pointer none, .iface t v]) ∧ Below w0.heap.size w0 w' := by
 by_cases h16 : k < 16
 ·exact Gg (l.take k) A k c (yS (by omega)) hkc h16 w0 hr ea hE
 ·obtain ⟨b, o, rfl, hbl⟩ := Lh hr (by rw [List.length_map, List.length_take]; omega)
  cases wide <;> cases big
  ·exact ET l n hl abi aC aQ aF ay ak aj au ah sg sc nb H k hk (by omega) hend b o c hkc w0 hbl hr ea hE
  ·exact EU l n hl abi aC aQ aF ay ak aj au ah sg sc nb H k hk (by omega) hend b o c hkc w0 hbl hr ea hE
  ·exact ER l n hl abi aC aQ aF ay ak aj au ah sg sc nb H k hk (by omega) hend b o c hkc w0 hbl hr ea hE
  ·exact ES l n hl abi aC aQ aF ay ak aj au ah sg sc nb H k hk (by omega) hend b o c hkc w0 hbl hr ea hE

end Go.Proofs.YtdgehpocmfjbiaaDoor
namespace Go.Proofs.YtdgehpocmfjbiaaDoor
open Go.RowKit
theorem F7 {P : Program} {N : Nat} {G : List Nat} {w0 w : World} {a : Act} {ops : Array Oper} {L : List (Nat × Obj)} {Q : Exit → Act → World → Prop} {rest : List Oper} {o : Oper} {S : Slots} (HF : Fr N a S) (HM : Mm G w0 w L) (hgd : o.guard = none) (s x : Operand) (t : TypeId)
  (ho : o.op = .call { callee := .builtin .append, args := #[s, x], argTypes := #[t, t] }) (hd : okD N o.dst = true)
  (e : TypeId) {z : Value} {size bytes : Nat} (ht : P.underlying t = some (.slice e)) (hi : (P.info? e).map (fun i => (i.zero, i.size, i.bytes)) = some (some z, size, bytes)) (hzs : z.cells.size = size) (hsz : 0 < size)
  (hs : ev S s = some (.slice none 0 0)) (A : Option Addr) (m c : Nat) (news : List Value) (hx : ev S x = some (.slice A m c)) (hm : news.length = m * size) (hr : Row w A news) (h1 : ∀ u ∈ news, u.oneCell' = true)
  (h63 : m ≤ maxLen) (hbytes : m * bytes ≤ 140737488355328)
  (hK : ∀ a' w' A' c', Mm G w0 w' L → Row w' A' news → m ≤ c' → Fr N a' (qC S o.dst (.slice A' m c')) → wpList P ops Q rest a' w') : wpList P ops Q (o :: rest) a w := by
 obtain ⟨i0, hi0, hz0, hz1, hz2⟩ := info_parts hi
 refine vC w hgd s x t ho w.heap.size e i0 z size bytes ht hi0 hz0 hz1 hz2 hzs hsz (.slice none 0 0) 0 [] (HF.ev hs) (World.ownsRow_nil _ _ _ _) A m c news (HF.ev hx) hm hr h1 (by omega) (by rw [Nat.zero_add]; exact hbytes) (Nat.le_refl _) ?_
 intro v' w' hown hgrow hat
 rw [Nat.zero_add, List.nil_append] at hown
 have hb : Below w.heap.size w w' := (Below.refl _ _).grown hgrow (Nat.le_refl _) (by simp [Value.ownBlock])
 rcases hown.2 with ⟨hv, hn⟩ | ⟨g, cap, cur, rfl, hg, hh, hmc, hcm, hcs, htk⟩
 ·subst hv
  have h0 : m = 0 := by omega
  subst h0
  have hnil : news = [] := List.length_eq_zero_iff.1 (by omega)
  exact hK _ w' none 0 (HM.call hb) (hnil ▸ Row.nil _ _) (Nat.le_refl _) (HF.put _ _ (jv hd))
 ·exact hK _ w' (some ⟨g, 0, none⟩) cap (HM.call hb) ((HM.push hb hg hh).nG (i := 0) rfl htk) hmc (HF.put _ _ (jv hd))
theorem MN {P : Program} {t e : TypeId} {info : TypeInfo} (ht : P.underlying t = some (.slice e)) (hi : P.info? e = some info) (hs : info.size = 1) {ρ : Operand → Value} {o : Oper} {x h : Operand} (ho : o.op = .slice t x none (some h) none) {b off n c : Nat} (m : Nat) {kh : IntKind} (hx : ρ x = .slice (some ⟨b, off, none⟩) n c) (hh : ρ h = .int kh (m : Int)) (h2 : m ≤ c) (h3 : 0 < c) (w : World) :
  (execOp ρ o).run P w = .ok (.value (.slice (some ⟨b, off, none⟩) m c)) w := by
 have hne : ¬ c = 0 := by omega
 unfold execOp
 simp only [ho, Option.map_some, Option.map_none, hx, hh, Instr.sliceAt]
 simp [Instr.slice, Instr.sliceBounds, Instr.sliceBound, asIntOf, run_underlying ht, sizeOf, typeInfo, hi, hs, hne, Addr.add, h2]

theorem MW (l : List UInt8) (n : Nat) (hl : n = l.length) (wide big : Bool) (abi aC aQ aF ay ak aj au ah : Nat) (sg : Nat → jQ) (sc : Nat → gV) (nb : Nat → List UInt8) (H : lJ l n wide big abi aC aQ aF ay ak aj au ah sg sc nb) (hend : n ≤ au + gQ wide * ah) (k : Nat) (hk : k < n) (A : Option Addr) (c : Nat) (hkc : k ≤ c) (h47 : n ≤ 140737488355328) (w0 : World) (hr : Row w0 A ((l.take k).map Bv)) (ea : Addr) (hE : Row w0 (some ⟨2, 0, none⟩) [.iface 242 (.pointer (some ea))]) : Calls Tryd.prog 55 #[.slice A k c] w0 fun e w' => e = .returned (.tuple #[.pointer none, .bool false]) ∧ Below w0.heap.size w0 w' := by
 obtain ⟨w, hw⟩ : ∃ w, w0 = w := ⟨_, rfl⟩
 have HM : Mm [] w0 w [] := hw ▸ Mm.start w0
 conv => arg 4; rw [hw]
 clear hw
 refine bV Tryd.func55 rfl Tryd.ntmps55 [(0, .slice A k c)] (by kernel_rfl) (Nat.le_of_ble_eq_true rfl) ?_
 intro a HF
 refine aW ?_
 refine wp_pure HF HM rfl 2 [] [(0, .slice A k c)] (by kernel_rfl) fun a HF => ?_
 refine dK ?_
 refine wp_pure HF HM rfl 1 [] [(7, .slice A k c)] (by kernel_rfl) fun a HF => ?_
 refine F7 HF HM rfl _ _ 33 rfl rfl 5 Tryd.underlying33 FD rfl (by omega) rfl A k c ((l.take k).map Bv) rfl (by rw [List.length_map, List.length_take]; omega) (HM.row hr) (qp _) (by unfold maxLen; omega) (by omega) ?_
 intro a w1 A' c' bI hrow hkc' HF2; clear HF HM
 have HM : Mm [] w0 w1 [] := bI
 have HF := HF2.sub [(8, .slice A' k c')] (by kernel_rfl); clear bI HF2
 refine wp_pure HF HM rfl 1 [] [(9, .iface 178 (.slice A' k c'))] (by kernel_rfl) fun a HF => ?_
 refine bn HF (by kernel_rfl) 78 #[.iface 178 (.slice A' k c')] (by kernel_rfl) (fun w => by kernel_rfl) (Calls.mono (I7 l n hl wide big abi aC aQ aF ay ak aj au ah sg sc nb H hend k hk A' c' hkc' w1 hrow ea (HM.row hE)) ?_)
 rintro _ w2 ⟨t, v, rfl, hb⟩
 replace HM := HM.call hb
 clear hb
 refine ⟨_, rfl, ?_⟩; clear HF; intro a HF
 refine wp_pure HF HM rfl 5 [] [(4, .pointer none), (5, .iface t (v))] (by kernel_rfl) fun a HF => ?_
 refine aI ?_
 refine pJ (by kernel_rfl) (by kernel_rfl) ?_
 refine oL HF HM rfl 5 [] [(2, .pointer none), (3, .bool false)] (by kernel_rfl) fun a HF => ?_
 refine qL ?_
 rintro w3 ⟨nq, hq⟩
 replace HM : Mm [] w0 w3 [] := by rw [hq]; exact HM.drewN nq
 clear hq nq
 refine wp_ret ?_
 repeat first | refine cu ?_ | refine dw ?_
 exact h_ HF rfl rfl rfl ⟨rfl, HM.below⟩

theorem Nj (l : List UInt8) (n : Nat) (hl : n = l.length) (wide big : Bool) (abi aC aQ aF ay ak aj au ah : Nat) (sg : Nat → jQ) (sc : Nat → gV) (nb : Nat → List UInt8) (H : lJ l n wide big abi aC aQ aF ay ak aj au ah sg sc nb) (hend : n ≤ au + gQ wide * ah) (k : Nat) (hk : k < n) (A : Option Addr) (c : Nat) (hkc : k ≤ c) (h47 : n ≤ 140737488355328) (w0 : World) (hr : Row w0 A ((l.take k).map Bv)) (ea : Addr) (hE : Row w0 (some ⟨2, 0, none⟩) [.iface 242 (.pointer (some ea))]) : Calls Tryd.prog 31 #[.slice A k c] w0 fun e w' => e = .returned (.tuple #[.agg #[.int .i64 0, .int .i64 0, .int .i64 0, .int .i64 0, .int .i64 0, .int .i64 0, .int .i64 0, .int .u64 0], .bool false]) ∧ Below w0.heap.size w0 w' := by
 obtain ⟨w, hw⟩ : ∃ w, w0 = w := ⟨_, rfl⟩
 have HM : Mm [] w0 w [] := hw ▸ Mm.start w0
 conv => arg 4; rw [hw]
 clear hw
 refine bV Tryd.func31 rfl Tryd.ntmps31 [(0, .slice A k c)] (by kernel_rfl) (Nat.le_of_ble_eq_true rfl) ?_
 intro a HF
 refine aW ?_
 obtain ⟨z1, hz1⟩ : ∃ z, w.heap.size = z := ⟨_, rfl⟩
 refine aO HF HM hz1 2 [] [(0, .slice A k c), (2, aG z1)] [(z1, .cells #[.int .i64 0, .int .i64 0, .int .i64 0, .int .i64 0, .int .i64 0, .int .i64 0, .int .i64 0, .int .u64 0] 48 (0, 0))] (by kernel_rfl) fun a w HF HM => ?_
 clear hz1
 refine dK ?_
 refine wp_pure HF HM rfl 1 [] [(2, aG z1), (7, .slice A k c)] (by kernel_rfl) fun a HF => ?_
 refine bn HF (by kernel_rfl) 55 #[.slice A k c] (by kernel_rfl) (fun w => by kernel_rfl) (Calls.mono (MW l n hl wide big abi aC aQ aF ay ak aj au ah sg sc nb H hend k hk A c hkc h47 w (HM.row hr) ea (HM.row hE)) ?_)
 rintro _ w1 ⟨rfl, hb⟩
 replace HM := HM.call hb
 clear hb
 refine ⟨_, rfl, ?_⟩; clear HF; intro a HF
 refine wp_pure HF HM rfl 5 [] [(2, aG z1), (4, .pointer none), (5, .bool false)] (by kernel_rfl) fun a HF => ?_
 refine aI ?_
 refine wp_seq ?_
 refine aW ?_
 refine wp_pure HF HM rfl 2 [] [(2, aG z1), (4, .pointer none), (12, .bool true)] (by kernel_rfl) fun a HF => ?_
 refine aI ?_
 refine bF HF rfl ?_
 refine aW ?_
 refine aO HF HM rfl 3 [[0]] [(2, aG z1), (3, .bool false)] [(z1, .cells #[.int .i64 0, .int .i64 0, .int .i64 0, .int .i64 0, .int .i64 0, .int .i64 0, .int .i64 0, .int .u64 0] 48 (0, 0))] (by kernel_rfl) fun a w HF HM => ?_
 refine aI ?_
 refine wp_ret ?_
 repeat first | refine cu ?_ | refine dw ?_
 exact bodyPost_ret (results_cell_tmp rfl (HF.getD rfl) (HF.getD rfl) (HM.get (i := 0) rfl) Tryd.underlying48 (by kernel_rfl)) HF.1 ⟨rfl, HM.below⟩

end Go.Proofs.YtdgehpocmfjbiaaDoor
namespace Go.Proofs.YtdgehpocmfjbiaaDoor
open Go Go.ChangeShapes Go.WideShapes Go.ChangeAt Go.RowKit Go.Deep

theorem GV : "*" ++ "errors.errorString" = "*errors.errorString" := by decide
theorem NQ (u : TypeId) (h : Tryd.prog.typeName? 3 u = some "*errors.errorString") : u = 242 :=
 typeName_ptr_named (nm := "errors.errorString") (by rw [GV]; kernel_rfl) (by kernel_rfl) (by decide) u (by rw [GV]; exact h)
theorem FP : Tryd.prog.globalNamed "io.EOF" = some 2 := by kernel_rfl
theorem Nq : (Tryd.prog.globals[2]?).map (·.type) = some 103 := by kernel_rfl
/-- what the laid list tells of the sentinel -/
theorem Nr {W : World} {laid : List (String × DataW Unit)} (e : ((laid.filter (fun x => x.1 == "io.EOF")).filter (fun x => x.2.handleName?.isNone)) = [("io.EOF", Rows.laid_io_EOF)]) (hL : laidMetH Tryd.prog laid W) :
  ∃ ea, Row W (some ⟨2, 0, none⟩) [.iface 242 (.pointer (some ea))] := by
 have h1 := (laidMetH_iff.1 (hL.filter (fun x => x.1 == "io.EOF"))).1
 rw [e] at h1
 obtain ⟨a, s, hv, -, -, -⟩ := laid_sentinel h1 FP Nq Tryd.underlying103 NQ Tryd.underlying242 Tryd.underlying244 rfl rfl Tryd.underlying9 (by kernel_rfl) (by kernel_rfl)
 have hc := World.var?_cell FP hv 0
 refine ⟨a, fun i v hi => ?_⟩
 cases i with
 | zero => exact ⟨2, 0, rfl, by simp only [List.getElem?_cons_zero] at hi; rw [← hi]; simpa using hc⟩
 | succ i => simp at hi
end Go.Proofs.YtdgehpocmfjbiaaDoor
