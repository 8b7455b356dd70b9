/- Proved: the imported symbols are the dynamic ones that are global and have no section, at every argument. No condition. -/
import Derived.Test.YtdgehpocmfjbiaaDoorRp
import Derived.Test.YtdgehpocmfjbiaaDoorRm
import Derived.Test.YtdgehpocmfjbiaaDoorRh
import Derived.Test.YtdgehpocmfjbiaaDoorRg
import Derived.Test.YtdgehpocmfjbiaaDoorCards
import Derived.Test.YtdgehpocmfjbiaaDoorTie
import Derived.Test.YtdgehpocmfjbiaaDoorFnImportedJ
import Derived.Test.YtdgehpocmfjbiaaDoorFnImportedJC
import Derived.LaidMore
import Derived.LaidLaws
import Derived.Stop.Joined
import Derived.SevenTiedAt
import Derived.ProofKit
import Derived.OpenShut
import Derived.ShutString
import Derived.ChangeOld
import Derived.Below
set_option linter.unusedVariables false
set_option linter.unusedSimpArgs false
set_option maxRecDepth 100000
set_option maxHeartbeats 2000000
namespace Go.Proofs.YtdgehpocmfjbiaaDoor
open Go.RowKit
theorem RQ {P : Program} {N : Nat} {a : Act} {w : World} {fn : Func} {t u s r : Tmp} {Sl : Slots} {v x y z : Value} {R : Ending → World → Prop} (HF : Fr N a Sl) (h : fn.results = #[.tmp t, .tmp u, .tmp s, .tmp r]) (e : lk Sl t = some v) (e2 : lk Sl u = some x) (e3 : lk Sl s = some y) (e4 : lk Sl r = some z) (hR : R (.returned (.tuple #[v, x, y, z])) w) : bodyPost P fn R .ret a w :=
 bodyPost_ret (v := .tuple #[a.tmps.getD t undef, a.tmps.getD u undef, a.tmps.getD s undef, a.tmps.getD r undef]) (by simp [results, h]) HF.1 (by rw [HF.getD e, HF.getD e2, HF.getD e3, HF.getD e4]; exact hR)
/-- a symbol that is imported: it is global and has no section -/
def IE (m : SymM) : Bool := decide (m.info / 16 = 1) && decide (m.dH = 0)
def dh (l : List SymM) : List SymM := l.filter IE
def tX (m : SymM) : List Value := [.string (⟨m.name.toArray⟩), .string (⟨#[]⟩ : ByteArray), .string (⟨#[]⟩ : ByteArray)]
theorem yH {l : List SymM} {i : Nat} {m : SymM} (hm : l[i]? = some m) (h1 : ((m.info / 16 : Nat) : Int) = 1) (h2 : m.dH = 0) : dh (l.take (i + 1)) = dh (l.take i) ++ [m] := by
 have h : IE m = true := by unfold IE; rw [decide_eq_true (by omega), decide_eq_true h2]; rfl
 unfold dh
 rw [oW hm, List.filter_append, List.filter_cons_of_pos h]; rfl
theorem uq {l : List SymM} {i : Nat} {m : SymM} (hm : l[i]? = some m) (h1 : ¬ (((m.info / 16 : Nat) : Int) = 1 ∧ m.dH = 0)) : dh (l.take (i + 1)) = dh (l.take i) := by
 have h : ¬ IE m = true := by
  unfold IE; intro h
  rw [Bool.and_eq_true, decide_eq_true_eq, decide_eq_true_eq] at h
  exact h1 ⟨by omega, h.2⟩
 unfold dh
 rw [oW hm, List.filter_append, List.filter_cons_of_neg h]; exact List.append_nil _
theorem Ht (l : List SymM) (i : Nat) : (dh (l.take i)).length ≤ l.length := Nat.le_trans (List.length_filter_le _ _) (by rw [List.length_take]; omega)
theorem shr4 (n : Nat) : Int.fdiv ((n : Nat) : Int) (2 ^ 4) = ((n / 16 : Nat) : Int) := by
 rw [Int.fdiv_eq_ediv_of_nonneg _ (by decide)]; rfl

theorem Ie (n : Nat) (hn : n < 256) (w0 : World) : Calls Tryd.prog 83 #[aT n] w0 fun e w' => e = .returned (ay (n / 16)) ∧ Below w0.heap.size w0 w' := by
 obtain ⟨w, hw⟩ : ∃ w, w0 = w := ⟨_, rfl⟩
 have HM : Mm [] w0 w [] := hw ▸ Mm.start w0
 conv => arg 4; rw [hw]
 clear hw
 refine bI Tryd.func83 rfl Tryd.ntmps83 [(0, aT n)] (by kernel_rfl) (Nat.le_of_ble_eq_true rfl) ?_
 intro a HF
 refine aN ?_
 refine wp_pure HF HM rfl 1 [] [(0, aT n)] (by kernel_rfl) fun a HF => ?_
 refine bT ?_
 refine wp_pure HF HM rfl 2 [] [(4, .int .u8 (Int.fdiv ((n : Nat) : Int) (2 ^ 4)))] (by kernel_rfl) fun a HF => ?_
 rw [show Int.fdiv ((n : Nat) : Int) (2 ^ 4) = ((n / 16 : Nat) : Int) from shr4 _] at HF
 refine wp_pure HF HM rfl 1 [] [(5, .int .i64 (IntKind.i64.wrap (((n / 16) : Nat) : Int)))] (by kernel_rfl) fun a HF => ?_
 rw [show IntKind.i64.wrap (((n / 16) : Nat) : Int) = (((n / 16) : Nat) : Int) from IntWalk.i64_in _ (by omega)] at HF
 refine wp_pure HF HM rfl 1 [] [(2, ay (n / 16))] (by kernel_rfl) fun a HF => ?_
 refine aB ?_
 refine wp_ret ?_
 repeat first | refine bH ?_ | refine bM ?_
 exact dn HF rfl rfl ⟨rfl, HM.below⟩

theorem OY {x : bZ} {b c z fb pg aV : Nat} {cur dU : Array Value} {w0 : World} (hF : kR x b c z fb pg aV cur dU w0) (k : Nat) (hk : k ≤ 1000000) : Calls Tryd.prog 81 #[aA fb, ay k] w0 fun e w' => e = .returned (.tuple #[.bool false, .int .u16 0, .string (⟨#[]⟩ : ByteArray), .string (⟨#[]⟩ : ByteArray)]) ∧ Below w0.heap.size w0 w' := by
 have hfb := hF.at_.file
 rw [oI] at hfb
 obtain ⟨w, hw⟩ : ∃ w, w0 = w := ⟨_, rfl⟩
 have HM : Mm [] w0 w [] := hw ▸ Mm.start w0
 conv => arg 4; rw [hw]
 clear hw
 refine bI Tryd.func81 rfl Tryd.ntmps81 [(0, aA fb), (1, ay k)] (by kernel_rfl) (Nat.le_of_ble_eq_true rfl) ?_
 intro a HF
 refine aN ?_
 refine wp_pure HF HM rfl 4 [] [(0, aA fb), (1, ay k)] (by kernel_rfl) fun a HF => ?_
 refine bT ?_
 refine wp_pure HF HM rfl 2 [] [(0, aA fb), (18, .int .i64 (IntKind.i64.wrap (((k : Nat) : Int) + 1)))] (by kernel_rfl) fun a HF => ?_
 rw [show IntKind.i64.wrap (((k : Nat) : Int) + 1) = (((k + 1) : Nat) : Int) from (IntWalk.i64_in _ (by omega)).trans (by omega)] at HF
 refine wp_pure HF HM rfl 1 [] [(0, aA fb), (19, .int .i64 (IntKind.i64.wrap ((((k + 1) : Nat) : Int) * 2)))] (by kernel_rfl) fun a HF => ?_
 rw [show IntKind.i64.wrap ((((k + 1) : Nat) : Int) * 2) = (((2 * k + 2) : Nat) : Int) from (IntWalk.i64_in _ (by omega)).trans (by omega)] at HF
 refine wp_pure HF HM rfl 1 [] [(0, aA fb), (1, ay (2 * k + 2))] (by kernel_rfl) fun a HF => ?_
 refine aB ?_
 refine wp_seq ?_
 refine aN ?_
 refine wp_pure HF HM rfl 4 [] [(0, aA fb), (1, ay (2 * k + 2)), (20, ay (2 * k + 2)), (23, .pointer (some ⟨fb, 13, none⟩))] (by kernel_rfl) fun a HF => ?_
 refine bU HF (by kernel_rfl) (.slice none 0 0) (by kernel_rfl) (dP rfl rfl (by kernel_rfl) ((cell_of_row w fb 13 _ _ _ (HM.old hfb)).trans rfl)) fun a HF => ?_
 refine wp_pure HF HM rfl 2 [] [(0, aA fb), (1, ay (2 * k + 2)), (26, .bool (decide (0 ≤ (((2 * k + 2) : Nat) : Int))))] (by kernel_rfl) fun a HF => ?_
 refine aB ?_
 rw [show decide (0 ≤ (((2 * k + 2) : Nat) : Int)) = true from dV (by omega)] at HF
 refine bC HF rfl ?_
 refine aN ?_
 refine wp_pure HF HM rfl 4 [] [(4, .bool false), (5, .int .u16 0), (6, .string (⟨#[]⟩ : ByteArray)), (7, .string (⟨#[]⟩ : ByteArray))] (by kernel_rfl) fun a HF => ?_
 refine aB ?_
 refine wp_ret ?_
 repeat first | refine bH ?_ | refine bM ?_
 exact RQ HF rfl rfl rfl rfl rfl ⟨rfl, HM.below⟩
theorem IG : (Tryd.prog.info? 115).map (·.size) = some 3 := by kernel_rfl
theorem OV (A : List Value) (m : SymM) (k : Nat) {n : Nat} (hn : A.length = n * 3) (hk : k = 1 ∨ k = 2) : (A ++ ([.string (⟨m.name.toArray⟩), .string (⟨#[]⟩ : ByteArray), .string (⟨#[]⟩ : ByteArray)] : List Value)).set (0 + n * 3 + k) (.string (⟨#[]⟩ : ByteArray)) = A ++ [.string (⟨m.name.toArray⟩), .string (⟨#[]⟩ : ByteArray), .string (⟨#[]⟩ : ByteArray)] := by
 rw [List.set_append_right _ _ (by omega), show 0 + n * 3 + k - A.length = k by omega]
 rcases hk with rfl | rfl <;> rfl

abbrev lJ := fun (fb : Nat) gs (l : List SymM) cap => ([(0, aA fb), (9, aQ), (31, aC gs l.length cap), (32, ay l.length)] : Slots)
abbrev uT := fun (fb : Nat) i z12 gs (l : List SymM) cap => ([(0, aA fb), (9, aQ), (10, ay i), (11, aA z12), (31, aC gs l.length cap), (32, ay l.length), (33, ay i)] : Slots)
abbrev qM := fun (fb : Nat) g4 cap4 gs (l : List SymM) cap => ([(0, aA fb), (9, aC g4 1 cap4), (31, aC gs l.length cap), (32, ay l.length)] : Slots)
abbrev uS := fun (fb : Nat) og (l : List SymM) i oc => ([(0, aA fb), (9, aC og ((dh (l.take i)).length) oc)] : Slots)
abbrev uQ := fun (fb : Nat) og (l : List SymM) i oc z32 gs cap => ((uS fb og l i oc) ++ [(10, ay i), (11, aA z32), (31, aC gs l.length cap), (32, ay l.length), (33, ay i)] : Slots)
abbrev oD := fun (fb : Nat) g10 (l : List SymM) i nD => ([(0, aA fb), (9, aC g10 (((dh (l.take i)).length) + 1) nD)] : Slots)
theorem Rf {x : bZ} {b c z fb pg aV : Nat} {cur dU : Array Value} {w0 : World} (hF : kR x b c z fb pg aV cur dU w0) (l : List SymM) (hs : qI x 11 l) : Calls Tryd.prog 61 #[aA fb] w0 fun e w' => ∃ A' c', e = .returned (.tuple #[.slice A' (dh l).length c', .nilIface]) ∧ Below w0.heap.size w0 w' ∧ Row w' A' ((dh l).flatMap tX) := by
 obtain ⟨w, hw⟩ : ∃ w, w0 = w := ⟨_, rfl⟩
 have HM : Mm [] w0 w [] := hw ▸ Mm.start w0
 conv => arg 4; rw [hw]
 clear hw
 refine bI Tryd.func61 rfl Tryd.ntmps61 [(0, aA fb)] (by kernel_rfl) (Nat.le_of_ble_eq_true rfl) ?_
 intro a HF
 refine aN ?_
 refine wp_pure HF HM rfl 2 [] [(0, aA fb)] (by kernel_rfl) fun a HF => ?_
 refine bT ?_
 refine wp_pure HF HM rfl 1 [] [(0, aA fb), (14, aA fb)] (by kernel_rfl) fun a HF => ?_
 have hz0 := HM.size
 refine bf HF (by kernel_rfl) 79 #[aA fb, gV 11] (by kernel_rfl) (fun w => by kernel_rfl) (Calls.mono (Jr (hF.below HM.below) 11 l hs) ?_)
 rintro _ w1 ⟨gs, cap, gk, tx, nt, rfl, hb, hos⟩
 replace HM := HM.call hb
 clear hb
 replace hos := hos.lo hz0
 clear hz0
 refine ⟨_, rfl, ?_⟩; clear HF; intro a HF
 refine wp_pure HF HM rfl 7 [] [(0, aA fb), (4, aC gs l.length cap), (5, aC tx nt nt), (6, .nilIface)] (by kernel_rfl) fun a HF => ?_
 refine aB ?_
 refine wp_seq ?_
 refine aN ?_
 refine wp_pure HF HM rfl 2 [] [(0, aA fb), (4, aC gs l.length cap), (5, aC tx nt nt), (6, .nilIface), (20, .bool false)] (by kernel_rfl) fun a HF => ?_
 refine aB ?_
 refine aZ HF rfl ?_
 refine wp_skip ?_
 repeat first | refine aK ?_ | refine aS ?_
 refine wp_seq ?_
 refine aN ?_
 refine wp_pure HF HM rfl 2 [] [(0, aA fb), (4, aC gs l.length cap), (23, aA fb), (24, aC tx nt nt)] (by kernel_rfl) fun a HF => ?_
 refine bf HF (by kernel_rfl) 80 #[aA fb, aC tx nt nt] (by kernel_rfl) (fun w => by kernel_rfl) (Calls.mono (MS (hF.below HM.below) hs.tys _) ?_)
 rintro _ w2 ⟨rfl, hb⟩
 replace hos := Own.below hos hb
 replace HM := HM.call hb
 clear hb
 refine ⟨_, rfl, ?_⟩; clear HF; intro a HF
 replace HF := HF.sub [(0, aA fb), (4, aC gs l.length cap), (25, .tuple #[.bool false, .nilIface])] (by kernel_rfl)
 have hbw0 := HM.below; replace hF := hF.below HM.below
 clear HM
 have HM : Mm [] w2 w2 [] := Mm.start w2
 refine wp_pure HF HM rfl 5 [] [(0, aA fb), (4, aC gs l.length cap), (8, .nilIface)] (by kernel_rfl) fun a HF => ?_
 refine bT ?_
 refine wp_pure HF HM rfl 2 [] [(0, aA fb), (4, aC gs l.length cap), (8, .nilIface), (29, .bool false)] (by kernel_rfl) fun a HF => ?_
 refine aB ?_
 refine aZ HF rfl ?_
 refine wp_skip ?_
 repeat first | refine aK ?_ | refine aS ?_
 refine aN ?_
 refine wp_pure HF HM rfl 1 [] [(0, aA fb), (4, aC gs l.length cap), (9, aQ)] (by kernel_rfl) fun a HF => ?_
 refine aB ?_
 refine wp_seq ?_
 refine aN ?_
 refine wp_pure HF HM rfl 3 [] ((lJ fb gs l cap) ++ [(33, aF 0)]) (by kernel_rfl) fun a HF => ?_
 refine aB ?_
 refine wp_block ?_
 refine jX (l.length) (fun i a w => (((dh (l.take i)) = []) ∧ Mm [] w2 w [] ∧ Fr 74 a ((lJ fb gs l cap) ++ [(33, ay i)])) ∨ (∃ og : Nat, ∃ oc : Nat, ∃ ok : Array Value, (ok.toList.take (((dh (l.take i)).length) * 3) = (dh (l.take i)).flatMap tX) ∧ (ok.size = oc * 3) ∧ (((dh (l.take i)).length) ≤ oc) ∧ (oc ≤ maxLen) ∧ Mm [] w2 w [(og, .cells ok 115 (0, 0))] ∧ Fr 74 a [(0, aA fb), (9, aC og ((dh (l.take i)).length) oc), (31, aC gs l.length cap), (32, ay l.length), (33, ay i)])) ?_ ?_ ?_
 ·exact Or.inl <| ⟨rfl, HM, HF.sub ((lJ fb gs l cap) ++ [(33, aF 0)]) (by kernel_rfl)⟩
 ·intro i a w KX hi hI KR
  rcases hI with hI | hI
  ·obtain ⟨h0, HM, HF⟩ := hI
   have hil := Ht l i; have hln := hs.n
   refine aN ?_
   refine wp_pure HF HM rfl 1 [] ((lJ fb gs l cap) ++ [(33, ay i), (34, .bool (decide (((i : Nat) : Int) < ((l.length : Nat) : Int))))]) (by kernel_rfl) fun a HF => ?_
   refine aB ?_
   refine wp_seq ?_
   rw [show decide (((i : Nat) : Int) < ((l.length : Nat) : Int)) = true from dV (by omega)] at HF
   refine bC HF rfl ?_
   refine wp_skip ?_
   repeat first | refine aK ?_ | refine aS ?_
   refine wp_seq ?_
   refine wp_block ?_
   refine aN ?_
   refine wp_pure HF HM rfl 1 [] ((lJ fb gs l cap) ++ [(33, ay i), (35, ay i)]) (by kernel_rfl) fun a HF => ?_
   obtain ⟨m1, hm1⟩ : ∃ m, l[i]? = some m := ⟨_, List.getElem?_eq_getElem (by omega)⟩
   refine bU HF (by kernel_rfl) (.pointer (Option.map (fun q : Addr => q.add (i * 10)) (some ⟨gs, 0, none⟩))) (by kernel_rfl) (dS Tryd.underlying101 (by kernel_rfl) rfl i rfl rfl (by omega) (gQ (fH (f := t_) (k := 10) (fun _ => rfl) (HM.row hos.row) i hm1) (Nat.zero_lt_succ _))) fun a HF => ?_
   refine bU HF (by kernel_rfl) (.agg #[.string (⟨m1.name.toArray⟩), aT m1.info, aT m1.other, .bool false, .int .u16 0, .int .i64 m1.dH, aI m1.value, aI m1.size, .string (⟨#[]⟩ : ByteArray), .string (⟨#[]⟩ : ByteArray)]) (by kernel_rfl) (iC rfl rfl (fH (f := t_) (k := 10) (fun _ => rfl) (HM.row hos.row) i hm1) (Nat.zero_lt_succ _) Tryd.underlying188 rfl (by kernel_rfl)) fun a HF => ?_
   obtain ⟨z12, MH⟩ : ∃ z, w.heap.size = z := ⟨_, rfl⟩
   refine aP HF HM MH 3 [[0]] (uT fb i z12 gs l cap) [(z12, .cells #[.string (⟨m1.name.toArray⟩), aT m1.info, aT m1.other, .bool false, .int .u16 0, .int .i64 m1.dH, aI m1.value, aI m1.size, .string (⟨#[]⟩ : ByteArray), .string (⟨#[]⟩ : ByteArray)] 188 (0, 0))] (by kernel_rfl) fun a w HF HM => ?_
   clear MH
   refine bT ?_
   refine wp_pure HF HM rfl 2 [[0]] ((uT fb i z12 gs l cap) ++ [(39, aT m1.info)]) (by kernel_rfl) fun a HF => ?_
   refine bf HF (by kernel_rfl) 83 #[aT m1.info] (by kernel_rfl) (fun w => by kernel_rfl) (Calls.mono (Ie m1.info (hs.at_ _ (List.mem_of_getElem? hm1)).info w) ?_)
   rintro _ w3 ⟨rfl, hb⟩
   replace HM := HM.call hb
   clear hb
   refine ⟨_, rfl, ?_⟩; clear HF; intro a HF
   refine wp_pure HF HM rfl 2 [] ((uT fb i z12 gs l cap) ++ [(42, .bool ((((m1.info / 16) : Nat) : Int) == 1))]) (by kernel_rfl) fun a HF => ?_
   by_cases hc2 : (((m1.info / 16) : Nat) : Int) = 1
   ·rw [show ((((m1.info / 16) : Nat) : Int) == 1) = true from uK (hc2)] at HF
    refine wp_pure HF HM rfl 4 [[0]] ((uT fb i z12 gs l cap) ++ [(46, .bool (m1.dH == 0))]) (by kernel_rfl) fun a HF => ?_
    refine aB ?_
    by_cases hc3 : m1.dH = 0
    ·rw [show (m1.dH == 0) = true from uK (hc3)] at HF
     refine bC HF rfl ?_
     refine aN ?_
     obtain ⟨uG, Bc⟩ : ∃ z, w3.heap.size = z := ⟨_, rfl⟩
     refine aP HF HM Bc 5 [[0]] [(0, aA fb), (10, ay i), (31, aC gs l.length cap), (32, ay l.length), (33, ay i), (47, aQ), (51, aC uG 1 1)] [(uG, .cells #[.string (⟨m1.name.toArray⟩), .string (⟨#[]⟩ : ByteArray), .string (⟨#[]⟩ : ByteArray)] 115 (0, 0)), (z12, .cells #[.string (⟨m1.name.toArray⟩), aT m1.info, aT m1.other, .bool false, .int .u16 0, .int .i64 m1.dH, aI m1.value, aI m1.size, .string (⟨#[]⟩ : ByteArray), .string (⟨#[]⟩ : ByteArray)] 188 (0, 0))] (by kernel_rfl) fun a w HF HM => ?_
     clear Bc
     refine vV HF HM rfl _ _ 111 rfl rfl 115 (z := .agg #[.string (⟨#[]⟩ : ByteArray), .string (⟨#[]⟩ : ByteArray), .string (⟨#[]⟩ : ByteArray)]) (size := 3) (bytes := 48) Tryd.underlying111 (by kernel_rfl) rfl (by decide) rfl (some ⟨uG, 0, none⟩) 1 1 ([.string (⟨m1.name.toArray⟩), .string (⟨#[]⟩ : ByteArray), .string (⟨#[]⟩ : ByteArray)]) rfl rfl (by omega) (HM.rowAt (i := 0) rfl) (lM rfl) (by unfold maxLen; omega) (by omega) ?_
     intro a w4 g4 cap4 lg bJ pX Bf uD CQ hbel HF2; clear HF HM hbel
     have HM : Mm [] w2 w4 [(g4, .cells lg 115 (0, 0)), (uG, .cells #[.string (⟨m1.name.toArray⟩), .string (⟨#[]⟩ : ByteArray), .string (⟨#[]⟩ : ByteArray)] 115 (0, 0)), (z12, .cells #[.string (⟨m1.name.toArray⟩), aT m1.info, aT m1.other, .bool false, .int .u16 0, .int .i64 m1.dH, aI m1.value, aI m1.size, .string (⟨#[]⟩ : ByteArray), .string (⟨#[]⟩ : ByteArray)] 188 (0, 0))] := bJ
     have HF := HF2.sub [(0, aA fb), (10, ay i), (31, aC gs l.length cap), (32, ay l.length), (33, ay i), (52, aC g4 1 cap4)] (by kernel_rfl); clear bJ HF2
     refine wp_pure HF HM rfl 1 [] [(0, aA fb), (9, aC g4 1 cap4), (10, ay i), (31, aC gs l.length cap), (32, ay l.length), (33, ay i)] (by kernel_rfl) fun a HF => ?_
     refine bT ?_
     refine wp_pure HF HM rfl 4 [] [(0, aA fb), (9, aC g4 1 cap4), (10, ay i), (31, aC gs l.length cap), (32, ay l.length), (33, ay i), (53, aC g4 1 cap4), (56, aF 0)] (by kernel_rfl) fun a HF => ?_
     refine bU HF (by kernel_rfl) (.pointer (some ⟨g4, 0 + 0 * 3, none⟩)) (by kernel_rfl) (jy Tryd.underlying111 IG rfl (0) rfl (kk := .i64) rfl rfl (by omega)) fun a HF => ?_
     refine wp_pure HF HM rfl 1 [] [(0, aA fb), (9, aC g4 1 cap4), (10, ay i), (12, .pointer (some ⟨g4, 0 + 0 * 3, none⟩)), (31, aC gs l.length cap), (32, ay l.length), (33, ay i)] (by kernel_rfl) fun a HF => ?_
     refine aB ?_
     refine wp_region_lit ?_
     refine wp_pure HF HM rfl 4 [] ((qM fb g4 cap4 gs l cap) ++ [(33, ay i), (59, .pointer (some ⟨g4, 0 + 0 * 3, none⟩)), (60, .pointer (some ⟨g4, 0 + 0 * 3, none⟩)), (61, aA fb), (62, ay i)]) (by kernel_rfl) fun a HF => ?_
     refine bf HF (by kernel_rfl) 81 #[aA fb, ay i] (by kernel_rfl) (fun w => by kernel_rfl) (Calls.mono (OY (hF.below HM.below) i (by omega)) ?_)
     rintro _ w5 ⟨rfl, hb⟩
     replace HM := HM.call hb
     clear hb
     refine ⟨_, rfl, ?_⟩; clear HF; intro a HF
     refine wp_pure HF HM rfl 7 [] ((qM fb g4 cap4 gs l cap) ++ [(33, ay i), (60, .pointer (some ⟨g4, 0 + 0 * 3, none⟩)), (66, .string (⟨#[]⟩ : ByteArray)), (67, .string (⟨#[]⟩ : ByteArray)), (69, .pointer (some ⟨g4, 0 + 0 * 3 + 1, none⟩))]) (by kernel_rfl) fun a HF => ?_
     refine jv HF HM rfl 9 _ _ rfl rfl 0 g4 (0 + 0 * 3 + 1) lg 115 rfl rfl (.string (⟨#[]⟩ : ByteArray)) rfl rfl rfl (by rw [Bf]; have hq := uD; omega) (by kernel_rfl) ?_
     intro a w6 nJ bJ jF HF2; clear HF HM
     have AB : nJ.toList.take (1 * 3) = ([.string (⟨m1.name.toArray⟩), .string (⟨#[]⟩ : ByteArray), .string (⟨#[]⟩ : ByteArray)] : List Value).set (0 + 0 * 3 + 1) (.string (⟨#[]⟩ : ByteArray)) := by rw [jF, List.take_set, pX]
     have EO : nJ.size = cap4 * 3 := by rw [← Array.length_toList, jF, List.length_set, Array.length_toList, Bf]
     have HM : Mm [] w2 w6 [(g4, .cells nJ 115 (0, 0)), (uG, .cells #[.string (⟨m1.name.toArray⟩), .string (⟨#[]⟩ : ByteArray), .string (⟨#[]⟩ : ByteArray)] 115 (0, 0)), (z12, .cells #[.string (⟨m1.name.toArray⟩), aT m1.info, aT m1.other, .bool false, .int .u16 0, .int .i64 m1.dH, aI m1.value, aI m1.size, .string (⟨#[]⟩ : ByteArray), .string (⟨#[]⟩ : ByteArray)] 188 (0, 0))] := bJ
     have HF := HF2.sub ((qM fb g4 cap4 gs l cap) ++ [(33, ay i), (60, .pointer (some ⟨g4, 0 + 0 * 3, none⟩)), (67, .string (⟨#[]⟩ : ByteArray))]) (by kernel_rfl); clear bJ HF2 jF
     replace AB : nJ.toList.take (1 * 3) = [.string (⟨m1.name.toArray⟩), .string (⟨#[]⟩ : ByteArray), .string (⟨#[]⟩ : ByteArray)] := AB.trans (rfl)
     refine wp_pure HF HM rfl 2 [] ((qM fb g4 cap4 gs l cap) ++ [(33, ay i), (67, .string (⟨#[]⟩ : ByteArray)), (71, .pointer (some ⟨g4, 0 + 0 * 3 + 2, none⟩))]) (by kernel_rfl) fun a HF => ?_
     refine jv HF HM rfl 9 _ _ rfl rfl 0 g4 (0 + 0 * 3 + 2) nJ 115 rfl rfl (.string (⟨#[]⟩ : ByteArray)) rfl rfl rfl (by rw [EO]; have hq := uD; omega) (by kernel_rfl) ?_
     intro a w7 sD bJ jF HF2; clear HF HM
     have vY : sD.toList.take (1 * 3) = ([.string (⟨m1.name.toArray⟩), .string (⟨#[]⟩ : ByteArray), .string (⟨#[]⟩ : ByteArray)] : List Value).set (0 + 0 * 3 + 2) (.string (⟨#[]⟩ : ByteArray)) := by rw [jF, List.take_set, AB]
     have La : sD.size = cap4 * 3 := by rw [← Array.length_toList, jF, List.length_set, Array.length_toList, EO]
     have HM : Mm [] w2 w7 [(g4, .cells sD 115 (0, 0)), (uG, .cells #[.string (⟨m1.name.toArray⟩), .string (⟨#[]⟩ : ByteArray), .string (⟨#[]⟩ : ByteArray)] 115 (0, 0)), (z12, .cells #[.string (⟨m1.name.toArray⟩), aT m1.info, aT m1.other, .bool false, .int .u16 0, .int .i64 m1.dH, aI m1.value, aI m1.size, .string (⟨#[]⟩ : ByteArray), .string (⟨#[]⟩ : ByteArray)] 188 (0, 0))] := bJ
     have HF := HF2.sub ((qM fb g4 cap4 gs l cap) ++ [(33, ay i)]) (by kernel_rfl); clear bJ HF2 jF
     replace vY : sD.toList.take (1 * 3) = [.string (⟨m1.name.toArray⟩), .string (⟨#[]⟩ : ByteArray), .string (⟨#[]⟩ : ByteArray)] := vY.trans (rfl)
     refine wpList_nil ?_
     repeat first | refine aK ?_ | refine aS ?_
     refine wp_region_lit ?_
     refine wp_pure HF HM rfl 1 [] ((qM fb g4 cap4 gs l cap) ++ [(72, aF (IntKind.i64.wrap (((i : Nat) : Int) + 1)))]) (by kernel_rfl) fun a HF => ?_
     rw [show IntKind.i64.wrap (((i : Nat) : Int) + 1) = (((i + 1) : Nat) : Int) from (IntWalk.i64_in _ (by omega)).trans (by omega)] at HF
     refine wp_pure HF HM rfl 1 [] ((qM fb g4 cap4 gs l cap) ++ [(33, ay (i + 1))]) (by kernel_rfl) fun a HF => ?_
     refine wpList_nil ?_
     repeat first | refine aK ?_ | refine aS ?_
     have hl1 : 1 = ((dh (l.take (i + 1))).length) := by rw [yH hm1 hc2 hc3]; rw [h0]; rfl
     replace HF := Fr.tell HF 9 rfl (show Value.slice (some ⟨g4, 0, none⟩) 1 cap4 = Value.slice (some ⟨g4, 0, none⟩) ((dh (l.take (i + 1))).length) cap4 from congrArg (fun q => Value.slice (some ⟨g4, 0, none⟩) q cap4) hl1)
     replace vY : sD.toList.take (((dh (l.take (i + 1))).length) * 3) = [.string (⟨m1.name.toArray⟩), .string (⟨#[]⟩ : ByteArray), .string (⟨#[]⟩ : ByteArray)] := by rw [← hl1]; exact vY
     replace uD : ((dh (l.take (i + 1))).length) ≤ cap4 := by rw [← hl1]; exact uD
     replace vY : sD.toList.take (((dh (l.take (i + 1))).length) * 3) = (dh (l.take (i + 1))).flatMap tX := vY.trans (by rw [yH hm1 hc2 hc3]; rw [h0]; rfl)
     exact KR _ _ (Or.inr <| ⟨g4, cap4, sD, vY, La, uD, CQ, (HM.pick [0] [(g4, .cells sD 115 (0, 0))] rfl (by decide)), HF.sub [(0, aA fb), (9, aC g4 ((dh (l.take (i + 1))).length) cap4), (31, aC gs l.length cap), (32, ay l.length), (33, ay (i + 1))] (by kernel_rfl)⟩)
    rw [show (m1.dH == 0) = false from rW (hc3)] at HF
    refine aZ HF rfl ?_
    refine wp_skip ?_
    repeat first | refine aK ?_ | refine aS ?_
    refine wp_region_lit ?_
    refine wp_pure HF HM rfl 1 [] ((lJ fb gs l cap) ++ [(72, aF (IntKind.i64.wrap (((i : Nat) : Int) + 1)))]) (by kernel_rfl) fun a HF => ?_
    rw [show IntKind.i64.wrap (((i : Nat) : Int) + 1) = (((i + 1) : Nat) : Int) from (IntWalk.i64_in _ (by omega)).trans (by omega)] at HF
    refine wp_pure HF HM rfl 1 [] ((lJ fb gs l cap) ++ [(33, ay (i + 1))]) (by kernel_rfl) fun a HF => ?_
    refine wpList_nil ?_
    repeat first | refine aK ?_ | refine aS ?_
    exact KR _ _ (Or.inl <| ⟨((uq hm1 (fun hq => by first | exact absurd hq.1 hc2 | exact absurd hq.2 hc3)).trans h0), (HM.pick [] [] rfl (by decide)), HF.sub ((lJ fb gs l cap) ++ [(33, ay (i + 1))]) (by kernel_rfl)⟩)
   rw [show ((((m1.info / 16) : Nat) : Int) == 1) = false from rW (hc2)] at HF
   refine wp_pure HF HM rfl 4 [] ((uT fb i z12 gs l cap) ++ [(46, .bool false)]) (by kernel_rfl) fun a HF => ?_
   refine aB ?_
   refine aZ HF rfl ?_
   refine wp_skip ?_
   repeat first | refine aK ?_ | refine aS ?_
   refine wp_region_lit ?_
   refine wp_pure HF HM rfl 1 [] ((lJ fb gs l cap) ++ [(72, aF (IntKind.i64.wrap (((i : Nat) : Int) + 1)))]) (by kernel_rfl) fun a HF => ?_
   rw [show IntKind.i64.wrap (((i : Nat) : Int) + 1) = (((i + 1) : Nat) : Int) from (IntWalk.i64_in _ (by omega)).trans (by omega)] at HF
   refine wp_pure HF HM rfl 1 [] ((lJ fb gs l cap) ++ [(33, ay (i + 1))]) (by kernel_rfl) fun a HF => ?_
   refine wpList_nil ?_
   repeat first | refine aK ?_ | refine aS ?_
   exact KR _ _ (Or.inl <| ⟨((uq hm1 (fun hq => by first | exact absurd hq.1 hc2 | exact absurd hq.2 hc2)).trans h0), (HM.pick [] [] rfl (by decide)), HF.sub ((lJ fb gs l cap) ++ [(33, ay (i + 1))]) (by kernel_rfl)⟩)
  ·obtain ⟨og, oc, ok, jV, oQ, lu, pV, HM, HF⟩ := hI
   have hil := Ht l i; have hln := hs.n
   refine aN ?_
   refine wp_pure HF HM rfl 1 [] ((uS fb og l i oc) ++ [(31, aC gs l.length cap), (32, ay l.length), (33, ay i), (34, .bool (decide (((i : Nat) : Int) < ((l.length : Nat) : Int))))]) (by kernel_rfl) fun a HF => ?_
   refine aB ?_
   refine wp_seq ?_
   rw [show decide (((i : Nat) : Int) < ((l.length : Nat) : Int)) = true from dV (by omega)] at HF
   refine bC HF rfl ?_
   refine wp_skip ?_
   repeat first | refine aK ?_ | refine aS ?_
   refine wp_seq ?_
   refine wp_block ?_
   refine aN ?_
   refine wp_pure HF HM rfl 1 [] ((uS fb og l i oc) ++ [(31, aC gs l.length cap), (32, ay l.length), (33, ay i), (35, ay i)]) (by kernel_rfl) fun a HF => ?_
   obtain ⟨m7, IQ⟩ : ∃ m, l[i]? = some m := ⟨_, List.getElem?_eq_getElem (by omega)⟩
   refine bU HF (by kernel_rfl) (.pointer (Option.map (fun q : Addr => q.add (i * 10)) (some ⟨gs, 0, none⟩))) (by kernel_rfl) (dS Tryd.underlying101 (by kernel_rfl) rfl i rfl rfl (by omega) (gQ (fH (f := t_) (k := 10) (fun _ => rfl) (HM.row hos.row) i IQ) (Nat.zero_lt_succ _))) fun a HF => ?_
   refine bU HF (by kernel_rfl) (.agg #[.string (⟨m7.name.toArray⟩), aT m7.info, aT m7.other, .bool false, .int .u16 0, .int .i64 m7.dH, aI m7.value, aI m7.size, .string (⟨#[]⟩ : ByteArray), .string (⟨#[]⟩ : ByteArray)]) (by kernel_rfl) (iC rfl rfl (fH (f := t_) (k := 10) (fun _ => rfl) (HM.row hos.row) i IQ) (Nat.zero_lt_succ _) Tryd.underlying188 rfl (by kernel_rfl)) fun a HF => ?_
   obtain ⟨z32, hz32⟩ : ∃ z, w.heap.size = z := ⟨_, rfl⟩
   refine aP HF HM hz32 3 [[1]] (uQ fb og l i oc z32 gs cap) [(z32, .cells #[.string (⟨m7.name.toArray⟩), aT m7.info, aT m7.other, .bool false, .int .u16 0, .int .i64 m7.dH, aI m7.value, aI m7.size, .string (⟨#[]⟩ : ByteArray), .string (⟨#[]⟩ : ByteArray)] 188 (0, 0)), (og, .cells ok 115 (0, 0))] (by kernel_rfl) fun a w HF HM => ?_
   clear hz32
   refine bT ?_
   refine wp_pure HF HM rfl 2 [[1]] ((uQ fb og l i oc z32 gs cap) ++ [(39, aT m7.info)]) (by kernel_rfl) fun a HF => ?_
   refine bf HF (by kernel_rfl) 83 #[aT m7.info] (by kernel_rfl) (fun w => by kernel_rfl) (Calls.mono (Ie m7.info (hs.at_ _ (List.mem_of_getElem? IQ)).info w) ?_)
   rintro _ w8 ⟨rfl, hb⟩
   replace HM := HM.call hb
   clear hb
   refine ⟨_, rfl, ?_⟩; clear HF; intro a HF
   refine wp_pure HF HM rfl 2 [] ((uQ fb og l i oc z32 gs cap) ++ [(42, .bool ((((m7.info / 16) : Nat) : Int) == 1))]) (by kernel_rfl) fun a HF => ?_
   by_cases hc8 : (((m7.info / 16) : Nat) : Int) = 1
   ·rw [show ((((m7.info / 16) : Nat) : Int) == 1) = true from uK (hc8)] at HF
    refine wp_pure HF HM rfl 4 [[1]] ((uQ fb og l i oc z32 gs cap) ++ [(46, .bool (m7.dH == 0))]) (by kernel_rfl) fun a HF => ?_
    refine aB ?_
    by_cases sQ : m7.dH = 0
    ·rw [show (m7.dH == 0) = true from uK (sQ)] at HF
     refine bC HF rfl ?_
     refine aN ?_
     obtain ⟨z36, hz36⟩ : ∃ z, w8.heap.size = z := ⟨_, rfl⟩
     refine aP HF HM hz36 5 [[1]] [(0, aA fb), (10, ay i), (31, aC gs l.length cap), (32, ay l.length), (33, ay i), (47, aC og ((dh (l.take i)).length) oc), (51, aC z36 1 1)] [(z36, .cells #[.string (⟨m7.name.toArray⟩), .string (⟨#[]⟩ : ByteArray), .string (⟨#[]⟩ : ByteArray)] 115 (0, 0)), (z32, .cells #[.string (⟨m7.name.toArray⟩), aT m7.info, aT m7.other, .bool false, .int .u16 0, .int .i64 m7.dH, aI m7.value, aI m7.size, .string (⟨#[]⟩ : ByteArray), .string (⟨#[]⟩ : ByteArray)] 188 (0, 0)), (og, .cells ok 115 (0, 0))] (by kernel_rfl) fun a w HF HM => ?_
     clear hz36
     refine fU HF HM rfl _ _ 111 111 rfl rfl 115 (z := .agg #[.string (⟨#[]⟩ : ByteArray), .string (⟨#[]⟩ : ByteArray), .string (⟨#[]⟩ : ByteArray)]) (size := 3) (bytes := 48) Tryd.underlying111 (by kernel_rfl) rfl (by decide) 2 og ((dh (l.take i)).length) oc ok rfl rfl lu pV oQ ((dh (l.take i)).flatMap tX) jV (aC z36 1 1) 1 [.string (⟨m7.name.toArray⟩), .string (⟨#[]⟩ : ByteArray), .string (⟨#[]⟩ : ByteArray)] rfl (lF Tryd.underlying111 rfl (by decide) (HM.rowAt (i := 0) rfl) (lM rfl)) (by unfold maxLen; omega) (by omega) ?_
     intro a w9 g10 nD EF bJ IJ KL Gn PZ HF2; clear HF HM
     have HM : Mm [] w2 w9 [(z36, .cells #[.string (⟨m7.name.toArray⟩), .string (⟨#[]⟩ : ByteArray), .string (⟨#[]⟩ : ByteArray)] 115 (0, 0)), (z32, .cells #[.string (⟨m7.name.toArray⟩), aT m7.info, aT m7.other, .bool false, .int .u16 0, .int .i64 m7.dH, aI m7.value, aI m7.size, .string (⟨#[]⟩ : ByteArray), .string (⟨#[]⟩ : ByteArray)] 188 (0, 0)), (g10, .cells EF 115 (0, 0))] := bJ
     have HF := HF2.sub [(0, aA fb), (10, ay i), (31, aC gs l.length cap), (32, ay l.length), (33, ay i), (52, aC g10 (((dh (l.take i)).length) + 1) nD)] (by kernel_rfl); clear bJ HF2
     refine wp_pure HF HM rfl 1 [] ((oD fb g10 l i nD) ++ [(10, ay i), (31, aC gs l.length cap), (32, ay l.length), (33, ay i)]) (by kernel_rfl) fun a HF => ?_
     refine bT ?_
     refine wp_pure HF HM rfl 4 [] ((oD fb g10 l i nD) ++ [(10, ay i), (31, aC gs l.length cap), (32, ay l.length), (33, ay i), (53, aC g10 (((dh (l.take i)).length) + 1) nD), (56, aF (IntKind.i64.wrap ((((((dh (l.take i)).length) + 1) : Nat) : Int) - 1)))]) (by kernel_rfl) fun a HF => ?_
     rw [show IntKind.i64.wrap ((((((dh (l.take i)).length) + 1) : Nat) : Int) - 1) = ((((dh (l.take i)).length) : Nat) : Int) from (IntWalk.i64_in _ (by omega)).trans (by omega)] at HF
     refine bU HF (by kernel_rfl) (.pointer (some ⟨g10, 0 + ((dh (l.take i)).length) * 3, none⟩)) (by kernel_rfl) (jy Tryd.underlying111 IG rfl (((dh (l.take i)).length)) rfl (kk := .i64) rfl rfl (by omega)) fun a HF => ?_
     refine wp_pure HF HM rfl 1 [] ((oD fb g10 l i nD) ++ [(10, ay i), (12, .pointer (some ⟨g10, 0 + ((dh (l.take i)).length) * 3, none⟩)), (31, aC gs l.length cap), (32, ay l.length), (33, ay i)]) (by kernel_rfl) fun a HF => ?_
     refine aB ?_
     refine wp_region_lit ?_
     refine wp_pure HF HM rfl 4 [] ((oD fb g10 l i nD) ++ [(31, aC gs l.length cap), (32, ay l.length), (33, ay i), (59, .pointer (some ⟨g10, 0 + ((dh (l.take i)).length) * 3, none⟩)), (60, .pointer (some ⟨g10, 0 + ((dh (l.take i)).length) * 3, none⟩)), (61, aA fb), (62, ay i)]) (by kernel_rfl) fun a HF => ?_
     refine bf HF (by kernel_rfl) 81 #[aA fb, ay i] (by kernel_rfl) (fun w => by kernel_rfl) (Calls.mono (OY (hF.below HM.below) i (by omega)) ?_)
     rintro _ w10 ⟨rfl, hb⟩
     replace HM := HM.call hb
     clear hb
     refine ⟨_, rfl, ?_⟩; clear HF; intro a HF
     refine wp_pure HF HM rfl 7 [] ((oD fb g10 l i nD) ++ [(31, aC gs l.length cap), (32, ay l.length), (33, ay i), (60, .pointer (some ⟨g10, 0 + ((dh (l.take i)).length) * 3, none⟩)), (66, .string (⟨#[]⟩ : ByteArray)), (67, .string (⟨#[]⟩ : ByteArray)), (69, .pointer (some ⟨g10, 0 + ((dh (l.take i)).length) * 3 + 1, none⟩))]) (by kernel_rfl) fun a HF => ?_
     refine jv HF HM rfl 9 _ _ rfl rfl 2 g10 (0 + ((dh (l.take i)).length) * 3 + 1) EF 115 rfl rfl (.string (⟨#[]⟩ : ByteArray)) rfl rfl rfl (by rw [KL]; have hq := Gn; omega) (by kernel_rfl) ?_
     intro a wQ nK bJ jF HF2; clear HF HM
     have Dz : nK.toList.take ((((dh (l.take i)).length) + 1) * 3) = (((dh (l.take i)).flatMap tX ++ [.string (⟨m7.name.toArray⟩), .string (⟨#[]⟩ : ByteArray), .string (⟨#[]⟩ : ByteArray)]) : List Value).set (0 + ((dh (l.take i)).length) * 3 + 1) (.string (⟨#[]⟩ : ByteArray)) := by rw [jF, List.take_set, IJ]
     have O_ : nK.size = nD * 3 := by rw [← Array.length_toList, jF, List.length_set, Array.length_toList, KL]
     have HM : Mm [] w2 wQ [(z36, .cells #[.string (⟨m7.name.toArray⟩), .string (⟨#[]⟩ : ByteArray), .string (⟨#[]⟩ : ByteArray)] 115 (0, 0)), (z32, .cells #[.string (⟨m7.name.toArray⟩), aT m7.info, aT m7.other, .bool false, .int .u16 0, .int .i64 m7.dH, aI m7.value, aI m7.size, .string (⟨#[]⟩ : ByteArray), .string (⟨#[]⟩ : ByteArray)] 188 (0, 0)), (g10, .cells nK 115 (0, 0))] := bJ
     have HF := HF2.sub ((oD fb g10 l i nD) ++ [(31, aC gs l.length cap), (32, ay l.length), (33, ay i), (60, .pointer (some ⟨g10, 0 + ((dh (l.take i)).length) * 3, none⟩)), (67, .string (⟨#[]⟩ : ByteArray))]) (by kernel_rfl); clear bJ HF2 jF
     replace Dz : nK.toList.take ((((dh (l.take i)).length) + 1) * 3) = ((dh (l.take i)).flatMap tX ++ [.string (⟨m7.name.toArray⟩), .string (⟨#[]⟩ : ByteArray), .string (⟨#[]⟩ : ByteArray)]) := Dz.trans (OV ((dh (l.take i)).flatMap tX) m7 1 (by rw [yJ (f := tX) (k := 3) (fun _ => rfl)]) (by decide))
     refine wp_pure HF HM rfl 2 [] ((oD fb g10 l i nD) ++ [(31, aC gs l.length cap), (32, ay l.length), (33, ay i), (67, .string (⟨#[]⟩ : ByteArray)), (71, .pointer (some ⟨g10, 0 + ((dh (l.take i)).length) * 3 + 2, none⟩))]) (by kernel_rfl) fun a HF => ?_
     refine jv HF HM rfl 9 _ _ rfl rfl 2 g10 (0 + ((dh (l.take i)).length) * 3 + 2) nK 115 rfl rfl (.string (⟨#[]⟩ : ByteArray)) rfl rfl rfl (by rw [O_]; have hq := Gn; omega) (by kernel_rfl) ?_
     intro a w12 ED bJ jF HF2; clear HF HM
     have Gh : ED.toList.take ((((dh (l.take i)).length) + 1) * 3) = (((dh (l.take i)).flatMap tX ++ [.string (⟨m7.name.toArray⟩), .string (⟨#[]⟩ : ByteArray), .string (⟨#[]⟩ : ByteArray)]) : List Value).set (0 + ((dh (l.take i)).length) * 3 + 2) (.string (⟨#[]⟩ : ByteArray)) := by rw [jF, List.take_set, Dz]
     have szs12 : ED.size = nD * 3 := by rw [← Array.length_toList, jF, List.length_set, Array.length_toList, O_]
     have HM : Mm [] w2 w12 [(z36, .cells #[.string (⟨m7.name.toArray⟩), .string (⟨#[]⟩ : ByteArray), .string (⟨#[]⟩ : ByteArray)] 115 (0, 0)), (z32, .cells #[.string (⟨m7.name.toArray⟩), aT m7.info, aT m7.other, .bool false, .int .u16 0, .int .i64 m7.dH, aI m7.value, aI m7.size, .string (⟨#[]⟩ : ByteArray), .string (⟨#[]⟩ : ByteArray)] 188 (0, 0)), (g10, .cells ED 115 (0, 0))] := bJ
     have HF := HF2.sub ((oD fb g10 l i nD) ++ [(31, aC gs l.length cap), (32, ay l.length), (33, ay i)]) (by kernel_rfl); clear bJ HF2 jF
     replace Gh : ED.toList.take ((((dh (l.take i)).length) + 1) * 3) = ((dh (l.take i)).flatMap tX ++ [.string (⟨m7.name.toArray⟩), .string (⟨#[]⟩ : ByteArray), .string (⟨#[]⟩ : ByteArray)]) := Gh.trans (OV ((dh (l.take i)).flatMap tX) m7 2 (by rw [yJ (f := tX) (k := 3) (fun _ => rfl)]) (by decide))
     refine wpList_nil ?_
     repeat first | refine aK ?_ | refine aS ?_
     refine wp_region_lit ?_
     refine wp_pure HF HM rfl 1 [] ((oD fb g10 l i nD) ++ [(31, aC gs l.length cap), (32, ay l.length), (72, aF (IntKind.i64.wrap (((i : Nat) : Int) + 1)))]) (by kernel_rfl) fun a HF => ?_
     rw [show IntKind.i64.wrap (((i : Nat) : Int) + 1) = (((i + 1) : Nat) : Int) from (IntWalk.i64_in _ (by omega)).trans (by omega)] at HF
     refine wp_pure HF HM rfl 1 [] [(0, aA fb), (9, aC g10 (((dh (l.take i)).length) + 1) nD), (31, aC gs l.length cap), (32, ay l.length), (33, ay (i + 1))] (by kernel_rfl) fun a HF => ?_
     refine wpList_nil ?_
     repeat first | refine aK ?_ | refine aS ?_
     rw [show (((dh (l.take i)).length) + 1) = ((dh (l.take (i + 1))).length) from by rw [yH IQ hc8 sQ]; rw [List.length_append]; rfl] at HF Gh Gn
     replace Gh : ED.toList.take (((dh (l.take (i + 1))).length) * 3) = (dh (l.take (i + 1))).flatMap tX := Gh.trans (by rw [yH IQ hc8 sQ]; rw [List.flatMap_append]; rfl)
     exact KR _ _ (Or.inr <| ⟨g10, nD, ED, Gh, szs12, Gn, PZ, (HM.pick [2] [(g10, .cells ED 115 (0, 0))] rfl (by decide)), HF.sub [(0, aA fb), (9, aC g10 ((dh (l.take (i + 1))).length) nD), (31, aC gs l.length cap), (32, ay l.length), (33, ay (i + 1))] (by kernel_rfl)⟩)
    rw [show (m7.dH == 0) = false from rW (sQ)] at HF
    refine aZ HF rfl ?_
    refine wp_skip ?_
    repeat first | refine aK ?_ | refine aS ?_
    refine wp_region_lit ?_
    refine wp_pure HF HM rfl 1 [] ((uS fb og l i oc) ++ [(31, aC gs l.length cap), (32, ay l.length), (72, aF (IntKind.i64.wrap (((i : Nat) : Int) + 1)))]) (by kernel_rfl) fun a HF => ?_
    rw [show IntKind.i64.wrap (((i : Nat) : Int) + 1) = (((i + 1) : Nat) : Int) from (IntWalk.i64_in _ (by omega)).trans (by omega)] at HF
    refine wp_pure HF HM rfl 1 [] [(0, aA fb), (9, aC og ((dh (l.take i)).length) oc), (31, aC gs l.length cap), (32, ay l.length), (33, ay (i + 1))] (by kernel_rfl) fun a HF => ?_
    refine wpList_nil ?_
    repeat first | refine aK ?_ | refine aS ?_
    rw [show ((dh (l.take i)).length) = ((dh (l.take (i + 1))).length) from (congrArg List.length (uq IQ (fun hq => by first | exact absurd hq.1 hc8 | exact absurd hq.2 sQ))).symm] at HF jV lu
    replace jV : ok.toList.take (((dh (l.take (i + 1))).length) * 3) = (dh (l.take (i + 1))).flatMap tX := jV.trans (by rw [uq IQ (fun hq => by first | exact absurd hq.1 hc8 | exact absurd hq.2 sQ)])
    exact KR _ _ (Or.inr <| ⟨og, oc, ok, jV, oQ, lu, pV, (HM.pick [1] [(og, .cells ok 115 (0, 0))] rfl (by decide)), HF.sub [(0, aA fb), (9, aC og ((dh (l.take (i + 1))).length) oc), (31, aC gs l.length cap), (32, ay l.length), (33, ay (i + 1))] (by kernel_rfl)⟩)
   rw [show ((((m7.info / 16) : Nat) : Int) == 1) = false from rW (hc8)] at HF
   refine wp_pure HF HM rfl 4 [] ((uQ fb og l i oc z32 gs cap) ++ [(46, .bool false)]) (by kernel_rfl) fun a HF => ?_
   refine aB ?_
   refine aZ HF rfl ?_
   refine wp_skip ?_
   repeat first | refine aK ?_ | refine aS ?_
   refine wp_region_lit ?_
   refine wp_pure HF HM rfl 1 [] ((uS fb og l i oc) ++ [(31, aC gs l.length cap), (32, ay l.length), (72, aF (IntKind.i64.wrap (((i : Nat) : Int) + 1)))]) (by kernel_rfl) fun a HF => ?_
   rw [show IntKind.i64.wrap (((i : Nat) : Int) + 1) = (((i + 1) : Nat) : Int) from (IntWalk.i64_in _ (by omega)).trans (by omega)] at HF
   refine wp_pure HF HM rfl 1 [] [(0, aA fb), (9, aC og ((dh (l.take i)).length) oc), (31, aC gs l.length cap), (32, ay l.length), (33, ay (i + 1))] (by kernel_rfl) fun a HF => ?_
   refine wpList_nil ?_
   repeat first | refine aK ?_ | refine aS ?_
   rw [show ((dh (l.take i)).length) = ((dh (l.take (i + 1))).length) from (congrArg List.length (uq IQ (fun hq => by first | exact absurd hq.1 hc8 | exact absurd hq.2 hc8))).symm] at HF jV lu
   replace jV : ok.toList.take (((dh (l.take (i + 1))).length) * 3) = (dh (l.take (i + 1))).flatMap tX := jV.trans (by rw [uq IQ (fun hq => by first | exact absurd hq.1 hc8 | exact absurd hq.2 hc8)])
   exact KR _ _ (Or.inr <| ⟨og, oc, ok, jV, oQ, lu, pV, (HM.pick [1] [(og, .cells ok 115 (0, 0))] rfl (by decide)), HF.sub [(0, aA fb), (9, aC og ((dh (l.take (i + 1))).length) oc), (31, aC gs l.length cap), (32, ay l.length), (33, ay (i + 1))] (by kernel_rfl)⟩)
 ·intro a w KX hI
  rcases hI with hI | hI
  ·obtain ⟨h0, HM, HF⟩ := hI
   refine aN ?_
   refine wp_pure HF HM rfl 1 [] ((lJ fb gs l cap) ++ [(33, ay l.length), (34, .bool (decide (((l.length : Nat) : Int) < ((l.length : Nat) : Int))))]) (by kernel_rfl) fun a HF => ?_
   refine aB ?_
   refine wp_seq ?_
   rw [show decide (((l.length : Nat) : Int) < ((l.length : Nat) : Int)) = false from dI (by omega)] at HF
   refine aZ HF rfl ?_
   refine wp_exit ?_
   repeat (first | refine fG ?_ | refine fA rfl ?_)
   refine iD ?_
   repeat first | refine aK ?_ | refine aS ?_
   refine aN ?_
   refine wp_pure HF HM rfl 3 [] [(2, aQ), (3, .nilIface)] (by kernel_rfl) fun a HF => ?_
   refine aB ?_
   refine wp_ret ?_
   repeat first | refine bH ?_ | refine bM ?_
   rw [List.take_length] at h0
   exact jK HF rfl rfl rfl ⟨none, 0, by rw [h0]; rfl, (hbw0.trans (HM.below.mono hbw0.size)), by rw [h0]; exact Row.nil _ _⟩
  ·obtain ⟨og, oc, ok, jV, oQ, lu, pV, HM, HF⟩ := hI
   refine aN ?_
   refine wp_pure HF HM rfl 1 [] [(0, aA fb), (9, aC og ((dh (l.take l.length)).length) oc), (31, aC gs l.length cap), (32, ay l.length), (33, ay l.length), (34, .bool (decide (((l.length : Nat) : Int) < ((l.length : Nat) : Int))))] (by kernel_rfl) fun a HF => ?_
   refine aB ?_
   refine wp_seq ?_
   rw [show decide (((l.length : Nat) : Int) < ((l.length : Nat) : Int)) = false from dI (by omega)] at HF
   refine aZ HF rfl ?_
   refine wp_exit ?_
   repeat (first | refine fG ?_ | refine fA rfl ?_)
   refine iD ?_
   repeat first | refine aK ?_ | refine aS ?_
   refine aN ?_
   refine wp_pure HF HM rfl 3 [] [(2, aC og ((dh (l.take l.length)).length) oc), (3, .nilIface)] (by kernel_rfl) fun a HF => ?_
   refine aB ?_
   refine wp_ret ?_
   repeat first | refine bH ?_ | refine bM ?_
   rw [List.take_length] at jV HF
   exact jK HF rfl rfl rfl ⟨some ⟨og, 0, none⟩, oc, rfl, (hbw0.trans (HM.below.mono hbw0.size)), HM.nH (i := 0) rfl jV⟩

end Go.Proofs.YtdgehpocmfjbiaaDoor
namespace Go.Proofs.YtdgehpocmfjbiaaDoor
open Go.RowKit
/-- the names of the imported symbols -/
def uz (l : List SymM) : List (List UInt8) := (dh l).map (·.name)
theorem vT (l : List SymM) : (uz l).length = (dh l).length := by simp [uz]
theorem JL (l : List SymM) : (dh l).map (fun m => nT m.name) = (uz l).map nT := by unfold uz; rw [List.map_map]; rfl
theorem Uf (l : List SymM) : (uz l).length ≤ l.length := by rw [vT]; exact List.length_filter_le _ _

abbrev oM := fun A1 (l : List SymM) c1 => ([(7, .nilIface), (8, aQ), (23, .slice A1 ((dh l).length) c1), (24, ay ((dh l).length))] : Slots)
abbrev qO := fun g4 i cap4 A1 (l : List SymM) c1 => ([(7, .nilIface), (8, aC g4 (i + 1) cap4), (23, .slice A1 ((dh l).length) c1), (24, ay ((dh l).length))] : Slots)
theorem Hr (x : bZ) (A : Option Addr) (c : Nat) (hnc : x.img.file.length ≤ c) (ok : x.img.Ok) (l : List SymM) (hs : qI x 11 l) (w0 : World) (hr : Row w0 A (x.img.file.map Bv)) : Calls Tryd.prog 28 #[.slice A x.img.file.length c] w0 fun e w' => ∃ A' c', e = .returned (.tuple #[.slice A' (uz l).length c', aF 0]) ∧ Below w0.heap.size w0 w' ∧ Row w' A' ((uz l).map nT) := by
 have hil : (dh l).length ≤ 1024 := Nat.le_trans (List.length_filter_le _ _) hs.n
 obtain ⟨w, hw⟩ : ∃ w, w0 = w := ⟨_, rfl⟩
 have HM : Mm [] w0 w [] := hw ▸ Mm.start w0
 conv => arg 4; rw [hw]
 clear hw
 refine bI Tryd.func28 rfl Tryd.ntmps28 [(0, .slice A x.img.file.length c)] (by kernel_rfl) (Nat.le_of_ble_eq_true rfl) ?_
 intro a HF
 refine aN ?_
 refine wp_pure HF HM rfl 2 [] [(0, .slice A x.img.file.length c)] (by kernel_rfl) fun a HF => ?_
 refine bT ?_
 refine wp_pure HF HM rfl 1 [] [(12, .slice A x.img.file.length c)] (by kernel_rfl) fun a HF => ?_
 refine bf HF (by kernel_rfl) 55 #[.slice A x.img.file.length c] (by kernel_rfl) (fun w => by kernel_rfl) (Calls.mono (Io x A _ c rfl hnc ok w (HM.row hr)) ?_)
 rintro _ w1 ⟨bg, Qk, z, fb, pg, aV, cur, dU, rfl, hb, hge, hF⟩
 replace HM := HM.call hb
 clear hb
 refine ⟨_, rfl, ?_⟩; clear HF; intro a HF
 refine wp_pure HF HM rfl 5 [] [(4, aA fb), (5, .bool true)] (by kernel_rfl) fun a HF => ?_
 refine aB ?_
 refine wp_seq ?_
 refine aN ?_
 refine wp_pure HF HM rfl 2 [] [(4, aA fb), (17, .bool false)] (by kernel_rfl) fun a HF => ?_
 refine aB ?_
 refine aZ HF rfl ?_
 refine wp_skip ?_
 repeat first | refine aK ?_ | refine aS ?_
 refine aN ?_
 refine wp_pure HF HM rfl 1 [] [(19, aA fb)] (by kernel_rfl) fun a HF => ?_
 refine bf HF (by kernel_rfl) 61 #[aA fb] (by kernel_rfl) (fun w => by kernel_rfl) (Calls.mono (Rf hF l hs) ?_)
 rintro _ w2 ⟨A1, c1, rfl, hb, hrow⟩
 replace HM := HM.call hb
 clear hb
 refine ⟨_, rfl, ?_⟩; clear HF; intro a HF
 replace HF := HF.sub [(20, .tuple #[.slice A1 ((dh l).length) c1, .nilIface])] (by kernel_rfl)
 have hbw0 := HM.below
 clear HM
 have HM : Mm [] w2 w2 [] := Mm.start w2
 refine wp_pure HF HM rfl 5 [] [(6, .slice A1 ((dh l).length) c1), (7, .nilIface)] (by kernel_rfl) fun a HF => ?_
 refine bT ?_
 refine wp_pure HF HM rfl 1 [] [(6, .slice A1 ((dh l).length) c1), (7, .nilIface), (8, aQ)] (by kernel_rfl) fun a HF => ?_
 refine aB ?_
 refine wp_seq ?_
 refine aN ?_
 refine wp_pure HF HM rfl 3 [] ((oM A1 l c1) ++ [(25, aF 0)]) (by kernel_rfl) fun a HF => ?_
 refine aB ?_
 refine wp_block ?_
 refine jX ((dh l).length) (fun i a w => ((i = 0) ∧ Mm [] w2 w [] ∧ Fr 38 a ((oM A1 l c1) ++ [(25, ay i)])) ∨ (∃ og : Nat, ∃ oc : Nat, ∃ ok : Array Value, (ok.toList.take (i * 1) = ((dh l).take i).map (fun m => nT m.name)) ∧ (ok.size = oc * 1) ∧ (i ≤ oc) ∧ (oc ≤ maxLen) ∧ Mm [] w2 w [(og, .cells ok 9 (0, 0))] ∧ Fr 38 a [(7, .nilIface), (8, aC og i oc), (23, .slice A1 ((dh l).length) c1), (24, ay ((dh l).length)), (25, ay i)])) ?_ ?_ ?_
 ·exact Or.inl <| ⟨rfl, HM, HF.sub ((oM A1 l c1) ++ [(25, aF 0)]) (by kernel_rfl)⟩
 ·intro i a w KX hi hI KR
  rcases hI with hI | hI
  ·obtain ⟨h0, HM, HF⟩ := hI
   subst h0
   refine aN ?_
   refine wp_pure HF HM rfl 1 [] ((oM A1 l c1) ++ [(25, aF 0), (26, .bool (decide (0 < ((((dh l).length) : Nat) : Int))))]) (by kernel_rfl) fun a HF => ?_
   refine aB ?_
   refine wp_seq ?_
   rw [show decide (0 < ((((dh l).length) : Nat) : Int)) = true from dV (by omega)] at HF
   refine bC HF rfl ?_
   refine wp_skip ?_
   repeat first | refine aK ?_ | refine aS ?_
   refine wp_seq ?_
   refine wp_block ?_
   refine aN ?_
   obtain ⟨m1, hm1⟩ : ∃ m, (dh l)[0]? = some m := ⟨_, List.getElem?_eq_getElem (by omega)⟩
   refine bU HF (by kernel_rfl) (.pointer (Option.map (fun q : Addr => q.add (0 * 3)) A1)) (by kernel_rfl) (dS Tryd.underlying111 (by kernel_rfl) rfl 0 rfl rfl (by omega) (gQ (fH (f := tX) (k := 3) (fun _ => rfl) (HM.row hrow) 0 hm1) (Nat.zero_lt_succ _))) fun a HF => ?_
   refine bU HF (by kernel_rfl) (.agg #[.string (⟨m1.name.toArray⟩), .string (⟨#[]⟩ : ByteArray), .string (⟨#[]⟩ : ByteArray)]) (by kernel_rfl) (iC rfl rfl (fH (f := tX) (k := 3) (fun _ => rfl) (HM.row hrow) 0 hm1) (Nat.zero_lt_succ _) Tryd.underlying115 rfl (by kernel_rfl)) fun a HF => ?_
   obtain ⟨z10, xO⟩ : ∃ z, w.heap.size = z := ⟨_, rfl⟩
   refine aP HF HM xO 2 [[0]] [(7, .nilIface), (8, aQ), (10, aA z10), (23, .slice A1 ((dh l).length) c1), (24, ay ((dh l).length)), (25, aF 0)] [(z10, .cells #[.string (⟨m1.name.toArray⟩), .string (⟨#[]⟩ : ByteArray), .string (⟨#[]⟩ : ByteArray)] 115 (0, 0))] (by kernel_rfl) fun a w HF HM => ?_
   clear xO
   refine aB ?_
   refine wp_region_lit ?_
   obtain ⟨z11, FH⟩ : ∃ z, w.heap.size = z := ⟨_, rfl⟩
   refine aP HF HM FH 4 [[0]] [(7, .nilIface), (23, .slice A1 ((dh l).length) c1), (24, ay ((dh l).length)), (25, aF 0), (29, aQ), (32, aC z11 1 1)] [(z11, .cells #[.string (⟨m1.name.toArray⟩)] 9 (0, 0)), (z10, .cells #[.string (⟨m1.name.toArray⟩), .string (⟨#[]⟩ : ByteArray), .string (⟨#[]⟩ : ByteArray)] 115 (0, 0))] (by kernel_rfl) fun a w HF HM => ?_
   clear FH
   refine vV HF HM rfl _ _ 38 rfl rfl 9 (z := .string (⟨#[]⟩ : ByteArray)) (size := 1) (bytes := 16) Tryd.underlying38 (by kernel_rfl) rfl (by decide) rfl (some ⟨z11, 0, none⟩) 1 1 ([.string (⟨m1.name.toArray⟩)]) rfl rfl (by omega) (HM.rowAt (i := 0) rfl) (lM rfl) (by unfold maxLen; omega) (by omega) ?_
   intro a w3 g2 cap2 jY bJ tY hsz2 uU hcm2 hbel HF2; clear HF HM hbel
   have HM : Mm [] w2 w3 [(g2, .cells jY 9 (0, 0)), (z11, .cells #[.string (⟨m1.name.toArray⟩)] 9 (0, 0)), (z10, .cells #[.string (⟨m1.name.toArray⟩), .string (⟨#[]⟩ : ByteArray), .string (⟨#[]⟩ : ByteArray)] 115 (0, 0))] := bJ
   have HF := HF2.sub [(7, .nilIface), (23, .slice A1 ((dh l).length) c1), (24, ay ((dh l).length)), (25, aF 0), (33, aC g2 1 cap2)] (by kernel_rfl); clear bJ HF2
   replace tY : jY.toList.take (1 * 1) = ((dh l).take 1).map (fun m => nT m.name) := tY.trans (by have ht : (dh l).take 1 = [m1] := oW hm1; rw [ht]; rfl)
   refine wp_pure HF HM rfl 1 [] [(7, .nilIface), (8, aC g2 1 cap2), (23, .slice A1 ((dh l).length) c1), (24, ay ((dh l).length)), (25, aF 0)] (by kernel_rfl) fun a HF => ?_
   refine wpList_nil ?_
   repeat first | refine aK ?_ | refine aS ?_
   refine wp_region_lit ?_
   refine wp_pure HF HM rfl 2 [] [(7, .nilIface), (8, aC g2 1 cap2), (23, .slice A1 ((dh l).length) c1), (24, ay ((dh l).length)), (25, aF 1)] (by kernel_rfl) fun a HF => ?_
   refine wpList_nil ?_
   repeat first | refine aK ?_ | refine aS ?_
   exact KR _ _ (Or.inr <| ⟨g2, cap2, jY, tY, hsz2, uU, hcm2, (HM.pick [0] [(g2, .cells jY 9 (0, 0))] rfl (by decide)), HF.sub [(7, .nilIface), (8, aC g2 1 cap2), (23, .slice A1 ((dh l).length) c1), (24, ay ((dh l).length)), (25, aF 1)] (by kernel_rfl)⟩)
  ·obtain ⟨og, oc, ok, jV, oQ, lu, pV, HM, HF⟩ := hI
   refine aN ?_
   refine wp_pure HF HM rfl 1 [] [(7, .nilIface), (8, aC og i oc), (23, .slice A1 ((dh l).length) c1), (24, ay ((dh l).length)), (25, ay i), (26, .bool (decide (((i : Nat) : Int) < ((((dh l).length) : Nat) : Int))))] (by kernel_rfl) fun a HF => ?_
   refine aB ?_
   refine wp_seq ?_
   rw [show decide (((i : Nat) : Int) < ((((dh l).length) : Nat) : Int)) = true from dV (by omega)] at HF
   refine bC HF rfl ?_
   refine wp_skip ?_
   repeat first | refine aK ?_ | refine aS ?_
   refine wp_seq ?_
   refine wp_block ?_
   refine aN ?_
   obtain ⟨m3, zk⟩ : ∃ m, (dh l)[i]? = some m := ⟨_, List.getElem?_eq_getElem (by omega)⟩
   refine bU HF (by kernel_rfl) (.pointer (Option.map (fun q : Addr => q.add (i * 3)) A1)) (by kernel_rfl) (dS Tryd.underlying111 (by kernel_rfl) rfl i rfl rfl (by omega) (gQ (fH (f := tX) (k := 3) (fun _ => rfl) (HM.row hrow) i zk) (Nat.zero_lt_succ _))) fun a HF => ?_
   refine bU HF (by kernel_rfl) (.agg #[.string (⟨m3.name.toArray⟩), .string (⟨#[]⟩ : ByteArray), .string (⟨#[]⟩ : ByteArray)]) (by kernel_rfl) (iC rfl rfl (fH (f := tX) (k := 3) (fun _ => rfl) (HM.row hrow) i zk) (Nat.zero_lt_succ _) Tryd.underlying115 rfl (by kernel_rfl)) fun a HF => ?_
   obtain ⟨uH, Bd⟩ : ∃ z, w.heap.size = z := ⟨_, rfl⟩
   refine aP HF HM Bd 2 [[1]] [(7, .nilIface), (8, aC og i oc), (10, aA uH), (23, .slice A1 ((dh l).length) c1), (24, ay ((dh l).length)), (25, ay i)] [(uH, .cells #[.string (⟨m3.name.toArray⟩), .string (⟨#[]⟩ : ByteArray), .string (⟨#[]⟩ : ByteArray)] 115 (0, 0)), (og, .cells ok 9 (0, 0))] (by kernel_rfl) fun a w HF HM => ?_
   clear Bd
   refine aB ?_
   refine wp_region_lit ?_
   obtain ⟨uG, Bc⟩ : ∃ z, w.heap.size = z := ⟨_, rfl⟩
   refine aP HF HM Bc 4 [[1]] [(7, .nilIface), (23, .slice A1 ((dh l).length) c1), (24, ay ((dh l).length)), (25, ay i), (29, aC og i oc), (32, aC uG 1 1)] [(uG, .cells #[.string (⟨m3.name.toArray⟩)] 9 (0, 0)), (uH, .cells #[.string (⟨m3.name.toArray⟩), .string (⟨#[]⟩ : ByteArray), .string (⟨#[]⟩ : ByteArray)] 115 (0, 0)), (og, .cells ok 9 (0, 0))] (by kernel_rfl) fun a w HF HM => ?_
   clear Bc
   refine fU HF HM rfl _ _ 38 38 rfl rfl 9 (z := .string (⟨#[]⟩ : ByteArray)) (size := 1) (bytes := 16) Tryd.underlying38 (by kernel_rfl) rfl (by decide) 2 og i oc ok rfl rfl lu pV oQ (((dh l).take i).map (fun m => nT m.name)) jV (aC uG 1 1) 1 [.string (⟨m3.name.toArray⟩)] rfl (lF Tryd.underlying38 rfl (by decide) (HM.rowAt (i := 0) rfl) (lM rfl)) (by unfold maxLen; omega) (by omega) ?_
   intro a w4 g4 cap4 lg bJ pX Bf uD CQ HF2; clear HF HM
   replace pX : lg.toList.take ((i + 1) * 1) = ((dh l).take (i + 1)).map (fun m => nT m.name) := pX.trans (by rw [oW zk, List.map_append]; rfl)
   have HM : Mm [] w2 w4 [(uG, .cells #[.string (⟨m3.name.toArray⟩)] 9 (0, 0)), (uH, .cells #[.string (⟨m3.name.toArray⟩), .string (⟨#[]⟩ : ByteArray), .string (⟨#[]⟩ : ByteArray)] 115 (0, 0)), (g4, .cells lg 9 (0, 0))] := bJ
   have HF := HF2.sub [(7, .nilIface), (23, .slice A1 ((dh l).length) c1), (24, ay ((dh l).length)), (25, ay i), (33, aC g4 (i + 1) cap4)] (by kernel_rfl); clear bJ HF2
   refine wp_pure HF HM rfl 1 [] ((qO g4 i cap4 A1 l c1) ++ [(25, ay i)]) (by kernel_rfl) fun a HF => ?_
   refine wpList_nil ?_
   repeat first | refine aK ?_ | refine aS ?_
   refine wp_region_lit ?_
   refine wp_pure HF HM rfl 1 [] ((qO g4 i cap4 A1 l c1) ++ [(34, aF (IntKind.i64.wrap (((i : Nat) : Int) + 1)))]) (by kernel_rfl) fun a HF => ?_
   rw [show IntKind.i64.wrap (((i : Nat) : Int) + 1) = (((i + 1) : Nat) : Int) from (IntWalk.i64_in _ (by omega)).trans (by omega)] at HF
   refine wp_pure HF HM rfl 1 [] ((qO g4 i cap4 A1 l c1) ++ [(25, ay (i + 1))]) (by kernel_rfl) fun a HF => ?_
   refine wpList_nil ?_
   repeat first | refine aK ?_ | refine aS ?_
   exact KR _ _ (Or.inr <| ⟨g4, cap4, lg, pX, Bf, uD, CQ, (HM.pick [2] [(g4, .cells lg 9 (0, 0))] rfl (by decide)), HF.sub ((qO g4 i cap4 A1 l c1) ++ [(25, ay (i + 1))]) (by kernel_rfl)⟩)
 ·intro a w KX hI
  rcases hI with hI | hI
  ·obtain ⟨h0, HM, HF⟩ := hI
   refine aN ?_
   refine wp_pure HF HM rfl 1 [] ((oM A1 l c1) ++ [(25, ay ((dh l).length)), (26, .bool (decide (((((dh l).length) : Nat) : Int) < ((((dh l).length) : Nat) : Int))))]) (by kernel_rfl) fun a HF => ?_
   refine aB ?_
   refine wp_seq ?_
   rw [show decide (((((dh l).length) : Nat) : Int) < ((((dh l).length) : Nat) : Int)) = false from dI (by omega)] at HF
   refine aZ HF rfl ?_
   refine wp_exit ?_
   repeat (first | refine fG ?_ | refine fA rfl ?_)
   refine iD ?_
   repeat first | refine aK ?_ | refine aS ?_
   refine aN ?_
   refine wp_pure HF HM rfl 2 [] [(35, aQ), (36, .nilIface)] (by kernel_rfl) fun a HF => ?_
   refine bf HF (by kernel_rfl) 58 #[.nilIface] (by kernel_rfl) (fun w => by kernel_rfl) (Calls.mono (Ap w) ?_)
   rintro _ w5 ⟨rfl, hb⟩
   replace HM := HM.call hb
   clear hb
   refine ⟨_, rfl, ?_⟩; clear HF; intro a HF
   refine wp_pure HF HM rfl 2 [] [(2, aQ), (3, aF 0)] (by kernel_rfl) fun a HF => ?_
   refine aB ?_
   refine wp_ret ?_
   repeat first | refine bH ?_ | refine bM ?_
   exact jK HF rfl rfl rfl ⟨none, 0, by rw [vT, h0], (hbw0.trans (HM.below.mono hbw0.size)), by rw [List.eq_nil_of_length_eq_zero ((vT l).trans h0)]; exact Row.nil _ _⟩
  ·obtain ⟨og, oc, ok, jV, oQ, lu, pV, HM, HF⟩ := hI
   refine aN ?_
   refine wp_pure HF HM rfl 1 [] [(7, .nilIface), (8, aC og ((dh l).length) oc), (23, .slice A1 ((dh l).length) c1), (24, ay ((dh l).length)), (25, ay ((dh l).length)), (26, .bool (decide (((((dh l).length) : Nat) : Int) < ((((dh l).length) : Nat) : Int))))] (by kernel_rfl) fun a HF => ?_
   refine aB ?_
   refine wp_seq ?_
   rw [show decide (((((dh l).length) : Nat) : Int) < ((((dh l).length) : Nat) : Int)) = false from dI (by omega)] at HF
   refine aZ HF rfl ?_
   refine wp_exit ?_
   repeat (first | refine fG ?_ | refine fA rfl ?_)
   refine iD ?_
   repeat first | refine aK ?_ | refine aS ?_
   refine aN ?_
   refine wp_pure HF HM rfl 2 [] [(35, aC og ((dh l).length) oc), (36, .nilIface)] (by kernel_rfl) fun a HF => ?_
   refine bf HF (by kernel_rfl) 58 #[.nilIface] (by kernel_rfl) (fun w => by kernel_rfl) (Calls.mono (Ap w) ?_)
   rintro _ w6 ⟨rfl, hb⟩
   replace HM := HM.call hb
   clear hb
   refine ⟨_, rfl, ?_⟩; clear HF; intro a HF
   refine wp_pure HF HM rfl 2 [] [(2, aC og ((dh l).length) oc), (3, aF 0)] (by kernel_rfl) fun a HF => ?_
   refine aB ?_
   refine wp_ret ?_
   repeat first | refine bH ?_ | refine bM ?_
   rw [List.take_length] at jV
   exact jK HF rfl rfl rfl ⟨some ⟨og, 0, none⟩, oc, by rw [vT], (hbw0.trans (HM.below.mono hbw0.size)), by rw [← JL]; exact HM.nH (i := 0) rfl jV⟩

end Go.Proofs.YtdgehpocmfjbiaaDoor
namespace Go.Proofs.YtdgehpocmfjbiaaDoor
open Go.RowKit

abbrev lY := fun z1 (x : bZ) => ((z1, .cells #[.bool x.wide, .bool x.big, aT x.abi, aT x.aH, .int .i64 x.ty, .int .i64 x.machine, aI x.entry, .slice x.A x.ss.length x.c, .slice x.B x.ps.length x.d] 26 (0, 0)) : Nat × Obj)
abbrev rF := fun (A : Option Addr) (l : List SymM) (c : Nat) z1 og i oc => ([(1, .slice A l.length c), (2, aA z1), (5, aC og ((dh (l.take i)).length) oc)] : Slots)
abbrev rE := fun (A : Option Addr) (l : List SymM) (c : Nat) z1 og i oc uM => ((rF A l c z1 og i oc) ++ [(7, aA uM), (28, .slice A l.length c), (29, ay l.length), (30, ay i)] : Slots)
theorem MB (x : bZ) (l : List SymM) (A : Option Addr) (c : Nat) (w0 : World) (h : x.At w0) (hr : Row w0 A (l.flatMap SymM.cells)) (hat : ∀ m ∈ l, SymM.At m) (hl1 : l.length ≤ c) (hl2 : c ≤ maxLen) : Calls Tryd.prog 4 #[x.val, .slice A l.length c] w0 fun e w' => e = .returned (.bool true) ∧ Below w0.heap.size w0 w' := by
 obtain ⟨w, hw⟩ : ∃ w, w0 = w := ⟨_, rfl⟩
 have HM : Mm [] w0 w [] := hw ▸ Mm.start w0
 conv => arg 4; rw [hw]
 clear hw
 refine bI Tryd.func4 rfl Tryd.ntmps4 [(0, .agg #[.bool x.wide, .bool x.big, aT x.abi, aT x.aH, .int .i64 x.ty, .int .i64 x.machine, aI x.entry, .slice x.A x.ss.length x.c, .slice x.B x.ps.length x.d]), (1, .slice A l.length c)] (by kernel_rfl) (Nat.le_of_ble_eq_true rfl) ?_
 intro a HF
 refine aN ?_
 obtain ⟨z1, hz1⟩ : ∃ z, w.heap.size = z := ⟨_, rfl⟩
 refine aP HF HM hz1 2 [] [(1, .slice A l.length c), (2, aA z1)] [lY z1 x] (by kernel_rfl) fun a w HF HM => ?_
 clear hz1
 refine aB ?_
 refine wp_seq ?_
 refine aN ?_
 refine wp_pure HF HM rfl 1 [[0]] [(1, .slice A l.length c), (2, aA z1), (10, .agg #[.bool x.wide, .bool x.big, aT x.abi, aT x.aH, .int .i64 x.ty, .int .i64 x.machine, aI x.entry, .slice x.A x.ss.length x.c, .slice x.B x.ps.length x.d])] (by kernel_rfl) fun a HF => ?_
 refine bf HF (by kernel_rfl) 20 #[.agg #[.bool x.wide, .bool x.big, aT x.abi, aT x.aH, .int .i64 x.ty, .int .i64 x.machine, aI x.entry, .slice x.A x.ss.length x.c, .slice x.B x.ps.length x.d]] (by kernel_rfl) (fun w => by kernel_rfl) (Calls.mono (yM x w (h.below HM.below)) ?_)
 rintro _ w1 ⟨b1, rfl, hb⟩
 replace HM := HM.call hb
 clear hb
 refine ⟨_, rfl, ?_⟩; clear HF; intro a HF
 replace HF := HF.sub [(1, .slice A l.length c), (2, aA z1), (11, .bool b1)] (by kernel_rfl)
 rcases gZ b1 with hc2 | hc2
 ·replace HF := Fr.sub (Fr.tell HF 11 rfl (congrArg Value.bool hc2)) [(1, .slice A l.length c), (2, aA z1), (11, .bool false)] (by kernel_rfl)
  refine wp_pure HF HM rfl 6 [] [(1, .slice A l.length c), (2, aA z1), (17, .bool true)] (by kernel_rfl) fun a HF => ?_
  refine aB ?_
  refine bC HF rfl ?_
  refine aN ?_
  refine wp_pure HF HM rfl 1 [] [(4, .bool true)] (by kernel_rfl) fun a HF => ?_
  refine aB ?_
  refine wp_ret ?_
  repeat first | refine bH ?_ | refine bM ?_
  exact dn HF rfl rfl ⟨rfl, HM.below⟩
 replace HF := Fr.sub (Fr.tell HF 11 rfl (congrArg Value.bool hc2)) [(1, .slice A l.length c), (2, aA z1), (11, .bool true)] (by kernel_rfl)
 refine wp_pure HF HM rfl 3 [] [(1, .slice A l.length c), (2, aA z1), (13, .bool false), (14, .slice A l.length c)] (by kernel_rfl) fun a HF => ?_
 refine bf HF (by kernel_rfl) 21 #[.slice A l.length c] (by kernel_rfl) (fun w => by kernel_rfl) (Calls.mono (Ci l A c w1 (HM.row hr)) ?_)
 rintro _ w2 ⟨b3, rfl, hb⟩
 replace HM := HM.call hb
 clear hb
 refine ⟨_, rfl, ?_⟩; clear HF; intro a HF
 replace HF := HF.sub [(1, .slice A l.length c), (2, aA z1), (13, .bool false), (15, .bool b3)] (by kernel_rfl)
 rcases gZ b3 with hc4 | hc4
 ·replace HF := Fr.sub (Fr.tell HF 15 rfl (congrArg Value.bool hc4)) [(1, .slice A l.length c), (2, aA z1), (13, .bool false), (15, .bool false)] (by kernel_rfl)
  refine wp_pure HF HM rfl 2 [] [(1, .slice A l.length c), (2, aA z1), (17, .bool true)] (by kernel_rfl) fun a HF => ?_
  refine aB ?_
  refine bC HF rfl ?_
  refine aN ?_
  refine wp_pure HF HM rfl 1 [] [(4, .bool true)] (by kernel_rfl) fun a HF => ?_
  refine aB ?_
  refine wp_ret ?_
  repeat first | refine bH ?_ | refine bM ?_
  exact dn HF rfl rfl ⟨rfl, HM.below⟩
 replace HF := Fr.sub (Fr.tell HF 15 rfl (congrArg Value.bool hc4)) [(1, .slice A l.length c), (2, aA z1), (13, .bool false), (15, .bool true)] (by kernel_rfl)
 refine wp_pure HF HM rfl 2 [] [(1, .slice A l.length c), (2, aA z1), (17, .bool false)] (by kernel_rfl) fun a HF => ?_
 refine aB ?_
 refine aZ HF rfl ?_
 refine wp_skip ?_
 repeat first | refine aK ?_ | refine aS ?_
 refine wp_seq ?_
 refine aN ?_
 refine wp_pure HF HM rfl 1 [[0]] [(1, .slice A l.length c), (2, aA z1), (18, .agg #[.bool x.wide, .bool x.big, aT x.abi, aT x.aH, .int .i64 x.ty, .int .i64 x.machine, aI x.entry, .slice x.A x.ss.length x.c, .slice x.B x.ps.length x.d])] (by kernel_rfl) fun a HF => ?_
 refine bf HF (by kernel_rfl) 22 #[.agg #[.bool x.wide, .bool x.big, aT x.abi, aT x.aH, .int .i64 x.ty, .int .i64 x.machine, aI x.entry, .slice x.A x.ss.length x.c, .slice x.B x.ps.length x.d]] (by kernel_rfl) (fun w => by kernel_rfl) (Calls.mono (yP x w2 (h.below HM.below)) ?_)
 rintro _ w3 ⟨b5, rfl, hb, MJ⟩
 replace HM := HM.call hb
 clear hb
 refine ⟨_, rfl, ?_⟩; clear HF; intro a HF
 replace HF := HF.sub [(1, .slice A l.length c), (2, aA z1), (19, .bool b5)] (by kernel_rfl)
 rcases gZ b5 with uX | uX
 ·replace HF := Fr.sub (Fr.tell HF 19 rfl (congrArg Value.bool uX)) [(1, .slice A l.length c), (2, aA z1), (19, .bool false)] (by kernel_rfl)
  refine wp_pure HF HM rfl 7 [] [(1, .slice A l.length c), (2, aA z1), (26, .bool true)] (by kernel_rfl) fun a HF => ?_
  refine aB ?_
  refine bC HF rfl ?_
  refine aN ?_
  refine wp_pure HF HM rfl 1 [] [(4, .bool true)] (by kernel_rfl) fun a HF => ?_
  refine aB ?_
  refine wp_ret ?_
  repeat first | refine bH ?_ | refine bM ?_
  exact dn HF rfl rfl ⟨rfl, HM.below⟩
 replace HF := Fr.sub (Fr.tell HF 19 rfl (congrArg Value.bool uX)) [(1, .slice A l.length c), (2, aA z1), (19, .bool true)] (by kernel_rfl)
 refine wp_pure HF HM rfl 4 [[0]] [(1, .slice A l.length c), (2, aA z1), (21, .bool false), (22, .agg #[.bool x.wide, .bool x.big, aT x.abi, aT x.aH, .int .i64 x.ty, .int .i64 x.machine, aI x.entry, .slice x.A x.ss.length x.c, .slice x.B x.ps.length x.d]), (23, .slice A l.length c)] (by kernel_rfl) fun a HF => ?_
 refine bf HF (by kernel_rfl) 23 #[.agg #[.bool x.wide, .bool x.big, aT x.abi, aT x.aH, .int .i64 x.ty, .int .i64 x.machine, aI x.entry, .slice x.A x.ss.length x.c, .slice x.B x.ps.length x.d], .slice A l.length c] (by kernel_rfl) (fun w => by kernel_rfl) (Calls.mono (yK x l A c w3 (HM.row hr) hat) ?_)
 rintro _ w4 ⟨b8, rfl, hb, hokS⟩
 replace HM := HM.call hb
 clear hb
 refine ⟨_, rfl, ?_⟩; clear HF; intro a HF
 replace HF := HF.sub [(1, .slice A l.length c), (2, aA z1), (21, .bool false), (24, .bool b8)] (by kernel_rfl)
 rcases gZ b8 with sQ | sQ
 ·replace HF := Fr.sub (Fr.tell HF 24 rfl (congrArg Value.bool sQ)) [(1, .slice A l.length c), (2, aA z1), (21, .bool false), (24, .bool false)] (by kernel_rfl)
  refine wp_pure HF HM rfl 2 [] [(1, .slice A l.length c), (2, aA z1), (26, .bool true)] (by kernel_rfl) fun a HF => ?_
  refine aB ?_
  refine bC HF rfl ?_
  refine aN ?_
  refine wp_pure HF HM rfl 1 [] [(4, .bool true)] (by kernel_rfl) fun a HF => ?_
  refine aB ?_
  refine wp_ret ?_
  repeat first | refine bH ?_ | refine bM ?_
  exact dn HF rfl rfl ⟨rfl, HM.below⟩
 replace HF := Fr.sub (Fr.tell HF 24 rfl (congrArg Value.bool sQ)) [(1, .slice A l.length c), (2, aA z1), (21, .bool false), (24, .bool true)] (by kernel_rfl)
 refine wp_pure HF HM rfl 2 [] [(1, .slice A l.length c), (2, aA z1), (26, .bool false)] (by kernel_rfl) fun a HF => ?_
 refine aB ?_
 refine aZ HF rfl ?_
 refine wp_skip ?_
 repeat first | refine aK ?_ | refine aS ?_
 refine aN ?_
 have hln := (hokS sQ).1
 obtain ⟨uG, Bc⟩ : ∃ z, w4.heap.size = z := ⟨_, rfl⟩
 refine aP HF HM Bc 2 [] [(1, .slice A l.length c), (2, aA z1), (5, aC uG 0 0)] [(uG, .cells #[] 9 (0, 0)), lY z1 x] (by kernel_rfl) fun a w HF HM => ?_
 clear Bc
 refine aB ?_
 refine wp_seq ?_
 refine aN ?_
 refine wp_pure HF HM rfl 3 [] [(1, .slice A l.length c), (2, aA z1), (5, aC uG 0 0), (28, .slice A l.length c), (29, ay l.length), (30, aF 0)] (by kernel_rfl) fun a HF => ?_
 refine aB ?_
 refine wp_block ?_
 refine jX (l.length) (fun i a w => (∃ og : Nat, ∃ oc : Nat, ∃ ok : Array Value, (ok.toList.take (((dh (l.take i)).length) * 1) = (dh (l.take i)).map (fun m => nT m.name)) ∧ (ok.size = oc * 1) ∧ (((dh (l.take i)).length) ≤ oc) ∧ (oc ≤ maxLen) ∧ Mm [] w0 w [(og, .cells ok 9 (0, 0)), lY z1 x] ∧ Fr 64 a ((rF A l c z1 og i oc) ++ [(28, .slice A l.length c), (29, ay l.length), (30, ay i)]))) ?_ ?_ ?_
 ·exact ⟨uG, 0, #[], rfl, rfl, Nat.le_refl _, by unfold maxLen; omega, HM, HF.sub [(1, .slice A l.length c), (2, aA z1), (5, aC uG ((dh (l.take 0)).length) 0), (28, .slice A l.length c), (29, ay l.length), (30, aF 0)] (by kernel_rfl)⟩
 ·intro i a w KX hi hI KR
  obtain ⟨og, oc, ok, jV, oQ, lu, pV, HM, HF⟩ := hI
  have hil := Ht l i
  refine aN ?_
  refine wp_pure HF HM rfl 1 [] ((rF A l c z1 og i oc) ++ [(28, .slice A l.length c), (29, ay l.length), (30, ay i), (31, .bool (decide (((i : Nat) : Int) < ((l.length : Nat) : Int))))]) (by kernel_rfl) fun a HF => ?_
  refine aB ?_
  refine wp_seq ?_
  rw [show decide (((i : Nat) : Int) < ((l.length : Nat) : Int)) = true from dV (by omega)] at HF
  refine bC HF rfl ?_
  refine wp_skip ?_
  repeat first | refine aK ?_ | refine aS ?_
  refine wp_seq ?_
  refine wp_block ?_
  refine aN ?_
  obtain ⟨m10, Ez⟩ : ∃ m, l[i]? = some m := ⟨_, List.getElem?_eq_getElem (by omega)⟩
  have Ui := hat m10 (List.mem_of_getElem? Ez); have hmi_m10 := Ui.info
  refine bU HF (by kernel_rfl) (.pointer (Option.map (fun q : Addr => q.add (i * 6)) A)) (by kernel_rfl) (dS Tryd.underlying27 (by kernel_rfl) rfl i rfl rfl (by omega) (gQ (fH (f := SymM.cells) (k := 6) (fun _ => rfl) (HM.row hr) i Ez) (Nat.zero_lt_succ _))) fun a HF => ?_
  refine bU HF (by kernel_rfl) (.agg #[.string (⟨m10.name.toArray⟩), aT m10.info, aT m10.other, .int .i64 m10.dH, aI m10.value, aI m10.size]) (by kernel_rfl) (iC rfl rfl (fH (f := SymM.cells) (k := 6) (fun _ => rfl) (HM.row hr) i Ez) (Nat.zero_lt_succ _) Tryd.underlying40 rfl (by kernel_rfl)) fun a HF => ?_
  obtain ⟨uM, MG⟩ : ∃ z, w.heap.size = z := ⟨_, rfl⟩
  refine aP HF HM MG 2 [[2]] (rE A l c z1 og i oc uM) [(uM, .cells #[.string (⟨m10.name.toArray⟩), aT m10.info, aT m10.other, .int .i64 m10.dH, aI m10.value, aI m10.size] 40 (0, 0)), (og, .cells ok 9 (0, 0)), lY z1 x] (by kernel_rfl) fun a w HF HM => ?_
  clear MG
  refine bT ?_
  refine wp_pure HF HM rfl 3 [[2]] ((rE A l c z1 og i oc uM) ++ [(36, aO (Int.fdiv ((m10.info : Nat) : Int) (2 ^ 4)))]) (by kernel_rfl) fun a HF => ?_
  rw [show Int.fdiv ((m10.info : Nat) : Int) (2 ^ 4) = ((m10.info / 16 : Nat) : Int) from shr4 _] at HF
  refine wp_pure HF HM rfl 2 [] ((rE A l c z1 og i oc uM) ++ [(38, .bool ((((m10.info / 16) : Nat) : Int) == 1))]) (by kernel_rfl) fun a HF => ?_
  by_cases yI : (((m10.info / 16) : Nat) : Int) = 1
  ·rw [show ((((m10.info / 16) : Nat) : Int) == 1) = true from uK (yI)] at HF
   refine wp_pure HF HM rfl 4 [[2]] ((rE A l c z1 og i oc uM) ++ [(42, .bool (m10.dH == 0))]) (by kernel_rfl) fun a HF => ?_
   refine aB ?_
   by_cases hc12 : m10.dH = 0
   ·rw [show (m10.dH == 0) = true from uK (hc12)] at HF
    refine bC HF rfl ?_
    refine wp_region_lit ?_
    obtain ⟨z23, hz23⟩ : ∃ z, w.heap.size = z := ⟨_, rfl⟩
    refine aP HF HM hz23 4 [[2]] [(1, .slice A l.length c), (2, aA z1), (28, .slice A l.length c), (29, ay l.length), (30, ay i), (43, aC og ((dh (l.take i)).length) oc), (46, aC z23 1 1)] [(z23, .cells #[.string (⟨m10.name.toArray⟩)] 9 (0, 0)), (uM, .cells #[.string (⟨m10.name.toArray⟩), aT m10.info, aT m10.other, .int .i64 m10.dH, aI m10.value, aI m10.size] 40 (0, 0)), (og, .cells ok 9 (0, 0)), lY z1 x] (by kernel_rfl) fun a w HF HM => ?_
    clear hz23
    refine fU HF HM rfl _ _ 38 38 rfl rfl 9 (z := .string (⟨#[]⟩ : ByteArray)) (size := 1) (bytes := 16) Tryd.underlying38 (by kernel_rfl) rfl (by decide) 2 og ((dh (l.take i)).length) oc ok rfl rfl lu pV oQ ((dh (l.take i)).map (fun m => nT m.name)) jV (aC z23 1 1) 1 [.string (⟨m10.name.toArray⟩)] rfl (lF Tryd.underlying38 rfl (by decide) (HM.rowAt (i := 0) rfl) (lM rfl)) (by unfold maxLen; omega) (by omega) ?_
    intro a w5 g13 Gt KU bJ KJ hsz13 Tz hcm13 HF2; clear HF HM
    have HM : Mm [] w0 w5 [(z23, .cells #[.string (⟨m10.name.toArray⟩)] 9 (0, 0)), (uM, .cells #[.string (⟨m10.name.toArray⟩), aT m10.info, aT m10.other, .int .i64 m10.dH, aI m10.value, aI m10.size] 40 (0, 0)), (g13, .cells KU 9 (0, 0)), lY z1 x] := bJ
    have HF := HF2.sub [(1, .slice A l.length c), (2, aA z1), (28, .slice A l.length c), (29, ay l.length), (30, ay i), (47, aC g13 (((dh (l.take i)).length) + 1) Gt)] (by kernel_rfl); clear bJ HF2
    refine wp_pure HF HM rfl 1 [] [(1, .slice A l.length c), (2, aA z1), (5, aC g13 (((dh (l.take i)).length) + 1) Gt), (28, .slice A l.length c), (29, ay l.length), (30, ay i)] (by kernel_rfl) fun a HF => ?_
    refine wpList_nil ?_
    repeat first | refine aK ?_ | refine aS ?_
    refine wp_region_lit ?_
    refine wp_pure HF HM rfl 1 [] [(1, .slice A l.length c), (2, aA z1), (5, aC g13 (((dh (l.take i)).length) + 1) Gt), (28, .slice A l.length c), (29, ay l.length), (48, aF (IntKind.i64.wrap (((i : Nat) : Int) + 1)))] (by kernel_rfl) fun a HF => ?_
    rw [show IntKind.i64.wrap (((i : Nat) : Int) + 1) = (((i + 1) : Nat) : Int) from (IntWalk.i64_in _ (by omega)).trans (by omega)] at HF
    refine wp_pure HF HM rfl 1 [] [(1, .slice A l.length c), (2, aA z1), (5, aC g13 (((dh (l.take i)).length) + 1) Gt), (28, .slice A l.length c), (29, ay l.length), (30, ay (i + 1))] (by kernel_rfl) fun a HF => ?_
    refine wpList_nil ?_
    repeat first | refine aK ?_ | refine aS ?_
    rw [show (((dh (l.take i)).length) + 1) = ((dh (l.take (i + 1))).length) from by rw [yH Ez yI hc12]; rw [List.length_append]; rfl] at HF KJ Tz
    replace KJ : KU.toList.take (((dh (l.take (i + 1))).length) * 1) = (dh (l.take (i + 1))).map (fun m => nT m.name) := KJ.trans (by rw [yH Ez yI hc12]; rw [List.map_append]; rfl)
    exact KR _ _ (⟨g13, Gt, KU, KJ, hsz13, Tz, hcm13, (HM.pick [2, 3] [(g13, .cells KU 9 (0, 0)), lY z1 x] rfl (by decide)), HF.sub [(1, .slice A l.length c), (2, aA z1), (5, aC g13 ((dh (l.take (i + 1))).length) Gt), (28, .slice A l.length c), (29, ay l.length), (30, ay (i + 1))] (by kernel_rfl)⟩)
   rw [show (m10.dH == 0) = false from rW (hc12)] at HF
   refine aZ HF rfl ?_
   refine wp_skip ?_
   repeat first | refine aK ?_ | refine aS ?_
   refine wp_region_lit ?_
   refine wp_pure HF HM rfl 1 [] ((rF A l c z1 og i oc) ++ [(28, .slice A l.length c), (29, ay l.length), (48, aF (IntKind.i64.wrap (((i : Nat) : Int) + 1)))]) (by kernel_rfl) fun a HF => ?_
   rw [show IntKind.i64.wrap (((i : Nat) : Int) + 1) = (((i + 1) : Nat) : Int) from (IntWalk.i64_in _ (by omega)).trans (by omega)] at HF
   refine wp_pure HF HM rfl 1 [] [(1, .slice A l.length c), (2, aA z1), (5, aC og ((dh (l.take i)).length) oc), (28, .slice A l.length c), (29, ay l.length), (30, ay (i + 1))] (by kernel_rfl) fun a HF => ?_
   refine wpList_nil ?_
   repeat first | refine aK ?_ | refine aS ?_
   rw [show ((dh (l.take i)).length) = ((dh (l.take (i + 1))).length) from (congrArg List.length (uq Ez (fun hq => by first | exact absurd hq.1 yI | exact absurd hq.2 hc12))).symm] at HF jV lu
   replace jV : ok.toList.take (((dh (l.take (i + 1))).length) * 1) = (dh (l.take (i + 1))).map (fun m => nT m.name) := jV.trans (by rw [uq Ez (fun hq => by first | exact absurd hq.1 yI | exact absurd hq.2 hc12)])
   exact KR _ _ (⟨og, oc, ok, jV, oQ, lu, pV, (HM.pick [1, 2] [(og, .cells ok 9 (0, 0)), lY z1 x] rfl (by decide)), HF.sub [(1, .slice A l.length c), (2, aA z1), (5, aC og ((dh (l.take (i + 1))).length) oc), (28, .slice A l.length c), (29, ay l.length), (30, ay (i + 1))] (by kernel_rfl)⟩)
  rw [show ((((m10.info / 16) : Nat) : Int) == 1) = false from rW (yI)] at HF
  refine wp_pure HF HM rfl 4 [] ((rE A l c z1 og i oc uM) ++ [(42, .bool false)]) (by kernel_rfl) fun a HF => ?_
  refine aB ?_
  refine aZ HF rfl ?_
  refine wp_skip ?_
  repeat first | refine aK ?_ | refine aS ?_
  refine wp_region_lit ?_
  refine wp_pure HF HM rfl 1 [] ((rF A l c z1 og i oc) ++ [(28, .slice A l.length c), (29, ay l.length), (48, aF (IntKind.i64.wrap (((i : Nat) : Int) + 1)))]) (by kernel_rfl) fun a HF => ?_
  rw [show IntKind.i64.wrap (((i : Nat) : Int) + 1) = (((i + 1) : Nat) : Int) from (IntWalk.i64_in _ (by omega)).trans (by omega)] at HF
  refine wp_pure HF HM rfl 1 [] [(1, .slice A l.length c), (2, aA z1), (5, aC og ((dh (l.take i)).length) oc), (28, .slice A l.length c), (29, ay l.length), (30, ay (i + 1))] (by kernel_rfl) fun a HF => ?_
  refine wpList_nil ?_
  repeat first | refine aK ?_ | refine aS ?_
  rw [show ((dh (l.take i)).length) = ((dh (l.take (i + 1))).length) from (congrArg List.length (uq Ez (fun hq => by first | exact absurd hq.1 yI | exact absurd hq.2 yI))).symm] at HF jV lu
  replace jV : ok.toList.take (((dh (l.take (i + 1))).length) * 1) = (dh (l.take (i + 1))).map (fun m => nT m.name) := jV.trans (by rw [uq Ez (fun hq => by first | exact absurd hq.1 yI | exact absurd hq.2 yI)])
  exact KR _ _ (⟨og, oc, ok, jV, oQ, lu, pV, (HM.pick [1, 2] [(og, .cells ok 9 (0, 0)), lY z1 x] rfl (by decide)), HF.sub [(1, .slice A l.length c), (2, aA z1), (5, aC og ((dh (l.take (i + 1))).length) oc), (28, .slice A l.length c), (29, ay l.length), (30, ay (i + 1))] (by kernel_rfl)⟩)
 ·intro a w KX hI
  obtain ⟨og, oc, ok, jV, oQ, lu, pV, HM, HF⟩ := hI
  refine aN ?_
  refine wp_pure HF HM rfl 1 [] [(1, .slice A l.length c), (2, aA z1), (5, aC og ((dh (l.take l.length)).length) oc), (28, .slice A l.length c), (29, ay l.length), (30, ay l.length), (31, .bool (decide (((l.length : Nat) : Int) < ((l.length : Nat) : Int))))] (by kernel_rfl) fun a HF => ?_
  refine aB ?_
  refine wp_seq ?_
  rw [show decide (((l.length : Nat) : Int) < ((l.length : Nat) : Int)) = false from dI (by omega)] at HF
  refine aZ HF rfl ?_
  refine wp_exit ?_
  repeat (first | refine fG ?_ | refine fA rfl ?_)
  refine iD ?_
  repeat first | refine aK ?_ | refine aS ?_
  refine aN ?_
  refine wp_pure HF HM rfl 2 [[0]] [(5, aC og ((dh (l.take l.length)).length) oc), (50, .agg #[.bool x.wide, .bool x.big, aT x.abi, aT x.aH, .int .i64 x.ty, .int .i64 x.machine, aI x.entry, .slice x.A x.ss.length x.c, .slice x.B x.ps.length x.d]), (51, .slice A l.length c)] (by kernel_rfl) fun a HF => ?_
  have Fb := MJ uX
  have sN := hokS sQ
  have ok := Fb.1; have hln := sN.1
  refine bf HF (by kernel_rfl) 26 #[.agg #[.bool x.wide, .bool x.big, aT x.abi, aT x.aH, .int .i64 x.ty, .int .i64 x.machine, aI x.entry, .slice x.A x.ss.length x.c, .slice x.B x.ps.length x.d], gV 11, .slice A l.length c] (by kernel_rfl) (fun w => by kernel_rfl) (Calls.mono (wP x 11 (by omega) l A c w (h.below HM.below) Fb.2 (HM.row hr) hat sN.1 sN.2) ?_)
  rintro _ w6 ⟨gt, cu, gn, lW, g, cap, rfl, hb, hy⟩
  replace HM := HM.call hb
  clear hb
  obtain ⟨y, hye⟩ : ∃ y, x.more (rY x 11 l gt cu) (su l gn lW) g cap = y := ⟨_, rfl⟩
  rw [hye] at hy
  have hs : qI y 11 l := hye ▸ AY ok sN.1 sN.2 hat (by decide)
  have JK : y.Ok := hye ▸ bZ.Jl ok Fb.2 (wS x 11 l gt cu sN.1 (by decide)) (Am x.wide l gn lW (rP l x.wide sN.1 sN.2))
  have MC := bZ.ok JK hy
  refine ⟨_, rfl, ?_⟩; clear HF; intro a HF
  rw [hye] at HF
  refine bf HF (by kernel_rfl) 25 #[.agg #[.bool y.wide, .bool y.big, aT y.abi, aT y.aH, .int .i64 y.ty, .int .i64 y.machine, aI y.entry, .slice y.A y.ss.length y.c, .slice y.B y.ps.length y.d]] (by kernel_rfl) (fun w => by kernel_rfl) (Calls.mono (x9 y w6 hy JK) ?_)
  rintro _ w7 ⟨gf, FT, curf, rfl, hb, hof⟩
  replace HM := HM.call hb
  clear hb
  refine ⟨_, rfl, ?_⟩; clear HF; intro a HF
  refine bf HF (by kernel_rfl) 28 #[aC gf y.img.file.length FT] (by kernel_rfl) (fun w => by kernel_rfl) (Calls.mono (Hr y (some ⟨gf, 0, none⟩) FT hof.nc MC l hs w7 hof.row) ?_)
  rintro _ w8 ⟨A2, c2, rfl, hb, hrow⟩
  replace HM := HM.call hb
  clear hb
  refine ⟨_, rfl, ?_⟩; clear HF; intro a HF
  replace HF := HF.sub [(5, aC og ((dh (l.take l.length)).length) oc), (54, .tuple #[.slice A2 ((uz l).length) c2, aF 0])] (by kernel_rfl)
  rw [List.take_length] at jV HF lu
  have hit : (dh l).length = (uz l).length := (vT l).symm
  rw [hit] at jV HF lu; rw [JL] at jV
  replace HF := HF.sub [(5, aC og ((uz l).length) oc), (54, .tuple #[.slice A2 ((uz l).length) c2, aF 0])] (by kernel_rfl)
  have hil := Uf l
  refine wp_pure HF HM rfl 5 [] [(5, aC og ((uz l).length) oc), (8, .slice A2 ((uz l).length) c2), (9, aF 0)] (by kernel_rfl) fun a HF => ?_
  refine bT ?_
  refine wp_pure HF HM rfl 5 [] [(59, .bool true), (60, .slice A2 ((uz l).length) c2), (61, aC og ((uz l).length) oc)] (by kernel_rfl) fun a HF => ?_
  refine bf HF (by kernel_rfl) 29 #[.slice A2 ((uz l).length) c2, aC og ((uz l).length) oc] (by kernel_rfl) (fun w => by kernel_rfl) (Calls.mono (LU (uz l) A2 _ c2 _ (by omega) w8 hrow (HM.nH (i := 0) rfl jV)) ?_)
  rintro _ w9 ⟨rfl, hb⟩
  replace HM := HM.call hb
  clear hb
  refine ⟨_, rfl, ?_⟩; clear HF; intro a HF
  refine wp_pure HF HM rfl 2 [] [(4, .bool true)] (by kernel_rfl) fun a HF => ?_
  refine aB ?_
  refine wp_ret ?_
  repeat first | refine bH ?_ | refine bM ?_
  exact dn HF rfl rfl ⟨rfl, HM.below⟩

end Go.Proofs.YtdgehpocmfjbiaaDoor
namespace Go.Proofs.YtdgehpocmfjbiaaDoor.fnImported
open Go Go.ChangeShapes Go.WideShapes Go.ChangeAt Go.RowKit Go.Deep

theorem own : ownKnob Tryd.prog.godebug = none := by kernel_rfl
theorem laidOut : laidOutB Tryd.prog = true := by kernel_rfl
theorem door_met (os : Os) (args : Array Value) : laidMetH Tryd.prog Rows.fnImportedRow.laid ((World.doorLaid Tryd.prog 123 os).forCall (fun _ _ => 0) ⟨#[], args, []⟩).memory :=
  laidMetH_of_parts3 (fuel := 8) (laidMet_of_run' 8 (by kernel_rfl) (by kernel_rfl)) (by kernel_rfl) (by kernel_rfl)

set_option maxRecDepth 100000 in
theorem lifted (os : Os) (started : os.Started) (H : Type) (enc : TypeId × Value → H) :
    ReturnsInHanded {} Tryd.checked os 4 .any (fun w args => (Rows.fnImportedSpec.pre enc Tryd.prog Tryd.f4 [] false w args ∧ laidMetH Tryd.prog Rows.fnImportedRow.laid w) ∧ sizedMet enc Tryd.prog Tryd.f4 (OpenSpec.ofChange Rows.fnImportedSpec) false w args)
      (Rows.fnImportedSpec.post enc Tryd.prog Tryd.f4 false true false false) := by
  refine returnsInHanded_of_change_and (C := Tryd.checked) (X := fun w _ => laidMetH Tryd.prog Rows.fnImportedRow.laid w) (fun _ _ _ hh h => h.of_heap hh) own started (by kernel_rfl) Tryd.func4
    (ChangeSpec.witness_shaped (enc := enc) (C := Tryd.checked) (os := os) (X := fun w _ => laidMetH Tryd.prog Rows.fnImportedRow.laid w) false (World.doorLaid Tryd.prog 123 os) #[.agg #[.bool false, .bool false, .int .u8 0, .int .u8 0, .int .i64 0, .int .i64 0, .int .u64 0, .slice none 0 0, .slice none 0 0], .slice none 0 0] 8 rfl (World.shaped_of_RefB (by kernel_rfl) (by kernel_rfl)) (by kernel_rfl) (by kernel_rfl) (by kernel_rfl) (door_met os _)) ?_
  intro W base args ds gs before hval0 hW _ _ hL _
  have hval : ∀ (j : Nat) t v, Tryd.f4.params[j]? = some t → args[j]? = some v → Value.okWide Tryd.prog W .any base t v := hval0
  have hW' := hW
  obtain ⟨p, q, hA0, hV, rfl, hfz, hnd⟩ := hW
  have hA : DataW.TrodAll enc Tryd.prog W 0 (fun _ => true) true Tryd.f4.params.toList args.toList ds p := hA0
  rw [Tryd.params4] at hA hval
  obtain ⟨v0, vs0, d0, ds0, p0, q0, hargs, rfl, rfl, h0, r0⟩ := trodAll_cons hA
  obtain ⟨v1, vs1, d1, ds1, p1, q1, rfl, rfl, rfl, h1, r1⟩ := trodAll_cons r0
  obtain ⟨rfl, rfl, rfl⟩ := trodAll_nil r1
  obtain rfl : args = #[v0, v1] := by cases args; simp_all
  obtain ⟨ea, hv0, hE⟩ := EC (by kernel_rfl) hL
  have hV1 : DataW.TrodVars enc Tryd.prog W (fun _ => true) ["loop.example/pub-g03028/pub/elf.ErrNoSymbols"] gs q := hV
  obtain ⟨rfl, rfl⟩ := hV1.unique (vars_read1 enc oh qw Tryd.underlying103 hv0 trivial _)
  have k0 := h0
  have Md : ∀ x ∈ p0, x.block < W.heap.size := by obtain ⟨m, hm⟩ := k0; exact DataW.trod_lt m _ _ _ hm
  have k1 := h1
  have lt1 : ∀ x ∈ p1, x.block < W.heap.size := by obtain ⟨m, hm⟩ := k1; exact DataW.trod_lt m _ _ _ hm
  obtain ⟨x0, rfl, hx0⟩ := DV (hval 0 26 v0 rfl rfl) h0
  obtain ⟨l1, A1, c1, rfl, hr1, hl1, hn1, hk1⟩ := zu (hval 1 27 v1 rfl rfl) h1
  clear hA0 hval0
  refine (MB x0 l1 A1 c1 W hx0 hr1 hl1 hn1 hk1).mono fun e W' ⟨he, bel⟩ => ?_
  subst he
  exact ⟨_, rfl, _, _, _, [], _, [.cell 0 0], hW', trodAll_mk1 (shut_bool Tryd.underlying4 _), (trodAll_cons_mk (Below.trod laidOut (by kernel_rfl) (of_decide_eq_true (by kernel_rfl)) k0 bel Md) (trodAll_cons_mk (Below.trod laidOut (by kernel_rfl) (of_decide_eq_true (by kernel_rfl)) k1 bel lt1) trodAll_mk0)), vars_read1 enc oh qw Tryd.underlying103 (var_below bel hv0) trivial _, bel.frame _, fun h => by cases h⟩

set_option maxRecDepth 100000 in
theorem AP : joinedFacts Tryd.pinned.checked.prog 4 Tryd.f4 Rows.fnImportedSpec Rows.fnImportedRow = true := (and_t (and_t (and_t (and_t (and_t (and_t (and_t (and_t (and_t (and_t (and_t (and_t (and_t (and_t (and_t (and_t (and_t (and_t (and_t (and_t (and_t (and_t (and_t (and_t (and_t (and_t (and_t (and_t (and_t (and_t (and_t l0 l1) l2) l3) l4) l5) l6) l7) l8) l9) l10) l11) l12) l13) l14) l15) l16) l17) l18) l19) l20) l21) l22) l23) l24) l25) l26) l27) l28) l29) l30) l31)

theorem over : Rows.FnImportedSaid :=
  OpenClaim.holds_of_wide 4 Tryd.f4 rfl rfl rfl rfl rfl rfl rfl ⟨rfl, rfl, rfl, rfl, rfl⟩ rfl rfl rfl rfl rfl c5 Tryd.func4 AP
    (of_decide_eq_true (by kernel_rfl)) (by unfold Func.isWrapper; first | (rw [if_pos (by decide +kernel)]; kernel_rfl) | (rw [if_neg (by decide +kernel)]; exact ⟨rfl, rfl⟩))
    (fun os started H enc _ => lifted os started H enc)

theorem proved : Rows.FnImportedCardSaid :=
  Claim7.holds_tied_plain_at .later [] [.sentinel, .sentinel, .sentinel, .sentinel, .sentinel, .sentinel] true (true, "ed888367449acd6afd80057b2906ce1b79ec16b7beef13a0a9ac5f630eedede4") true
    over (fun _ h => by cases h) c1 (fun _ h => by cases h) fnImported_row_tie rfl ⟨rfl, rfl⟩ qc4 rfl
    (fun f fn hf hfn => by
      obtain rfl : f = 4 := Option.some.inj (c5.symm.trans hf) |>.symm
      obtain rfl : fn = Tryd.f4 := (Option.some.inj (Tryd.func4.symm.trans hfn)).symm
      exact ⟨qc2, fun j t ht => by
        rw [Tryd.params4] at ht
        have hm : t ∈ [26, 27] := by simpa using Array.mem_of_getElem? ht
        have hall : ([26, 27].all fun u => !Tryd.prog.wantsStandIn u) = true := by kernel_rfl
        exact (show Tryd.prog.wantsStandIn t = false by simpa using List.all_eq_true.1 hall t hm)⟩)
    c3
#print axioms proved
end Go.Proofs.YtdgehpocmfjbiaaDoor.fnImported
