/- elf.NewFile: the ident and the header. · elf.NewFile: the fields of the header, and the checks on them. · elf.NewFile: the table of program headers is -/
import Derived.Test.YtdgehpocmfjbiaaDoorUb
import Derived.OwnWalk
set_option linter.unusedVariables false
set_option linter.unusedSimpArgs false
set_option maxRecDepth 100000
set_option maxHeartbeats 2000000
namespace Go.Proofs.YtdgehpocmfjbiaaDoor
open Go.RowKit

def tl1 : Code → Code
 | .seq _ c => c
 | c => c
def tlN : Nat → Code → Code
 | 0, c => c
 | k + 1, c => tl1 (tlN k c)
/-- a function's code from the k-th piece of its spine on -/
def spine (f : Func) (k : Nat) : Code := tlN k (f.body.getD .skip)
theorem Dz (big : Bool) (l : List UInt8) (n off k : Nat) (h : off + k ≤ n) : num big (l.take n) off k = num big l off k := by
 unfold num
 rw [List.drop_take, List.take_take, Nat.min_eq_left (by omega)]

abbrev gy := fun s (b : Nat) (o : Nat) (n : Nat) (c : Nat) => ((s, .cells #[.iface 178 (.slice (some ⟨b, o, none⟩) n c), aA 0, aA 0, aA 9223372036854775807, aA 9223372036854775807] 246 (0, 0)) : Nat × Obj)
abbrev eU := fun (b : Nat) (o : Nat) (n : Nat) (c : Nat) => ([(0, .iface 178 (.slice (some ⟨b, o, none⟩) n c)), (2, .pointer none), (3, .nilIface)] : Slots)
abbrev iI := fun z4 (abi : Nat) (aC : Nat) => ((z4, .cells #[aN 127, aN 69, aN 76, aN 70, aN 1, aN 1, aN 1, aV abi, aV aC, aN 0, aN 0, aN 0, aN 0, aN 0, aN 0, aN 0] 205 (0, 0)) : Nat × Obj)
abbrev Af := fun z7 => ((z7, .cells #[aN 1, aN 0, aN 0, aN 0, aN 0, aN 0, .int .u16 0, .int .u16 0, bD 0, aK, aK, aK, aK, aK] 131 (0, 0)) : Nat × Obj)
abbrev uo := fun z7 => ((z7, .cells #[aN 1, aN 1, aN 0, aN 0, aN 0, aN 0, .int .u16 0, .int .u16 0, bD 0, aK, aK, aK, aK, aK] 131 (0, 0)) : Nat × Obj)
abbrev um := fun z7 (abi : Nat) (aC : Nat) => ((z7, .cells #[aN 1, aN 1, aN 1, aV abi, aV aC, (aP false), .int .u16 0, .int .u16 0, bD 0, aK, aK, aK, aK, aK] 131 (0, 0)) : Nat × Obj)
theorem JA (l : List UInt8) (b o n c : Nat) (hl : n = l.length) (hnc : n ≤ c) (hn : 16 ≤ n) (abi aC : Nat) (hid : (((l.drop 0).take 16).map Bv).toArray = #[aN 127, aN 69, aN 76, aN 70, aN 1, aN 1, aN 1, aV abi, aV aC, aN 0, aN 0, aN 0, aN 0, aN 0, aN 0, aN 0]) {Q : Exit → Act → World → Prop} (w0 : World) (hbl : b < w0.heap.size) (hr : Row w0 (some ⟨b, o, none⟩) (l.map Bv)) (a : Act) (w : World) (HF : Fr 1287 a [(0, .iface 178 (.slice (some ⟨b, o, none⟩) n c))]) (HM : Mm [] w0 w [])
  (K : ∀ a w s fb, Fr 1287 a [(0, .iface 178 (.slice (some ⟨b, o, none⟩) n c)), (4, aG s), (8, aG fb), (9, (aP false))] → Mm [] w0 w [(fb, .cells #[aN 1, aN 1, aN 1, aV abi, aV aC, (aP false), .int .u16 0, .int .u16 0, bD 0, aK, aK, aK, aK, aK] 131 (0, 0)), gy s b o n c] → (spine Tryd.f78 20).wp Tryd.prog Q a w) : (spine Tryd.f78 0).wp Tryd.prog Q a w := by
 refine bC HF HM rfl [] (eU b o n c) [] (by kernel_rfl) ?_
 clear HF HM; intro a w HF HM
 refine wp_seq (wp_region_lit ?_)
 refine aO HF HM rfl 1 [] ((eU b o n c) ++ [(57, .iface 178 (.slice (some ⟨b, o, none⟩) n c))]) [] (by kernel_rfl) ?_
 clear HF HM; intro a w HF HM
 refine bn HF (by kernel_rfl) 92 #[.iface 178 (.slice (some ⟨b, o, none⟩) n c), aA 0, aA 9223372036854775807] (by kernel_rfl) (fun w => by kernel_rfl) (Calls.mono (nX 178 (.slice (some ⟨b, o, none⟩) n c) 0 9223372036854775807 (by omega) (by omega) (by omega) w) ?_)
 rintro _ w1 ⟨s, rfl, hb, hge, hgn⟩
 replace HM : Mm [] w0 w1 [gy s b o n c] := HM.push hb hge hgn
 clear hb hge hgn
 refine ⟨_, rfl, ?_⟩; clear HF; intro a HF; replace HF := HF.sub ((eU b o n c) ++ [(57, .iface 178 (.slice (some ⟨b, o, none⟩) n c)), (58, aG s)]) (by kernel_rfl)
 refine aO HF HM rfl 1 [] ((eU b o n c) ++ [(4, aG s)]) [gy s b o n c] (by kernel_rfl) ?_
 clear HF HM; intro a w HF HM
 refine aI ?_
 obtain ⟨z4, nH⟩ : ∃ z, w.heap.size = z := ⟨_, rfl⟩
 refine bC HF HM nH [] ((eU b o n c) ++ [(4, aG s), (5, aG z4)]) [(z4, .cells #[aN 0, aN 0, aN 0, aN 0, aN 0, aN 0, aN 0, aN 0, aN 0, aN 0, aN 0, aN 0, aN 0, aN 0, aN 0, aN 0] 205 (0, 0)), gy s b o n c] (by kernel_rfl) ?_
 clear HF HM nH; intro a w HF HM
 refine wp_seq ?_
 refine pK HM (by kernel_rfl) [gy s b o n c] [(0, false), (1, false), (2, false), (3, false), (4, false), (5, true), (6, false), (7, false), (8, false), (9, false), (10, false)] (by kernel_rfl) ?_
 clear HM; intro w2 HM
 refine bH HF (HM.told [1] rfl) 5 [] ((eU b o n c) ++ [(4, aG s), (5, aG z4), (60, .iface 178 (.slice (some ⟨b, o, none⟩) n c)), (61, aH z4 16 16), (64, .iface 178 (.slice (some ⟨b, o, none⟩) n c))]) (by kernel_rfl) ?_
 clear HF; intro a HF
 refine b_ rfl ?_
 have hbi : b ≠ z4 := fun e => absurd hbl (Nat.not_lt_of_le (e ▸ HM.ge (i := 0) rfl))
 refine bn HF (by kernel_rfl) 127 #[.slice (some ⟨b, o, none⟩) n c, aH z4 16 16, aB 0] (by kernel_rfl) (fun w => by kernel_rfl) (Calls.mono (rQ l b o n c hl hnc z4 #[aN 0, aN 0, aN 0, aN 0, aN 0, aN 0, aN 0, aN 0, aN 0, aN 0, aN 0, aN 0, aN 0, aN 0, aN 0, aN 0] 205 16 16 rfl 0 (by omega) (by omega) w2 (HM.row hr (by intro b' o' s' _; simp)) hbi (HM.get (i := 0) rfl)) ?_)
 rintro _ w3 ⟨rfl, hkp, hgn⟩
 rw [hid] at hgn
 replace HM : Mm [] w0 w3 [iI z4 abi aC, gy s b o n c] := HM.put (i := 0) rfl hgn hkp
 clear hkp hgn
 refine ⟨_, rfl, ?_⟩; clear HF; intro a HF; replace HF := HF.sub ((eU b o n c) ++ [(4, aG s), (5, aG z4), (60, .iface 178 (.slice (some ⟨b, o, none⟩) n c)), (61, aH z4 16 16), (64, .iface 178 (.slice (some ⟨b, o, none⟩) n c)), (65, .tuple #[aB 16, .nilIface])]) (by kernel_rfl)
 refine dF (HM.told [1] rfl) ?_
 refine bH HF (HM.told [1] rfl) 5 [] ((eU b o n c) ++ [(4, aG s), (5, aG z4), (7, .nilIface)]) (by kernel_rfl) ?_
 clear HF; intro a HF
 refine lI ?_
 refine aS ?_
 refine wp_seq (wp_region_lit ?_)
 refine aO HF HM rfl 2 [] ((eU b o n c) ++ [(4, aG s), (5, aG z4), (7, .nilIface), (69, .bool false)]) [iI z4 abi aC, gy s b o n c] (by kernel_rfl) ?_
 clear HF HM; intro a w HF HM
 refine aI ?_
 refine bf HF rfl ?_
 refine wp_skip ?_
 repeat (first | refine aS ?_ | refine aU ?_)
 replace HF := HF.sub ((eU b o n c) ++ [(4, aG s), (5, aG z4)]) (by kernel_rfl)
 refine wp_seq ?_
 refine wp_seq (wp_region_lit ?_)
 refine aO HF HM rfl 18 [[1], [1], [1], [1]] ((eU b o n c) ++ [(4, aG s), (5, aG z4), (91, .bool false)]) [iI z4 abi aC, gy s b o n c] (by kernel_rfl) ?_
 clear HF HM; intro a w HF HM
 refine aI ?_
 refine bf HF rfl ?_
 refine wp_skip ?_
 repeat (first | refine aS ?_ | refine aU ?_)
 replace HF := HF.sub ((eU b o n c) ++ [(4, aG s), (5, aG z4)]) (by kernel_rfl)
 obtain ⟨z7, uY⟩ : ∃ z, w.heap.size = z := ⟨_, rfl⟩
 refine bC HF HM uY [] ((eU b o n c) ++ [(4, aG s), (5, aG z4), (8, aG z7)]) [(z7, .cells #[aN 0, aN 0, aN 0, aN 0, aN 0, aN 0, .int .u16 0, .int .u16 0, bD 0, aK, aK, aK, aK, aK] 131 (0, 0)), iI z4 abi aC, gy s b o n c] (by kernel_rfl) ?_
 clear HF HM uY; intro a w HF HM
 refine bC HF HM rfl [[1], [2]] ((eU b o n c) ++ [(4, aG s), (5, aG z4), (8, aG z7)]) [Af z7, iI z4 abi aC, gy s b o n c] (by kernel_rfl) ?_
 clear HF HM; intro a w HF HM
 refine wp_seq ?_
 refine bC HF HM rfl [[2]] ((eU b o n c) ++ [(4, aG s), (5, aG z4), (8, aG z7), (108, aN 1)]) [Af z7, iI z4 abi aC, gy s b o n c] (by kernel_rfl) ?_
 clear HF HM; intro a w HF HM
 refine wp_block ?_
 refine bC HF HM rfl [] ((eU b o n c) ++ [(4, aG s), (5, aG z4), (8, aG z7), (108, aN 1), (118, .bool true)]) [Af z7, iI z4 abi aC, gy s b o n c] (by kernel_rfl) ?_
 clear HF HM; intro a w HF HM
 refine bF HF rfl ?_
 refine wp_skip ?_
 repeat (first | refine aS ?_ | refine aU ?_)
 replace HF := HF.sub ((eU b o n c) ++ [(4, aG s), (5, aG z4), (8, aG z7)]) (by kernel_rfl)
 refine bC HF HM rfl [[1], [2]] ((eU b o n c) ++ [(4, aG s), (5, aG z4), (8, aG z7)]) [uo z7, iI z4 abi aC, gy s b o n c] (by kernel_rfl) ?_
 clear HF HM; intro a w HF HM
 refine bC HF HM rfl [] ((eU b o n c) ++ [(4, aG s), (5, aG z4), (8, aG z7), (9, aN 0)]) [uo z7, iI z4 abi aC, gy s b o n c] (by kernel_rfl) ?_
 clear HF HM; intro a w HF HM
 refine wp_seq ?_
 refine bC HF HM rfl [[2]] ((eU b o n c) ++ [(4, aG s), (5, aG z4), (8, aG z7), (9, aN 0), (132, aN 1)]) [uo z7, iI z4 abi aC, gy s b o n c] (by kernel_rfl) ?_
 clear HF HM; intro a w HF HM
 refine wp_block ?_
 refine bC HF HM rfl [] ((eU b o n c) ++ [(4, aG s), (5, aG z4), (8, aG z7), (9, aN 0), (132, aN 1), (142, .bool true)]) [uo z7, iI z4 abi aC, gy s b o n c] (by kernel_rfl) ?_
 clear HF HM; intro a w HF HM
 refine bF HF rfl ?_
 refine nC HF HM rfl [] ((eU b o n c) ++ [(4, aG s), (5, aG z4), (8, aG z7), (9, (aP false))]) [uo z7, iI z4 abi aC, gy s b o n c] (by kernel_rfl) ?_
 clear HF HM; intro a w HF HM
 repeat (first | refine aS ?_ | refine aU ?_)
 refine bC HF HM rfl [[2]] ((eU b o n c) ++ [(4, aG s), (5, aG z4), (8, aG z7), (9, (aP false))]) [(z7, .cells #[aN 1, aN 1, aN 0, aN 0, aN 0, (aP false), .int .u16 0, .int .u16 0, bD 0, aK, aK, aK, aK, aK] 131 (0, 0)), iI z4 abi aC, gy s b o n c] (by kernel_rfl) ?_
 clear HF HM; intro a w HF HM
 refine bC HF HM rfl [[1], [2]] ((eU b o n c) ++ [(4, aG s), (5, aG z4), (8, aG z7), (9, (aP false))]) [(z7, .cells #[aN 1, aN 1, aN 1, aN 0, aN 0, (aP false), .int .u16 0, .int .u16 0, bD 0, aK, aK, aK, aK, aK] 131 (0, 0)), iI z4 abi aC, gy s b o n c] (by kernel_rfl) ?_
 clear HF HM; intro a w HF HM
 refine wp_seq ?_
 refine bC HF HM rfl [[2]] ((eU b o n c) ++ [(4, aG s), (5, aG z4), (8, aG z7), (9, (aP false)), (162, .bool false)]) [(z7, .cells #[aN 1, aN 1, aN 1, aN 0, aN 0, (aP false), .int .u16 0, .int .u16 0, bD 0, aK, aK, aK, aK, aK] 131 (0, 0)), iI z4 abi aC, gy s b o n c] (by kernel_rfl) ?_
 clear HF HM; intro a w HF HM
 refine bf HF rfl ?_
 refine wp_skip ?_
 repeat (first | refine aS ?_ | refine aU ?_)
 replace HF := HF.sub ((eU b o n c) ++ [(4, aG s), (5, aG z4), (8, aG z7), (9, (aP false))]) (by kernel_rfl)
 refine bC HF HM rfl [[1], [2]] ((eU b o n c) ++ [(4, aG s), (5, aG z4), (8, aG z7), (9, (aP false))]) [(z7, .cells #[aN 1, aN 1, aN 1, aV abi, aN 0, (aP false), .int .u16 0, .int .u16 0, bD 0, aK, aK, aK, aK, aK] 131 (0, 0)), iI z4 abi aC, gy s b o n c] (by kernel_rfl) ?_
 clear HF HM; intro a w HF HM
 refine bC HF HM rfl [[1], [2]] ((eU b o n c) ++ [(4, aG s), (8, aG z7), (9, (aP false))]) [um z7 abi aC, iI z4 abi aC, gy s b o n c] (by kernel_rfl) ?_
 clear HF HM; intro a w HF HM
 refine bC HF HM rfl [] ((eU b o n c) ++ [(4, aG s), (8, aG z7), (9, (aP false)), (10, aA 0)]) [um z7 abi aC, iI z4 abi aC, gy s b o n c] (by kernel_rfl) ?_
 clear HF HM; intro a w HF HM
 refine bC HF HM rfl [] ((eU b o n c) ++ [(4, aG s), (8, aG z7), (9, (aP false)), (10, aA 0), (11, aA 0), (12, aA 0)]) [um z7 abi aC, iI z4 abi aC, gy s b o n c] (by kernel_rfl) ?_
 clear HF HM; intro a w HF HM
 refine bC HF HM rfl [] ((eU b o n c) ++ [(4, aG s), (8, aG z7), (9, (aP false)), (10, aA 0), (11, aA 0), (12, aA 0), (13, aA 0)]) [um z7 abi aC, iI z4 abi aC, gy s b o n c] (by kernel_rfl) ?_
 clear HF HM; intro a w HF HM
 refine bC HF HM rfl [] ((eU b o n c) ++ [(4, aG s), (8, aG z7), (9, (aP false)), (10, aA 0), (11, aA 0), (12, aA 0), (13, aA 0), (14, aA 0), (15, aA 0), (16, aA 0)]) [um z7 abi aC, iI z4 abi aC, gy s b o n c] (by kernel_rfl) ?_
 clear HF HM; intro a w HF HM
 replace HF := HF.sub [(0, .iface 178 (.slice (some ⟨b, o, none⟩) n c)), (4, aG s), (8, aG z7), (9, (aP false))] (by kernel_rfl)
 exact K a w s z7 HF (HM.sub (List.Sublist.cons_cons _ (List.Sublist.cons _ (List.Sublist.refl _))))

abbrev fP := fun s (b : Nat) (o : Nat) (n : Nat) (c : Nat) => ((s, .cells #[.iface 178 (.slice (some ⟨b, o, none⟩) n c), aA 0, aA 0, aA 9223372036854775807, aA 9223372036854775807] 246 (0, 0)) : Nat × Obj)
abbrev dY := fun (b : Nat) (o : Nat) (n : Nat) (c : Nat) => ([(0, .iface 178 (.slice (some ⟨b, o, none⟩) n c)), (2, .pointer none), (3, .nilIface)] : Slots)
abbrev iC := fun z4 (abi : Nat) (aC : Nat) => ((z4, .cells #[aN 127, aN 69, aN 76, aN 70, aN 1, aN 2, aN 1, aV abi, aV aC, aN 0, aN 0, aN 0, aN 0, aN 0, aN 0, aN 0] 205 (0, 0)) : Nat × Obj)
abbrev Ag := fun z7 => ((z7, .cells #[aN 1, aN 0, aN 0, aN 0, aN 0, aN 0, .int .u16 0, .int .u16 0, bD 0, aK, aK, aK, aK, aK] 131 (0, 0)) : Nat × Obj)
abbrev rH := fun z7 => ((z7, .cells #[aN 1, aN 2, aN 0, aN 0, aN 0, aN 0, .int .u16 0, .int .u16 0, bD 0, aK, aK, aK, aK, aK] 131 (0, 0)) : Nat × Obj)
abbrev uq := fun z7 (abi : Nat) (aC : Nat) => ((z7, .cells #[aN 1, aN 2, aN 1, aV abi, aV aC, (aP true), .int .u16 0, .int .u16 0, bD 0, aK, aK, aK, aK, aK] 131 (0, 0)) : Nat × Obj)
theorem JB (l : List UInt8) (b o n c : Nat) (hl : n = l.length) (hnc : n ≤ c) (hn : 16 ≤ n) (abi aC : Nat) (hid : (((l.drop 0).take 16).map Bv).toArray = #[aN 127, aN 69, aN 76, aN 70, aN 1, aN 2, aN 1, aV abi, aV aC, aN 0, aN 0, aN 0, aN 0, aN 0, aN 0, aN 0]) {Q : Exit → Act → World → Prop} (w0 : World) (hbl : b < w0.heap.size) (hr : Row w0 (some ⟨b, o, none⟩) (l.map Bv)) (a : Act) (w : World) (HF : Fr 1287 a [(0, .iface 178 (.slice (some ⟨b, o, none⟩) n c))]) (HM : Mm [] w0 w [])
  (K : ∀ a w s fb, Fr 1287 a [(0, .iface 178 (.slice (some ⟨b, o, none⟩) n c)), (4, aG s), (8, aG fb), (9, (aP true))] → Mm [] w0 w [(fb, .cells #[aN 1, aN 2, aN 1, aV abi, aV aC, (aP true), .int .u16 0, .int .u16 0, bD 0, aK, aK, aK, aK, aK] 131 (0, 0)), fP s b o n c] → (spine Tryd.f78 20).wp Tryd.prog Q a w) : (spine Tryd.f78 0).wp Tryd.prog Q a w := by
 refine bC HF HM rfl [] (dY b o n c) [] (by kernel_rfl) ?_
 clear HF HM; intro a w HF HM
 refine wp_seq (wp_region_lit ?_)
 refine aO HF HM rfl 1 [] ((dY b o n c) ++ [(57, .iface 178 (.slice (some ⟨b, o, none⟩) n c))]) [] (by kernel_rfl) ?_
 clear HF HM; intro a w HF HM
 refine bn HF (by kernel_rfl) 92 #[.iface 178 (.slice (some ⟨b, o, none⟩) n c), aA 0, aA 9223372036854775807] (by kernel_rfl) (fun w => by kernel_rfl) (Calls.mono (nX 178 (.slice (some ⟨b, o, none⟩) n c) 0 9223372036854775807 (by omega) (by omega) (by omega) w) ?_)
 rintro _ w1 ⟨s, rfl, hb, hge, hgn⟩
 replace HM : Mm [] w0 w1 [fP s b o n c] := HM.push hb hge hgn
 clear hb hge hgn
 refine ⟨_, rfl, ?_⟩; clear HF; intro a HF; replace HF := HF.sub ((dY b o n c) ++ [(57, .iface 178 (.slice (some ⟨b, o, none⟩) n c)), (58, aG s)]) (by kernel_rfl)
 refine aO HF HM rfl 1 [] ((dY b o n c) ++ [(4, aG s)]) [fP s b o n c] (by kernel_rfl) ?_
 clear HF HM; intro a w HF HM
 refine aI ?_
 obtain ⟨z4, nH⟩ : ∃ z, w.heap.size = z := ⟨_, rfl⟩
 refine bC HF HM nH [] ((dY b o n c) ++ [(4, aG s), (5, aG z4)]) [(z4, .cells #[aN 0, aN 0, aN 0, aN 0, aN 0, aN 0, aN 0, aN 0, aN 0, aN 0, aN 0, aN 0, aN 0, aN 0, aN 0, aN 0] 205 (0, 0)), fP s b o n c] (by kernel_rfl) ?_
 clear HF HM nH; intro a w HF HM
 refine wp_seq ?_
 refine pK HM (by kernel_rfl) [fP s b o n c] [(0, false), (1, false), (2, false), (3, false), (4, false), (5, true), (6, false), (7, false), (8, false), (9, false), (10, false)] (by kernel_rfl) ?_
 clear HM; intro w2 HM
 refine bH HF (HM.told [1] rfl) 5 [] ((dY b o n c) ++ [(4, aG s), (5, aG z4), (60, .iface 178 (.slice (some ⟨b, o, none⟩) n c)), (61, aH z4 16 16), (64, .iface 178 (.slice (some ⟨b, o, none⟩) n c))]) (by kernel_rfl) ?_
 clear HF; intro a HF
 refine b_ rfl ?_
 have hbi : b ≠ z4 := fun e => absurd hbl (Nat.not_lt_of_le (e ▸ HM.ge (i := 0) rfl))
 refine bn HF (by kernel_rfl) 127 #[.slice (some ⟨b, o, none⟩) n c, aH z4 16 16, aB 0] (by kernel_rfl) (fun w => by kernel_rfl) (Calls.mono (rQ l b o n c hl hnc z4 #[aN 0, aN 0, aN 0, aN 0, aN 0, aN 0, aN 0, aN 0, aN 0, aN 0, aN 0, aN 0, aN 0, aN 0, aN 0, aN 0] 205 16 16 rfl 0 (by omega) (by omega) w2 (HM.row hr (by intro b' o' s' _; simp)) hbi (HM.get (i := 0) rfl)) ?_)
 rintro _ w3 ⟨rfl, hkp, hgn⟩
 rw [hid] at hgn
 replace HM : Mm [] w0 w3 [iC z4 abi aC, fP s b o n c] := HM.put (i := 0) rfl hgn hkp
 clear hkp hgn
 refine ⟨_, rfl, ?_⟩; clear HF; intro a HF; replace HF := HF.sub ((dY b o n c) ++ [(4, aG s), (5, aG z4), (60, .iface 178 (.slice (some ⟨b, o, none⟩) n c)), (61, aH z4 16 16), (64, .iface 178 (.slice (some ⟨b, o, none⟩) n c)), (65, .tuple #[aB 16, .nilIface])]) (by kernel_rfl)
 refine dF (HM.told [1] rfl) ?_
 refine bH HF (HM.told [1] rfl) 5 [] ((dY b o n c) ++ [(4, aG s), (5, aG z4), (7, .nilIface)]) (by kernel_rfl) ?_
 clear HF; intro a HF
 refine lI ?_
 refine aS ?_
 refine wp_seq (wp_region_lit ?_)
 refine aO HF HM rfl 2 [] ((dY b o n c) ++ [(4, aG s), (5, aG z4), (7, .nilIface), (69, .bool false)]) [iC z4 abi aC, fP s b o n c] (by kernel_rfl) ?_
 clear HF HM; intro a w HF HM
 refine aI ?_
 refine bf HF rfl ?_
 refine wp_skip ?_
 repeat (first | refine aS ?_ | refine aU ?_)
 replace HF := HF.sub ((dY b o n c) ++ [(4, aG s), (5, aG z4)]) (by kernel_rfl)
 refine wp_seq ?_
 refine wp_seq (wp_region_lit ?_)
 refine aO HF HM rfl 18 [[1], [1], [1], [1]] ((dY b o n c) ++ [(4, aG s), (5, aG z4), (91, .bool false)]) [iC z4 abi aC, fP s b o n c] (by kernel_rfl) ?_
 clear HF HM; intro a w HF HM
 refine aI ?_
 refine bf HF rfl ?_
 refine wp_skip ?_
 repeat (first | refine aS ?_ | refine aU ?_)
 replace HF := HF.sub ((dY b o n c) ++ [(4, aG s), (5, aG z4)]) (by kernel_rfl)
 obtain ⟨z7, uY⟩ : ∃ z, w.heap.size = z := ⟨_, rfl⟩
 refine bC HF HM uY [] ((dY b o n c) ++ [(4, aG s), (5, aG z4), (8, aG z7)]) [(z7, .cells #[aN 0, aN 0, aN 0, aN 0, aN 0, aN 0, .int .u16 0, .int .u16 0, bD 0, aK, aK, aK, aK, aK] 131 (0, 0)), iC z4 abi aC, fP s b o n c] (by kernel_rfl) ?_
 clear HF HM uY; intro a w HF HM
 refine bC HF HM rfl [[1], [2]] ((dY b o n c) ++ [(4, aG s), (5, aG z4), (8, aG z7)]) [Ag z7, iC z4 abi aC, fP s b o n c] (by kernel_rfl) ?_
 clear HF HM; intro a w HF HM
 refine wp_seq ?_
 refine bC HF HM rfl [[2]] ((dY b o n c) ++ [(4, aG s), (5, aG z4), (8, aG z7), (108, aN 1)]) [Ag z7, iC z4 abi aC, fP s b o n c] (by kernel_rfl) ?_
 clear HF HM; intro a w HF HM
 refine wp_block ?_
 refine bC HF HM rfl [] ((dY b o n c) ++ [(4, aG s), (5, aG z4), (8, aG z7), (108, aN 1), (118, .bool true)]) [Ag z7, iC z4 abi aC, fP s b o n c] (by kernel_rfl) ?_
 clear HF HM; intro a w HF HM
 refine bF HF rfl ?_
 refine wp_skip ?_
 repeat (first | refine aS ?_ | refine aU ?_)
 replace HF := HF.sub ((dY b o n c) ++ [(4, aG s), (5, aG z4), (8, aG z7)]) (by kernel_rfl)
 refine bC HF HM rfl [[1], [2]] ((dY b o n c) ++ [(4, aG s), (5, aG z4), (8, aG z7)]) [rH z7, iC z4 abi aC, fP s b o n c] (by kernel_rfl) ?_
 clear HF HM; intro a w HF HM
 refine bC HF HM rfl [] ((dY b o n c) ++ [(4, aG s), (5, aG z4), (8, aG z7), (9, aN 0)]) [rH z7, iC z4 abi aC, fP s b o n c] (by kernel_rfl) ?_
 clear HF HM; intro a w HF HM
 refine wp_seq ?_
 refine bC HF HM rfl [[2]] ((dY b o n c) ++ [(4, aG s), (5, aG z4), (8, aG z7), (9, aN 0), (132, aN 2)]) [rH z7, iC z4 abi aC, fP s b o n c] (by kernel_rfl) ?_
 clear HF HM; intro a w HF HM
 refine wp_block ?_
 refine bC HF HM rfl [] ((dY b o n c) ++ [(4, aG s), (5, aG z4), (8, aG z7), (9, aN 0), (132, aN 2), (142, .bool false)]) [rH z7, iC z4 abi aC, fP s b o n c] (by kernel_rfl) ?_
 clear HF HM; intro a w HF HM
 refine bf HF rfl ?_
 refine bC HF HM rfl [] ((dY b o n c) ++ [(4, aG s), (5, aG z4), (8, aG z7), (9, aN 0), (132, aN 2), (144, .bool true)]) [rH z7, iC z4 abi aC, fP s b o n c] (by kernel_rfl) ?_
 clear HF HM; intro a w HF HM
 refine bF HF rfl ?_
 refine nC HF HM rfl [] ((dY b o n c) ++ [(4, aG s), (5, aG z4), (8, aG z7), (9, (aP true))]) [rH z7, iC z4 abi aC, fP s b o n c] (by kernel_rfl) ?_
 clear HF HM; intro a w HF HM
 repeat (first | refine aS ?_ | refine aU ?_)
 refine bC HF HM rfl [[2]] ((dY b o n c) ++ [(4, aG s), (5, aG z4), (8, aG z7), (9, (aP true))]) [(z7, .cells #[aN 1, aN 2, aN 0, aN 0, aN 0, (aP true), .int .u16 0, .int .u16 0, bD 0, aK, aK, aK, aK, aK] 131 (0, 0)), iC z4 abi aC, fP s b o n c] (by kernel_rfl) ?_
 clear HF HM; intro a w HF HM
 refine bC HF HM rfl [[1], [2]] ((dY b o n c) ++ [(4, aG s), (5, aG z4), (8, aG z7), (9, (aP true))]) [(z7, .cells #[aN 1, aN 2, aN 1, aN 0, aN 0, (aP true), .int .u16 0, .int .u16 0, bD 0, aK, aK, aK, aK, aK] 131 (0, 0)), iC z4 abi aC, fP s b o n c] (by kernel_rfl) ?_
 clear HF HM; intro a w HF HM
 refine wp_seq ?_
 refine bC HF HM rfl [[2]] ((dY b o n c) ++ [(4, aG s), (5, aG z4), (8, aG z7), (9, (aP true)), (162, .bool false)]) [(z7, .cells #[aN 1, aN 2, aN 1, aN 0, aN 0, (aP true), .int .u16 0, .int .u16 0, bD 0, aK, aK, aK, aK, aK] 131 (0, 0)), iC z4 abi aC, fP s b o n c] (by kernel_rfl) ?_
 clear HF HM; intro a w HF HM
 refine bf HF rfl ?_
 refine wp_skip ?_
 repeat (first | refine aS ?_ | refine aU ?_)
 replace HF := HF.sub ((dY b o n c) ++ [(4, aG s), (5, aG z4), (8, aG z7), (9, (aP true))]) (by kernel_rfl)
 refine bC HF HM rfl [[1], [2]] ((dY b o n c) ++ [(4, aG s), (5, aG z4), (8, aG z7), (9, (aP true))]) [(z7, .cells #[aN 1, aN 2, aN 1, aV abi, aN 0, (aP true), .int .u16 0, .int .u16 0, bD 0, aK, aK, aK, aK, aK] 131 (0, 0)), iC z4 abi aC, fP s b o n c] (by kernel_rfl) ?_
 clear HF HM; intro a w HF HM
 refine bC HF HM rfl [[1], [2]] ((dY b o n c) ++ [(4, aG s), (8, aG z7), (9, (aP true))]) [uq z7 abi aC, iC z4 abi aC, fP s b o n c] (by kernel_rfl) ?_
 clear HF HM; intro a w HF HM
 refine bC HF HM rfl [] ((dY b o n c) ++ [(4, aG s), (8, aG z7), (9, (aP true)), (10, aA 0)]) [uq z7 abi aC, iC z4 abi aC, fP s b o n c] (by kernel_rfl) ?_
 clear HF HM; intro a w HF HM
 refine bC HF HM rfl [] ((dY b o n c) ++ [(4, aG s), (8, aG z7), (9, (aP true)), (10, aA 0), (11, aA 0), (12, aA 0)]) [uq z7 abi aC, iC z4 abi aC, fP s b o n c] (by kernel_rfl) ?_
 clear HF HM; intro a w HF HM
 refine bC HF HM rfl [] ((dY b o n c) ++ [(4, aG s), (8, aG z7), (9, (aP true)), (10, aA 0), (11, aA 0), (12, aA 0), (13, aA 0)]) [uq z7 abi aC, iC z4 abi aC, fP s b o n c] (by kernel_rfl) ?_
 clear HF HM; intro a w HF HM
 refine bC HF HM rfl [] ((dY b o n c) ++ [(4, aG s), (8, aG z7), (9, (aP true)), (10, aA 0), (11, aA 0), (12, aA 0), (13, aA 0), (14, aA 0), (15, aA 0), (16, aA 0)]) [uq z7 abi aC, iC z4 abi aC, fP s b o n c] (by kernel_rfl) ?_
 clear HF HM; intro a w HF HM
 replace HF := HF.sub [(0, .iface 178 (.slice (some ⟨b, o, none⟩) n c)), (4, aG s), (8, aG z7), (9, (aP true))] (by kernel_rfl)
 exact K a w s z7 HF (HM.sub (List.Sublist.cons_cons _ (List.Sublist.cons _ (List.Sublist.refl _))))

abbrev fO := fun s (b : Nat) (o : Nat) (n : Nat) (c : Nat) => ((s, .cells #[.iface 178 (.slice (some ⟨b, o, none⟩) n c), aA 0, aA 0, aA 9223372036854775807, aA 9223372036854775807] 246 (0, 0)) : Nat × Obj)
abbrev dX := fun (b : Nat) (o : Nat) (n : Nat) (c : Nat) => ([(0, .iface 178 (.slice (some ⟨b, o, none⟩) n c)), (2, .pointer none), (3, .nilIface)] : Slots)
abbrev iy := fun z4 (abi : Nat) (aC : Nat) => ((z4, .cells #[aN 127, aN 69, aN 76, aN 70, aN 2, aN 1, aN 1, aV abi, aV aC, aN 0, aN 0, aN 0, aN 0, aN 0, aN 0, aN 0] 205 (0, 0)) : Nat × Obj)
abbrev wK := fun z7 => ((z7, .cells #[aN 2, aN 0, aN 0, aN 0, aN 0, aN 0, .int .u16 0, .int .u16 0, bD 0, aK, aK, aK, aK, aK] 131 (0, 0)) : Nat × Obj)
abbrev uh := fun z7 => ((z7, .cells #[aN 2, aN 1, aN 0, aN 0, aN 0, aN 0, .int .u16 0, .int .u16 0, bD 0, aK, aK, aK, aK, aK] 131 (0, 0)) : Nat × Obj)
abbrev uf := fun z7 (abi : Nat) (aC : Nat) => ((z7, .cells #[aN 2, aN 1, aN 1, aV abi, aV aC, (aP false), .int .u16 0, .int .u16 0, bD 0, aK, aK, aK, aK, aK] 131 (0, 0)) : Nat × Obj)
theorem Jy (l : List UInt8) (b o n c : Nat) (hl : n = l.length) (hnc : n ≤ c) (hn : 16 ≤ n) (abi aC : Nat) (hid : (((l.drop 0).take 16).map Bv).toArray = #[aN 127, aN 69, aN 76, aN 70, aN 2, aN 1, aN 1, aV abi, aV aC, aN 0, aN 0, aN 0, aN 0, aN 0, aN 0, aN 0]) {Q : Exit → Act → World → Prop} (w0 : World) (hbl : b < w0.heap.size) (hr : Row w0 (some ⟨b, o, none⟩) (l.map Bv)) (a : Act) (w : World) (HF : Fr 1287 a [(0, .iface 178 (.slice (some ⟨b, o, none⟩) n c))]) (HM : Mm [] w0 w [])
  (K : ∀ a w s fb, Fr 1287 a [(0, .iface 178 (.slice (some ⟨b, o, none⟩) n c)), (4, aG s), (8, aG fb), (9, (aP false))] → Mm [] w0 w [(fb, .cells #[aN 2, aN 1, aN 1, aV abi, aV aC, (aP false), .int .u16 0, .int .u16 0, bD 0, aK, aK, aK, aK, aK] 131 (0, 0)), fO s b o n c] → (spine Tryd.f78 20).wp Tryd.prog Q a w) : (spine Tryd.f78 0).wp Tryd.prog Q a w := by
 refine bC HF HM rfl [] (dX b o n c) [] (by kernel_rfl) ?_
 clear HF HM; intro a w HF HM
 refine wp_seq (wp_region_lit ?_)
 refine aO HF HM rfl 1 [] ((dX b o n c) ++ [(57, .iface 178 (.slice (some ⟨b, o, none⟩) n c))]) [] (by kernel_rfl) ?_
 clear HF HM; intro a w HF HM
 refine bn HF (by kernel_rfl) 92 #[.iface 178 (.slice (some ⟨b, o, none⟩) n c), aA 0, aA 9223372036854775807] (by kernel_rfl) (fun w => by kernel_rfl) (Calls.mono (nX 178 (.slice (some ⟨b, o, none⟩) n c) 0 9223372036854775807 (by omega) (by omega) (by omega) w) ?_)
 rintro _ w1 ⟨s, rfl, hb, hge, hgn⟩
 replace HM : Mm [] w0 w1 [fO s b o n c] := HM.push hb hge hgn
 clear hb hge hgn
 refine ⟨_, rfl, ?_⟩; clear HF; intro a HF; replace HF := HF.sub ((dX b o n c) ++ [(57, .iface 178 (.slice (some ⟨b, o, none⟩) n c)), (58, aG s)]) (by kernel_rfl)
 refine aO HF HM rfl 1 [] ((dX b o n c) ++ [(4, aG s)]) [fO s b o n c] (by kernel_rfl) ?_
 clear HF HM; intro a w HF HM
 refine aI ?_
 obtain ⟨z4, nH⟩ : ∃ z, w.heap.size = z := ⟨_, rfl⟩
 refine bC HF HM nH [] ((dX b o n c) ++ [(4, aG s), (5, aG z4)]) [(z4, .cells #[aN 0, aN 0, aN 0, aN 0, aN 0, aN 0, aN 0, aN 0, aN 0, aN 0, aN 0, aN 0, aN 0, aN 0, aN 0, aN 0] 205 (0, 0)), fO s b o n c] (by kernel_rfl) ?_
 clear HF HM nH; intro a w HF HM
 refine wp_seq ?_
 refine pK HM (by kernel_rfl) [fO s b o n c] [(0, false), (1, false), (2, false), (3, false), (4, false), (5, true), (6, false), (7, false), (8, false), (9, false), (10, false)] (by kernel_rfl) ?_
 clear HM; intro w2 HM
 refine bH HF (HM.told [1] rfl) 5 [] ((dX b o n c) ++ [(4, aG s), (5, aG z4), (60, .iface 178 (.slice (some ⟨b, o, none⟩) n c)), (61, aH z4 16 16), (64, .iface 178 (.slice (some ⟨b, o, none⟩) n c))]) (by kernel_rfl) ?_
 clear HF; intro a HF
 refine b_ rfl ?_
 have hbi : b ≠ z4 := fun e => absurd hbl (Nat.not_lt_of_le (e ▸ HM.ge (i := 0) rfl))
 refine bn HF (by kernel_rfl) 127 #[.slice (some ⟨b, o, none⟩) n c, aH z4 16 16, aB 0] (by kernel_rfl) (fun w => by kernel_rfl) (Calls.mono (rQ l b o n c hl hnc z4 #[aN 0, aN 0, aN 0, aN 0, aN 0, aN 0, aN 0, aN 0, aN 0, aN 0, aN 0, aN 0, aN 0, aN 0, aN 0, aN 0] 205 16 16 rfl 0 (by omega) (by omega) w2 (HM.row hr (by intro b' o' s' _; simp)) hbi (HM.get (i := 0) rfl)) ?_)
 rintro _ w3 ⟨rfl, hkp, hgn⟩
 rw [hid] at hgn
 replace HM : Mm [] w0 w3 [iy z4 abi aC, fO s b o n c] := HM.put (i := 0) rfl hgn hkp
 clear hkp hgn
 refine ⟨_, rfl, ?_⟩; clear HF; intro a HF; replace HF := HF.sub ((dX b o n c) ++ [(4, aG s), (5, aG z4), (60, .iface 178 (.slice (some ⟨b, o, none⟩) n c)), (61, aH z4 16 16), (64, .iface 178 (.slice (some ⟨b, o, none⟩) n c)), (65, .tuple #[aB 16, .nilIface])]) (by kernel_rfl)
 refine dF (HM.told [1] rfl) ?_
 refine bH HF (HM.told [1] rfl) 5 [] ((dX b o n c) ++ [(4, aG s), (5, aG z4), (7, .nilIface)]) (by kernel_rfl) ?_
 clear HF; intro a HF
 refine lI ?_
 refine aS ?_
 refine wp_seq (wp_region_lit ?_)
 refine aO HF HM rfl 2 [] ((dX b o n c) ++ [(4, aG s), (5, aG z4), (7, .nilIface), (69, .bool false)]) [iy z4 abi aC, fO s b o n c] (by kernel_rfl) ?_
 clear HF HM; intro a w HF HM
 refine aI ?_
 refine bf HF rfl ?_
 refine wp_skip ?_
 repeat (first | refine aS ?_ | refine aU ?_)
 replace HF := HF.sub ((dX b o n c) ++ [(4, aG s), (5, aG z4)]) (by kernel_rfl)
 refine wp_seq ?_
 refine wp_seq (wp_region_lit ?_)
 refine aO HF HM rfl 18 [[1], [1], [1], [1]] ((dX b o n c) ++ [(4, aG s), (5, aG z4), (91, .bool false)]) [iy z4 abi aC, fO s b o n c] (by kernel_rfl) ?_
 clear HF HM; intro a w HF HM
 refine aI ?_
 refine bf HF rfl ?_
 refine wp_skip ?_
 repeat (first | refine aS ?_ | refine aU ?_)
 replace HF := HF.sub ((dX b o n c) ++ [(4, aG s), (5, aG z4)]) (by kernel_rfl)
 obtain ⟨z7, uY⟩ : ∃ z, w.heap.size = z := ⟨_, rfl⟩
 refine bC HF HM uY [] ((dX b o n c) ++ [(4, aG s), (5, aG z4), (8, aG z7)]) [(z7, .cells #[aN 0, aN 0, aN 0, aN 0, aN 0, aN 0, .int .u16 0, .int .u16 0, bD 0, aK, aK, aK, aK, aK] 131 (0, 0)), iy z4 abi aC, fO s b o n c] (by kernel_rfl) ?_
 clear HF HM uY; intro a w HF HM
 refine bC HF HM rfl [[1], [2]] ((dX b o n c) ++ [(4, aG s), (5, aG z4), (8, aG z7)]) [wK z7, iy z4 abi aC, fO s b o n c] (by kernel_rfl) ?_
 clear HF HM; intro a w HF HM
 refine wp_seq ?_
 refine bC HF HM rfl [[2]] ((dX b o n c) ++ [(4, aG s), (5, aG z4), (8, aG z7), (108, aN 2)]) [wK z7, iy z4 abi aC, fO s b o n c] (by kernel_rfl) ?_
 clear HF HM; intro a w HF HM
 refine wp_block ?_
 refine bC HF HM rfl [] ((dX b o n c) ++ [(4, aG s), (5, aG z4), (8, aG z7), (108, aN 2), (118, .bool false)]) [wK z7, iy z4 abi aC, fO s b o n c] (by kernel_rfl) ?_
 clear HF HM; intro a w HF HM
 refine bf HF rfl ?_
 refine bC HF HM rfl [] ((dX b o n c) ++ [(4, aG s), (5, aG z4), (8, aG z7), (108, aN 2), (120, .bool true)]) [wK z7, iy z4 abi aC, fO s b o n c] (by kernel_rfl) ?_
 clear HF HM; intro a w HF HM
 refine bF HF rfl ?_
 refine wp_skip ?_
 repeat (first | refine aS ?_ | refine aU ?_)
 replace HF := HF.sub ((dX b o n c) ++ [(4, aG s), (5, aG z4), (8, aG z7)]) (by kernel_rfl)
 refine bC HF HM rfl [[1], [2]] ((dX b o n c) ++ [(4, aG s), (5, aG z4), (8, aG z7)]) [uh z7, iy z4 abi aC, fO s b o n c] (by kernel_rfl) ?_
 clear HF HM; intro a w HF HM
 refine bC HF HM rfl [] ((dX b o n c) ++ [(4, aG s), (5, aG z4), (8, aG z7), (9, aN 0)]) [uh z7, iy z4 abi aC, fO s b o n c] (by kernel_rfl) ?_
 clear HF HM; intro a w HF HM
 refine wp_seq ?_
 refine bC HF HM rfl [[2]] ((dX b o n c) ++ [(4, aG s), (5, aG z4), (8, aG z7), (9, aN 0), (132, aN 1)]) [uh z7, iy z4 abi aC, fO s b o n c] (by kernel_rfl) ?_
 clear HF HM; intro a w HF HM
 refine wp_block ?_
 refine bC HF HM rfl [] ((dX b o n c) ++ [(4, aG s), (5, aG z4), (8, aG z7), (9, aN 0), (132, aN 1), (142, .bool true)]) [uh z7, iy z4 abi aC, fO s b o n c] (by kernel_rfl) ?_
 clear HF HM; intro a w HF HM
 refine bF HF rfl ?_
 refine nC HF HM rfl [] ((dX b o n c) ++ [(4, aG s), (5, aG z4), (8, aG z7), (9, (aP false))]) [uh z7, iy z4 abi aC, fO s b o n c] (by kernel_rfl) ?_
 clear HF HM; intro a w HF HM
 repeat (first | refine aS ?_ | refine aU ?_)
 refine bC HF HM rfl [[2]] ((dX b o n c) ++ [(4, aG s), (5, aG z4), (8, aG z7), (9, (aP false))]) [(z7, .cells #[aN 2, aN 1, aN 0, aN 0, aN 0, (aP false), .int .u16 0, .int .u16 0, bD 0, aK, aK, aK, aK, aK] 131 (0, 0)), iy z4 abi aC, fO s b o n c] (by kernel_rfl) ?_
 clear HF HM; intro a w HF HM
 refine bC HF HM rfl [[1], [2]] ((dX b o n c) ++ [(4, aG s), (5, aG z4), (8, aG z7), (9, (aP false))]) [(z7, .cells #[aN 2, aN 1, aN 1, aN 0, aN 0, (aP false), .int .u16 0, .int .u16 0, bD 0, aK, aK, aK, aK, aK] 131 (0, 0)), iy z4 abi aC, fO s b o n c] (by kernel_rfl) ?_
 clear HF HM; intro a w HF HM
 refine wp_seq ?_
 refine bC HF HM rfl [[2]] ((dX b o n c) ++ [(4, aG s), (5, aG z4), (8, aG z7), (9, (aP false)), (162, .bool false)]) [(z7, .cells #[aN 2, aN 1, aN 1, aN 0, aN 0, (aP false), .int .u16 0, .int .u16 0, bD 0, aK, aK, aK, aK, aK] 131 (0, 0)), iy z4 abi aC, fO s b o n c] (by kernel_rfl) ?_
 clear HF HM; intro a w HF HM
 refine bf HF rfl ?_
 refine wp_skip ?_
 repeat (first | refine aS ?_ | refine aU ?_)
 replace HF := HF.sub ((dX b o n c) ++ [(4, aG s), (5, aG z4), (8, aG z7), (9, (aP false))]) (by kernel_rfl)
 refine bC HF HM rfl [[1], [2]] ((dX b o n c) ++ [(4, aG s), (5, aG z4), (8, aG z7), (9, (aP false))]) [(z7, .cells #[aN 2, aN 1, aN 1, aV abi, aN 0, (aP false), .int .u16 0, .int .u16 0, bD 0, aK, aK, aK, aK, aK] 131 (0, 0)), iy z4 abi aC, fO s b o n c] (by kernel_rfl) ?_
 clear HF HM; intro a w HF HM
 refine bC HF HM rfl [[1], [2]] ((dX b o n c) ++ [(4, aG s), (8, aG z7), (9, (aP false))]) [uf z7 abi aC, iy z4 abi aC, fO s b o n c] (by kernel_rfl) ?_
 clear HF HM; intro a w HF HM
 refine bC HF HM rfl [] ((dX b o n c) ++ [(4, aG s), (8, aG z7), (9, (aP false)), (10, aA 0)]) [uf z7 abi aC, iy z4 abi aC, fO s b o n c] (by kernel_rfl) ?_
 clear HF HM; intro a w HF HM
 refine bC HF HM rfl [] ((dX b o n c) ++ [(4, aG s), (8, aG z7), (9, (aP false)), (10, aA 0), (11, aA 0), (12, aA 0)]) [uf z7 abi aC, iy z4 abi aC, fO s b o n c] (by kernel_rfl) ?_
 clear HF HM; intro a w HF HM
 refine bC HF HM rfl [] ((dX b o n c) ++ [(4, aG s), (8, aG z7), (9, (aP false)), (10, aA 0), (11, aA 0), (12, aA 0), (13, aA 0)]) [uf z7 abi aC, iy z4 abi aC, fO s b o n c] (by kernel_rfl) ?_
 clear HF HM; intro a w HF HM
 refine bC HF HM rfl [] ((dX b o n c) ++ [(4, aG s), (8, aG z7), (9, (aP false)), (10, aA 0), (11, aA 0), (12, aA 0), (13, aA 0), (14, aA 0), (15, aA 0), (16, aA 0)]) [uf z7 abi aC, iy z4 abi aC, fO s b o n c] (by kernel_rfl) ?_
 clear HF HM; intro a w HF HM
 replace HF := HF.sub [(0, .iface 178 (.slice (some ⟨b, o, none⟩) n c)), (4, aG s), (8, aG z7), (9, (aP false))] (by kernel_rfl)
 exact K a w s z7 HF (HM.sub (List.Sublist.cons_cons _ (List.Sublist.cons _ (List.Sublist.refl _))))

abbrev fJ := fun s (b : Nat) (o : Nat) (n : Nat) (c : Nat) => ((s, .cells #[.iface 178 (.slice (some ⟨b, o, none⟩) n c), aA 0, aA 0, aA 9223372036854775807, aA 9223372036854775807] 246 (0, 0)) : Nat × Obj)
abbrev dR := fun (b : Nat) (o : Nat) (n : Nat) (c : Nat) => ([(0, .iface 178 (.slice (some ⟨b, o, none⟩) n c)), (2, .pointer none), (3, .nilIface)] : Slots)
abbrev gZ := fun z4 (abi : Nat) (aC : Nat) => ((z4, .cells #[aN 127, aN 69, aN 76, aN 70, aN 2, aN 2, aN 1, aV abi, aV aC, aN 0, aN 0, aN 0, aN 0, aN 0, aN 0, aN 0] 205 (0, 0)) : Nat × Obj)
abbrev wL := fun z7 => ((z7, .cells #[aN 2, aN 0, aN 0, aN 0, aN 0, aN 0, .int .u16 0, .int .u16 0, bD 0, aK, aK, aK, aK, aK] 131 (0, 0)) : Nat × Obj)
abbrev rG := fun z7 => ((z7, .cells #[aN 2, aN 2, aN 0, aN 0, aN 0, aN 0, .int .u16 0, .int .u16 0, bD 0, aK, aK, aK, aK, aK] 131 (0, 0)) : Nat × Obj)
abbrev uj := fun z7 (abi : Nat) (aC : Nat) => ((z7, .cells #[aN 2, aN 2, aN 1, aV abi, aV aC, (aP true), .int .u16 0, .int .u16 0, bD 0, aK, aK, aK, aK, aK] 131 (0, 0)) : Nat × Obj)
theorem Jz (l : List UInt8) (b o n c : Nat) (hl : n = l.length) (hnc : n ≤ c) (hn : 16 ≤ n) (abi aC : Nat) (hid : (((l.drop 0).take 16).map Bv).toArray = #[aN 127, aN 69, aN 76, aN 70, aN 2, aN 2, aN 1, aV abi, aV aC, aN 0, aN 0, aN 0, aN 0, aN 0, aN 0, aN 0]) {Q : Exit → Act → World → Prop} (w0 : World) (hbl : b < w0.heap.size) (hr : Row w0 (some ⟨b, o, none⟩) (l.map Bv)) (a : Act) (w : World) (HF : Fr 1287 a [(0, .iface 178 (.slice (some ⟨b, o, none⟩) n c))]) (HM : Mm [] w0 w [])
  (K : ∀ a w s fb, Fr 1287 a [(0, .iface 178 (.slice (some ⟨b, o, none⟩) n c)), (4, aG s), (8, aG fb), (9, (aP true))] → Mm [] w0 w [(fb, .cells #[aN 2, aN 2, aN 1, aV abi, aV aC, (aP true), .int .u16 0, .int .u16 0, bD 0, aK, aK, aK, aK, aK] 131 (0, 0)), fJ s b o n c] → (spine Tryd.f78 20).wp Tryd.prog Q a w) : (spine Tryd.f78 0).wp Tryd.prog Q a w := by
 refine bC HF HM rfl [] (dR b o n c) [] (by kernel_rfl) ?_
 clear HF HM; intro a w HF HM
 refine wp_seq (wp_region_lit ?_)
 refine aO HF HM rfl 1 [] ((dR b o n c) ++ [(57, .iface 178 (.slice (some ⟨b, o, none⟩) n c))]) [] (by kernel_rfl) ?_
 clear HF HM; intro a w HF HM
 refine bn HF (by kernel_rfl) 92 #[.iface 178 (.slice (some ⟨b, o, none⟩) n c), aA 0, aA 9223372036854775807] (by kernel_rfl) (fun w => by kernel_rfl) (Calls.mono (nX 178 (.slice (some ⟨b, o, none⟩) n c) 0 9223372036854775807 (by omega) (by omega) (by omega) w) ?_)
 rintro _ w1 ⟨s, rfl, hb, hge, hgn⟩
 replace HM : Mm [] w0 w1 [fJ s b o n c] := HM.push hb hge hgn
 clear hb hge hgn
 refine ⟨_, rfl, ?_⟩; clear HF; intro a HF; replace HF := HF.sub ((dR b o n c) ++ [(57, .iface 178 (.slice (some ⟨b, o, none⟩) n c)), (58, aG s)]) (by kernel_rfl)
 refine aO HF HM rfl 1 [] ((dR b o n c) ++ [(4, aG s)]) [fJ s b o n c] (by kernel_rfl) ?_
 clear HF HM; intro a w HF HM
 refine aI ?_
 obtain ⟨z4, nH⟩ : ∃ z, w.heap.size = z := ⟨_, rfl⟩
 refine bC HF HM nH [] ((dR b o n c) ++ [(4, aG s), (5, aG z4)]) [(z4, .cells #[aN 0, aN 0, aN 0, aN 0, aN 0, aN 0, aN 0, aN 0, aN 0, aN 0, aN 0, aN 0, aN 0, aN 0, aN 0, aN 0] 205 (0, 0)), fJ s b o n c] (by kernel_rfl) ?_
 clear HF HM nH; intro a w HF HM
 refine wp_seq ?_
 refine pK HM (by kernel_rfl) [fJ s b o n c] [(0, false), (1, false), (2, false), (3, false), (4, false), (5, true), (6, false), (7, false), (8, false), (9, false), (10, false)] (by kernel_rfl) ?_
 clear HM; intro w2 HM
 refine bH HF (HM.told [1] rfl) 5 [] ((dR b o n c) ++ [(4, aG s), (5, aG z4), (60, .iface 178 (.slice (some ⟨b, o, none⟩) n c)), (61, aH z4 16 16), (64, .iface 178 (.slice (some ⟨b, o, none⟩) n c))]) (by kernel_rfl) ?_
 clear HF; intro a HF
 refine b_ rfl ?_
 have hbi : b ≠ z4 := fun e => absurd hbl (Nat.not_lt_of_le (e ▸ HM.ge (i := 0) rfl))
 refine bn HF (by kernel_rfl) 127 #[.slice (some ⟨b, o, none⟩) n c, aH z4 16 16, aB 0] (by kernel_rfl) (fun w => by kernel_rfl) (Calls.mono (rQ l b o n c hl hnc z4 #[aN 0, aN 0, aN 0, aN 0, aN 0, aN 0, aN 0, aN 0, aN 0, aN 0, aN 0, aN 0, aN 0, aN 0, aN 0, aN 0] 205 16 16 rfl 0 (by omega) (by omega) w2 (HM.row hr (by intro b' o' s' _; simp)) hbi (HM.get (i := 0) rfl)) ?_)
 rintro _ w3 ⟨rfl, hkp, hgn⟩
 rw [hid] at hgn
 replace HM : Mm [] w0 w3 [gZ z4 abi aC, fJ s b o n c] := HM.put (i := 0) rfl hgn hkp
 clear hkp hgn
 refine ⟨_, rfl, ?_⟩; clear HF; intro a HF; replace HF := HF.sub ((dR b o n c) ++ [(4, aG s), (5, aG z4), (60, .iface 178 (.slice (some ⟨b, o, none⟩) n c)), (61, aH z4 16 16), (64, .iface 178 (.slice (some ⟨b, o, none⟩) n c)), (65, .tuple #[aB 16, .nilIface])]) (by kernel_rfl)
 refine dF (HM.told [1] rfl) ?_
 refine bH HF (HM.told [1] rfl) 5 [] ((dR b o n c) ++ [(4, aG s), (5, aG z4), (7, .nilIface)]) (by kernel_rfl) ?_
 clear HF; intro a HF
 refine lI ?_
 refine aS ?_
 refine wp_seq (wp_region_lit ?_)
 refine aO HF HM rfl 2 [] ((dR b o n c) ++ [(4, aG s), (5, aG z4), (7, .nilIface), (69, .bool false)]) [gZ z4 abi aC, fJ s b o n c] (by kernel_rfl) ?_
 clear HF HM; intro a w HF HM
 refine aI ?_
 refine bf HF rfl ?_
 refine wp_skip ?_
 repeat (first | refine aS ?_ | refine aU ?_)
 replace HF := HF.sub ((dR b o n c) ++ [(4, aG s), (5, aG z4)]) (by kernel_rfl)
 refine wp_seq ?_
 refine wp_seq (wp_region_lit ?_)
 refine aO HF HM rfl 18 [[1], [1], [1], [1]] ((dR b o n c) ++ [(4, aG s), (5, aG z4), (91, .bool false)]) [gZ z4 abi aC, fJ s b o n c] (by kernel_rfl) ?_
 clear HF HM; intro a w HF HM
 refine aI ?_
 refine bf HF rfl ?_
 refine wp_skip ?_
 repeat (first | refine aS ?_ | refine aU ?_)
 replace HF := HF.sub ((dR b o n c) ++ [(4, aG s), (5, aG z4)]) (by kernel_rfl)
 obtain ⟨z7, uY⟩ : ∃ z, w.heap.size = z := ⟨_, rfl⟩
 refine bC HF HM uY [] ((dR b o n c) ++ [(4, aG s), (5, aG z4), (8, aG z7)]) [(z7, .cells #[aN 0, aN 0, aN 0, aN 0, aN 0, aN 0, .int .u16 0, .int .u16 0, bD 0, aK, aK, aK, aK, aK] 131 (0, 0)), gZ z4 abi aC, fJ s b o n c] (by kernel_rfl) ?_
 clear HF HM uY; intro a w HF HM
 refine bC HF HM rfl [[1], [2]] ((dR b o n c) ++ [(4, aG s), (5, aG z4), (8, aG z7)]) [wL z7, gZ z4 abi aC, fJ s b o n c] (by kernel_rfl) ?_
 clear HF HM; intro a w HF HM
 refine wp_seq ?_
 refine bC HF HM rfl [[2]] ((dR b o n c) ++ [(4, aG s), (5, aG z4), (8, aG z7), (108, aN 2)]) [wL z7, gZ z4 abi aC, fJ s b o n c] (by kernel_rfl) ?_
 clear HF HM; intro a w HF HM
 refine wp_block ?_
 refine bC HF HM rfl [] ((dR b o n c) ++ [(4, aG s), (5, aG z4), (8, aG z7), (108, aN 2), (118, .bool false)]) [wL z7, gZ z4 abi aC, fJ s b o n c] (by kernel_rfl) ?_
 clear HF HM; intro a w HF HM
 refine bf HF rfl ?_
 refine bC HF HM rfl [] ((dR b o n c) ++ [(4, aG s), (5, aG z4), (8, aG z7), (108, aN 2), (120, .bool true)]) [wL z7, gZ z4 abi aC, fJ s b o n c] (by kernel_rfl) ?_
 clear HF HM; intro a w HF HM
 refine bF HF rfl ?_
 refine wp_skip ?_
 repeat (first | refine aS ?_ | refine aU ?_)
 replace HF := HF.sub ((dR b o n c) ++ [(4, aG s), (5, aG z4), (8, aG z7)]) (by kernel_rfl)
 refine bC HF HM rfl [[1], [2]] ((dR b o n c) ++ [(4, aG s), (5, aG z4), (8, aG z7)]) [rG z7, gZ z4 abi aC, fJ s b o n c] (by kernel_rfl) ?_
 clear HF HM; intro a w HF HM
 refine bC HF HM rfl [] ((dR b o n c) ++ [(4, aG s), (5, aG z4), (8, aG z7), (9, aN 0)]) [rG z7, gZ z4 abi aC, fJ s b o n c] (by kernel_rfl) ?_
 clear HF HM; intro a w HF HM
 refine wp_seq ?_
 refine bC HF HM rfl [[2]] ((dR b o n c) ++ [(4, aG s), (5, aG z4), (8, aG z7), (9, aN 0), (132, aN 2)]) [rG z7, gZ z4 abi aC, fJ s b o n c] (by kernel_rfl) ?_
 clear HF HM; intro a w HF HM
 refine wp_block ?_
 refine bC HF HM rfl [] ((dR b o n c) ++ [(4, aG s), (5, aG z4), (8, aG z7), (9, aN 0), (132, aN 2), (142, .bool false)]) [rG z7, gZ z4 abi aC, fJ s b o n c] (by kernel_rfl) ?_
 clear HF HM; intro a w HF HM
 refine bf HF rfl ?_
 refine bC HF HM rfl [] ((dR b o n c) ++ [(4, aG s), (5, aG z4), (8, aG z7), (9, aN 0), (132, aN 2), (144, .bool true)]) [rG z7, gZ z4 abi aC, fJ s b o n c] (by kernel_rfl) ?_
 clear HF HM; intro a w HF HM
 refine bF HF rfl ?_
 refine nC HF HM rfl [] ((dR b o n c) ++ [(4, aG s), (5, aG z4), (8, aG z7), (9, (aP true))]) [rG z7, gZ z4 abi aC, fJ s b o n c] (by kernel_rfl) ?_
 clear HF HM; intro a w HF HM
 repeat (first | refine aS ?_ | refine aU ?_)
 refine bC HF HM rfl [[2]] ((dR b o n c) ++ [(4, aG s), (5, aG z4), (8, aG z7), (9, (aP true))]) [(z7, .cells #[aN 2, aN 2, aN 0, aN 0, aN 0, (aP true), .int .u16 0, .int .u16 0, bD 0, aK, aK, aK, aK, aK] 131 (0, 0)), gZ z4 abi aC, fJ s b o n c] (by kernel_rfl) ?_
 clear HF HM; intro a w HF HM
 refine bC HF HM rfl [[1], [2]] ((dR b o n c) ++ [(4, aG s), (5, aG z4), (8, aG z7), (9, (aP true))]) [(z7, .cells #[aN 2, aN 2, aN 1, aN 0, aN 0, (aP true), .int .u16 0, .int .u16 0, bD 0, aK, aK, aK, aK, aK] 131 (0, 0)), gZ z4 abi aC, fJ s b o n c] (by kernel_rfl) ?_
 clear HF HM; intro a w HF HM
 refine wp_seq ?_
 refine bC HF HM rfl [[2]] ((dR b o n c) ++ [(4, aG s), (5, aG z4), (8, aG z7), (9, (aP true)), (162, .bool false)]) [(z7, .cells #[aN 2, aN 2, aN 1, aN 0, aN 0, (aP true), .int .u16 0, .int .u16 0, bD 0, aK, aK, aK, aK, aK] 131 (0, 0)), gZ z4 abi aC, fJ s b o n c] (by kernel_rfl) ?_
 clear HF HM; intro a w HF HM
 refine bf HF rfl ?_
 refine wp_skip ?_
 repeat (first | refine aS ?_ | refine aU ?_)
 replace HF := HF.sub ((dR b o n c) ++ [(4, aG s), (5, aG z4), (8, aG z7), (9, (aP true))]) (by kernel_rfl)
 refine bC HF HM rfl [[1], [2]] ((dR b o n c) ++ [(4, aG s), (5, aG z4), (8, aG z7), (9, (aP true))]) [(z7, .cells #[aN 2, aN 2, aN 1, aV abi, aN 0, (aP true), .int .u16 0, .int .u16 0, bD 0, aK, aK, aK, aK, aK] 131 (0, 0)), gZ z4 abi aC, fJ s b o n c] (by kernel_rfl) ?_
 clear HF HM; intro a w HF HM
 refine bC HF HM rfl [[1], [2]] ((dR b o n c) ++ [(4, aG s), (8, aG z7), (9, (aP true))]) [uj z7 abi aC, gZ z4 abi aC, fJ s b o n c] (by kernel_rfl) ?_
 clear HF HM; intro a w HF HM
 refine bC HF HM rfl [] ((dR b o n c) ++ [(4, aG s), (8, aG z7), (9, (aP true)), (10, aA 0)]) [uj z7 abi aC, gZ z4 abi aC, fJ s b o n c] (by kernel_rfl) ?_
 clear HF HM; intro a w HF HM
 refine bC HF HM rfl [] ((dR b o n c) ++ [(4, aG s), (8, aG z7), (9, (aP true)), (10, aA 0), (11, aA 0), (12, aA 0)]) [uj z7 abi aC, gZ z4 abi aC, fJ s b o n c] (by kernel_rfl) ?_
 clear HF HM; intro a w HF HM
 refine bC HF HM rfl [] ((dR b o n c) ++ [(4, aG s), (8, aG z7), (9, (aP true)), (10, aA 0), (11, aA 0), (12, aA 0), (13, aA 0)]) [uj z7 abi aC, gZ z4 abi aC, fJ s b o n c] (by kernel_rfl) ?_
 clear HF HM; intro a w HF HM
 refine bC HF HM rfl [] ((dR b o n c) ++ [(4, aG s), (8, aG z7), (9, (aP true)), (10, aA 0), (11, aA 0), (12, aA 0), (13, aA 0), (14, aA 0), (15, aA 0), (16, aA 0)]) [uj z7 abi aC, gZ z4 abi aC, fJ s b o n c] (by kernel_rfl) ?_
 clear HF HM; intro a w HF HM
 replace HF := HF.sub [(0, .iface 178 (.slice (some ⟨b, o, none⟩) n c)), (4, aG s), (8, aG z7), (9, (aP true))] (by kernel_rfl)
 exact K a w s z7 HF (HM.sub (List.Sublist.cons_cons _ (List.Sublist.cons _ (List.Sublist.refl _))))

end Go.Proofs.YtdgehpocmfjbiaaDoor
namespace Go.Proofs.YtdgehpocmfjbiaaDoor
open Go.RowKit

theorem qJ {w : World} {g : Nat} {X : List UInt8} {t : TypeId} (hg : w.heap[g]? = some (.cells (X.map Bv).toArray t (0, 0))) : Row w (some ⟨g, 0, none⟩) (X.map Bv) :=
 Row.of_cells fun j hj => by
  rw [cell_of_row w g (0 + j) _ t (0, 0) hg, Nat.zero_add]
  have : j < X.length := by simpa using hj
  simp [this]
theorem oI {w : World} {g : Nat} {X : List UInt8} {t : TypeId} (hg : w.heap[g]? = some (.cells (X.map Bv).toArray t (0, 0))) (big : Bool) (k m : Nat) (hm : m + k = X.length) (hk : k + 2 ≤ X.length) (v : Int) (hv : ((num big X k 2 : Nat) : Int) = v) :
  Calls Tryd.prog 94 #[aP big, .slice (some ⟨g, k, none⟩) m m] w fun e w' => e = .returned (.int .u16 v) ∧ ∃ i, w' = w.drewN i := by
 have hr := (qJ hg).drop_at k
 rw [← List.map_drop, Nat.zero_add] at hr
 rw [← hv]
 exact yY big (X.drop k) _ m m (by omega) (by simp; omega) w hr
theorem jB {w : World} {g : Nat} {X : List UInt8} {t : TypeId} (hg : w.heap[g]? = some (.cells (X.map Bv).toArray t (0, 0))) (hX : X.length ≤ maxLen) (big : Bool) (k m : Nat) (hm : m + k = X.length) (hk : k + 4 ≤ X.length) (v : Int) (hv : ((num big X k 4 : Nat) : Int) = v) :
  Calls Tryd.prog 87 #[aP big, .slice (some ⟨g, k, none⟩) m m] w fun e w' => e = .returned (.int .u32 v) ∧ ∃ i, w' = w.drewN i := by
 have hr := (qJ hg).drop_at k
 rw [← List.map_drop, Nat.zero_add] at hr
 rw [← hv]
 exact yX big (X.drop k) _ m m (by omega) (by simp; omega) (Nat.le_refl _) (by omega) w hr
theorem nZ {w : World} {g : Nat} {X : List UInt8} {t : TypeId} (hg : w.heap[g]? = some (.cells (X.map Bv).toArray t (0, 0))) (hX : X.length ≤ maxLen) (big : Bool) (k m : Nat) (hm : m + k = X.length) (hk : k + 8 ≤ X.length) (v : Int) (hv : ((num big X k 8 : Nat) : Int) = v) :
  Calls Tryd.prog 88 #[aP big, .slice (some ⟨g, k, none⟩) m m] w fun e w' => e = .returned (.int .u64 v) ∧ ∃ i, w' = w.drewN i := by
 have hr := (qJ hg).drop_at k
 rw [← List.map_drop, Nat.zero_add] at hr
 rw [← hv]
 exact JM big (X.drop k) _ m m (by omega) (by simp; omega) (Nat.le_refl _) (by omega) w hr

abbrev nV := fun (fb : Nat) (dat : Int) (abi : Nat) (aC : Nat) (big : Bool) => ((fb, .cells #[aN 1, .int .u8 dat, aN 1, aV abi, aV aC, (aP big), .int .u16 0, .int .u16 0, bD 0, aK, aK, aK, aK, aK] 131 (0, 0)) : Nat × Obj)
abbrev dB := fun (s : Nat) (b : Nat) (o : Nat) (n : Nat) (c : Nat) => ((s, .cells #[.iface 178 (.slice (some ⟨b, o, none⟩) n c), aA 0, aA 0, aA 9223372036854775807, aA 9223372036854775807] 246 (0, 0)) : Nat × Obj)
abbrev dW := fun (b : Nat) (o : Nat) (n : Nat) (c : Nat) (s : Nat) (fb : Nat) (big : Bool) => ([(0, .iface 178 (.slice (some ⟨b, o, none⟩) n c)), (4, aG s), (8, aG fb), (9, (aP big))] : Slots)
abbrev fE := fun (fb : Nat) (dat : Int) (abi : Nat) (aC : Nat) (big : Bool) (aQ : Nat) (aF : Nat) (ay : Nat) => ((fb, .cells #[aN 1, .int .u8 dat, aN 1, aV abi, aV aC, (aP big), aZ aQ, aZ aF, aJ ay, aK, aK, aK, aK, aK] 131 (0, 0)) : Nat × Obj)
abbrev Bq := fun (fb : Nat) (dat : Int) (abi : Nat) (aC : Nat) (big : Bool) (aQ : Nat) => ((fb, .cells #[aN 1, .int .u8 dat, aN 1, aV abi, aV aC, (aP big), aZ aQ, .int .u16 0, bD 0, aK, aK, aK, aK, aK] 131 (0, 0)) : Nat × Obj)
abbrev yg := fun (fb : Nat) (dat : Int) (abi : Nat) (aC : Nat) (big : Bool) (aQ : Nat) (aF : Nat) => ((fb, .cells #[aN 1, .int .u8 dat, aN 1, aV abi, aV aC, (aP big), aZ aQ, aZ aF, bD 0, aK, aK, aK, aK, aK] 131 (0, 0)) : Nat × Obj)
abbrev kU := fun (b : Nat) (o : Nat) (n : Nat) (c : Nat) (s : Nat) (fb : Nat) (big : Bool) g (ak : Nat) => ((dW b o n c s fb big) ++ [(17, aH g 52 52), (10, aB ak)] : Slots)
abbrev kT := fun (b : Nat) (o : Nat) (n : Nat) (c : Nat) (s : Nat) (fb : Nat) (big : Bool) g (ak : Nat) (aj : Nat) (au : Nat) => ((kU b o n c s fb big g ak) ++ [(11, aA 32), (12, aB aj), (13, aB au)] : Slots)
theorem Et (l : List UInt8) (b o n c : Nat) (hl : n = l.length) (hnc : n ≤ c) (hn : 52 ≤ n) (big : Bool) (abi aC aQ aF ay ak aj au ah : Nat) (dat : Int) (H : yU l false big abi aC aQ aF ay ak aj au ah) (b1 : aQ < 65536) (b2 : aF < 65536) (b3 : ay ≤ 18446744073709551615) (b4 : ak < 4611686018427387904) (b5 : au < 4611686018427387904) (b6 : aj < 200) (b7 : ah < 200) {Q : Exit → Act → World → Prop} (w0 : World) (hbl : b < w0.heap.size) (hr : Row w0 (some ⟨b, o, none⟩) (l.map Bv)) (a : Act) (w : World) (s fb : Nat) (HF : Fr 1287 a (dW b o n c s fb big)) (HM : Mm [] w0 w [nV fb dat abi aC big, dB s b o n c])
  (K : ∀ a w, Fr 1287 a ((dW b o n c s fb big) ++ [(10, aB ak), (11, aA 32), (12, aB aj), (13, aB au), (14, aA 40), (15, aB ah), (16, aB (ah - 1))]) → Mm [] w0 w [fE fb dat abi aC big aQ aF ay, dB s b o n c] → (spine Tryd.f78 21).wp Tryd.prog Q a w) : (spine Tryd.f78 20).wp Tryd.prog Q a w := by
 obtain ⟨X, hX⟩ : ∃ X, (l.drop (0 + 0)).take 52 = X := ⟨_, rfl⟩
 have nI : X.length = 52 := by rw [← hX]; simp; omega
 have hnum : ∀ k s, k + s ≤ 52 → num big X k s = num big l k s := fun k s h => by rw [← hX, Nat.zero_add, List.drop_zero, Dz _ _ _ _ _ h]
 have He : num big l 24 4 = ay := H.entry
 have Hp : num big l 28 4 = ak := H.J5
 have Hs : num big l 32 4 = au := H.kJ
 have Hpe : num big l 42 2 = 32 := H.J7
 have Hpn : num big l 44 2 = aj := H.J6
 have Hse : num big l 46 2 = 40 := H.JX
 have Hsn : num big l 48 2 = ah := H.JW
 have Hst : num big l 50 2 = ah - 1 := H.vI
 refine wp_seq ?_
 refine bC HF HM rfl [[1]] ((dW b o n c s fb big) ++ [(188, aN 1)]) [nV fb dat abi aC big, dB s b o n c] (by kernel_rfl) ?_
 clear HF HM; intro a w HF HM
 refine wp_block ?_
 refine bC HF HM rfl [] ((dW b o n c s fb big) ++ [(188, aN 1), (189, .bool true)]) [nV fb dat abi aC big, dB s b o n c] (by kernel_rfl) ?_
 clear HF HM; intro a w HF HM
 refine bF HF rfl ?_
 replace HF := HF.sub (dW b o n c s fb big) (by kernel_rfl)
 refine wp_seq (wp_region_lit ?_)
 refine su HF HM rfl _ _ 33 rfl rfl 5 (aN 0) 1 Tryd.underlying33 qM rfl .i64 .i64 52 rfl rfl (by omega) (by omega) ?_
 intro a2 w1 g hgw hbel bI HF2; have hg0 : w0.heap.size ≤ g := Nat.le_trans HM.size hgw; clear HF HM hbel hgw; have HM := bI; have HF := HF2; clear bI HF2
 replace HF := HF.sub ((dW b o n c s fb big) ++ [(191, aH g 52 52)]) (by kernel_rfl)
 refine aO HF HM rfl 1 [] ((dW b o n c s fb big) ++ [(17, aH g 52 52)]) [(g, .cells (madeCells #[aN 0] 52) 5 (0, 0)), nV fb dat abi aC big, dB s b o n c] (by kernel_rfl) ?_
 clear HF HM; intro a w HF HM
 refine aI ?_
 have hbg : b ≠ g := by omega
 have hbs : b ≠ s := fun e => absurd hbl (Nat.not_lt_of_le (e ▸ HM.ge (i := 2) rfl))
 refine wp_seq ?_
 refine wp_seq (wp_region_lit ?_)
 refine aO HF HM rfl 2 [] ((dW b o n c s fb big) ++ [(17, aH g 52 52), (193, aG s), (194, aH g 52 52)]) [(g, .cells (madeCells #[aN 0] 52) 5 (0, 0)), nV fb dat abi aC big, dB s b o n c] (by kernel_rfl) ?_
 clear HF HM; intro a w HF HM
 refine bn HF (by kernel_rfl) 93 #[aG s, aH g 52 52, aB 0] (by kernel_rfl) (fun w => by kernel_rfl) (Calls.mono (xC l b o n c hl hnc g s _ 5 52 52 (kM _ _) 0 0 0 9223372036854775807 9223372036854775807 (by omega) (by omega) (by omega) (by omega) (by omega) w (HM.row hr (by intro b' o' s' _; simp)) hbg hbs (HM.ne (i := 2) (j := 0) rfl rfl (by decide)) (HM.get (i := 2) rfl) (HM.get (i := 0) rfl)) ?_)
 rintro _ w2 ⟨rfl, hkp, hsn, hgn⟩
 rw [hX] at hgn
 replace HM : Mm [] w0 w2 [(g, .cells (X.map Bv).toArray 5 (0, 0)), nV fb dat abi aC big, dB s b o n c] := HM.Bc (i := 2) (j := 0) rfl rfl (by decide) hsn hgn hkp
 clear hkp hsn hgn
 refine ⟨_, rfl, ?_⟩; clear HF; intro a HF; replace HF := HF.sub ((dW b o n c s fb big) ++ [(17, aH g 52 52), (193, aG s), (194, aH g 52 52), (195, .tuple #[aB 52, .nilIface])]) (by kernel_rfl)
 refine aO HF HM rfl 5 [] ((dW b o n c s fb big) ++ [(17, aH g 52 52), (19, .nilIface)]) [(g, .cells (X.map Bv).toArray 5 (0, 0)), nV fb dat abi aC big, dB s b o n c] (by kernel_rfl) ?_
 clear HF HM; intro a w HF HM
 refine aI ?_
 refine wp_seq (wp_region_lit ?_)
 refine aO HF HM rfl 2 [] ((dW b o n c s fb big) ++ [(17, aH g 52 52), (19, .nilIface), (199, .bool false)]) [(g, .cells (X.map Bv).toArray 5 (0, 0)), nV fb dat abi aC big, dB s b o n c] (by kernel_rfl) ?_
 clear HF HM; intro a w HF HM
 refine aI ?_
 refine bf HF rfl ?_
 refine wp_skip ?_
 repeat (first | refine aS ?_ | refine aU ?_)
 replace HF := HF.sub ((dW b o n c s fb big) ++ [(17, aH g 52 52)]) (by kernel_rfl)
 refine wp_seq (wp_region_lit ?_)
 refine aO HF HM rfl 4 [] ((dW b o n c s fb big) ++ [(17, aH g 52 52), (201, aG fb), (202, (aP big)), (204, .slice (some ⟨g, 16, none⟩) 36 36)]) [(g, .cells (X.map Bv).toArray 5 (0, 0)), nV fb dat abi aC big, dB s b o n c] (by kernel_rfl) ?_
 clear HF HM; intro a w HF HM
 refine bn HF (by kernel_rfl) 94 #[(aP big), .slice (some ⟨g, 16, none⟩) 36 36] (by kernel_rfl) (fun w => by kernel_rfl) (Calls.mono (oI (HM.get (i := 0) rfl) big 16 36 (by omega) (by omega) ((aQ : Nat) : Int) (by rw [hnum 16 2 (by omega), H.ty])) ?_)
 rintro _ w3 ⟨rfl, jG, hq⟩
 replace HM : Mm [] w0 w3 [(g, .cells (X.map Bv).toArray 5 (0, 0)), nV fb dat abi aC big, dB s b o n c] := by rw [hq]; exact HM.drewN _
 clear hq
 refine ⟨_, rfl, ?_⟩; clear HF; intro a HF; replace HF := HF.sub ((dW b o n c s fb big) ++ [(17, aH g 52 52), (201, aG fb), (202, (aP big)), (204, .slice (some ⟨g, 16, none⟩) 36 36), (205, aZ aQ)]) (by kernel_rfl)
 replace HF := HF.sub ((dW b o n c s fb big) ++ [(17, aH g 52 52), (201, aG fb), (205, aZ aQ)]) (by kernel_rfl)
 refine aO HF HM rfl 4 [[1]] ((dW b o n c s fb big) ++ [(17, aH g 52 52)]) [(g, .cells (X.map Bv).toArray 5 (0, 0)), Bq fb dat abi aC big aQ, dB s b o n c] (by kernel_rfl) ?_
 clear HF HM; intro a w HF HM
 refine aI ?_
 refine wp_seq (wp_region_lit ?_)
 refine aO HF HM rfl 4 [] ((dW b o n c s fb big) ++ [(17, aH g 52 52), (209, aG fb), (210, (aP big)), (212, .slice (some ⟨g, 18, none⟩) 34 34)]) [(g, .cells (X.map Bv).toArray 5 (0, 0)), Bq fb dat abi aC big aQ, dB s b o n c] (by kernel_rfl) ?_
 clear HF HM; intro a w HF HM
 refine bn HF (by kernel_rfl) 94 #[(aP big), .slice (some ⟨g, 18, none⟩) 34 34] (by kernel_rfl) (fun w => by kernel_rfl) (Calls.mono (oI (HM.get (i := 0) rfl) big 18 34 (by omega) (by omega) ((aF : Nat) : Int) (by rw [hnum 18 2 (by omega), H.machine])) ?_)
 rintro _ w4 ⟨rfl, jG, hq⟩
 replace HM : Mm [] w0 w4 [(g, .cells (X.map Bv).toArray 5 (0, 0)), Bq fb dat abi aC big aQ, dB s b o n c] := by rw [hq]; exact HM.drewN _
 clear hq
 refine ⟨_, rfl, ?_⟩; clear HF; intro a HF; replace HF := HF.sub ((dW b o n c s fb big) ++ [(17, aH g 52 52), (209, aG fb), (210, (aP big)), (212, .slice (some ⟨g, 18, none⟩) 34 34), (213, aZ aF)]) (by kernel_rfl)
 replace HF := HF.sub ((dW b o n c s fb big) ++ [(17, aH g 52 52), (209, aG fb), (213, aZ aF)]) (by kernel_rfl)
 refine aO HF HM rfl 4 [[1]] ((dW b o n c s fb big) ++ [(17, aH g 52 52)]) [(g, .cells (X.map Bv).toArray 5 (0, 0)), yg fb dat abi aC big aQ aF, dB s b o n c] (by kernel_rfl) ?_
 clear HF HM; intro a w HF HM
 refine aI ?_
 refine wp_seq (wp_region_lit ?_)
 refine aO HF HM rfl 4 [] ((dW b o n c s fb big) ++ [(17, aH g 52 52), (217, aG fb), (218, (aP big)), (220, .slice (some ⟨g, 24, none⟩) 28 28)]) [(g, .cells (X.map Bv).toArray 5 (0, 0)), yg fb dat abi aC big aQ aF, dB s b o n c] (by kernel_rfl) ?_
 clear HF HM; intro a w HF HM
 refine bn HF (by kernel_rfl) 87 #[(aP big), .slice (some ⟨g, 24, none⟩) 28 28] (by kernel_rfl) (fun w => by kernel_rfl) (Calls.mono (jB (HM.get (i := 0) rfl) (by unfold maxLen; omega) big 24 28 (by omega) (by omega) ((ay : Nat) : Int) (by rw [hnum 24 4 (by omega), He])) ?_)
 rintro _ w5 ⟨rfl, jG, hq⟩
 replace HM : Mm [] w0 w5 [(g, .cells (X.map Bv).toArray 5 (0, 0)), yg fb dat abi aC big aQ aF, dB s b o n c] := by rw [hq]; exact HM.drewN _
 clear hq
 refine ⟨_, rfl, ?_⟩; clear HF; intro a HF; replace HF := HF.sub ((dW b o n c s fb big) ++ [(17, aH g 52 52), (217, aG fb), (218, (aP big)), (220, .slice (some ⟨g, 24, none⟩) 28 28), (221, aY ay)]) (by kernel_rfl)
 replace HF := HF.sub ((dW b o n c s fb big) ++ [(17, aH g 52 52), (217, aG fb), (221, aY ay)]) (by kernel_rfl)
 refine aO HF HM rfl 1 [] ((dW b o n c s fb big) ++ [(17, aH g 52 52), (217, aG fb), (222, bD (IntKind.u64.wrap ((ay : Nat) : Int)))]) [(g, .cells (X.map Bv).toArray 5 (0, 0)), yg fb dat abi aC big aQ aF, dB s b o n c] (by kernel_rfl) ?_
 clear HF HM; intro a w HF HM
 rw [show IntKind.u64.wrap ((ay : Nat) : Int) = ((ay : Nat) : Int) from IntWalk.u64_in _ (by omega)] at HF
 refine aO HF HM rfl 4 [[1]] ((dW b o n c s fb big) ++ [(17, aH g 52 52)]) [(g, .cells (X.map Bv).toArray 5 (0, 0)), fE fb dat abi aC big aQ aF ay, dB s b o n c] (by kernel_rfl) ?_
 clear HF HM; intro a w HF HM
 refine aI ?_
 refine wp_seq ?_
 refine wp_seq (wp_region_lit ?_)
 refine aO HF HM rfl 3 [] ((dW b o n c s fb big) ++ [(17, aH g 52 52), (226, (aP big)), (228, .slice (some ⟨g, 20, none⟩) 32 32)]) [(g, .cells (X.map Bv).toArray 5 (0, 0)), fE fb dat abi aC big aQ aF ay, dB s b o n c] (by kernel_rfl) ?_
 clear HF HM; intro a w HF HM
 refine bn HF (by kernel_rfl) 87 #[(aP big), .slice (some ⟨g, 20, none⟩) 32 32] (by kernel_rfl) (fun w => by kernel_rfl) (Calls.mono (jB (HM.get (i := 0) rfl) (by unfold maxLen; omega) big 20 32 (by omega) (by omega) ((1 : Nat) : Int) (by rw [hnum 20 4 (by omega), H.ver])) ?_)
 rintro _ w6 ⟨rfl, jG, hq⟩
 replace HM : Mm [] w0 w6 [(g, .cells (X.map Bv).toArray 5 (0, 0)), fE fb dat abi aC big aQ aF ay, dB s b o n c] := by rw [hq]; exact HM.drewN _
 clear hq
 refine ⟨_, rfl, ?_⟩; clear HF; intro a HF; replace HF := HF.sub ((dW b o n c s fb big) ++ [(17, aH g 52 52), (226, (aP big)), (228, .slice (some ⟨g, 20, none⟩) 32 32), (229, aY 1)]) (by kernel_rfl)
 replace HF := HF.sub ((dW b o n c s fb big) ++ [(17, aH g 52 52), (229, aY 1)]) (by kernel_rfl)
 refine aO HF HM rfl 2 [] ((dW b o n c s fb big) ++ [(17, aH g 52 52), (20, aN 1)]) [(g, .cells (X.map Bv).toArray 5 (0, 0)), fE fb dat abi aC big aQ aF ay, dB s b o n c] (by kernel_rfl) ?_
 clear HF HM; intro a w HF HM
 refine aI ?_
 refine wp_seq (wp_region_lit ?_)
 refine aO HF HM rfl 7 [[1]] ((dW b o n c s fb big) ++ [(17, aH g 52 52), (237, .bool false)]) [(g, .cells (X.map Bv).toArray 5 (0, 0)), fE fb dat abi aC big aQ aF ay, dB s b o n c] (by kernel_rfl) ?_
 clear HF HM; intro a w HF HM
 refine aI ?_
 refine bf HF rfl ?_
 refine wp_skip ?_
 repeat (first | refine aS ?_ | refine aU ?_)
 replace HF := HF.sub ((dW b o n c s fb big) ++ [(17, aH g 52 52)]) (by kernel_rfl)
 refine wp_seq (wp_region_lit ?_)
 refine aO HF HM rfl 3 [] ((dW b o n c s fb big) ++ [(17, aH g 52 52), (243, (aP big)), (245, .slice (some ⟨g, 28, none⟩) 24 24)]) [(g, .cells (X.map Bv).toArray 5 (0, 0)), fE fb dat abi aC big aQ aF ay, dB s b o n c] (by kernel_rfl) ?_
 clear HF HM; intro a w HF HM
 refine bn HF (by kernel_rfl) 87 #[(aP big), .slice (some ⟨g, 28, none⟩) 24 24] (by kernel_rfl) (fun w => by kernel_rfl) (Calls.mono (jB (HM.get (i := 0) rfl) (by unfold maxLen; omega) big 28 24 (by omega) (by omega) ((ak : Nat) : Int) (by rw [hnum 28 4 (by omega), Hp])) ?_)
 rintro _ w7 ⟨rfl, jG, hq⟩
 replace HM : Mm [] w0 w7 [(g, .cells (X.map Bv).toArray 5 (0, 0)), fE fb dat abi aC big aQ aF ay, dB s b o n c] := by rw [hq]; exact HM.drewN _
 clear hq
 refine ⟨_, rfl, ?_⟩; clear HF; intro a HF; replace HF := HF.sub ((dW b o n c s fb big) ++ [(17, aH g 52 52), (243, (aP big)), (245, .slice (some ⟨g, 28, none⟩) 24 24), (246, aY ak)]) (by kernel_rfl)
 replace HF := HF.sub ((dW b o n c s fb big) ++ [(17, aH g 52 52), (246, aY ak)]) (by kernel_rfl)
 refine aO HF HM rfl 1 [] ((dW b o n c s fb big) ++ [(17, aH g 52 52), (247, aA (IntKind.i64.wrap ((ak : Nat) : Int)))]) [(g, .cells (X.map Bv).toArray 5 (0, 0)), fE fb dat abi aC big aQ aF ay, dB s b o n c] (by kernel_rfl) ?_
 clear HF HM; intro a w HF HM
 rw [show IntKind.i64.wrap ((ak : Nat) : Int) = ((ak : Nat) : Int) from IntWalk.i64_in _ (by omega)] at HF
 refine aO HF HM rfl 1 [] (kU b o n c s fb big g ak) [(g, .cells (X.map Bv).toArray 5 (0, 0)), fE fb dat abi aC big aQ aF ay, dB s b o n c] (by kernel_rfl) ?_
 clear HF HM; intro a w HF HM
 refine aI ?_
 refine wp_seq (wp_region_lit ?_)
 refine aO HF HM rfl 3 [] ((kU b o n c s fb big g ak) ++ [(248, (aP big)), (250, .slice (some ⟨g, 42, none⟩) 10 10)]) [(g, .cells (X.map Bv).toArray 5 (0, 0)), fE fb dat abi aC big aQ aF ay, dB s b o n c] (by kernel_rfl) ?_
 clear HF HM; intro a w HF HM
 refine bn HF (by kernel_rfl) 94 #[(aP big), .slice (some ⟨g, 42, none⟩) 10 10] (by kernel_rfl) (fun w => by kernel_rfl) (Calls.mono (oI (HM.get (i := 0) rfl) big 42 10 (by omega) (by omega) ((32 : Nat) : Int) (by rw [hnum 42 2 (by omega), Hpe])) ?_)
 rintro _ w8 ⟨rfl, jG, hq⟩
 replace HM : Mm [] w0 w8 [(g, .cells (X.map Bv).toArray 5 (0, 0)), fE fb dat abi aC big aQ aF ay, dB s b o n c] := by rw [hq]; exact HM.drewN _
 clear hq
 refine ⟨_, rfl, ?_⟩; clear HF; intro a HF; replace HF := HF.sub ((kU b o n c s fb big g ak) ++ [(248, (aP big)), (250, .slice (some ⟨g, 42, none⟩) 10 10), (251, aZ 32)]) (by kernel_rfl)
 replace HF := HF.sub ((kU b o n c s fb big g ak) ++ [(251, aZ 32)]) (by kernel_rfl)
 refine aO HF HM rfl 2 [] ((kU b o n c s fb big g ak) ++ [(11, aA 32)]) [(g, .cells (X.map Bv).toArray 5 (0, 0)), fE fb dat abi aC big aQ aF ay, dB s b o n c] (by kernel_rfl) ?_
 clear HF HM; intro a w HF HM
 refine aI ?_
 refine wp_seq (wp_region_lit ?_)
 refine aO HF HM rfl 3 [] ((kU b o n c s fb big g ak) ++ [(11, aA 32), (253, (aP big)), (255, .slice (some ⟨g, 44, none⟩) 8 8)]) [(g, .cells (X.map Bv).toArray 5 (0, 0)), fE fb dat abi aC big aQ aF ay, dB s b o n c] (by kernel_rfl) ?_
 clear HF HM; intro a w HF HM
 refine bn HF (by kernel_rfl) 94 #[(aP big), .slice (some ⟨g, 44, none⟩) 8 8] (by kernel_rfl) (fun w => by kernel_rfl) (Calls.mono (oI (HM.get (i := 0) rfl) big 44 8 (by omega) (by omega) ((aj : Nat) : Int) (by rw [hnum 44 2 (by omega), Hpn])) ?_)
 rintro _ w9 ⟨rfl, jG, hq⟩
 replace HM : Mm [] w0 w9 [(g, .cells (X.map Bv).toArray 5 (0, 0)), fE fb dat abi aC big aQ aF ay, dB s b o n c] := by rw [hq]; exact HM.drewN _
 clear hq
 refine ⟨_, rfl, ?_⟩; clear HF; intro a HF; replace HF := HF.sub ((kU b o n c s fb big g ak) ++ [(11, aA 32), (253, (aP big)), (255, .slice (some ⟨g, 44, none⟩) 8 8), (256, aZ aj)]) (by kernel_rfl)
 replace HF := HF.sub ((kU b o n c s fb big g ak) ++ [(11, aA 32), (256, aZ aj)]) (by kernel_rfl)
 refine aO HF HM rfl 1 [] ((kU b o n c s fb big g ak) ++ [(11, aA 32), (257, aA (IntKind.i64.wrap ((aj : Nat) : Int)))]) [(g, .cells (X.map Bv).toArray 5 (0, 0)), fE fb dat abi aC big aQ aF ay, dB s b o n c] (by kernel_rfl) ?_
 clear HF HM; intro a w HF HM
 rw [show IntKind.i64.wrap ((aj : Nat) : Int) = ((aj : Nat) : Int) from IntWalk.i64_in _ (by omega)] at HF
 refine aO HF HM rfl 1 [] ((kU b o n c s fb big g ak) ++ [(11, aA 32), (12, aB aj)]) [(g, .cells (X.map Bv).toArray 5 (0, 0)), fE fb dat abi aC big aQ aF ay, dB s b o n c] (by kernel_rfl) ?_
 clear HF HM; intro a w HF HM
 refine aI ?_
 refine wp_seq (wp_region_lit ?_)
 refine aO HF HM rfl 3 [] ((kU b o n c s fb big g ak) ++ [(11, aA 32), (12, aB aj), (258, (aP big)), (260, .slice (some ⟨g, 32, none⟩) 20 20)]) [(g, .cells (X.map Bv).toArray 5 (0, 0)), fE fb dat abi aC big aQ aF ay, dB s b o n c] (by kernel_rfl) ?_
 clear HF HM; intro a w HF HM
 refine bn HF (by kernel_rfl) 87 #[(aP big), .slice (some ⟨g, 32, none⟩) 20 20] (by kernel_rfl) (fun w => by kernel_rfl) (Calls.mono (jB (HM.get (i := 0) rfl) (by unfold maxLen; omega) big 32 20 (by omega) (by omega) ((au : Nat) : Int) (by rw [hnum 32 4 (by omega), Hs])) ?_)
 rintro _ w10 ⟨rfl, jG, hq⟩
 replace HM : Mm [] w0 w10 [(g, .cells (X.map Bv).toArray 5 (0, 0)), fE fb dat abi aC big aQ aF ay, dB s b o n c] := by rw [hq]; exact HM.drewN _
 clear hq
 refine ⟨_, rfl, ?_⟩; clear HF; intro a HF; replace HF := HF.sub ((kU b o n c s fb big g ak) ++ [(11, aA 32), (12, aB aj), (258, (aP big)), (260, .slice (some ⟨g, 32, none⟩) 20 20), (261, aY au)]) (by kernel_rfl)
 replace HF := HF.sub ((kU b o n c s fb big g ak) ++ [(11, aA 32), (12, aB aj), (261, aY au)]) (by kernel_rfl)
 refine aO HF HM rfl 1 [] ((kU b o n c s fb big g ak) ++ [(11, aA 32), (12, aB aj), (262, aA (IntKind.i64.wrap ((au : Nat) : Int)))]) [(g, .cells (X.map Bv).toArray 5 (0, 0)), fE fb dat abi aC big aQ aF ay, dB s b o n c] (by kernel_rfl) ?_
 clear HF HM; intro a w HF HM
 rw [show IntKind.i64.wrap ((au : Nat) : Int) = ((au : Nat) : Int) from IntWalk.i64_in _ (by omega)] at HF
 refine aO HF HM rfl 1 [] (kT b o n c s fb big g ak aj au) [(g, .cells (X.map Bv).toArray 5 (0, 0)), fE fb dat abi aC big aQ aF ay, dB s b o n c] (by kernel_rfl) ?_
 clear HF HM; intro a w HF HM
 refine aI ?_
 refine wp_seq (wp_region_lit ?_)
 refine aO HF HM rfl 3 [] ((kT b o n c s fb big g ak aj au) ++ [(263, (aP big)), (265, .slice (some ⟨g, 46, none⟩) 6 6)]) [(g, .cells (X.map Bv).toArray 5 (0, 0)), fE fb dat abi aC big aQ aF ay, dB s b o n c] (by kernel_rfl) ?_
 clear HF HM; intro a w HF HM
 refine bn HF (by kernel_rfl) 94 #[(aP big), .slice (some ⟨g, 46, none⟩) 6 6] (by kernel_rfl) (fun w => by kernel_rfl) (Calls.mono (oI (HM.get (i := 0) rfl) big 46 6 (by omega) (by omega) ((40 : Nat) : Int) (by rw [hnum 46 2 (by omega), Hse])) ?_)
 rintro _ wS ⟨rfl, jG, hq⟩
 replace HM : Mm [] w0 wS [(g, .cells (X.map Bv).toArray 5 (0, 0)), fE fb dat abi aC big aQ aF ay, dB s b o n c] := by rw [hq]; exact HM.drewN _
 clear hq
 refine ⟨_, rfl, ?_⟩; clear HF; intro a HF; replace HF := HF.sub ((kT b o n c s fb big g ak aj au) ++ [(263, (aP big)), (265, .slice (some ⟨g, 46, none⟩) 6 6), (266, aZ 40)]) (by kernel_rfl)
 replace HF := HF.sub ((kT b o n c s fb big g ak aj au) ++ [(266, aZ 40)]) (by kernel_rfl)
 refine aO HF HM rfl 2 [] ((kT b o n c s fb big g ak aj au) ++ [(14, aA 40)]) [(g, .cells (X.map Bv).toArray 5 (0, 0)), fE fb dat abi aC big aQ aF ay, dB s b o n c] (by kernel_rfl) ?_
 clear HF HM; intro a w HF HM
 refine aI ?_
 refine wp_seq (wp_region_lit ?_)
 refine aO HF HM rfl 3 [] ((kT b o n c s fb big g ak aj au) ++ [(14, aA 40), (268, (aP big)), (270, .slice (some ⟨g, 48, none⟩) 4 4)]) [(g, .cells (X.map Bv).toArray 5 (0, 0)), fE fb dat abi aC big aQ aF ay, dB s b o n c] (by kernel_rfl) ?_
 clear HF HM; intro a w HF HM
 refine bn HF (by kernel_rfl) 94 #[(aP big), .slice (some ⟨g, 48, none⟩) 4 4] (by kernel_rfl) (fun w => by kernel_rfl) (Calls.mono (oI (HM.get (i := 0) rfl) big 48 4 (by omega) (by omega) ((ah : Nat) : Int) (by rw [hnum 48 2 (by omega), Hsn])) ?_)
 rintro _ w12 ⟨rfl, jG, hq⟩
 replace HM : Mm [] w0 w12 [(g, .cells (X.map Bv).toArray 5 (0, 0)), fE fb dat abi aC big aQ aF ay, dB s b o n c] := by rw [hq]; exact HM.drewN _
 clear hq
 refine ⟨_, rfl, ?_⟩; clear HF; intro a HF; replace HF := HF.sub ((kT b o n c s fb big g ak aj au) ++ [(14, aA 40), (268, (aP big)), (270, .slice (some ⟨g, 48, none⟩) 4 4), (271, aZ ah)]) (by kernel_rfl)
 replace HF := HF.sub ((kT b o n c s fb big g ak aj au) ++ [(14, aA 40), (271, aZ ah)]) (by kernel_rfl)
 refine aO HF HM rfl 1 [] ((kT b o n c s fb big g ak aj au) ++ [(14, aA 40), (272, aA (IntKind.i64.wrap ((ah : Nat) : Int)))]) [(g, .cells (X.map Bv).toArray 5 (0, 0)), fE fb dat abi aC big aQ aF ay, dB s b o n c] (by kernel_rfl) ?_
 clear HF HM; intro a w HF HM
 rw [show IntKind.i64.wrap ((ah : Nat) : Int) = ((ah : Nat) : Int) from IntWalk.i64_in _ (by omega)] at HF
 refine aO HF HM rfl 1 [] ((kT b o n c s fb big g ak aj au) ++ [(14, aA 40), (15, aB ah)]) [(g, .cells (X.map Bv).toArray 5 (0, 0)), fE fb dat abi aC big aQ aF ay, dB s b o n c] (by kernel_rfl) ?_
 clear HF HM; intro a w HF HM
 refine aI ?_
 refine wp_region_lit ?_
 refine aO HF HM rfl 3 [] ((kT b o n c s fb big g ak aj au) ++ [(14, aA 40), (15, aB ah), (273, (aP big)), (275, .slice (some ⟨g, 50, none⟩) 2 2)]) [(g, .cells (X.map Bv).toArray 5 (0, 0)), fE fb dat abi aC big aQ aF ay, dB s b o n c] (by kernel_rfl) ?_
 clear HF HM; intro a w HF HM
 refine bn HF (by kernel_rfl) 94 #[(aP big), .slice (some ⟨g, 50, none⟩) 2 2] (by kernel_rfl) (fun w => by kernel_rfl) (Calls.mono (oI (HM.get (i := 0) rfl) big 50 2 (by omega) (by omega) (((ah - 1) : Nat) : Int) (by rw [hnum 50 2 (by omega), Hst])) ?_)
 rintro _ AP ⟨rfl, jG, hq⟩
 replace HM : Mm [] w0 AP [(g, .cells (X.map Bv).toArray 5 (0, 0)), fE fb dat abi aC big aQ aF ay, dB s b o n c] := by rw [hq]; exact HM.drewN _
 clear hq
 refine ⟨_, rfl, ?_⟩; clear HF; intro a HF; replace HF := HF.sub ((kT b o n c s fb big g ak aj au) ++ [(14, aA 40), (15, aB ah), (273, (aP big)), (275, .slice (some ⟨g, 50, none⟩) 2 2), (276, aZ (ah - 1))]) (by kernel_rfl)
 replace HF := HF.sub ((kT b o n c s fb big g ak aj au) ++ [(14, aA 40), (15, aB ah), (276, aZ (ah - 1))]) (by kernel_rfl)
 refine aO HF HM rfl 1 [] ((kT b o n c s fb big g ak aj au) ++ [(14, aA 40), (15, aB ah), (277, aA (IntKind.i64.wrap (((ah - 1) : Nat) : Int)))]) [(g, .cells (X.map Bv).toArray 5 (0, 0)), fE fb dat abi aC big aQ aF ay, dB s b o n c] (by kernel_rfl) ?_
 clear HF HM; intro a w HF HM
 rw [show IntKind.i64.wrap (((ah - 1) : Nat) : Int) = (((ah - 1) : Nat) : Int) from IntWalk.i64_in _ (by omega)] at HF
 refine aO HF HM rfl 1 [] ((kT b o n c s fb big g ak aj au) ++ [(14, aA 40), (15, aB ah), (16, aB (ah - 1))]) [(g, .cells (X.map Bv).toArray 5 (0, 0)), fE fb dat abi aC big aQ aF ay, dB s b o n c] (by kernel_rfl) ?_
 clear HF HM; intro a w HF HM
 refine wpList_nil ?_
 repeat (first | refine aS ?_ | refine aU ?_)
 replace HF := HF.sub ((dW b o n c s fb big) ++ [(10, aB ak), (11, aA 32), (12, aB aj), (13, aB au), (14, aA 40), (15, aB ah), (16, aB (ah - 1))]) (by kernel_rfl)
 exact K a w HF (HM.sub (List.Sublist.cons _ (List.Sublist.refl _)))

abbrev mW := fun (fb : Nat) (dat : Int) (abi : Nat) (aC : Nat) (big : Bool) => ((fb, .cells #[aN 2, .int .u8 dat, aN 1, aV abi, aV aC, (aP big), .int .u16 0, .int .u16 0, bD 0, aK, aK, aK, aK, aK] 131 (0, 0)) : Nat × Obj)
abbrev dA := fun (s : Nat) (b : Nat) (o : Nat) (n : Nat) (c : Nat) => ((s, .cells #[.iface 178 (.slice (some ⟨b, o, none⟩) n c), aA 0, aA 0, aA 9223372036854775807, aA 9223372036854775807] 246 (0, 0)) : Nat × Obj)
abbrev dV := fun (b : Nat) (o : Nat) (n : Nat) (c : Nat) (s : Nat) (fb : Nat) (big : Bool) => ([(0, .iface 178 (.slice (some ⟨b, o, none⟩) n c)), (4, aG s), (8, aG fb), (9, (aP big))] : Slots)
abbrev fD := fun (fb : Nat) (dat : Int) (abi : Nat) (aC : Nat) (big : Bool) (aQ : Nat) (aF : Nat) (ay : Nat) => ((fb, .cells #[aN 2, .int .u8 dat, aN 1, aV abi, aV aC, (aP big), aZ aQ, aZ aF, aJ ay, aK, aK, aK, aK, aK] 131 (0, 0)) : Nat × Obj)
abbrev Bo := fun (fb : Nat) (dat : Int) (abi : Nat) (aC : Nat) (big : Bool) (aQ : Nat) => ((fb, .cells #[aN 2, .int .u8 dat, aN 1, aV abi, aV aC, (aP big), aZ aQ, .int .u16 0, bD 0, aK, aK, aK, aK, aK] 131 (0, 0)) : Nat × Obj)
abbrev Bl := fun (fb : Nat) (dat : Int) (abi : Nat) (aC : Nat) (big : Bool) (aQ : Nat) (aF : Nat) => ((fb, .cells #[aN 2, .int .u8 dat, aN 1, aV abi, aV aC, (aP big), aZ aQ, aZ aF, bD 0, aK, aK, aK, aK, aK] 131 (0, 0)) : Nat × Obj)
abbrev kS := fun (b : Nat) (o : Nat) (n : Nat) (c : Nat) (s : Nat) (fb : Nat) (big : Bool) g (ak : Nat) => ((dV b o n c s fb big) ++ [(21, aH g 64 64), (10, aB ak)] : Slots)
abbrev kR := fun (b : Nat) (o : Nat) (n : Nat) (c : Nat) (s : Nat) (fb : Nat) (big : Bool) g (ak : Nat) (aj : Nat) (au : Nat) => ((kS b o n c s fb big g ak) ++ [(11, aA 56), (12, aB aj), (13, aB au)] : Slots)
theorem Es (l : List UInt8) (b o n c : Nat) (hl : n = l.length) (hnc : n ≤ c) (hn : 64 ≤ n) (big : Bool) (abi aC aQ aF ay ak aj au ah : Nat) (dat : Int) (H : yU l true big abi aC aQ aF ay ak aj au ah) (b1 : aQ < 65536) (b2 : aF < 65536) (b3 : ay ≤ 18446744073709551615) (b4 : ak < 4611686018427387904) (b5 : au < 4611686018427387904) (b6 : aj < 200) (b7 : ah < 200) {Q : Exit → Act → World → Prop} (w0 : World) (hbl : b < w0.heap.size) (hr : Row w0 (some ⟨b, o, none⟩) (l.map Bv)) (a : Act) (w : World) (s fb : Nat) (HF : Fr 1287 a (dV b o n c s fb big)) (HM : Mm [] w0 w [mW fb dat abi aC big, dA s b o n c])
  (K : ∀ a w, Fr 1287 a ((dV b o n c s fb big) ++ [(10, aB ak), (11, aA 56), (12, aB aj), (13, aB au), (14, aA 64), (15, aB ah), (16, aB (ah - 1))]) → Mm [] w0 w [fD fb dat abi aC big aQ aF ay, dA s b o n c] → (spine Tryd.f78 21).wp Tryd.prog Q a w) : (spine Tryd.f78 20).wp Tryd.prog Q a w := by
 obtain ⟨X, hX⟩ : ∃ X, (l.drop (0 + 0)).take 64 = X := ⟨_, rfl⟩
 have nI : X.length = 64 := by rw [← hX]; simp; omega
 have hnum : ∀ k s, k + s ≤ 64 → num big X k s = num big l k s := fun k s h => by rw [← hX, Nat.zero_add, List.drop_zero, Dz _ _ _ _ _ h]
 have He : num big l 24 8 = ay := H.entry
 have Hp : num big l 32 8 = ak := H.J5
 have Hs : num big l 40 8 = au := H.kJ
 have Hpe : num big l 54 2 = 56 := H.J7
 have Hpn : num big l 56 2 = aj := H.J6
 have Hse : num big l 58 2 = 64 := H.JX
 have Hsn : num big l 60 2 = ah := H.JW
 have Hst : num big l 62 2 = ah - 1 := H.vI
 refine wp_seq ?_
 refine bC HF HM rfl [[1]] ((dV b o n c s fb big) ++ [(188, aN 2)]) [mW fb dat abi aC big, dA s b o n c] (by kernel_rfl) ?_
 clear HF HM; intro a w HF HM
 refine wp_block ?_
 refine bC HF HM rfl [] ((dV b o n c s fb big) ++ [(188, aN 2), (189, .bool false)]) [mW fb dat abi aC big, dA s b o n c] (by kernel_rfl) ?_
 clear HF HM; intro a w HF HM
 refine bf HF rfl ?_
 refine bC HF HM rfl [] ((dV b o n c s fb big) ++ [(188, aN 2), (278, .bool true)]) [mW fb dat abi aC big, dA s b o n c] (by kernel_rfl) ?_
 clear HF HM; intro a w HF HM
 refine bF HF rfl ?_
 replace HF := HF.sub (dV b o n c s fb big) (by kernel_rfl)
 refine wp_seq (wp_region_lit ?_)
 refine su HF HM rfl _ _ 33 rfl rfl 5 (aN 0) 1 Tryd.underlying33 qM rfl .i64 .i64 64 rfl rfl (by omega) (by omega) ?_
 intro a2 w1 g hgw hbel bI HF2; have hg0 : w0.heap.size ≤ g := Nat.le_trans HM.size hgw; clear HF HM hbel hgw; have HM := bI; have HF := HF2; clear bI HF2
 replace HF := HF.sub ((dV b o n c s fb big) ++ [(280, aH g 64 64)]) (by kernel_rfl)
 refine aO HF HM rfl 1 [] ((dV b o n c s fb big) ++ [(21, aH g 64 64)]) [(g, .cells (madeCells #[aN 0] 64) 5 (0, 0)), mW fb dat abi aC big, dA s b o n c] (by kernel_rfl) ?_
 clear HF HM; intro a w HF HM
 refine aI ?_
 have hbg : b ≠ g := by omega
 have hbs : b ≠ s := fun e => absurd hbl (Nat.not_lt_of_le (e ▸ HM.ge (i := 2) rfl))
 refine wp_seq ?_
 refine wp_seq (wp_region_lit ?_)
 refine aO HF HM rfl 2 [] ((dV b o n c s fb big) ++ [(21, aH g 64 64), (282, aG s), (283, aH g 64 64)]) [(g, .cells (madeCells #[aN 0] 64) 5 (0, 0)), mW fb dat abi aC big, dA s b o n c] (by kernel_rfl) ?_
 clear HF HM; intro a w HF HM
 refine bn HF (by kernel_rfl) 93 #[aG s, aH g 64 64, aB 0] (by kernel_rfl) (fun w => by kernel_rfl) (Calls.mono (xC l b o n c hl hnc g s _ 5 64 64 (kM _ _) 0 0 0 9223372036854775807 9223372036854775807 (by omega) (by omega) (by omega) (by omega) (by omega) w (HM.row hr (by intro b' o' s' _; simp)) hbg hbs (HM.ne (i := 2) (j := 0) rfl rfl (by decide)) (HM.get (i := 2) rfl) (HM.get (i := 0) rfl)) ?_)
 rintro _ w2 ⟨rfl, hkp, hsn, hgn⟩
 rw [hX] at hgn
 replace HM : Mm [] w0 w2 [(g, .cells (X.map Bv).toArray 5 (0, 0)), mW fb dat abi aC big, dA s b o n c] := HM.Bc (i := 2) (j := 0) rfl rfl (by decide) hsn hgn hkp
 clear hkp hsn hgn
 refine ⟨_, rfl, ?_⟩; clear HF; intro a HF; replace HF := HF.sub ((dV b o n c s fb big) ++ [(21, aH g 64 64), (282, aG s), (283, aH g 64 64), (284, .tuple #[aB 64, .nilIface])]) (by kernel_rfl)
 refine aO HF HM rfl 5 [] ((dV b o n c s fb big) ++ [(21, aH g 64 64), (23, .nilIface)]) [(g, .cells (X.map Bv).toArray 5 (0, 0)), mW fb dat abi aC big, dA s b o n c] (by kernel_rfl) ?_
 clear HF HM; intro a w HF HM
 refine aI ?_
 refine wp_seq (wp_region_lit ?_)
 refine aO HF HM rfl 2 [] ((dV b o n c s fb big) ++ [(21, aH g 64 64), (23, .nilIface), (288, .bool false)]) [(g, .cells (X.map Bv).toArray 5 (0, 0)), mW fb dat abi aC big, dA s b o n c] (by kernel_rfl) ?_
 clear HF HM; intro a w HF HM
 refine aI ?_
 refine bf HF rfl ?_
 refine wp_skip ?_
 repeat (first | refine aS ?_ | refine aU ?_)
 replace HF := HF.sub ((dV b o n c s fb big) ++ [(21, aH g 64 64)]) (by kernel_rfl)
 refine wp_seq (wp_region_lit ?_)
 refine aO HF HM rfl 4 [] ((dV b o n c s fb big) ++ [(21, aH g 64 64), (290, aG fb), (291, (aP big)), (293, .slice (some ⟨g, 16, none⟩) 48 48)]) [(g, .cells (X.map Bv).toArray 5 (0, 0)), mW fb dat abi aC big, dA s b o n c] (by kernel_rfl) ?_
 clear HF HM; intro a w HF HM
 refine bn HF (by kernel_rfl) 94 #[(aP big), .slice (some ⟨g, 16, none⟩) 48 48] (by kernel_rfl) (fun w => by kernel_rfl) (Calls.mono (oI (HM.get (i := 0) rfl) big 16 48 (by omega) (by omega) ((aQ : Nat) : Int) (by rw [hnum 16 2 (by omega), H.ty])) ?_)
 rintro _ w3 ⟨rfl, jG, hq⟩
 replace HM : Mm [] w0 w3 [(g, .cells (X.map Bv).toArray 5 (0, 0)), mW fb dat abi aC big, dA s b o n c] := by rw [hq]; exact HM.drewN _
 clear hq
 refine ⟨_, rfl, ?_⟩; clear HF; intro a HF; replace HF := HF.sub ((dV b o n c s fb big) ++ [(21, aH g 64 64), (290, aG fb), (291, (aP big)), (293, .slice (some ⟨g, 16, none⟩) 48 48), (294, aZ aQ)]) (by kernel_rfl)
 replace HF := HF.sub ((dV b o n c s fb big) ++ [(21, aH g 64 64), (290, aG fb), (294, aZ aQ)]) (by kernel_rfl)
 refine aO HF HM rfl 4 [[1]] ((dV b o n c s fb big) ++ [(21, aH g 64 64)]) [(g, .cells (X.map Bv).toArray 5 (0, 0)), Bo fb dat abi aC big aQ, dA s b o n c] (by kernel_rfl) ?_
 clear HF HM; intro a w HF HM
 refine aI ?_
 refine wp_seq (wp_region_lit ?_)
 refine aO HF HM rfl 4 [] ((dV b o n c s fb big) ++ [(21, aH g 64 64), (298, aG fb), (299, (aP big)), (301, .slice (some ⟨g, 18, none⟩) 46 46)]) [(g, .cells (X.map Bv).toArray 5 (0, 0)), Bo fb dat abi aC big aQ, dA s b o n c] (by kernel_rfl) ?_
 clear HF HM; intro a w HF HM
 refine bn HF (by kernel_rfl) 94 #[(aP big), .slice (some ⟨g, 18, none⟩) 46 46] (by kernel_rfl) (fun w => by kernel_rfl) (Calls.mono (oI (HM.get (i := 0) rfl) big 18 46 (by omega) (by omega) ((aF : Nat) : Int) (by rw [hnum 18 2 (by omega), H.machine])) ?_)
 rintro _ w4 ⟨rfl, jG, hq⟩
 replace HM : Mm [] w0 w4 [(g, .cells (X.map Bv).toArray 5 (0, 0)), Bo fb dat abi aC big aQ, dA s b o n c] := by rw [hq]; exact HM.drewN _
 clear hq
 refine ⟨_, rfl, ?_⟩; clear HF; intro a HF; replace HF := HF.sub ((dV b o n c s fb big) ++ [(21, aH g 64 64), (298, aG fb), (299, (aP big)), (301, .slice (some ⟨g, 18, none⟩) 46 46), (302, aZ aF)]) (by kernel_rfl)
 replace HF := HF.sub ((dV b o n c s fb big) ++ [(21, aH g 64 64), (298, aG fb), (302, aZ aF)]) (by kernel_rfl)
 refine aO HF HM rfl 4 [[1]] ((dV b o n c s fb big) ++ [(21, aH g 64 64)]) [(g, .cells (X.map Bv).toArray 5 (0, 0)), Bl fb dat abi aC big aQ aF, dA s b o n c] (by kernel_rfl) ?_
 clear HF HM; intro a w HF HM
 refine aI ?_
 refine wp_seq (wp_region_lit ?_)
 refine aO HF HM rfl 4 [] ((dV b o n c s fb big) ++ [(21, aH g 64 64), (306, aG fb), (307, (aP big)), (309, .slice (some ⟨g, 24, none⟩) 40 40)]) [(g, .cells (X.map Bv).toArray 5 (0, 0)), Bl fb dat abi aC big aQ aF, dA s b o n c] (by kernel_rfl) ?_
 clear HF HM; intro a w HF HM
 refine bn HF (by kernel_rfl) 88 #[(aP big), .slice (some ⟨g, 24, none⟩) 40 40] (by kernel_rfl) (fun w => by kernel_rfl) (Calls.mono (nZ (HM.get (i := 0) rfl) (by unfold maxLen; omega) big 24 40 (by omega) (by omega) ((ay : Nat) : Int) (by rw [hnum 24 8 (by omega), He])) ?_)
 rintro _ w5 ⟨rfl, jG, hq⟩
 replace HM : Mm [] w0 w5 [(g, .cells (X.map Bv).toArray 5 (0, 0)), Bl fb dat abi aC big aQ aF, dA s b o n c] := by rw [hq]; exact HM.drewN _
 clear hq
 refine ⟨_, rfl, ?_⟩; clear HF; intro a HF; replace HF := HF.sub ((dV b o n c s fb big) ++ [(21, aH g 64 64), (306, aG fb), (307, (aP big)), (309, .slice (some ⟨g, 24, none⟩) 40 40), (310, aJ ay)]) (by kernel_rfl)
 replace HF := HF.sub ((dV b o n c s fb big) ++ [(21, aH g 64 64), (306, aG fb), (310, aJ ay)]) (by kernel_rfl)
 refine aO HF HM rfl 4 [[1]] ((dV b o n c s fb big) ++ [(21, aH g 64 64)]) [(g, .cells (X.map Bv).toArray 5 (0, 0)), fD fb dat abi aC big aQ aF ay, dA s b o n c] (by kernel_rfl) ?_
 clear HF HM; intro a w HF HM
 refine aI ?_
 refine wp_seq ?_
 refine wp_seq (wp_region_lit ?_)
 refine aO HF HM rfl 3 [] ((dV b o n c s fb big) ++ [(21, aH g 64 64), (314, (aP big)), (316, .slice (some ⟨g, 20, none⟩) 44 44)]) [(g, .cells (X.map Bv).toArray 5 (0, 0)), fD fb dat abi aC big aQ aF ay, dA s b o n c] (by kernel_rfl) ?_
 clear HF HM; intro a w HF HM
 refine bn HF (by kernel_rfl) 87 #[(aP big), .slice (some ⟨g, 20, none⟩) 44 44] (by kernel_rfl) (fun w => by kernel_rfl) (Calls.mono (jB (HM.get (i := 0) rfl) (by unfold maxLen; omega) big 20 44 (by omega) (by omega) ((1 : Nat) : Int) (by rw [hnum 20 4 (by omega), H.ver])) ?_)
 rintro _ w6 ⟨rfl, jG, hq⟩
 replace HM : Mm [] w0 w6 [(g, .cells (X.map Bv).toArray 5 (0, 0)), fD fb dat abi aC big aQ aF ay, dA s b o n c] := by rw [hq]; exact HM.drewN _
 clear hq
 refine ⟨_, rfl, ?_⟩; clear HF; intro a HF; replace HF := HF.sub ((dV b o n c s fb big) ++ [(21, aH g 64 64), (314, (aP big)), (316, .slice (some ⟨g, 20, none⟩) 44 44), (317, aY 1)]) (by kernel_rfl)
 replace HF := HF.sub ((dV b o n c s fb big) ++ [(21, aH g 64 64), (317, aY 1)]) (by kernel_rfl)
 refine aO HF HM rfl 2 [] ((dV b o n c s fb big) ++ [(21, aH g 64 64), (24, aN 1)]) [(g, .cells (X.map Bv).toArray 5 (0, 0)), fD fb dat abi aC big aQ aF ay, dA s b o n c] (by kernel_rfl) ?_
 clear HF HM; intro a w HF HM
 refine aI ?_
 refine wp_seq (wp_region_lit ?_)
 refine aO HF HM rfl 7 [[1]] ((dV b o n c s fb big) ++ [(21, aH g 64 64), (325, .bool false)]) [(g, .cells (X.map Bv).toArray 5 (0, 0)), fD fb dat abi aC big aQ aF ay, dA s b o n c] (by kernel_rfl) ?_
 clear HF HM; intro a w HF HM
 refine aI ?_
 refine bf HF rfl ?_
 refine wp_skip ?_
 repeat (first | refine aS ?_ | refine aU ?_)
 replace HF := HF.sub ((dV b o n c s fb big) ++ [(21, aH g 64 64)]) (by kernel_rfl)
 refine wp_seq (wp_region_lit ?_)
 refine aO HF HM rfl 3 [] ((dV b o n c s fb big) ++ [(21, aH g 64 64), (331, (aP big)), (333, .slice (some ⟨g, 32, none⟩) 32 32)]) [(g, .cells (X.map Bv).toArray 5 (0, 0)), fD fb dat abi aC big aQ aF ay, dA s b o n c] (by kernel_rfl) ?_
 clear HF HM; intro a w HF HM
 refine bn HF (by kernel_rfl) 88 #[(aP big), .slice (some ⟨g, 32, none⟩) 32 32] (by kernel_rfl) (fun w => by kernel_rfl) (Calls.mono (nZ (HM.get (i := 0) rfl) (by unfold maxLen; omega) big 32 32 (by omega) (by omega) ((ak : Nat) : Int) (by rw [hnum 32 8 (by omega), Hp])) ?_)
 rintro _ w7 ⟨rfl, jG, hq⟩
 replace HM : Mm [] w0 w7 [(g, .cells (X.map Bv).toArray 5 (0, 0)), fD fb dat abi aC big aQ aF ay, dA s b o n c] := by rw [hq]; exact HM.drewN _
 clear hq
 refine ⟨_, rfl, ?_⟩; clear HF; intro a HF; replace HF := HF.sub ((dV b o n c s fb big) ++ [(21, aH g 64 64), (331, (aP big)), (333, .slice (some ⟨g, 32, none⟩) 32 32), (334, aJ ak)]) (by kernel_rfl)
 replace HF := HF.sub ((dV b o n c s fb big) ++ [(21, aH g 64 64), (334, aJ ak)]) (by kernel_rfl)
 refine aO HF HM rfl 1 [] ((dV b o n c s fb big) ++ [(21, aH g 64 64), (335, aA (IntKind.i64.wrap ((ak : Nat) : Int)))]) [(g, .cells (X.map Bv).toArray 5 (0, 0)), fD fb dat abi aC big aQ aF ay, dA s b o n c] (by kernel_rfl) ?_
 clear HF HM; intro a w HF HM
 rw [show IntKind.i64.wrap ((ak : Nat) : Int) = ((ak : Nat) : Int) from IntWalk.i64_in _ (by omega)] at HF
 refine aO HF HM rfl 1 [] (kS b o n c s fb big g ak) [(g, .cells (X.map Bv).toArray 5 (0, 0)), fD fb dat abi aC big aQ aF ay, dA s b o n c] (by kernel_rfl) ?_
 clear HF HM; intro a w HF HM
 refine aI ?_
 refine wp_seq (wp_region_lit ?_)
 refine aO HF HM rfl 3 [] ((kS b o n c s fb big g ak) ++ [(336, (aP big)), (338, .slice (some ⟨g, 54, none⟩) 10 10)]) [(g, .cells (X.map Bv).toArray 5 (0, 0)), fD fb dat abi aC big aQ aF ay, dA s b o n c] (by kernel_rfl) ?_
 clear HF HM; intro a w HF HM
 refine bn HF (by kernel_rfl) 94 #[(aP big), .slice (some ⟨g, 54, none⟩) 10 10] (by kernel_rfl) (fun w => by kernel_rfl) (Calls.mono (oI (HM.get (i := 0) rfl) big 54 10 (by omega) (by omega) ((56 : Nat) : Int) (by rw [hnum 54 2 (by omega), Hpe])) ?_)
 rintro _ w8 ⟨rfl, jG, hq⟩
 replace HM : Mm [] w0 w8 [(g, .cells (X.map Bv).toArray 5 (0, 0)), fD fb dat abi aC big aQ aF ay, dA s b o n c] := by rw [hq]; exact HM.drewN _
 clear hq
 refine ⟨_, rfl, ?_⟩; clear HF; intro a HF; replace HF := HF.sub ((kS b o n c s fb big g ak) ++ [(336, (aP big)), (338, .slice (some ⟨g, 54, none⟩) 10 10), (339, aZ 56)]) (by kernel_rfl)
 replace HF := HF.sub ((kS b o n c s fb big g ak) ++ [(339, aZ 56)]) (by kernel_rfl)
 refine aO HF HM rfl 2 [] ((kS b o n c s fb big g ak) ++ [(11, aA 56)]) [(g, .cells (X.map Bv).toArray 5 (0, 0)), fD fb dat abi aC big aQ aF ay, dA s b o n c] (by kernel_rfl) ?_
 clear HF HM; intro a w HF HM
 refine aI ?_
 refine wp_seq (wp_region_lit ?_)
 refine aO HF HM rfl 3 [] ((kS b o n c s fb big g ak) ++ [(11, aA 56), (341, (aP big)), (343, .slice (some ⟨g, 56, none⟩) 8 8)]) [(g, .cells (X.map Bv).toArray 5 (0, 0)), fD fb dat abi aC big aQ aF ay, dA s b o n c] (by kernel_rfl) ?_
 clear HF HM; intro a w HF HM
 refine bn HF (by kernel_rfl) 94 #[(aP big), .slice (some ⟨g, 56, none⟩) 8 8] (by kernel_rfl) (fun w => by kernel_rfl) (Calls.mono (oI (HM.get (i := 0) rfl) big 56 8 (by omega) (by omega) ((aj : Nat) : Int) (by rw [hnum 56 2 (by omega), Hpn])) ?_)
 rintro _ w9 ⟨rfl, jG, hq⟩
 replace HM : Mm [] w0 w9 [(g, .cells (X.map Bv).toArray 5 (0, 0)), fD fb dat abi aC big aQ aF ay, dA s b o n c] := by rw [hq]; exact HM.drewN _
 clear hq
 refine ⟨_, rfl, ?_⟩; clear HF; intro a HF; replace HF := HF.sub ((kS b o n c s fb big g ak) ++ [(11, aA 56), (341, (aP big)), (343, .slice (some ⟨g, 56, none⟩) 8 8), (344, aZ aj)]) (by kernel_rfl)
 replace HF := HF.sub ((kS b o n c s fb big g ak) ++ [(11, aA 56), (344, aZ aj)]) (by kernel_rfl)
 refine aO HF HM rfl 1 [] ((kS b o n c s fb big g ak) ++ [(11, aA 56), (345, aA (IntKind.i64.wrap ((aj : Nat) : Int)))]) [(g, .cells (X.map Bv).toArray 5 (0, 0)), fD fb dat abi aC big aQ aF ay, dA s b o n c] (by kernel_rfl) ?_
 clear HF HM; intro a w HF HM
 rw [show IntKind.i64.wrap ((aj : Nat) : Int) = ((aj : Nat) : Int) from IntWalk.i64_in _ (by omega)] at HF
 refine aO HF HM rfl 1 [] ((kS b o n c s fb big g ak) ++ [(11, aA 56), (12, aB aj)]) [(g, .cells (X.map Bv).toArray 5 (0, 0)), fD fb dat abi aC big aQ aF ay, dA s b o n c] (by kernel_rfl) ?_
 clear HF HM; intro a w HF HM
 refine aI ?_
 refine wp_seq (wp_region_lit ?_)
 refine aO HF HM rfl 3 [] ((kS b o n c s fb big g ak) ++ [(11, aA 56), (12, aB aj), (346, (aP big)), (348, .slice (some ⟨g, 40, none⟩) 24 24)]) [(g, .cells (X.map Bv).toArray 5 (0, 0)), fD fb dat abi aC big aQ aF ay, dA s b o n c] (by kernel_rfl) ?_
 clear HF HM; intro a w HF HM
 refine bn HF (by kernel_rfl) 88 #[(aP big), .slice (some ⟨g, 40, none⟩) 24 24] (by kernel_rfl) (fun w => by kernel_rfl) (Calls.mono (nZ (HM.get (i := 0) rfl) (by unfold maxLen; omega) big 40 24 (by omega) (by omega) ((au : Nat) : Int) (by rw [hnum 40 8 (by omega), Hs])) ?_)
 rintro _ w10 ⟨rfl, jG, hq⟩
 replace HM : Mm [] w0 w10 [(g, .cells (X.map Bv).toArray 5 (0, 0)), fD fb dat abi aC big aQ aF ay, dA s b o n c] := by rw [hq]; exact HM.drewN _
 clear hq
 refine ⟨_, rfl, ?_⟩; clear HF; intro a HF; replace HF := HF.sub ((kS b o n c s fb big g ak) ++ [(11, aA 56), (12, aB aj), (346, (aP big)), (348, .slice (some ⟨g, 40, none⟩) 24 24), (349, aJ au)]) (by kernel_rfl)
 replace HF := HF.sub ((kS b o n c s fb big g ak) ++ [(11, aA 56), (12, aB aj), (349, aJ au)]) (by kernel_rfl)
 refine aO HF HM rfl 1 [] ((kS b o n c s fb big g ak) ++ [(11, aA 56), (12, aB aj), (350, aA (IntKind.i64.wrap ((au : Nat) : Int)))]) [(g, .cells (X.map Bv).toArray 5 (0, 0)), fD fb dat abi aC big aQ aF ay, dA s b o n c] (by kernel_rfl) ?_
 clear HF HM; intro a w HF HM
 rw [show IntKind.i64.wrap ((au : Nat) : Int) = ((au : Nat) : Int) from IntWalk.i64_in _ (by omega)] at HF
 refine aO HF HM rfl 1 [] (kR b o n c s fb big g ak aj au) [(g, .cells (X.map Bv).toArray 5 (0, 0)), fD fb dat abi aC big aQ aF ay, dA s b o n c] (by kernel_rfl) ?_
 clear HF HM; intro a w HF HM
 refine aI ?_
 refine wp_seq (wp_region_lit ?_)
 refine aO HF HM rfl 3 [] ((kR b o n c s fb big g ak aj au) ++ [(351, (aP big)), (353, .slice (some ⟨g, 58, none⟩) 6 6)]) [(g, .cells (X.map Bv).toArray 5 (0, 0)), fD fb dat abi aC big aQ aF ay, dA s b o n c] (by kernel_rfl) ?_
 clear HF HM; intro a w HF HM
 refine bn HF (by kernel_rfl) 94 #[(aP big), .slice (some ⟨g, 58, none⟩) 6 6] (by kernel_rfl) (fun w => by kernel_rfl) (Calls.mono (oI (HM.get (i := 0) rfl) big 58 6 (by omega) (by omega) ((64 : Nat) : Int) (by rw [hnum 58 2 (by omega), Hse])) ?_)
 rintro _ wS ⟨rfl, jG, hq⟩
 replace HM : Mm [] w0 wS [(g, .cells (X.map Bv).toArray 5 (0, 0)), fD fb dat abi aC big aQ aF ay, dA s b o n c] := by rw [hq]; exact HM.drewN _
 clear hq
 refine ⟨_, rfl, ?_⟩; clear HF; intro a HF; replace HF := HF.sub ((kR b o n c s fb big g ak aj au) ++ [(351, (aP big)), (353, .slice (some ⟨g, 58, none⟩) 6 6), (354, aZ 64)]) (by kernel_rfl)
 replace HF := HF.sub ((kR b o n c s fb big g ak aj au) ++ [(354, aZ 64)]) (by kernel_rfl)
 refine aO HF HM rfl 2 [] ((kR b o n c s fb big g ak aj au) ++ [(14, aA 64)]) [(g, .cells (X.map Bv).toArray 5 (0, 0)), fD fb dat abi aC big aQ aF ay, dA s b o n c] (by kernel_rfl) ?_
 clear HF HM; intro a w HF HM
 refine aI ?_
 refine wp_seq (wp_region_lit ?_)
 refine aO HF HM rfl 3 [] ((kR b o n c s fb big g ak aj au) ++ [(14, aA 64), (356, (aP big)), (358, .slice (some ⟨g, 60, none⟩) 4 4)]) [(g, .cells (X.map Bv).toArray 5 (0, 0)), fD fb dat abi aC big aQ aF ay, dA s b o n c] (by kernel_rfl) ?_
 clear HF HM; intro a w HF HM
 refine bn HF (by kernel_rfl) 94 #[(aP big), .slice (some ⟨g, 60, none⟩) 4 4] (by kernel_rfl) (fun w => by kernel_rfl) (Calls.mono (oI (HM.get (i := 0) rfl) big 60 4 (by omega) (by omega) ((ah : Nat) : Int) (by rw [hnum 60 2 (by omega), Hsn])) ?_)
 rintro _ w12 ⟨rfl, jG, hq⟩
 replace HM : Mm [] w0 w12 [(g, .cells (X.map Bv).toArray 5 (0, 0)), fD fb dat abi aC big aQ aF ay, dA s b o n c] := by rw [hq]; exact HM.drewN _
 clear hq
 refine ⟨_, rfl, ?_⟩; clear HF; intro a HF; replace HF := HF.sub ((kR b o n c s fb big g ak aj au) ++ [(14, aA 64), (356, (aP big)), (358, .slice (some ⟨g, 60, none⟩) 4 4), (359, aZ ah)]) (by kernel_rfl)
 replace HF := HF.sub ((kR b o n c s fb big g ak aj au) ++ [(14, aA 64), (359, aZ ah)]) (by kernel_rfl)
 refine aO HF HM rfl 1 [] ((kR b o n c s fb big g ak aj au) ++ [(14, aA 64), (360, aA (IntKind.i64.wrap ((ah : Nat) : Int)))]) [(g, .cells (X.map Bv).toArray 5 (0, 0)), fD fb dat abi aC big aQ aF ay, dA s b o n c] (by kernel_rfl) ?_
 clear HF HM; intro a w HF HM
 rw [show IntKind.i64.wrap ((ah : Nat) : Int) = ((ah : Nat) : Int) from IntWalk.i64_in _ (by omega)] at HF
 refine aO HF HM rfl 1 [] ((kR b o n c s fb big g ak aj au) ++ [(14, aA 64), (15, aB ah)]) [(g, .cells (X.map Bv).toArray 5 (0, 0)), fD fb dat abi aC big aQ aF ay, dA s b o n c] (by kernel_rfl) ?_
 clear HF HM; intro a w HF HM
 refine aI ?_
 refine wp_region_lit ?_
 refine aO HF HM rfl 3 [] ((kR b o n c s fb big g ak aj au) ++ [(14, aA 64), (15, aB ah), (361, (aP big)), (363, .slice (some ⟨g, 62, none⟩) 2 2)]) [(g, .cells (X.map Bv).toArray 5 (0, 0)), fD fb dat abi aC big aQ aF ay, dA s b o n c] (by kernel_rfl) ?_
 clear HF HM; intro a w HF HM
 refine bn HF (by kernel_rfl) 94 #[(aP big), .slice (some ⟨g, 62, none⟩) 2 2] (by kernel_rfl) (fun w => by kernel_rfl) (Calls.mono (oI (HM.get (i := 0) rfl) big 62 2 (by omega) (by omega) (((ah - 1) : Nat) : Int) (by rw [hnum 62 2 (by omega), Hst])) ?_)
 rintro _ AP ⟨rfl, jG, hq⟩
 replace HM : Mm [] w0 AP [(g, .cells (X.map Bv).toArray 5 (0, 0)), fD fb dat abi aC big aQ aF ay, dA s b o n c] := by rw [hq]; exact HM.drewN _
 clear hq
 refine ⟨_, rfl, ?_⟩; clear HF; intro a HF; replace HF := HF.sub ((kR b o n c s fb big g ak aj au) ++ [(14, aA 64), (15, aB ah), (361, (aP big)), (363, .slice (some ⟨g, 62, none⟩) 2 2), (364, aZ (ah - 1))]) (by kernel_rfl)
 replace HF := HF.sub ((kR b o n c s fb big g ak aj au) ++ [(14, aA 64), (15, aB ah), (364, aZ (ah - 1))]) (by kernel_rfl)
 refine aO HF HM rfl 1 [] ((kR b o n c s fb big g ak aj au) ++ [(14, aA 64), (15, aB ah), (365, aA (IntKind.i64.wrap (((ah - 1) : Nat) : Int)))]) [(g, .cells (X.map Bv).toArray 5 (0, 0)), fD fb dat abi aC big aQ aF ay, dA s b o n c] (by kernel_rfl) ?_
 clear HF HM; intro a w HF HM
 rw [show IntKind.i64.wrap (((ah - 1) : Nat) : Int) = (((ah - 1) : Nat) : Int) from IntWalk.i64_in _ (by omega)] at HF
 refine aO HF HM rfl 1 [] ((kR b o n c s fb big g ak aj au) ++ [(14, aA 64), (15, aB ah), (16, aB (ah - 1))]) [(g, .cells (X.map Bv).toArray 5 (0, 0)), fD fb dat abi aC big aQ aF ay, dA s b o n c] (by kernel_rfl) ?_
 clear HF HM; intro a w HF HM
 refine wpList_nil ?_
 repeat (first | refine aS ?_ | refine aU ?_)
 replace HF := HF.sub ((dV b o n c s fb big) ++ [(10, aB ak), (11, aA 56), (12, aB aj), (13, aB au), (14, aA 64), (15, aB ah), (16, aB (ah - 1))]) (by kernel_rfl)
 exact K a w HF (HM.sub (List.Sublist.cons _ (List.Sublist.refl _)))

abbrev ji := fun (fb : Nat) (dat : Int) (abi : Nat) (aC : Nat) (big : Bool) (aQ : Nat) (aF : Nat) (ay : Nat) => ((fb, .cells #[aN 1, .int .u8 dat, aN 1, aV abi, aV aC, (aP big), aZ aQ, aZ aF, aJ ay, aK, aK, aK, aK, aK] 131 (0, 0)) : Nat × Obj)
abbrev jh := fun (s : Nat) (b : Nat) (o : Nat) (n : Nat) (c : Nat) => ((s, .cells #[.iface 178 (.slice (some ⟨b, o, none⟩) n c), aA 0, aA 0, aA 9223372036854775807, aA 9223372036854775807] 246 (0, 0)) : Nat × Obj)
abbrev gG := fun (b : Nat) (o : Nat) (n : Nat) (c : Nat) (s : Nat) (fb : Nat) (big : Bool) (ak : Nat) (au : Nat) (ah : Nat) => ([(0, .iface 178 (.slice (some ⟨b, o, none⟩) n c)), (4, aG s), (8, aG fb), (9, (aP big)), (10, aB ak), (11, aA 32), (12, aA 0), (13, aB au), (14, aA 40), (15, aB ah), (16, aB (ah - 1))] : Slots)
theorem CZ (l : List UInt8) (b o n c : Nat) (hl : n = l.length) (hnc : n ≤ c) (big : Bool) (abi aC aQ aF ay ak aj au ah : Nat) (dat : Int) (b1 : aQ < 65536) (b2 : aF < 65536) (b3 : ay ≤ 18446744073709551615) (b4 : ak < 4611686018427387904) (b5 : au < 4611686018427387904) (b6 : aj < 200) (b7 : ah < 200) (c1 : 0 < au) (c2 : 0 < ah) {Q : Exit → Act → World → Prop} (w0 : World) (a : Act) (w : World) (s fb : Nat) (HF : Fr 1287 a (gG b o n c s fb big ak au ah)) (HM : Mm [] w0 w [ji fb dat abi aC big aQ aF ay, jh s b o n c])
  (K : ∀ a w, Fr 1287 a ((gG b o n c s fb big ak au ah) ++ [(26, aA 40)]) → Mm [] w0 w [ji fb dat abi aC big aQ aF ay, jh s b o n c] → (spine Tryd.f78 29).wp Tryd.prog Q a w) : (spine Tryd.f78 21).wp Tryd.prog Q a w := by
 refine wp_seq ?_
 refine wp_seq (wp_region_lit ?_)
 refine aO HF HM rfl 2 [] ((gG b o n c s fb big ak au ah) ++ [(367, .bool (decide (((au : Nat) : Int) < 0)))]) [ji fb dat abi aC big aQ aF ay, jh s b o n c] (by kernel_rfl) ?_
 clear HF HM; intro a w HF HM
 rw [show decide (((au : Nat) : Int) < 0) = false from bZ (by omega)] at HF
 refine aI ?_
 refine bf HF rfl ?_
 refine wp_skip ?_
 repeat (first | refine aS ?_ | refine aU ?_)
 replace HF := HF.sub (gG b o n c s fb big ak au ah) (by kernel_rfl)
 refine wp_seq ?_
 refine wp_seq (wp_region_lit ?_)
 refine aO HF HM rfl 2 [] ((gG b o n c s fb big ak au ah) ++ [(374, .bool (decide (((ak : Nat) : Int) < 0)))]) [ji fb dat abi aC big aQ aF ay, jh s b o n c] (by kernel_rfl) ?_
 clear HF HM; intro a w HF HM
 rw [show decide (((ak : Nat) : Int) < 0) = false from bZ (by omega)] at HF
 refine aI ?_
 refine bf HF rfl ?_
 refine wp_skip ?_
 repeat (first | refine aS ?_ | refine aU ?_)
 replace HF := HF.sub (gG b o n c s fb big ak au ah) (by kernel_rfl)
 refine wp_seq ?_
 refine wp_seq (wp_region_lit ?_)
 refine aO HF HM rfl 2 [] ((gG b o n c s fb big ak au ah) ++ [(381, .bool (((au : Nat) : Int) == 0))]) [ji fb dat abi aC big aQ aF ay, jh s b o n c] (by kernel_rfl) ?_
 clear HF HM; intro a w HF HM
 rw [show (((au : Nat) : Int) == 0) = false from beq_eq_false_iff_ne.2 (by omega)] at HF
 refine aO HF HM rfl 4 [] ((gG b o n c s fb big ak au ah) ++ [(385, .bool false)]) [ji fb dat abi aC big aQ aF ay, jh s b o n c] (by kernel_rfl) ?_
 clear HF HM; intro a w HF HM
 refine aI ?_
 refine bf HF rfl ?_
 refine wp_skip ?_
 repeat (first | refine aS ?_ | refine aU ?_)
 replace HF := HF.sub (gG b o n c s fb big ak au ah) (by kernel_rfl)
 refine wp_seq ?_
 refine wp_seq (wp_region_lit ?_)
 refine aO HF HM rfl 2 [] ((gG b o n c s fb big ak au ah) ++ [(392, .bool (decide (0 < ((ah : Nat) : Int))))]) [ji fb dat abi aC big aQ aF ay, jh s b o n c] (by kernel_rfl) ?_
 clear HF HM; intro a w HF HM
 rw [show decide (0 < ((ah : Nat) : Int)) = true from dM (by omega)] at HF
 refine aO HF HM rfl 4 [] ((gG b o n c s fb big ak au ah) ++ [(393, .bool true), (396, .bool (decide (((ah : Nat) : Int) ≤ (((ah - 1) : Nat) : Int))))]) [ji fb dat abi aC big aQ aF ay, jh s b o n c] (by kernel_rfl) ?_
 clear HF HM; intro a w HF HM
 rw [show decide (((ah : Nat) : Int) ≤ (((ah - 1) : Nat) : Int)) = false from bZ (by omega)] at HF
 refine aO HF HM rfl 1 [] ((gG b o n c s fb big ak au ah) ++ [(397, .bool false)]) [ji fb dat abi aC big aQ aF ay, jh s b o n c] (by kernel_rfl) ?_
 clear HF HM; intro a w HF HM
 refine aI ?_
 refine bf HF rfl ?_
 refine wp_skip ?_
 repeat (first | refine aS ?_ | refine aU ?_)
 replace HF := HF.sub (gG b o n c s fb big ak au ah) (by kernel_rfl)
 refine bC HF HM rfl [] ((gG b o n c s fb big ak au ah) ++ [(25, aA 0), (26, aA 0)]) [ji fb dat abi aC big aQ aF ay, jh s b o n c] (by kernel_rfl) ?_
 clear HF HM; intro a w HF HM
 refine wp_seq ?_
 refine bC HF HM rfl [[1]] ((gG b o n c s fb big ak au ah) ++ [(25, aA 0), (26, aA 0), (407, aN 1)]) [ji fb dat abi aC big aQ aF ay, jh s b o n c] (by kernel_rfl) ?_
 clear HF HM; intro a w HF HM
 refine wp_block ?_
 refine bC HF HM rfl [] ((gG b o n c s fb big ak au ah) ++ [(25, aA 0), (26, aA 0), (407, aN 1), (408, .bool true)]) [ji fb dat abi aC big aQ aF ay, jh s b o n c] (by kernel_rfl) ?_
 clear HF HM; intro a w HF HM
 refine bF HF rfl ?_
 refine bC HF HM rfl [] ((gG b o n c s fb big ak au ah) ++ [(26, aA 0), (25, aA 32)]) [ji fb dat abi aC big aQ aF ay, jh s b o n c] (by kernel_rfl) ?_
 clear HF HM; intro a w HF HM
 refine nC HF HM rfl [] ((gG b o n c s fb big ak au ah) ++ [(25, aA 32), (26, aA 40)]) [ji fb dat abi aC big aQ aF ay, jh s b o n c] (by kernel_rfl) ?_
 clear HF HM; intro a w HF HM
 repeat (first | refine aS ?_ | refine aU ?_)
 refine wp_seq ?_
 refine wp_seq (wp_region_lit ?_)
 refine aO HF HM rfl 7 [] ((gG b o n c s fb big ak au ah) ++ [(25, aA 32), (26, aA 40), (418, .bool false)]) [ji fb dat abi aC big aQ aF ay, jh s b o n c] (by kernel_rfl) ?_
 clear HF HM; intro a w HF HM
 refine aI ?_
 refine bf HF rfl ?_
 refine wp_skip ?_
 repeat (first | refine aS ?_ | refine aU ?_)
 replace HF := HF.sub ((gG b o n c s fb big ak au ah) ++ [(25, aA 32), (26, aA 40)]) (by kernel_rfl)
 refine wp_seq ?_
 refine wp_seq (wp_region_lit ?_)
 refine aO HF HM rfl 2 [] ((gG b o n c s fb big ak au ah) ++ [(25, aA 32), (26, aA 40), (425, .bool (decide (0 < ((au : Nat) : Int))))]) [ji fb dat abi aC big aQ aF ay, jh s b o n c] (by kernel_rfl) ?_
 clear HF HM; intro a w HF HM
 rw [show decide (0 < ((au : Nat) : Int)) = true from dM (by omega)] at HF
 refine aO HF HM rfl 3 [] ((gG b o n c s fb big ak au ah) ++ [(25, aA 32), (26, aA 40), (426, .bool true), (428, .bool (((ah : Nat) : Int) == 0))]) [ji fb dat abi aC big aQ aF ay, jh s b o n c] (by kernel_rfl) ?_
 clear HF HM; intro a w HF HM
 rw [show (((ah : Nat) : Int) == 0) = false from beq_eq_false_iff_ne.2 (by omega)] at HF
 refine aO HF HM rfl 5 [] ((gG b o n c s fb big ak au ah) ++ [(25, aA 32), (26, aA 40), (433, .bool false)]) [ji fb dat abi aC big aQ aF ay, jh s b o n c] (by kernel_rfl) ?_
 clear HF HM; intro a w HF HM
 refine aI ?_
 refine bf HF rfl ?_
 refine wp_skip ?_
 repeat (first | refine aS ?_ | refine aU ?_)
 replace HF := HF.sub ((gG b o n c s fb big ak au ah) ++ [(25, aA 32), (26, aA 40)]) (by kernel_rfl)
 replace HF := HF.sub ((gG b o n c s fb big ak au ah) ++ [(26, aA 40)]) (by kernel_rfl)
 exact K a w HF HM

abbrev iR := fun (fb : Nat) (dat : Int) (abi : Nat) (aC : Nat) (big : Bool) (aQ : Nat) (aF : Nat) (ay : Nat) => ((fb, .cells #[aN 1, .int .u8 dat, aN 1, aV abi, aV aC, (aP big), aZ aQ, aZ aF, aJ ay, aK, aK, aK, aK, aK] 131 (0, 0)) : Nat × Obj)
abbrev iQ := fun (s : Nat) (b : Nat) (o : Nat) (n : Nat) (c : Nat) => ((s, .cells #[.iface 178 (.slice (some ⟨b, o, none⟩) n c), aA 0, aA 0, aA 9223372036854775807, aA 9223372036854775807] 246 (0, 0)) : Nat × Obj)
abbrev fM := fun (b : Nat) (o : Nat) (n : Nat) (c : Nat) (s : Nat) (fb : Nat) (big : Bool) (ak : Nat) (aj : Nat) (au : Nat) (ah : Nat) => ([(0, .iface 178 (.slice (some ⟨b, o, none⟩) n c)), (4, aG s), (8, aG fb), (9, (aP big)), (10, aB ak), (11, aA 32), (12, aB aj), (13, aB au), (14, aA 40), (15, aB ah), (16, aB (ah - 1))] : Slots)
theorem CY (l : List UInt8) (b o n c : Nat) (hl : n = l.length) (hnc : n ≤ c) (big : Bool) (abi aC aQ aF ay ak aj au ah : Nat) (dat : Int) (b1 : aQ < 65536) (b2 : aF < 65536) (b3 : ay ≤ 18446744073709551615) (b4 : ak < 4611686018427387904) (b5 : au < 4611686018427387904) (b6 : aj < 200) (b7 : ah < 200) (c1 : 0 < au) (c2 : 0 < ah) (c3 : 0 < aj) {Q : Exit → Act → World → Prop} (w0 : World) (a : Act) (w : World) (s fb : Nat) (HF : Fr 1287 a (fM b o n c s fb big ak aj au ah)) (HM : Mm [] w0 w [iR fb dat abi aC big aQ aF ay, iQ s b o n c])
  (K : ∀ a w, Fr 1287 a ((fM b o n c s fb big ak aj au ah) ++ [(26, aA 40)]) → Mm [] w0 w [iR fb dat abi aC big aQ aF ay, iQ s b o n c] → (spine Tryd.f78 29).wp Tryd.prog Q a w) : (spine Tryd.f78 21).wp Tryd.prog Q a w := by
 refine wp_seq ?_
 refine wp_seq (wp_region_lit ?_)
 refine aO HF HM rfl 2 [] ((fM b o n c s fb big ak aj au ah) ++ [(367, .bool (decide (((au : Nat) : Int) < 0)))]) [iR fb dat abi aC big aQ aF ay, iQ s b o n c] (by kernel_rfl) ?_
 clear HF HM; intro a w HF HM
 rw [show decide (((au : Nat) : Int) < 0) = false from bZ (by omega)] at HF
 refine aI ?_
 refine bf HF rfl ?_
 refine wp_skip ?_
 repeat (first | refine aS ?_ | refine aU ?_)
 replace HF := HF.sub (fM b o n c s fb big ak aj au ah) (by kernel_rfl)
 refine wp_seq ?_
 refine wp_seq (wp_region_lit ?_)
 refine aO HF HM rfl 2 [] ((fM b o n c s fb big ak aj au ah) ++ [(374, .bool (decide (((ak : Nat) : Int) < 0)))]) [iR fb dat abi aC big aQ aF ay, iQ s b o n c] (by kernel_rfl) ?_
 clear HF HM; intro a w HF HM
 rw [show decide (((ak : Nat) : Int) < 0) = false from bZ (by omega)] at HF
 refine aI ?_
 refine bf HF rfl ?_
 refine wp_skip ?_
 repeat (first | refine aS ?_ | refine aU ?_)
 replace HF := HF.sub (fM b o n c s fb big ak aj au ah) (by kernel_rfl)
 refine wp_seq ?_
 refine wp_seq (wp_region_lit ?_)
 refine aO HF HM rfl 2 [] ((fM b o n c s fb big ak aj au ah) ++ [(381, .bool (((au : Nat) : Int) == 0))]) [iR fb dat abi aC big aQ aF ay, iQ s b o n c] (by kernel_rfl) ?_
 clear HF HM; intro a w HF HM
 rw [show (((au : Nat) : Int) == 0) = false from beq_eq_false_iff_ne.2 (by omega)] at HF
 refine aO HF HM rfl 4 [] ((fM b o n c s fb big ak aj au ah) ++ [(385, .bool false)]) [iR fb dat abi aC big aQ aF ay, iQ s b o n c] (by kernel_rfl) ?_
 clear HF HM; intro a w HF HM
 refine aI ?_
 refine bf HF rfl ?_
 refine wp_skip ?_
 repeat (first | refine aS ?_ | refine aU ?_)
 replace HF := HF.sub (fM b o n c s fb big ak aj au ah) (by kernel_rfl)
 refine wp_seq ?_
 refine wp_seq (wp_region_lit ?_)
 refine aO HF HM rfl 2 [] ((fM b o n c s fb big ak aj au ah) ++ [(392, .bool (decide (0 < ((ah : Nat) : Int))))]) [iR fb dat abi aC big aQ aF ay, iQ s b o n c] (by kernel_rfl) ?_
 clear HF HM; intro a w HF HM
 rw [show decide (0 < ((ah : Nat) : Int)) = true from dM (by omega)] at HF
 refine aO HF HM rfl 4 [] ((fM b o n c s fb big ak aj au ah) ++ [(393, .bool true), (396, .bool (decide (((ah : Nat) : Int) ≤ (((ah - 1) : Nat) : Int))))]) [iR fb dat abi aC big aQ aF ay, iQ s b o n c] (by kernel_rfl) ?_
 clear HF HM; intro a w HF HM
 rw [show decide (((ah : Nat) : Int) ≤ (((ah - 1) : Nat) : Int)) = false from bZ (by omega)] at HF
 refine aO HF HM rfl 1 [] ((fM b o n c s fb big ak aj au ah) ++ [(397, .bool false)]) [iR fb dat abi aC big aQ aF ay, iQ s b o n c] (by kernel_rfl) ?_
 clear HF HM; intro a w HF HM
 refine aI ?_
 refine bf HF rfl ?_
 refine wp_skip ?_
 repeat (first | refine aS ?_ | refine aU ?_)
 replace HF := HF.sub (fM b o n c s fb big ak aj au ah) (by kernel_rfl)
 refine bC HF HM rfl [] ((fM b o n c s fb big ak aj au ah) ++ [(25, aA 0), (26, aA 0)]) [iR fb dat abi aC big aQ aF ay, iQ s b o n c] (by kernel_rfl) ?_
 clear HF HM; intro a w HF HM
 refine wp_seq ?_
 refine bC HF HM rfl [[1]] ((fM b o n c s fb big ak aj au ah) ++ [(25, aA 0), (26, aA 0), (407, aN 1)]) [iR fb dat abi aC big aQ aF ay, iQ s b o n c] (by kernel_rfl) ?_
 clear HF HM; intro a w HF HM
 refine wp_block ?_
 refine bC HF HM rfl [] ((fM b o n c s fb big ak aj au ah) ++ [(25, aA 0), (26, aA 0), (407, aN 1), (408, .bool true)]) [iR fb dat abi aC big aQ aF ay, iQ s b o n c] (by kernel_rfl) ?_
 clear HF HM; intro a w HF HM
 refine bF HF rfl ?_
 refine bC HF HM rfl [] ((fM b o n c s fb big ak aj au ah) ++ [(26, aA 0), (25, aA 32)]) [iR fb dat abi aC big aQ aF ay, iQ s b o n c] (by kernel_rfl) ?_
 clear HF HM; intro a w HF HM
 refine nC HF HM rfl [] ((fM b o n c s fb big ak aj au ah) ++ [(25, aA 32), (26, aA 40)]) [iR fb dat abi aC big aQ aF ay, iQ s b o n c] (by kernel_rfl) ?_
 clear HF HM; intro a w HF HM
 repeat (first | refine aS ?_ | refine aU ?_)
 refine wp_seq ?_
 refine wp_seq (wp_region_lit ?_)
 refine aO HF HM rfl 2 [] ((fM b o n c s fb big ak aj au ah) ++ [(25, aA 32), (26, aA 40), (413, .bool (decide (0 < ((aj : Nat) : Int))))]) [iR fb dat abi aC big aQ aF ay, iQ s b o n c] (by kernel_rfl) ?_
 clear HF HM; intro a w HF HM
 rw [show decide (0 < ((aj : Nat) : Int)) = true from dM (by omega)] at HF
 refine aO HF HM rfl 5 [] ((fM b o n c s fb big ak aj au ah) ++ [(25, aA 32), (26, aA 40), (418, .bool false)]) [iR fb dat abi aC big aQ aF ay, iQ s b o n c] (by kernel_rfl) ?_
 clear HF HM; intro a w HF HM
 refine aI ?_
 refine bf HF rfl ?_
 refine wp_skip ?_
 repeat (first | refine aS ?_ | refine aU ?_)
 replace HF := HF.sub ((fM b o n c s fb big ak aj au ah) ++ [(25, aA 32), (26, aA 40)]) (by kernel_rfl)
 refine wp_seq ?_
 refine wp_seq (wp_region_lit ?_)
 refine aO HF HM rfl 2 [] ((fM b o n c s fb big ak aj au ah) ++ [(25, aA 32), (26, aA 40), (425, .bool (decide (0 < ((au : Nat) : Int))))]) [iR fb dat abi aC big aQ aF ay, iQ s b o n c] (by kernel_rfl) ?_
 clear HF HM; intro a w HF HM
 rw [show decide (0 < ((au : Nat) : Int)) = true from dM (by omega)] at HF
 refine aO HF HM rfl 3 [] ((fM b o n c s fb big ak aj au ah) ++ [(25, aA 32), (26, aA 40), (426, .bool true), (428, .bool (((ah : Nat) : Int) == 0))]) [iR fb dat abi aC big aQ aF ay, iQ s b o n c] (by kernel_rfl) ?_
 clear HF HM; intro a w HF HM
 rw [show (((ah : Nat) : Int) == 0) = false from beq_eq_false_iff_ne.2 (by omega)] at HF
 refine aO HF HM rfl 3 [] ((fM b o n c s fb big ak aj au ah) ++ [(25, aA 32), (26, aA 40), (426, .bool true), (429, .bool false), (431, .bool (((aj : Nat) : Int) == 65535))]) [iR fb dat abi aC big aQ aF ay, iQ s b o n c] (by kernel_rfl) ?_
 clear HF HM; intro a w HF HM
 rw [show (((aj : Nat) : Int) == 65535) = false from beq_eq_false_iff_ne.2 (by omega)] at HF
 refine aO HF HM rfl 2 [] ((fM b o n c s fb big ak aj au ah) ++ [(25, aA 32), (26, aA 40), (433, .bool false)]) [iR fb dat abi aC big aQ aF ay, iQ s b o n c] (by kernel_rfl) ?_
 clear HF HM; intro a w HF HM
 refine aI ?_
 refine bf HF rfl ?_
 refine wp_skip ?_
 repeat (first | refine aS ?_ | refine aU ?_)
 replace HF := HF.sub ((fM b o n c s fb big ak aj au ah) ++ [(25, aA 32), (26, aA 40)]) (by kernel_rfl)
 replace HF := HF.sub ((fM b o n c s fb big ak aj au ah) ++ [(26, aA 40)]) (by kernel_rfl)
 exact K a w HF HM

abbrev iZ := fun (fb : Nat) (dat : Int) (abi : Nat) (aC : Nat) (big : Bool) (aQ : Nat) (aF : Nat) (ay : Nat) => ((fb, .cells #[aN 2, .int .u8 dat, aN 1, aV abi, aV aC, (aP big), aZ aQ, aZ aF, aJ ay, aK, aK, aK, aK, aK] 131 (0, 0)) : Nat × Obj)
abbrev iY := fun (s : Nat) (b : Nat) (o : Nat) (n : Nat) (c : Nat) => ((s, .cells #[.iface 178 (.slice (some ⟨b, o, none⟩) n c), aA 0, aA 0, aA 9223372036854775807, aA 9223372036854775807] 246 (0, 0)) : Nat × Obj)
abbrev gq := fun (b : Nat) (o : Nat) (n : Nat) (c : Nat) (s : Nat) (fb : Nat) (big : Bool) (ak : Nat) (au : Nat) (ah : Nat) => ([(0, .iface 178 (.slice (some ⟨b, o, none⟩) n c)), (4, aG s), (8, aG fb), (9, (aP big)), (10, aB ak), (11, aA 56), (12, aA 0), (13, aB au), (14, aA 64), (15, aB ah), (16, aB (ah - 1))] : Slots)
theorem CX (l : List UInt8) (b o n c : Nat) (hl : n = l.length) (hnc : n ≤ c) (big : Bool) (abi aC aQ aF ay ak aj au ah : Nat) (dat : Int) (b1 : aQ < 65536) (b2 : aF < 65536) (b3 : ay ≤ 18446744073709551615) (b4 : ak < 4611686018427387904) (b5 : au < 4611686018427387904) (b6 : aj < 200) (b7 : ah < 200) (c1 : 0 < au) (c2 : 0 < ah) {Q : Exit → Act → World → Prop} (w0 : World) (a : Act) (w : World) (s fb : Nat) (HF : Fr 1287 a (gq b o n c s fb big ak au ah)) (HM : Mm [] w0 w [iZ fb dat abi aC big aQ aF ay, iY s b o n c])
  (K : ∀ a w, Fr 1287 a ((gq b o n c s fb big ak au ah) ++ [(26, aA 64)]) → Mm [] w0 w [iZ fb dat abi aC big aQ aF ay, iY s b o n c] → (spine Tryd.f78 29).wp Tryd.prog Q a w) : (spine Tryd.f78 21).wp Tryd.prog Q a w := by
 refine wp_seq ?_
 refine wp_seq (wp_region_lit ?_)
 refine aO HF HM rfl 2 [] ((gq b o n c s fb big ak au ah) ++ [(367, .bool (decide (((au : Nat) : Int) < 0)))]) [iZ fb dat abi aC big aQ aF ay, iY s b o n c] (by kernel_rfl) ?_
 clear HF HM; intro a w HF HM
 rw [show decide (((au : Nat) : Int) < 0) = false from bZ (by omega)] at HF
 refine aI ?_
 refine bf HF rfl ?_
 refine wp_skip ?_
 repeat (first | refine aS ?_ | refine aU ?_)
 replace HF := HF.sub (gq b o n c s fb big ak au ah) (by kernel_rfl)
 refine wp_seq ?_
 refine wp_seq (wp_region_lit ?_)
 refine aO HF HM rfl 2 [] ((gq b o n c s fb big ak au ah) ++ [(374, .bool (decide (((ak : Nat) : Int) < 0)))]) [iZ fb dat abi aC big aQ aF ay, iY s b o n c] (by kernel_rfl) ?_
 clear HF HM; intro a w HF HM
 rw [show decide (((ak : Nat) : Int) < 0) = false from bZ (by omega)] at HF
 refine aI ?_
 refine bf HF rfl ?_
 refine wp_skip ?_
 repeat (first | refine aS ?_ | refine aU ?_)
 replace HF := HF.sub (gq b o n c s fb big ak au ah) (by kernel_rfl)
 refine wp_seq ?_
 refine wp_seq (wp_region_lit ?_)
 refine aO HF HM rfl 2 [] ((gq b o n c s fb big ak au ah) ++ [(381, .bool (((au : Nat) : Int) == 0))]) [iZ fb dat abi aC big aQ aF ay, iY s b o n c] (by kernel_rfl) ?_
 clear HF HM; intro a w HF HM
 rw [show (((au : Nat) : Int) == 0) = false from beq_eq_false_iff_ne.2 (by omega)] at HF
 refine aO HF HM rfl 4 [] ((gq b o n c s fb big ak au ah) ++ [(385, .bool false)]) [iZ fb dat abi aC big aQ aF ay, iY s b o n c] (by kernel_rfl) ?_
 clear HF HM; intro a w HF HM
 refine aI ?_
 refine bf HF rfl ?_
 refine wp_skip ?_
 repeat (first | refine aS ?_ | refine aU ?_)
 replace HF := HF.sub (gq b o n c s fb big ak au ah) (by kernel_rfl)
 refine wp_seq ?_
 refine wp_seq (wp_region_lit ?_)
 refine aO HF HM rfl 2 [] ((gq b o n c s fb big ak au ah) ++ [(392, .bool (decide (0 < ((ah : Nat) : Int))))]) [iZ fb dat abi aC big aQ aF ay, iY s b o n c] (by kernel_rfl) ?_
 clear HF HM; intro a w HF HM
 rw [show decide (0 < ((ah : Nat) : Int)) = true from dM (by omega)] at HF
 refine aO HF HM rfl 4 [] ((gq b o n c s fb big ak au ah) ++ [(393, .bool true), (396, .bool (decide (((ah : Nat) : Int) ≤ (((ah - 1) : Nat) : Int))))]) [iZ fb dat abi aC big aQ aF ay, iY s b o n c] (by kernel_rfl) ?_
 clear HF HM; intro a w HF HM
 rw [show decide (((ah : Nat) : Int) ≤ (((ah - 1) : Nat) : Int)) = false from bZ (by omega)] at HF
 refine aO HF HM rfl 1 [] ((gq b o n c s fb big ak au ah) ++ [(397, .bool false)]) [iZ fb dat abi aC big aQ aF ay, iY s b o n c] (by kernel_rfl) ?_
 clear HF HM; intro a w HF HM
 refine aI ?_
 refine bf HF rfl ?_
 refine wp_skip ?_
 repeat (first | refine aS ?_ | refine aU ?_)
 replace HF := HF.sub (gq b o n c s fb big ak au ah) (by kernel_rfl)
 refine bC HF HM rfl [] ((gq b o n c s fb big ak au ah) ++ [(25, aA 0), (26, aA 0)]) [iZ fb dat abi aC big aQ aF ay, iY s b o n c] (by kernel_rfl) ?_
 clear HF HM; intro a w HF HM
 refine wp_seq ?_
 refine bC HF HM rfl [[1]] ((gq b o n c s fb big ak au ah) ++ [(25, aA 0), (26, aA 0), (407, aN 2)]) [iZ fb dat abi aC big aQ aF ay, iY s b o n c] (by kernel_rfl) ?_
 clear HF HM; intro a w HF HM
 refine wp_block ?_
 refine bC HF HM rfl [] ((gq b o n c s fb big ak au ah) ++ [(25, aA 0), (26, aA 0), (407, aN 2), (408, .bool false)]) [iZ fb dat abi aC big aQ aF ay, iY s b o n c] (by kernel_rfl) ?_
 clear HF HM; intro a w HF HM
 refine bf HF rfl ?_
 refine bC HF HM rfl [] ((gq b o n c s fb big ak au ah) ++ [(25, aA 0), (26, aA 0), (407, aN 2), (410, .bool true)]) [iZ fb dat abi aC big aQ aF ay, iY s b o n c] (by kernel_rfl) ?_
 clear HF HM; intro a w HF HM
 refine bF HF rfl ?_
 refine bC HF HM rfl [] ((gq b o n c s fb big ak au ah) ++ [(26, aA 0), (25, aA 56)]) [iZ fb dat abi aC big aQ aF ay, iY s b o n c] (by kernel_rfl) ?_
 clear HF HM; intro a w HF HM
 refine nC HF HM rfl [] ((gq b o n c s fb big ak au ah) ++ [(25, aA 56), (26, aA 64)]) [iZ fb dat abi aC big aQ aF ay, iY s b o n c] (by kernel_rfl) ?_
 clear HF HM; intro a w HF HM
 repeat (first | refine aS ?_ | refine aU ?_)
 refine wp_seq ?_
 refine wp_seq (wp_region_lit ?_)
 refine aO HF HM rfl 7 [] ((gq b o n c s fb big ak au ah) ++ [(25, aA 56), (26, aA 64), (418, .bool false)]) [iZ fb dat abi aC big aQ aF ay, iY s b o n c] (by kernel_rfl) ?_
 clear HF HM; intro a w HF HM
 refine aI ?_
 refine bf HF rfl ?_
 refine wp_skip ?_
 repeat (first | refine aS ?_ | refine aU ?_)
 replace HF := HF.sub ((gq b o n c s fb big ak au ah) ++ [(25, aA 56), (26, aA 64)]) (by kernel_rfl)
 refine wp_seq ?_
 refine wp_seq (wp_region_lit ?_)
 refine aO HF HM rfl 2 [] ((gq b o n c s fb big ak au ah) ++ [(25, aA 56), (26, aA 64), (425, .bool (decide (0 < ((au : Nat) : Int))))]) [iZ fb dat abi aC big aQ aF ay, iY s b o n c] (by kernel_rfl) ?_
 clear HF HM; intro a w HF HM
 rw [show decide (0 < ((au : Nat) : Int)) = true from dM (by omega)] at HF
 refine aO HF HM rfl 3 [] ((gq b o n c s fb big ak au ah) ++ [(25, aA 56), (26, aA 64), (426, .bool true), (428, .bool (((ah : Nat) : Int) == 0))]) [iZ fb dat abi aC big aQ aF ay, iY s b o n c] (by kernel_rfl) ?_
 clear HF HM; intro a w HF HM
 rw [show (((ah : Nat) : Int) == 0) = false from beq_eq_false_iff_ne.2 (by omega)] at HF
 refine aO HF HM rfl 5 [] ((gq b o n c s fb big ak au ah) ++ [(25, aA 56), (26, aA 64), (433, .bool false)]) [iZ fb dat abi aC big aQ aF ay, iY s b o n c] (by kernel_rfl) ?_
 clear HF HM; intro a w HF HM
 refine aI ?_
 refine bf HF rfl ?_
 refine wp_skip ?_
 repeat (first | refine aS ?_ | refine aU ?_)
 replace HF := HF.sub ((gq b o n c s fb big ak au ah) ++ [(25, aA 56), (26, aA 64)]) (by kernel_rfl)
 replace HF := HF.sub ((gq b o n c s fb big ak au ah) ++ [(26, aA 64)]) (by kernel_rfl)
 exact K a w HF HM

abbrev iH := fun (fb : Nat) (dat : Int) (abi : Nat) (aC : Nat) (big : Bool) (aQ : Nat) (aF : Nat) (ay : Nat) => ((fb, .cells #[aN 2, .int .u8 dat, aN 1, aV abi, aV aC, (aP big), aZ aQ, aZ aF, aJ ay, aK, aK, aK, aK, aK] 131 (0, 0)) : Nat × Obj)
abbrev iG := fun (s : Nat) (b : Nat) (o : Nat) (n : Nat) (c : Nat) => ((s, .cells #[.iface 178 (.slice (some ⟨b, o, none⟩) n c), aA 0, aA 0, aA 9223372036854775807, aA 9223372036854775807] 246 (0, 0)) : Nat × Obj)
abbrev fH := fun (b : Nat) (o : Nat) (n : Nat) (c : Nat) (s : Nat) (fb : Nat) (big : Bool) (ak : Nat) (aj : Nat) (au : Nat) (ah : Nat) => ([(0, .iface 178 (.slice (some ⟨b, o, none⟩) n c)), (4, aG s), (8, aG fb), (9, (aP big)), (10, aB ak), (11, aA 56), (12, aB aj), (13, aB au), (14, aA 64), (15, aB ah), (16, aB (ah - 1))] : Slots)
theorem CW (l : List UInt8) (b o n c : Nat) (hl : n = l.length) (hnc : n ≤ c) (big : Bool) (abi aC aQ aF ay ak aj au ah : Nat) (dat : Int) (b1 : aQ < 65536) (b2 : aF < 65536) (b3 : ay ≤ 18446744073709551615) (b4 : ak < 4611686018427387904) (b5 : au < 4611686018427387904) (b6 : aj < 200) (b7 : ah < 200) (c1 : 0 < au) (c2 : 0 < ah) (c3 : 0 < aj) {Q : Exit → Act → World → Prop} (w0 : World) (a : Act) (w : World) (s fb : Nat) (HF : Fr 1287 a (fH b o n c s fb big ak aj au ah)) (HM : Mm [] w0 w [iH fb dat abi aC big aQ aF ay, iG s b o n c])
  (K : ∀ a w, Fr 1287 a ((fH b o n c s fb big ak aj au ah) ++ [(26, aA 64)]) → Mm [] w0 w [iH fb dat abi aC big aQ aF ay, iG s b o n c] → (spine Tryd.f78 29).wp Tryd.prog Q a w) : (spine Tryd.f78 21).wp Tryd.prog Q a w := by
 refine wp_seq ?_
 refine wp_seq (wp_region_lit ?_)
 refine aO HF HM rfl 2 [] ((fH b o n c s fb big ak aj au ah) ++ [(367, .bool (decide (((au : Nat) : Int) < 0)))]) [iH fb dat abi aC big aQ aF ay, iG s b o n c] (by kernel_rfl) ?_
 clear HF HM; intro a w HF HM
 rw [show decide (((au : Nat) : Int) < 0) = false from bZ (by omega)] at HF
 refine aI ?_
 refine bf HF rfl ?_
 refine wp_skip ?_
 repeat (first | refine aS ?_ | refine aU ?_)
 replace HF := HF.sub (fH b o n c s fb big ak aj au ah) (by kernel_rfl)
 refine wp_seq ?_
 refine wp_seq (wp_region_lit ?_)
 refine aO HF HM rfl 2 [] ((fH b o n c s fb big ak aj au ah) ++ [(374, .bool (decide (((ak : Nat) : Int) < 0)))]) [iH fb dat abi aC big aQ aF ay, iG s b o n c] (by kernel_rfl) ?_
 clear HF HM; intro a w HF HM
 rw [show decide (((ak : Nat) : Int) < 0) = false from bZ (by omega)] at HF
 refine aI ?_
 refine bf HF rfl ?_
 refine wp_skip ?_
 repeat (first | refine aS ?_ | refine aU ?_)
 replace HF := HF.sub (fH b o n c s fb big ak aj au ah) (by kernel_rfl)
 refine wp_seq ?_
 refine wp_seq (wp_region_lit ?_)
 refine aO HF HM rfl 2 [] ((fH b o n c s fb big ak aj au ah) ++ [(381, .bool (((au : Nat) : Int) == 0))]) [iH fb dat abi aC big aQ aF ay, iG s b o n c] (by kernel_rfl) ?_
 clear HF HM; intro a w HF HM
 rw [show (((au : Nat) : Int) == 0) = false from beq_eq_false_iff_ne.2 (by omega)] at HF
 refine aO HF HM rfl 4 [] ((fH b o n c s fb big ak aj au ah) ++ [(385, .bool false)]) [iH fb dat abi aC big aQ aF ay, iG s b o n c] (by kernel_rfl) ?_
 clear HF HM; intro a w HF HM
 refine aI ?_
 refine bf HF rfl ?_
 refine wp_skip ?_
 repeat (first | refine aS ?_ | refine aU ?_)
 replace HF := HF.sub (fH b o n c s fb big ak aj au ah) (by kernel_rfl)
 refine wp_seq ?_
 refine wp_seq (wp_region_lit ?_)
 refine aO HF HM rfl 2 [] ((fH b o n c s fb big ak aj au ah) ++ [(392, .bool (decide (0 < ((ah : Nat) : Int))))]) [iH fb dat abi aC big aQ aF ay, iG s b o n c] (by kernel_rfl) ?_
 clear HF HM; intro a w HF HM
 rw [show decide (0 < ((ah : Nat) : Int)) = true from dM (by omega)] at HF
 refine aO HF HM rfl 4 [] ((fH b o n c s fb big ak aj au ah) ++ [(393, .bool true), (396, .bool (decide (((ah : Nat) : Int) ≤ (((ah - 1) : Nat) : Int))))]) [iH fb dat abi aC big aQ aF ay, iG s b o n c] (by kernel_rfl) ?_
 clear HF HM; intro a w HF HM
 rw [show decide (((ah : Nat) : Int) ≤ (((ah - 1) : Nat) : Int)) = false from bZ (by omega)] at HF
 refine aO HF HM rfl 1 [] ((fH b o n c s fb big ak aj au ah) ++ [(397, .bool false)]) [iH fb dat abi aC big aQ aF ay, iG s b o n c] (by kernel_rfl) ?_
 clear HF HM; intro a w HF HM
 refine aI ?_
 refine bf HF rfl ?_
 refine wp_skip ?_
 repeat (first | refine aS ?_ | refine aU ?_)
 replace HF := HF.sub (fH b o n c s fb big ak aj au ah) (by kernel_rfl)
 refine bC HF HM rfl [] ((fH b o n c s fb big ak aj au ah) ++ [(25, aA 0), (26, aA 0)]) [iH fb dat abi aC big aQ aF ay, iG s b o n c] (by kernel_rfl) ?_
 clear HF HM; intro a w HF HM
 refine wp_seq ?_
 refine bC HF HM rfl [[1]] ((fH b o n c s fb big ak aj au ah) ++ [(25, aA 0), (26, aA 0), (407, aN 2)]) [iH fb dat abi aC big aQ aF ay, iG s b o n c] (by kernel_rfl) ?_
 clear HF HM; intro a w HF HM
 refine wp_block ?_
 refine bC HF HM rfl [] ((fH b o n c s fb big ak aj au ah) ++ [(25, aA 0), (26, aA 0), (407, aN 2), (408, .bool false)]) [iH fb dat abi aC big aQ aF ay, iG s b o n c] (by kernel_rfl) ?_
 clear HF HM; intro a w HF HM
 refine bf HF rfl ?_
 refine bC HF HM rfl [] ((fH b o n c s fb big ak aj au ah) ++ [(25, aA 0), (26, aA 0), (407, aN 2), (410, .bool true)]) [iH fb dat abi aC big aQ aF ay, iG s b o n c] (by kernel_rfl) ?_
 clear HF HM; intro a w HF HM
 refine bF HF rfl ?_
 refine bC HF HM rfl [] ((fH b o n c s fb big ak aj au ah) ++ [(26, aA 0), (25, aA 56)]) [iH fb dat abi aC big aQ aF ay, iG s b o n c] (by kernel_rfl) ?_
 clear HF HM; intro a w HF HM
 refine nC HF HM rfl [] ((fH b o n c s fb big ak aj au ah) ++ [(25, aA 56), (26, aA 64)]) [iH fb dat abi aC big aQ aF ay, iG s b o n c] (by kernel_rfl) ?_
 clear HF HM; intro a w HF HM
 repeat (first | refine aS ?_ | refine aU ?_)
 refine wp_seq ?_
 refine wp_seq (wp_region_lit ?_)
 refine aO HF HM rfl 2 [] ((fH b o n c s fb big ak aj au ah) ++ [(25, aA 56), (26, aA 64), (413, .bool (decide (0 < ((aj : Nat) : Int))))]) [iH fb dat abi aC big aQ aF ay, iG s b o n c] (by kernel_rfl) ?_
 clear HF HM; intro a w HF HM
 rw [show decide (0 < ((aj : Nat) : Int)) = true from dM (by omega)] at HF
 refine aO HF HM rfl 5 [] ((fH b o n c s fb big ak aj au ah) ++ [(25, aA 56), (26, aA 64), (418, .bool false)]) [iH fb dat abi aC big aQ aF ay, iG s b o n c] (by kernel_rfl) ?_
 clear HF HM; intro a w HF HM
 refine aI ?_
 refine bf HF rfl ?_
 refine wp_skip ?_
 repeat (first | refine aS ?_ | refine aU ?_)
 replace HF := HF.sub ((fH b o n c s fb big ak aj au ah) ++ [(25, aA 56), (26, aA 64)]) (by kernel_rfl)
 refine wp_seq ?_
 refine wp_seq (wp_region_lit ?_)
 refine aO HF HM rfl 2 [] ((fH b o n c s fb big ak aj au ah) ++ [(25, aA 56), (26, aA 64), (425, .bool (decide (0 < ((au : Nat) : Int))))]) [iH fb dat abi aC big aQ aF ay, iG s b o n c] (by kernel_rfl) ?_
 clear HF HM; intro a w HF HM
 rw [show decide (0 < ((au : Nat) : Int)) = true from dM (by omega)] at HF
 refine aO HF HM rfl 3 [] ((fH b o n c s fb big ak aj au ah) ++ [(25, aA 56), (26, aA 64), (426, .bool true), (428, .bool (((ah : Nat) : Int) == 0))]) [iH fb dat abi aC big aQ aF ay, iG s b o n c] (by kernel_rfl) ?_
 clear HF HM; intro a w HF HM
 rw [show (((ah : Nat) : Int) == 0) = false from beq_eq_false_iff_ne.2 (by omega)] at HF
 refine aO HF HM rfl 3 [] ((fH b o n c s fb big ak aj au ah) ++ [(25, aA 56), (26, aA 64), (426, .bool true), (429, .bool false), (431, .bool (((aj : Nat) : Int) == 65535))]) [iH fb dat abi aC big aQ aF ay, iG s b o n c] (by kernel_rfl) ?_
 clear HF HM; intro a w HF HM
 rw [show (((aj : Nat) : Int) == 65535) = false from beq_eq_false_iff_ne.2 (by omega)] at HF
 refine aO HF HM rfl 2 [] ((fH b o n c s fb big ak aj au ah) ++ [(25, aA 56), (26, aA 64), (433, .bool false)]) [iH fb dat abi aC big aQ aF ay, iG s b o n c] (by kernel_rfl) ?_
 clear HF HM; intro a w HF HM
 refine aI ?_
 refine bf HF rfl ?_
 refine wp_skip ?_
 repeat (first | refine aS ?_ | refine aU ?_)
 replace HF := HF.sub ((fH b o n c s fb big ak aj au ah) ++ [(25, aA 56), (26, aA 64)]) (by kernel_rfl)
 replace HF := HF.sub ((fH b o n c s fb big ak aj au ah) ++ [(26, aA 64)]) (by kernel_rfl)
 exact K a w HF HM

end Go.Proofs.YtdgehpocmfjbiaaDoor
namespace Go.Proofs.YtdgehpocmfjbiaaDoor
open Go.RowKit

section
variable {P : Program} {N : Nat} {G : List Nat} {w0 w : World} {a : Act} {ops : Array Oper}
/-- make([]T, 0, n) -/
theorem jq {Q : Exit → Act → World → Prop} {rest : List Oper} {o : Oper} {S : Slots} {L : List (Nat × Obj)} (HF : Fr N a S) (HM : Mm G w0 w L) (hgd : o.guard = none) (l c : Operand) (t : TypeId)
  (ho : o.op = .makeSlice t l c) (hd : okD N o.dst = true) (e : TypeId) (z : Value) (bytes : Nat) (ht : P.underlying t = some (.slice e)) (hi : (P.info? e).map (fun i => (i.zero, i.size, i.bytes)) = some (some z, 1, bytes))
  (kl kc : IntKind) (n : Nat) (hl : ev S l = some (.int kl 0)) (hc : ev S c = some (.int kc (n : Int))) (hb : bytes * n ≤ 281474976710656) (h63 : n ≤ maxLen)
  (hK : ∀ a' w' g cur, w.heap.size ≤ g → cur.size = n → Mm G w0 w' ((g, .cells cur e (0, 0)) :: L) → Fr N a' (qC S o.dst (aH g 0 n)) → wpList P ops Q rest a' w') : wpList P ops Q (o :: rest) a w := by
 obtain ⟨i0, hi0, hz0, hz1, hz2⟩ := info_parts hi
 refine wpList_make_own w hgd l c t ho w.heap.size e i0 z 1 ht hi0 hz0 hz1 kl kc n n (HF.ev hl) (HF.ev hc) rfl (by rw [hz2]; exact hb) h63 (Nat.le_refl _) ?_
 intro w' hown hgrow
 have hbel : Below w.heap.size w w' := (Below.refl _ _).grown hgrow (Nat.le_refl _) (by simp)
 rcases hown.2 with ⟨h, _⟩ | ⟨g, cap, cur, hv, hg, hh, hmc, hcm, hcs, htk⟩
 ·cases h
 ·injection hv with h1 h2 h3
  injection h1 with h1
  injection h1 with h1
  subst h1 h3
  exact hK _ w' _ cur (Nat.le_refl _) (by omega) (HM.push hbel hg hh) (HF.put _ _ (jv hd))
/-- append of one value within the capacity -/
theorem oW {Q : Exit → Act → World → Prop} {rest : List Oper} {o : Oper} {S : Slots} {L : List (Nat × Obj)} (HF : Fr N a S) (HM : Mm G w0 w L) (hgd : o.guard = none) (s x : Operand) (t : TypeId)
  (ho : o.op = .call { callee := .builtin .append, args := #[s, x], argTypes := #[t, t] }) (hd : okD N o.dst = true) (e : TypeId) (z : Value) (bytes : Nat) (ht : P.underlying t = some (.slice e)) (hi : (P.info? e).map (fun i => (i.zero, i.size, i.bytes)) = some (some z, 1, bytes))
  (i j g b k n : Nat) (cur : Array Value) (v : Value) (tx : TypeId) (hL : L[i]? = some (g, .cells cur e (0, 0))) (hcs : cur.size = n) (hk : k < n) (hnm : n ≤ maxLen) (hs : ev S s = some (aH g k n))
  (hx : ev S x = some (aH b 1 1)) (hb : L[j]? = some (b, .cells #[v] tx (0, 0))) (h1 : v.oneCell' = true)
  (hK : ∀ a' w' cur', cur'.size = n → cur'.toList.take (k + 1) = cur.toList.take k ++ [v] → Mm G w0 w' (L.set i (g, .cells cur' e (0, 0))) → Fr N a' (qC S o.dst (aH g (k + 1) n)) → wpList P ops Q rest a' w') : wpList P ops Q (o :: rest) a w := by
 obtain ⟨i0, hi0, hz0, hz1, hz2⟩ := info_parts hi
 have hown : w.ownsRow 0 e 1 (aH g k n) k (cur.toList.take k) :=
  ⟨by simp; omega, .inr ⟨g, n, cur, rfl, Nat.zero_le _, HM.get hL, by omega, hnm, by omega, by rw [Nat.mul_one]⟩⟩
 refine wpList_append_fits w hgd s x t ho 0 e i0 1 ht hi0 hz1 g k n (cur.toList.take k) (HF.ev hs) hown ⟨b, 0, none⟩ 1 1 [v] (HF.ev hx) rfl ?_ (by simpa using h1) (by omega) ?_
 ·intro m u hu
  cases m with
  | zero =>
   simp only [List.getElem?_cons_zero, Option.some.injEq] at hu
   subst hu
   have := cell_of_row w b 0 _ tx (0, 0) (HM.get hb)
   simpa [Addr.add] using this
  | succ m => simp at hu
 ·intro w' hown' hgrow
  rcases hown'.2 with ⟨h, _⟩ | ⟨g', cap, cur', hv, hg, hh, hmc, hcm, hcs', htk⟩
  ·cases h
  ·injection hv with h1 h2 h3
   injection h1 with h1
   injection h1 with h1
   subst h1 h3
   exact hK _ w' cur' (by omega) (by rw [Nat.mul_one] at htk; exact htk) (HM.put hL hh (Keep.MZ hgrow)) (HF.put _ _ (jv hd))
end
theorem sD {P : Program} {w : World} {ρ : Operand → Value} {o : Oper} {T U : TypeId} {x y : Operand} {k : IntKind} {u v : Int} (ho : o.op = .binOp .quo T x y U) (hx : ρ x = .int k u) (hy : ρ y = .int k v) (hv : v ≠ 0) : (execOp ρ o).run P w = .ok (.value (.int k (k.wrap (u.tdiv v)))) w := by
 unfold execOp
 simp only [ho, hx, hy]
 simp [eqGuard, binOp_quo, Op.intDiv, hv]

theorem qy : (Tryd.prog.info? 136).map (fun i => (i.zero, i.size, i.bytes)) = some (some (.pointer none), 1, 8) := by kernel_rfl
theorem uM : (Tryd.prog.info? 133).map (fun i => (i.zero, i.size, i.bytes)) = some (some (.pointer none), 1, 8) := by kernel_rfl
theorem sN (n : Nat) (h0 : 0 < n) (h1 : n < 200) : 1000000 ≤ (18446744073709551615 : Int).tdiv (n : Int) ∧ (18446744073709551615 : Int).tdiv (n : Int) ≤ 18446744073709551615 := by
 rw [Int.tdiv_eq_ediv_of_nonneg (by omega)]
 constructor
 ·exact Int.le_ediv_of_mul_le (by omega) (by omega)
 ·exact Int.ediv_le_self _ (by omega)

abbrev jg := fun (b : Nat) (o : Nat) (n : Nat) (c : Nat) (s : Nat) (fb : Nat) (big : Bool) (ak : Nat) (au : Nat) (ah : Nat) => ([(0, .iface 178 (.slice (some ⟨b, o, none⟩) n c)), (4, aG s), (8, aG fb), (9, (aP big)), (10, aB ak), (11, aA 32), (12, aA 0), (13, aB au), (14, aA 40), (15, aB ah), (16, aB (ah - 1)), (26, aA 40)] : Slots)
theorem CV (l : List UInt8) (b o n c : Nat) (hl : n = l.length) (hnc : n ≤ c) (big : Bool) (abi aC aQ aF ay ak aj au ah : Nat) (dat : Int) (b1 : aQ < 65536) (b2 : aF < 65536) (b3 : ay ≤ 18446744073709551615) (b4 : ak < 4611686018427387904) (b5 : au < 4611686018427387904) (b6 : aj < 200) (b7 : ah < 200) (c1 : 0 < au) (c2 : 0 < ah) (c4 : ak < n) (c5 : ak + (0 * 32) ≤ n) {Q : Exit → Act → World → Prop} (w0 : World) (hbl : b < w0.heap.size) (hr : Row w0 (some ⟨b, o, none⟩) (l.map Bv)) (a : Act) (w : World) (s fb : Nat) (HF : Fr 1287 a (jg b o n c s fb big ak au ah)) (HM : Mm [] w0 w [(fb, .cells #[aN 1, .int .u8 dat, aN 1, aV abi, aV aC, (aP big), aZ aQ, aZ aF, aJ ay, aK, aK, aK, aK, aK] 131 (0, 0)), (s, .cells #[.iface 178 (.slice (some ⟨b, o, none⟩) n c), aA 0, aA 0, aA 9223372036854775807, aA 9223372036854775807] 246 (0, 0))])
  (K : ∀ a w pg cur pd, cur.size = 0 → Fr 1287 a ((jg b o n c s fb big ak au ah) ++ [(36, aH pd (0 * 32) (0 * 32))]) → Mm [] w0 w [(pd, .cells (((l.drop ak).take (0 * 32)).map Bv).toArray 5 (0, 0)), (pg, .cells cur 136 (0, 0)), (fb, .cells #[aN 1, .int .u8 dat, aN 1, aV abi, aV aC, (aP big), aZ aQ, aZ aF, aJ ay, aK, aH pg 0 0, aK, aK, aK] 131 (0, 0)), (s, .cells #[.iface 178 (.slice (some ⟨b, o, none⟩) n c), aA 0, aA 0, aA 9223372036854775807, aA 9223372036854775807] 246 (0, 0))] → (spine Tryd.f78 35).wp Tryd.prog Q a w) : (spine Tryd.f78 29).wp Tryd.prog Q a w := by
 refine wp_seq (wp_region_lit ?_)
 refine aO HF HM rfl 2 [] ((jg b o n c s fb big ak au ah) ++ [(547, bD 0)]) [(fb, .cells #[aN 1, .int .u8 dat, aN 1, aV abi, aV aC, (aP big), aZ aQ, aZ aF, aJ ay, aK, aK, aK, aK, aK] 131 (0, 0)), (s, .cells #[.iface 178 (.slice (some ⟨b, o, none⟩) n c), aA 0, aA 0, aA 9223372036854775807, aA 9223372036854775807] 246 (0, 0))] (by kernel_rfl) ?_
 clear HF HM; intro a w HF HM
 refine bn HF (by kernel_rfl) 98 #[bD 8, aJ 0] (by kernel_rfl) (fun w => by kernel_rfl) (Calls.mono (oJ 0 (by omega) w) ?_)
 rintro _ w1 ⟨rfl, hq⟩
 replace HM : Mm [] w0 w1 [(fb, .cells #[aN 1, .int .u8 dat, aN 1, aV abi, aV aC, (aP big), aZ aQ, aZ aF, aJ ay, aK, aK, aK, aK, aK] 131 (0, 0)), (s, .cells #[.iface 178 (.slice (some ⟨b, o, none⟩) n c), aA 0, aA 0, aA 9223372036854775807, aA 9223372036854775807] 246 (0, 0))] := by first | (rw [hq]; exact HM) | (rw [← hq]; exact HM)
 clear hq
 refine ⟨_, rfl, ?_⟩; clear HF; intro a HF; replace HF := HF.sub ((jg b o n c s fb big ak au ah) ++ [(547, bD 0), (548, aB 0)]) (by kernel_rfl)
 refine aO HF HM rfl 1 [] ((jg b o n c s fb big ak au ah) ++ [(35, aB 0)]) [(fb, .cells #[aN 1, .int .u8 dat, aN 1, aV abi, aV aC, (aP big), aZ aQ, aZ aF, aJ ay, aK, aK, aK, aK, aK] 131 (0, 0)), (s, .cells #[.iface 178 (.slice (some ⟨b, o, none⟩) n c), aA 0, aA 0, aA 9223372036854775807, aA 9223372036854775807] 246 (0, 0))] (by kernel_rfl) ?_
 clear HF HM; intro a w HF HM
 refine aI ?_
 refine wp_seq ?_
 refine wp_seq (wp_region_lit ?_)
 refine aO HF HM rfl 2 [] ((jg b o n c s fb big ak au ah) ++ [(35, aB 0), (550, .bool (decide (((0 : Nat) : Int) < 0)))]) [(fb, .cells #[aN 1, .int .u8 dat, aN 1, aV abi, aV aC, (aP big), aZ aQ, aZ aF, aJ ay, aK, aK, aK, aK, aK] 131 (0, 0)), (s, .cells #[.iface 178 (.slice (some ⟨b, o, none⟩) n c), aA 0, aA 0, aA 9223372036854775807, aA 9223372036854775807] 246 (0, 0))] (by kernel_rfl) ?_
 clear HF HM; intro a w HF HM
 rw [show decide (((0 : Nat) : Int) < 0) = false from bZ (by omega)] at HF
 refine aI ?_
 refine bf HF rfl ?_
 refine wp_skip ?_
 repeat (first | refine aS ?_ | refine aU ?_)
 replace HF := HF.sub ((jg b o n c s fb big ak au ah) ++ [(35, aB 0)]) (by kernel_rfl)
 refine wp_seq ?_
 refine wp_seq (wp_region_lit ?_)
 refine aO HF HM rfl 10 [] ((jg b o n c s fb big ak au ah) ++ [(35, aB 0), (565, .bool false)]) [(fb, .cells #[aN 1, .int .u8 dat, aN 1, aV abi, aV aC, (aP big), aZ aQ, aZ aF, aJ ay, aK, aK, aK, aK, aK] 131 (0, 0)), (s, .cells #[.iface 178 (.slice (some ⟨b, o, none⟩) n c), aA 0, aA 0, aA 9223372036854775807, aA 9223372036854775807] 246 (0, 0))] (by kernel_rfl) ?_
 clear HF HM; intro a w HF HM
 refine aI ?_
 refine bf HF rfl ?_
 refine wp_skip ?_
 repeat (first | refine aS ?_ | refine aU ?_)
 replace HF := HF.sub ((jg b o n c s fb big ak au ah) ++ [(35, aB 0)]) (by kernel_rfl)
 refine wp_seq (wp_region_lit ?_)
 refine aO HF HM rfl 2 [] ((jg b o n c s fb big ak au ah) ++ [(35, aB 0), (571, aG fb), (572, aB 0)]) [(fb, .cells #[aN 1, .int .u8 dat, aN 1, aV abi, aV aC, (aP big), aZ aQ, aZ aF, aJ ay, aK, aK, aK, aK, aK] 131 (0, 0)), (s, .cells #[.iface 178 (.slice (some ⟨b, o, none⟩) n c), aA 0, aA 0, aA 9223372036854775807, aA 9223372036854775807] 246 (0, 0))] (by kernel_rfl) ?_
 clear HF HM; intro a w HF HM
 refine jq HF HM rfl _ _ 127 rfl rfl 136 (.pointer none) 8 Tryd.underlying127 qy .i64 .i64 0 rfl rfl (by omega) (by unfold maxLen; omega) ?_
 intro a2 w2 pg cur hgw hcs bI HF2; have hg0 : w0.heap.size ≤ pg := Nat.le_trans HM.size hgw; clear HF HM hgw; have HM := bI; have HF := HF2; clear bI HF2
 replace HF := HF.sub ((jg b o n c s fb big ak au ah) ++ [(35, aB 0), (571, aG fb), (573, aH pg 0 0)]) (by kernel_rfl)
 refine aO HF HM rfl 3 [[1]] ((jg b o n c s fb big ak au ah) ++ [(35, aB 0)]) [(pg, .cells cur 136 (0, 0)), (fb, .cells #[aN 1, .int .u8 dat, aN 1, aV abi, aV aC, (aP big), aZ aQ, aZ aF, aJ ay, aK, aH pg 0 0, aK, aK, aK] 131 (0, 0)), (s, .cells #[.iface 178 (.slice (some ⟨b, o, none⟩) n c), aA 0, aA 0, aA 9223372036854775807, aA 9223372036854775807] 246 (0, 0))] (by kernel_rfl) ?_
 clear HF HM; intro a w HF HM
 refine aI ?_
 have hbs : b ≠ s := fun e => absurd hbl (Nat.not_lt_of_le (e ▸ HM.ge (i := 2) rfl))
 have hsz : w0.heap.size ≤ w.heap.size := HM.size
 refine wp_seq (wp_region_lit ?_)
 refine aO HF HM rfl 8 [] ((jg b o n c s fb big ak au ah) ++ [(35, aB 0), (578, .iface 144 (aG s)), (583, bD 0), (584, aB ak)]) [(pg, .cells cur 136 (0, 0)), (fb, .cells #[aN 1, .int .u8 dat, aN 1, aV abi, aV aC, (aP big), aZ aQ, aZ aF, aJ ay, aK, aH pg 0 0, aK, aK, aK] 131 (0, 0)), (s, .cells #[.iface 178 (.slice (some ⟨b, o, none⟩) n c), aA 0, aA 0, aA 9223372036854775807, aA 9223372036854775807] 246 (0, 0))] (by kernel_rfl) ?_
 clear HF HM; intro a w HF HM
 refine bn HF (by kernel_rfl) 99 #[.iface 144 (aG s), aJ (0 * 32), aB ak] (by kernel_rfl) (fun w => by kernel_rfl) (Calls.mono (m_ l b o n c hl hnc s (0 * 32) 0 ak 0 9223372036854775807 9223372036854775807 (by omega) (by omega) (by omega) (by omega) (by omega) (by omega) w (HM.row hr (by intro b' o' s' _; simp)) (Nat.lt_of_lt_of_le hbl HM.size) hbs (HM.get (i := 2) rfl)) ?_)
 rintro _ w3 ⟨pd, rfl, hb, hge, hgn⟩
 replace HM : Mm [] w0 w3 [(pd, .cells (((l.drop (0 + ak)).take (0 * 32)).map Bv).toArray 5 (0, 0)), (pg, .cells cur 136 (0, 0)), (fb, .cells #[aN 1, .int .u8 dat, aN 1, aV abi, aV aC, (aP big), aZ aQ, aZ aF, aJ ay, aK, aH pg 0 0, aK, aK, aK] 131 (0, 0)), (s, .cells #[.iface 178 (.slice (some ⟨b, o, none⟩) n c), aA 0, aA 0, aA 9223372036854775807, aA 9223372036854775807] 246 (0, 0))] := HM.push hb hge hgn
 clear hb hge hgn
 refine ⟨_, rfl, ?_⟩; clear HF; intro a HF; replace HF := HF.sub ((jg b o n c s fb big ak au ah) ++ [(35, aB 0), (578, .iface 144 (aG s)), (583, bD 0), (584, aB ak), (585, .tuple #[aH pd (0 * 32) (0 * 32), .nilIface])]) (by kernel_rfl)
 refine aO HF HM rfl 5 [] ((jg b o n c s fb big ak au ah) ++ [(35, aB 0), (36, aH pd (0 * 32) (0 * 32)), (37, .nilIface)]) [(pd, .cells (((l.drop (0 + ak)).take (0 * 32)).map Bv).toArray 5 (0, 0)), (pg, .cells cur 136 (0, 0)), (fb, .cells #[aN 1, .int .u8 dat, aN 1, aV abi, aV aC, (aP big), aZ aQ, aZ aF, aJ ay, aK, aH pg 0 0, aK, aK, aK] 131 (0, 0)), (s, .cells #[.iface 178 (.slice (some ⟨b, o, none⟩) n c), aA 0, aA 0, aA 9223372036854775807, aA 9223372036854775807] 246 (0, 0))] (by kernel_rfl) ?_
 clear HF HM; intro a w HF HM
 refine aI ?_
 refine wp_seq ?_
 refine wp_seq (wp_region_lit ?_)
 refine aO HF HM rfl 2 [] ((jg b o n c s fb big ak au ah) ++ [(35, aB 0), (36, aH pd (0 * 32) (0 * 32)), (37, .nilIface), (589, .bool false)]) [(pd, .cells (((l.drop (0 + ak)).take (0 * 32)).map Bv).toArray 5 (0, 0)), (pg, .cells cur 136 (0, 0)), (fb, .cells #[aN 1, .int .u8 dat, aN 1, aV abi, aV aC, (aP big), aZ aQ, aZ aF, aJ ay, aK, aH pg 0 0, aK, aK, aK] 131 (0, 0)), (s, .cells #[.iface 178 (.slice (some ⟨b, o, none⟩) n c), aA 0, aA 0, aA 9223372036854775807, aA 9223372036854775807] 246 (0, 0))] (by kernel_rfl) ?_
 clear HF HM; intro a w HF HM
 refine aI ?_
 refine bf HF rfl ?_
 refine wp_skip ?_
 repeat (first | refine aS ?_ | refine aU ?_)
 replace HF := HF.sub ((jg b o n c s fb big ak au ah) ++ [(36, aH pd (0 * 32) (0 * 32))]) (by kernel_rfl)
 replace HF := HF.sub ((jg b o n c s fb big ak au ah) ++ [(36, aH pd (0 * 32) (0 * 32))]) (by kernel_rfl)
 rw [Nat.zero_add] at HM
 exact K a w pg cur pd hcs HF HM

abbrev gY := fun (b : Nat) (o : Nat) (n : Nat) (c : Nat) (s : Nat) (fb : Nat) (big : Bool) (ak : Nat) (aj : Nat) (au : Nat) (ah : Nat) => ([(0, .iface 178 (.slice (some ⟨b, o, none⟩) n c)), (4, aG s), (8, aG fb), (9, (aP big)), (10, aB ak), (11, aA 32), (12, aB aj), (13, aB au), (14, aA 40), (15, aB ah), (16, aB (ah - 1)), (26, aA 40)] : Slots)
theorem CU (l : List UInt8) (b o n c : Nat) (hl : n = l.length) (hnc : n ≤ c) (big : Bool) (abi aC aQ aF ay ak aj au ah : Nat) (dat : Int) (b1 : aQ < 65536) (b2 : aF < 65536) (b3 : ay ≤ 18446744073709551615) (b4 : ak < 4611686018427387904) (b5 : au < 4611686018427387904) (b6 : aj < 200) (b7 : ah < 200) (c1 : 0 < au) (c2 : 0 < ah) (c3 : 0 < aj) (c4 : ak < n) (c5 : ak + (aj * 32) ≤ n) {Q : Exit → Act → World → Prop} (w0 : World) (hbl : b < w0.heap.size) (hr : Row w0 (some ⟨b, o, none⟩) (l.map Bv)) (a : Act) (w : World) (s fb : Nat) (HF : Fr 1287 a (gY b o n c s fb big ak aj au ah)) (HM : Mm [] w0 w [(fb, .cells #[aN 1, .int .u8 dat, aN 1, aV abi, aV aC, (aP big), aZ aQ, aZ aF, aJ ay, aK, aK, aK, aK, aK] 131 (0, 0)), (s, .cells #[.iface 178 (.slice (some ⟨b, o, none⟩) n c), aA 0, aA 0, aA 9223372036854775807, aA 9223372036854775807] 246 (0, 0))])
  (K : ∀ a w pg cur pd, cur.size = aj → Fr 1287 a ((gY b o n c s fb big ak aj au ah) ++ [(36, aH pd (aj * 32) (aj * 32))]) → Mm [] w0 w [(pd, .cells (((l.drop ak).take (aj * 32)).map Bv).toArray 5 (0, 0)), (pg, .cells cur 136 (0, 0)), (fb, .cells #[aN 1, .int .u8 dat, aN 1, aV abi, aV aC, (aP big), aZ aQ, aZ aF, aJ ay, aK, aH pg 0 aj, aK, aK, aK] 131 (0, 0)), (s, .cells #[.iface 178 (.slice (some ⟨b, o, none⟩) n c), aA 0, aA 0, aA 9223372036854775807, aA 9223372036854775807] 246 (0, 0))] → (spine Tryd.f78 35).wp Tryd.prog Q a w) : (spine Tryd.f78 29).wp Tryd.prog Q a w := by
 refine wp_seq (wp_region_lit ?_)
 refine aO HF HM rfl 2 [] ((gY b o n c s fb big ak aj au ah) ++ [(547, bD (IntKind.u64.wrap ((aj : Nat) : Int)))]) [(fb, .cells #[aN 1, .int .u8 dat, aN 1, aV abi, aV aC, (aP big), aZ aQ, aZ aF, aJ ay, aK, aK, aK, aK, aK] 131 (0, 0)), (s, .cells #[.iface 178 (.slice (some ⟨b, o, none⟩) n c), aA 0, aA 0, aA 9223372036854775807, aA 9223372036854775807] 246 (0, 0))] (by kernel_rfl) ?_
 clear HF HM; intro a w HF HM
 rw [show IntKind.u64.wrap ((aj : Nat) : Int) = ((aj : Nat) : Int) from IntWalk.u64_in _ (by omega)] at HF
 refine bn HF (by kernel_rfl) 98 #[bD 8, aJ aj] (by kernel_rfl) (fun w => by kernel_rfl) (Calls.mono (oJ aj (by omega) w) ?_)
 rintro _ w1 ⟨rfl, hq⟩
 replace HM : Mm [] w0 w1 [(fb, .cells #[aN 1, .int .u8 dat, aN 1, aV abi, aV aC, (aP big), aZ aQ, aZ aF, aJ ay, aK, aK, aK, aK, aK] 131 (0, 0)), (s, .cells #[.iface 178 (.slice (some ⟨b, o, none⟩) n c), aA 0, aA 0, aA 9223372036854775807, aA 9223372036854775807] 246 (0, 0))] := by first | (rw [hq]; exact HM) | (rw [← hq]; exact HM)
 clear hq
 refine ⟨_, rfl, ?_⟩; clear HF; intro a HF; replace HF := HF.sub ((gY b o n c s fb big ak aj au ah) ++ [(547, aJ aj), (548, aB aj)]) (by kernel_rfl)
 refine aO HF HM rfl 1 [] ((gY b o n c s fb big ak aj au ah) ++ [(35, aB aj)]) [(fb, .cells #[aN 1, .int .u8 dat, aN 1, aV abi, aV aC, (aP big), aZ aQ, aZ aF, aJ ay, aK, aK, aK, aK, aK] 131 (0, 0)), (s, .cells #[.iface 178 (.slice (some ⟨b, o, none⟩) n c), aA 0, aA 0, aA 9223372036854775807, aA 9223372036854775807] 246 (0, 0))] (by kernel_rfl) ?_
 clear HF HM; intro a w HF HM
 refine aI ?_
 refine wp_seq ?_
 refine wp_seq (wp_region_lit ?_)
 refine aO HF HM rfl 2 [] ((gY b o n c s fb big ak aj au ah) ++ [(35, aB aj), (550, .bool (decide (((aj : Nat) : Int) < 0)))]) [(fb, .cells #[aN 1, .int .u8 dat, aN 1, aV abi, aV aC, (aP big), aZ aQ, aZ aF, aJ ay, aK, aK, aK, aK, aK] 131 (0, 0)), (s, .cells #[.iface 178 (.slice (some ⟨b, o, none⟩) n c), aA 0, aA 0, aA 9223372036854775807, aA 9223372036854775807] 246 (0, 0))] (by kernel_rfl) ?_
 clear HF HM; intro a w HF HM
 rw [show decide (((aj : Nat) : Int) < 0) = false from bZ (by omega)] at HF
 refine aI ?_
 refine bf HF rfl ?_
 refine wp_skip ?_
 repeat (first | refine aS ?_ | refine aU ?_)
 replace HF := HF.sub ((gY b o n c s fb big ak aj au ah) ++ [(35, aB aj)]) (by kernel_rfl)
 refine wp_seq ?_
 refine wp_seq (wp_region_lit ?_)
 refine aO HF HM rfl 2 [] ((gY b o n c s fb big ak aj au ah) ++ [(35, aB aj), (557, .bool (decide (0 < ((aj : Nat) : Int))))]) [(fb, .cells #[aN 1, .int .u8 dat, aN 1, aV abi, aV aC, (aP big), aZ aQ, aZ aF, aJ ay, aK, aK, aK, aK, aK] 131 (0, 0)), (s, .cells #[.iface 178 (.slice (some ⟨b, o, none⟩) n c), aA 0, aA 0, aA 9223372036854775807, aA 9223372036854775807] 246 (0, 0))] (by kernel_rfl) ?_
 clear HF HM; intro a w HF HM
 rw [show decide (0 < ((aj : Nat) : Int)) = true from dM (by omega)] at HF
 refine aO HF HM rfl 3 [] ((gY b o n c s fb big ak aj au ah) ++ [(35, aB aj), (557, .bool true), (558, .bool true), (560, bD (IntKind.u64.wrap ((aj : Nat) : Int)))]) [(fb, .cells #[aN 1, .int .u8 dat, aN 1, aV abi, aV aC, (aP big), aZ aQ, aZ aF, aJ ay, aK, aK, aK, aK, aK] 131 (0, 0)), (s, .cells #[.iface 178 (.slice (some ⟨b, o, none⟩) n c), aA 0, aA 0, aA 9223372036854775807, aA 9223372036854775807] 246 (0, 0))] (by kernel_rfl) ?_
 clear HF HM; intro a w HF HM
 rw [show IntKind.u64.wrap ((aj : Nat) : Int) = ((aj : Nat) : Int) from IntWalk.u64_in _ (by omega)] at HF
 refine dP HF (by kernel_rfl) (bD (IntKind.u64.wrap ((18446744073709551615 : Int).tdiv ((aj : Nat) : Int)))) (by kernel_rfl) (sD rfl rfl rfl (by omega)) ?_
 clear HF; intro a HF; replace HF := HF.sub [(0, .iface 178 (.slice (some ⟨b, o, none⟩) n c)), (4, aG s), (8, aG fb), (9, (aP big)), (10, aB ak), (11, aA 32), (12, aB aj), (13, aB au), (14, aA 40), (15, aB ah), (16, aB (ah - 1)), (26, aA 40), (35, aB aj), (557, .bool true), (558, .bool true), (560, aJ aj), (561, bD (IntKind.u64.wrap ((18446744073709551615 : Int).tdiv ((aj : Nat) : Int))))] (by kernel_rfl)
 have hq := sN aj c3 b6
 rw [IntWalk.u64_in ((18446744073709551615 : Int).tdiv ((aj : Nat) : Int)) (by omega)] at HF
 refine aO HF HM rfl 3 [] ((gY b o n c s fb big ak aj au ah) ++ [(35, aB aj), (557, .bool true), (558, .bool true), (564, .bool (decide (((18446744073709551615 : Int).tdiv ((aj : Nat) : Int)) < 32)))]) [(fb, .cells #[aN 1, .int .u8 dat, aN 1, aV abi, aV aC, (aP big), aZ aQ, aZ aF, aJ ay, aK, aK, aK, aK, aK] 131 (0, 0)), (s, .cells #[.iface 178 (.slice (some ⟨b, o, none⟩) n c), aA 0, aA 0, aA 9223372036854775807, aA 9223372036854775807] 246 (0, 0))] (by kernel_rfl) ?_
 clear HF HM; intro a w HF HM
 rw [show decide (((18446744073709551615 : Int).tdiv ((aj : Nat) : Int)) < 32) = false from bZ (by omega)] at HF
 refine aO HF HM rfl 1 [] ((gY b o n c s fb big ak aj au ah) ++ [(35, aB aj), (565, .bool false)]) [(fb, .cells #[aN 1, .int .u8 dat, aN 1, aV abi, aV aC, (aP big), aZ aQ, aZ aF, aJ ay, aK, aK, aK, aK, aK] 131 (0, 0)), (s, .cells #[.iface 178 (.slice (some ⟨b, o, none⟩) n c), aA 0, aA 0, aA 9223372036854775807, aA 9223372036854775807] 246 (0, 0))] (by kernel_rfl) ?_
 clear HF HM; intro a w HF HM
 refine aI ?_
 refine bf HF rfl ?_
 refine wp_skip ?_
 repeat (first | refine aS ?_ | refine aU ?_)
 replace HF := HF.sub ((gY b o n c s fb big ak aj au ah) ++ [(35, aB aj)]) (by kernel_rfl)
 refine wp_seq (wp_region_lit ?_)
 refine aO HF HM rfl 2 [] ((gY b o n c s fb big ak aj au ah) ++ [(35, aB aj), (571, aG fb), (572, aB aj)]) [(fb, .cells #[aN 1, .int .u8 dat, aN 1, aV abi, aV aC, (aP big), aZ aQ, aZ aF, aJ ay, aK, aK, aK, aK, aK] 131 (0, 0)), (s, .cells #[.iface 178 (.slice (some ⟨b, o, none⟩) n c), aA 0, aA 0, aA 9223372036854775807, aA 9223372036854775807] 246 (0, 0))] (by kernel_rfl) ?_
 clear HF HM; intro a w HF HM
 refine jq HF HM rfl _ _ 127 rfl rfl 136 (.pointer none) 8 Tryd.underlying127 qy .i64 .i64 aj rfl rfl (by omega) (by unfold maxLen; omega) ?_
 intro a2 w2 pg cur hgw hcs bI HF2; have hg0 : w0.heap.size ≤ pg := Nat.le_trans HM.size hgw; clear HF HM hgw; have HM := bI; have HF := HF2; clear bI HF2
 replace HF := HF.sub ((gY b o n c s fb big ak aj au ah) ++ [(35, aB aj), (571, aG fb), (573, aH pg 0 aj)]) (by kernel_rfl)
 refine aO HF HM rfl 3 [[1]] ((gY b o n c s fb big ak aj au ah) ++ [(35, aB aj)]) [(pg, .cells cur 136 (0, 0)), (fb, .cells #[aN 1, .int .u8 dat, aN 1, aV abi, aV aC, (aP big), aZ aQ, aZ aF, aJ ay, aK, aH pg 0 aj, aK, aK, aK] 131 (0, 0)), (s, .cells #[.iface 178 (.slice (some ⟨b, o, none⟩) n c), aA 0, aA 0, aA 9223372036854775807, aA 9223372036854775807] 246 (0, 0))] (by kernel_rfl) ?_
 clear HF HM; intro a w HF HM
 refine aI ?_
 have hbs : b ≠ s := fun e => absurd hbl (Nat.not_lt_of_le (e ▸ HM.ge (i := 2) rfl))
 have hsz : w0.heap.size ≤ w.heap.size := HM.size
 refine wp_seq (wp_region_lit ?_)
 refine aO HF HM rfl 4 [] ((gY b o n c s fb big ak aj au ah) ++ [(35, aB aj), (578, .iface 144 (aG s)), (580, bD (IntKind.u64.wrap ((aj : Nat) : Int)))]) [(pg, .cells cur 136 (0, 0)), (fb, .cells #[aN 1, .int .u8 dat, aN 1, aV abi, aV aC, (aP big), aZ aQ, aZ aF, aJ ay, aK, aH pg 0 aj, aK, aK, aK] 131 (0, 0)), (s, .cells #[.iface 178 (.slice (some ⟨b, o, none⟩) n c), aA 0, aA 0, aA 9223372036854775807, aA 9223372036854775807] 246 (0, 0))] (by kernel_rfl) ?_
 clear HF HM; intro a w HF HM
 rw [show IntKind.u64.wrap ((aj : Nat) : Int) = ((aj : Nat) : Int) from IntWalk.u64_in _ (by omega)] at HF
 refine aO HF HM rfl 3 [] ((gY b o n c s fb big ak aj au ah) ++ [(35, aB aj), (578, .iface 144 (aG s)), (583, bD (IntKind.u64.wrap (((aj : Nat) : Int) * 32)))]) [(pg, .cells cur 136 (0, 0)), (fb, .cells #[aN 1, .int .u8 dat, aN 1, aV abi, aV aC, (aP big), aZ aQ, aZ aF, aJ ay, aK, aH pg 0 aj, aK, aK, aK] 131 (0, 0)), (s, .cells #[.iface 178 (.slice (some ⟨b, o, none⟩) n c), aA 0, aA 0, aA 9223372036854775807, aA 9223372036854775807] 246 (0, 0))] (by kernel_rfl) ?_
 clear HF HM; intro a w HF HM
 rw [show IntKind.u64.wrap (((aj : Nat) : Int) * 32) = (((aj * 32) : Nat) : Int) from (IntWalk.u64_in _ (by omega)).trans (by omega)] at HF
 refine aO HF HM rfl 1 [] ((gY b o n c s fb big ak aj au ah) ++ [(35, aB aj), (578, .iface 144 (aG s)), (583, aJ (aj * 32)), (584, aB ak)]) [(pg, .cells cur 136 (0, 0)), (fb, .cells #[aN 1, .int .u8 dat, aN 1, aV abi, aV aC, (aP big), aZ aQ, aZ aF, aJ ay, aK, aH pg 0 aj, aK, aK, aK] 131 (0, 0)), (s, .cells #[.iface 178 (.slice (some ⟨b, o, none⟩) n c), aA 0, aA 0, aA 9223372036854775807, aA 9223372036854775807] 246 (0, 0))] (by kernel_rfl) ?_
 clear HF HM; intro a w HF HM
 refine bn HF (by kernel_rfl) 99 #[.iface 144 (aG s), aJ (aj * 32), aB ak] (by kernel_rfl) (fun w => by kernel_rfl) (Calls.mono (m_ l b o n c hl hnc s (aj * 32) 0 ak 0 9223372036854775807 9223372036854775807 (by omega) (by omega) (by omega) (by omega) (by omega) (by omega) w (HM.row hr (by intro b' o' s' _; simp)) (Nat.lt_of_lt_of_le hbl HM.size) hbs (HM.get (i := 2) rfl)) ?_)
 rintro _ w3 ⟨pd, rfl, hb, hge, hgn⟩
 replace HM : Mm [] w0 w3 [(pd, .cells (((l.drop (0 + ak)).take (aj * 32)).map Bv).toArray 5 (0, 0)), (pg, .cells cur 136 (0, 0)), (fb, .cells #[aN 1, .int .u8 dat, aN 1, aV abi, aV aC, (aP big), aZ aQ, aZ aF, aJ ay, aK, aH pg 0 aj, aK, aK, aK] 131 (0, 0)), (s, .cells #[.iface 178 (.slice (some ⟨b, o, none⟩) n c), aA 0, aA 0, aA 9223372036854775807, aA 9223372036854775807] 246 (0, 0))] := HM.push hb hge hgn
 clear hb hge hgn
 refine ⟨_, rfl, ?_⟩; clear HF; intro a HF; replace HF := HF.sub ((gY b o n c s fb big ak aj au ah) ++ [(35, aB aj), (578, .iface 144 (aG s)), (583, aJ (aj * 32)), (584, aB ak), (585, .tuple #[aH pd (aj * 32) (aj * 32), .nilIface])]) (by kernel_rfl)
 refine aO HF HM rfl 5 [] ((gY b o n c s fb big ak aj au ah) ++ [(35, aB aj), (36, aH pd (aj * 32) (aj * 32)), (37, .nilIface)]) [(pd, .cells (((l.drop (0 + ak)).take (aj * 32)).map Bv).toArray 5 (0, 0)), (pg, .cells cur 136 (0, 0)), (fb, .cells #[aN 1, .int .u8 dat, aN 1, aV abi, aV aC, (aP big), aZ aQ, aZ aF, aJ ay, aK, aH pg 0 aj, aK, aK, aK] 131 (0, 0)), (s, .cells #[.iface 178 (.slice (some ⟨b, o, none⟩) n c), aA 0, aA 0, aA 9223372036854775807, aA 9223372036854775807] 246 (0, 0))] (by kernel_rfl) ?_
 clear HF HM; intro a w HF HM
 refine aI ?_
 refine wp_seq ?_
 refine wp_seq (wp_region_lit ?_)
 refine aO HF HM rfl 2 [] ((gY b o n c s fb big ak aj au ah) ++ [(35, aB aj), (36, aH pd (aj * 32) (aj * 32)), (37, .nilIface), (589, .bool false)]) [(pd, .cells (((l.drop (0 + ak)).take (aj * 32)).map Bv).toArray 5 (0, 0)), (pg, .cells cur 136 (0, 0)), (fb, .cells #[aN 1, .int .u8 dat, aN 1, aV abi, aV aC, (aP big), aZ aQ, aZ aF, aJ ay, aK, aH pg 0 aj, aK, aK, aK] 131 (0, 0)), (s, .cells #[.iface 178 (.slice (some ⟨b, o, none⟩) n c), aA 0, aA 0, aA 9223372036854775807, aA 9223372036854775807] 246 (0, 0))] (by kernel_rfl) ?_
 clear HF HM; intro a w HF HM
 refine aI ?_
 refine bf HF rfl ?_
 refine wp_skip ?_
 repeat (first | refine aS ?_ | refine aU ?_)
 replace HF := HF.sub ((gY b o n c s fb big ak aj au ah) ++ [(36, aH pd (aj * 32) (aj * 32))]) (by kernel_rfl)
 replace HF := HF.sub ((gY b o n c s fb big ak aj au ah) ++ [(36, aH pd (aj * 32) (aj * 32))]) (by kernel_rfl)
 rw [Nat.zero_add] at HM
 exact K a w pg cur pd hcs HF HM

abbrev jf := fun (b : Nat) (o : Nat) (n : Nat) (c : Nat) (s : Nat) (fb : Nat) (big : Bool) (ak : Nat) (au : Nat) (ah : Nat) => ([(0, .iface 178 (.slice (some ⟨b, o, none⟩) n c)), (4, aG s), (8, aG fb), (9, (aP big)), (10, aB ak), (11, aA 56), (12, aA 0), (13, aB au), (14, aA 64), (15, aB ah), (16, aB (ah - 1)), (26, aA 64)] : Slots)
theorem CS (l : List UInt8) (b o n c : Nat) (hl : n = l.length) (hnc : n ≤ c) (big : Bool) (abi aC aQ aF ay ak aj au ah : Nat) (dat : Int) (b1 : aQ < 65536) (b2 : aF < 65536) (b3 : ay ≤ 18446744073709551615) (b4 : ak < 4611686018427387904) (b5 : au < 4611686018427387904) (b6 : aj < 200) (b7 : ah < 200) (c1 : 0 < au) (c2 : 0 < ah) (c4 : ak < n) (c5 : ak + (0 * 56) ≤ n) {Q : Exit → Act → World → Prop} (w0 : World) (hbl : b < w0.heap.size) (hr : Row w0 (some ⟨b, o, none⟩) (l.map Bv)) (a : Act) (w : World) (s fb : Nat) (HF : Fr 1287 a (jf b o n c s fb big ak au ah)) (HM : Mm [] w0 w [(fb, .cells #[aN 2, .int .u8 dat, aN 1, aV abi, aV aC, (aP big), aZ aQ, aZ aF, aJ ay, aK, aK, aK, aK, aK] 131 (0, 0)), (s, .cells #[.iface 178 (.slice (some ⟨b, o, none⟩) n c), aA 0, aA 0, aA 9223372036854775807, aA 9223372036854775807] 246 (0, 0))])
  (K : ∀ a w pg cur pd, cur.size = 0 → Fr 1287 a ((jf b o n c s fb big ak au ah) ++ [(36, aH pd (0 * 56) (0 * 56))]) → Mm [] w0 w [(pd, .cells (((l.drop ak).take (0 * 56)).map Bv).toArray 5 (0, 0)), (pg, .cells cur 136 (0, 0)), (fb, .cells #[aN 2, .int .u8 dat, aN 1, aV abi, aV aC, (aP big), aZ aQ, aZ aF, aJ ay, aK, aH pg 0 0, aK, aK, aK] 131 (0, 0)), (s, .cells #[.iface 178 (.slice (some ⟨b, o, none⟩) n c), aA 0, aA 0, aA 9223372036854775807, aA 9223372036854775807] 246 (0, 0))] → (spine Tryd.f78 35).wp Tryd.prog Q a w) : (spine Tryd.f78 29).wp Tryd.prog Q a w := by
 refine wp_seq (wp_region_lit ?_)
 refine aO HF HM rfl 2 [] ((jf b o n c s fb big ak au ah) ++ [(547, bD 0)]) [(fb, .cells #[aN 2, .int .u8 dat, aN 1, aV abi, aV aC, (aP big), aZ aQ, aZ aF, aJ ay, aK, aK, aK, aK, aK] 131 (0, 0)), (s, .cells #[.iface 178 (.slice (some ⟨b, o, none⟩) n c), aA 0, aA 0, aA 9223372036854775807, aA 9223372036854775807] 246 (0, 0))] (by kernel_rfl) ?_
 clear HF HM; intro a w HF HM
 refine bn HF (by kernel_rfl) 98 #[bD 8, aJ 0] (by kernel_rfl) (fun w => by kernel_rfl) (Calls.mono (oJ 0 (by omega) w) ?_)
 rintro _ w1 ⟨rfl, hq⟩
 replace HM : Mm [] w0 w1 [(fb, .cells #[aN 2, .int .u8 dat, aN 1, aV abi, aV aC, (aP big), aZ aQ, aZ aF, aJ ay, aK, aK, aK, aK, aK] 131 (0, 0)), (s, .cells #[.iface 178 (.slice (some ⟨b, o, none⟩) n c), aA 0, aA 0, aA 9223372036854775807, aA 9223372036854775807] 246 (0, 0))] := by first | (rw [hq]; exact HM) | (rw [← hq]; exact HM)
 clear hq
 refine ⟨_, rfl, ?_⟩; clear HF; intro a HF; replace HF := HF.sub ((jf b o n c s fb big ak au ah) ++ [(547, bD 0), (548, aB 0)]) (by kernel_rfl)
 refine aO HF HM rfl 1 [] ((jf b o n c s fb big ak au ah) ++ [(35, aB 0)]) [(fb, .cells #[aN 2, .int .u8 dat, aN 1, aV abi, aV aC, (aP big), aZ aQ, aZ aF, aJ ay, aK, aK, aK, aK, aK] 131 (0, 0)), (s, .cells #[.iface 178 (.slice (some ⟨b, o, none⟩) n c), aA 0, aA 0, aA 9223372036854775807, aA 9223372036854775807] 246 (0, 0))] (by kernel_rfl) ?_
 clear HF HM; intro a w HF HM
 refine aI ?_
 refine wp_seq ?_
 refine wp_seq (wp_region_lit ?_)
 refine aO HF HM rfl 2 [] ((jf b o n c s fb big ak au ah) ++ [(35, aB 0), (550, .bool (decide (((0 : Nat) : Int) < 0)))]) [(fb, .cells #[aN 2, .int .u8 dat, aN 1, aV abi, aV aC, (aP big), aZ aQ, aZ aF, aJ ay, aK, aK, aK, aK, aK] 131 (0, 0)), (s, .cells #[.iface 178 (.slice (some ⟨b, o, none⟩) n c), aA 0, aA 0, aA 9223372036854775807, aA 9223372036854775807] 246 (0, 0))] (by kernel_rfl) ?_
 clear HF HM; intro a w HF HM
 rw [show decide (((0 : Nat) : Int) < 0) = false from bZ (by omega)] at HF
 refine aI ?_
 refine bf HF rfl ?_
 refine wp_skip ?_
 repeat (first | refine aS ?_ | refine aU ?_)
 replace HF := HF.sub ((jf b o n c s fb big ak au ah) ++ [(35, aB 0)]) (by kernel_rfl)
 refine wp_seq ?_
 refine wp_seq (wp_region_lit ?_)
 refine aO HF HM rfl 10 [] ((jf b o n c s fb big ak au ah) ++ [(35, aB 0), (565, .bool false)]) [(fb, .cells #[aN 2, .int .u8 dat, aN 1, aV abi, aV aC, (aP big), aZ aQ, aZ aF, aJ ay, aK, aK, aK, aK, aK] 131 (0, 0)), (s, .cells #[.iface 178 (.slice (some ⟨b, o, none⟩) n c), aA 0, aA 0, aA 9223372036854775807, aA 9223372036854775807] 246 (0, 0))] (by kernel_rfl) ?_
 clear HF HM; intro a w HF HM
 refine aI ?_
 refine bf HF rfl ?_
 refine wp_skip ?_
 repeat (first | refine aS ?_ | refine aU ?_)
 replace HF := HF.sub ((jf b o n c s fb big ak au ah) ++ [(35, aB 0)]) (by kernel_rfl)
 refine wp_seq (wp_region_lit ?_)
 refine aO HF HM rfl 2 [] ((jf b o n c s fb big ak au ah) ++ [(35, aB 0), (571, aG fb), (572, aB 0)]) [(fb, .cells #[aN 2, .int .u8 dat, aN 1, aV abi, aV aC, (aP big), aZ aQ, aZ aF, aJ ay, aK, aK, aK, aK, aK] 131 (0, 0)), (s, .cells #[.iface 178 (.slice (some ⟨b, o, none⟩) n c), aA 0, aA 0, aA 9223372036854775807, aA 9223372036854775807] 246 (0, 0))] (by kernel_rfl) ?_
 clear HF HM; intro a w HF HM
 refine jq HF HM rfl _ _ 127 rfl rfl 136 (.pointer none) 8 Tryd.underlying127 qy .i64 .i64 0 rfl rfl (by omega) (by unfold maxLen; omega) ?_
 intro a2 w2 pg cur hgw hcs bI HF2; have hg0 : w0.heap.size ≤ pg := Nat.le_trans HM.size hgw; clear HF HM hgw; have HM := bI; have HF := HF2; clear bI HF2
 replace HF := HF.sub ((jf b o n c s fb big ak au ah) ++ [(35, aB 0), (571, aG fb), (573, aH pg 0 0)]) (by kernel_rfl)
 refine aO HF HM rfl 3 [[1]] ((jf b o n c s fb big ak au ah) ++ [(35, aB 0)]) [(pg, .cells cur 136 (0, 0)), (fb, .cells #[aN 2, .int .u8 dat, aN 1, aV abi, aV aC, (aP big), aZ aQ, aZ aF, aJ ay, aK, aH pg 0 0, aK, aK, aK] 131 (0, 0)), (s, .cells #[.iface 178 (.slice (some ⟨b, o, none⟩) n c), aA 0, aA 0, aA 9223372036854775807, aA 9223372036854775807] 246 (0, 0))] (by kernel_rfl) ?_
 clear HF HM; intro a w HF HM
 refine aI ?_
 have hbs : b ≠ s := fun e => absurd hbl (Nat.not_lt_of_le (e ▸ HM.ge (i := 2) rfl))
 have hsz : w0.heap.size ≤ w.heap.size := HM.size
 refine wp_seq (wp_region_lit ?_)
 refine aO HF HM rfl 8 [] ((jf b o n c s fb big ak au ah) ++ [(35, aB 0), (578, .iface 144 (aG s)), (583, bD 0), (584, aB ak)]) [(pg, .cells cur 136 (0, 0)), (fb, .cells #[aN 2, .int .u8 dat, aN 1, aV abi, aV aC, (aP big), aZ aQ, aZ aF, aJ ay, aK, aH pg 0 0, aK, aK, aK] 131 (0, 0)), (s, .cells #[.iface 178 (.slice (some ⟨b, o, none⟩) n c), aA 0, aA 0, aA 9223372036854775807, aA 9223372036854775807] 246 (0, 0))] (by kernel_rfl) ?_
 clear HF HM; intro a w HF HM
 refine bn HF (by kernel_rfl) 99 #[.iface 144 (aG s), aJ (0 * 56), aB ak] (by kernel_rfl) (fun w => by kernel_rfl) (Calls.mono (m_ l b o n c hl hnc s (0 * 56) 0 ak 0 9223372036854775807 9223372036854775807 (by omega) (by omega) (by omega) (by omega) (by omega) (by omega) w (HM.row hr (by intro b' o' s' _; simp)) (Nat.lt_of_lt_of_le hbl HM.size) hbs (HM.get (i := 2) rfl)) ?_)
 rintro _ w3 ⟨pd, rfl, hb, hge, hgn⟩
 replace HM : Mm [] w0 w3 [(pd, .cells (((l.drop (0 + ak)).take (0 * 56)).map Bv).toArray 5 (0, 0)), (pg, .cells cur 136 (0, 0)), (fb, .cells #[aN 2, .int .u8 dat, aN 1, aV abi, aV aC, (aP big), aZ aQ, aZ aF, aJ ay, aK, aH pg 0 0, aK, aK, aK] 131 (0, 0)), (s, .cells #[.iface 178 (.slice (some ⟨b, o, none⟩) n c), aA 0, aA 0, aA 9223372036854775807, aA 9223372036854775807] 246 (0, 0))] := HM.push hb hge hgn
 clear hb hge hgn
 refine ⟨_, rfl, ?_⟩; clear HF; intro a HF; replace HF := HF.sub ((jf b o n c s fb big ak au ah) ++ [(35, aB 0), (578, .iface 144 (aG s)), (583, bD 0), (584, aB ak), (585, .tuple #[aH pd (0 * 56) (0 * 56), .nilIface])]) (by kernel_rfl)
 refine aO HF HM rfl 5 [] ((jf b o n c s fb big ak au ah) ++ [(35, aB 0), (36, aH pd (0 * 56) (0 * 56)), (37, .nilIface)]) [(pd, .cells (((l.drop (0 + ak)).take (0 * 56)).map Bv).toArray 5 (0, 0)), (pg, .cells cur 136 (0, 0)), (fb, .cells #[aN 2, .int .u8 dat, aN 1, aV abi, aV aC, (aP big), aZ aQ, aZ aF, aJ ay, aK, aH pg 0 0, aK, aK, aK] 131 (0, 0)), (s, .cells #[.iface 178 (.slice (some ⟨b, o, none⟩) n c), aA 0, aA 0, aA 9223372036854775807, aA 9223372036854775807] 246 (0, 0))] (by kernel_rfl) ?_
 clear HF HM; intro a w HF HM
 refine aI ?_
 refine wp_seq ?_
 refine wp_seq (wp_region_lit ?_)
 refine aO HF HM rfl 2 [] ((jf b o n c s fb big ak au ah) ++ [(35, aB 0), (36, aH pd (0 * 56) (0 * 56)), (37, .nilIface), (589, .bool false)]) [(pd, .cells (((l.drop (0 + ak)).take (0 * 56)).map Bv).toArray 5 (0, 0)), (pg, .cells cur 136 (0, 0)), (fb, .cells #[aN 2, .int .u8 dat, aN 1, aV abi, aV aC, (aP big), aZ aQ, aZ aF, aJ ay, aK, aH pg 0 0, aK, aK, aK] 131 (0, 0)), (s, .cells #[.iface 178 (.slice (some ⟨b, o, none⟩) n c), aA 0, aA 0, aA 9223372036854775807, aA 9223372036854775807] 246 (0, 0))] (by kernel_rfl) ?_
 clear HF HM; intro a w HF HM
 refine aI ?_
 refine bf HF rfl ?_
 refine wp_skip ?_
 repeat (first | refine aS ?_ | refine aU ?_)
 replace HF := HF.sub ((jf b o n c s fb big ak au ah) ++ [(36, aH pd (0 * 56) (0 * 56))]) (by kernel_rfl)
 replace HF := HF.sub ((jf b o n c s fb big ak au ah) ++ [(36, aH pd (0 * 56) (0 * 56))]) (by kernel_rfl)
 rw [Nat.zero_add] at HM
 exact K a w pg cur pd hcs HF HM

abbrev gX := fun (b : Nat) (o : Nat) (n : Nat) (c : Nat) (s : Nat) (fb : Nat) (big : Bool) (ak : Nat) (aj : Nat) (au : Nat) (ah : Nat) => ([(0, .iface 178 (.slice (some ⟨b, o, none⟩) n c)), (4, aG s), (8, aG fb), (9, (aP big)), (10, aB ak), (11, aA 56), (12, aB aj), (13, aB au), (14, aA 64), (15, aB ah), (16, aB (ah - 1)), (26, aA 64)] : Slots)
theorem CQ (l : List UInt8) (b o n c : Nat) (hl : n = l.length) (hnc : n ≤ c) (big : Bool) (abi aC aQ aF ay ak aj au ah : Nat) (dat : Int) (b1 : aQ < 65536) (b2 : aF < 65536) (b3 : ay ≤ 18446744073709551615) (b4 : ak < 4611686018427387904) (b5 : au < 4611686018427387904) (b6 : aj < 200) (b7 : ah < 200) (c1 : 0 < au) (c2 : 0 < ah) (c3 : 0 < aj) (c4 : ak < n) (c5 : ak + (aj * 56) ≤ n) {Q : Exit → Act → World → Prop} (w0 : World) (hbl : b < w0.heap.size) (hr : Row w0 (some ⟨b, o, none⟩) (l.map Bv)) (a : Act) (w : World) (s fb : Nat) (HF : Fr 1287 a (gX b o n c s fb big ak aj au ah)) (HM : Mm [] w0 w [(fb, .cells #[aN 2, .int .u8 dat, aN 1, aV abi, aV aC, (aP big), aZ aQ, aZ aF, aJ ay, aK, aK, aK, aK, aK] 131 (0, 0)), (s, .cells #[.iface 178 (.slice (some ⟨b, o, none⟩) n c), aA 0, aA 0, aA 9223372036854775807, aA 9223372036854775807] 246 (0, 0))])
  (K : ∀ a w pg cur pd, cur.size = aj → Fr 1287 a ((gX b o n c s fb big ak aj au ah) ++ [(36, aH pd (aj * 56) (aj * 56))]) → Mm [] w0 w [(pd, .cells (((l.drop ak).take (aj * 56)).map Bv).toArray 5 (0, 0)), (pg, .cells cur 136 (0, 0)), (fb, .cells #[aN 2, .int .u8 dat, aN 1, aV abi, aV aC, (aP big), aZ aQ, aZ aF, aJ ay, aK, aH pg 0 aj, aK, aK, aK] 131 (0, 0)), (s, .cells #[.iface 178 (.slice (some ⟨b, o, none⟩) n c), aA 0, aA 0, aA 9223372036854775807, aA 9223372036854775807] 246 (0, 0))] → (spine Tryd.f78 35).wp Tryd.prog Q a w) : (spine Tryd.f78 29).wp Tryd.prog Q a w := by
 refine wp_seq (wp_region_lit ?_)
 refine aO HF HM rfl 2 [] ((gX b o n c s fb big ak aj au ah) ++ [(547, bD (IntKind.u64.wrap ((aj : Nat) : Int)))]) [(fb, .cells #[aN 2, .int .u8 dat, aN 1, aV abi, aV aC, (aP big), aZ aQ, aZ aF, aJ ay, aK, aK, aK, aK, aK] 131 (0, 0)), (s, .cells #[.iface 178 (.slice (some ⟨b, o, none⟩) n c), aA 0, aA 0, aA 9223372036854775807, aA 9223372036854775807] 246 (0, 0))] (by kernel_rfl) ?_
 clear HF HM; intro a w HF HM
 rw [show IntKind.u64.wrap ((aj : Nat) : Int) = ((aj : Nat) : Int) from IntWalk.u64_in _ (by omega)] at HF
 refine bn HF (by kernel_rfl) 98 #[bD 8, aJ aj] (by kernel_rfl) (fun w => by kernel_rfl) (Calls.mono (oJ aj (by omega) w) ?_)
 rintro _ w1 ⟨rfl, hq⟩
 replace HM : Mm [] w0 w1 [(fb, .cells #[aN 2, .int .u8 dat, aN 1, aV abi, aV aC, (aP big), aZ aQ, aZ aF, aJ ay, aK, aK, aK, aK, aK] 131 (0, 0)), (s, .cells #[.iface 178 (.slice (some ⟨b, o, none⟩) n c), aA 0, aA 0, aA 9223372036854775807, aA 9223372036854775807] 246 (0, 0))] := by first | (rw [hq]; exact HM) | (rw [← hq]; exact HM)
 clear hq
 refine ⟨_, rfl, ?_⟩; clear HF; intro a HF; replace HF := HF.sub ((gX b o n c s fb big ak aj au ah) ++ [(547, aJ aj), (548, aB aj)]) (by kernel_rfl)
 refine aO HF HM rfl 1 [] ((gX b o n c s fb big ak aj au ah) ++ [(35, aB aj)]) [(fb, .cells #[aN 2, .int .u8 dat, aN 1, aV abi, aV aC, (aP big), aZ aQ, aZ aF, aJ ay, aK, aK, aK, aK, aK] 131 (0, 0)), (s, .cells #[.iface 178 (.slice (some ⟨b, o, none⟩) n c), aA 0, aA 0, aA 9223372036854775807, aA 9223372036854775807] 246 (0, 0))] (by kernel_rfl) ?_
 clear HF HM; intro a w HF HM
 refine aI ?_
 refine wp_seq ?_
 refine wp_seq (wp_region_lit ?_)
 refine aO HF HM rfl 2 [] ((gX b o n c s fb big ak aj au ah) ++ [(35, aB aj), (550, .bool (decide (((aj : Nat) : Int) < 0)))]) [(fb, .cells #[aN 2, .int .u8 dat, aN 1, aV abi, aV aC, (aP big), aZ aQ, aZ aF, aJ ay, aK, aK, aK, aK, aK] 131 (0, 0)), (s, .cells #[.iface 178 (.slice (some ⟨b, o, none⟩) n c), aA 0, aA 0, aA 9223372036854775807, aA 9223372036854775807] 246 (0, 0))] (by kernel_rfl) ?_
 clear HF HM; intro a w HF HM
 rw [show decide (((aj : Nat) : Int) < 0) = false from bZ (by omega)] at HF
 refine aI ?_
 refine bf HF rfl ?_
 refine wp_skip ?_
 repeat (first | refine aS ?_ | refine aU ?_)
 replace HF := HF.sub ((gX b o n c s fb big ak aj au ah) ++ [(35, aB aj)]) (by kernel_rfl)
 refine wp_seq ?_
 refine wp_seq (wp_region_lit ?_)
 refine aO HF HM rfl 2 [] ((gX b o n c s fb big ak aj au ah) ++ [(35, aB aj), (557, .bool (decide (0 < ((aj : Nat) : Int))))]) [(fb, .cells #[aN 2, .int .u8 dat, aN 1, aV abi, aV aC, (aP big), aZ aQ, aZ aF, aJ ay, aK, aK, aK, aK, aK] 131 (0, 0)), (s, .cells #[.iface 178 (.slice (some ⟨b, o, none⟩) n c), aA 0, aA 0, aA 9223372036854775807, aA 9223372036854775807] 246 (0, 0))] (by kernel_rfl) ?_
 clear HF HM; intro a w HF HM
 rw [show decide (0 < ((aj : Nat) : Int)) = true from dM (by omega)] at HF
 refine aO HF HM rfl 3 [] ((gX b o n c s fb big ak aj au ah) ++ [(35, aB aj), (557, .bool true), (558, .bool true), (560, bD (IntKind.u64.wrap ((aj : Nat) : Int)))]) [(fb, .cells #[aN 2, .int .u8 dat, aN 1, aV abi, aV aC, (aP big), aZ aQ, aZ aF, aJ ay, aK, aK, aK, aK, aK] 131 (0, 0)), (s, .cells #[.iface 178 (.slice (some ⟨b, o, none⟩) n c), aA 0, aA 0, aA 9223372036854775807, aA 9223372036854775807] 246 (0, 0))] (by kernel_rfl) ?_
 clear HF HM; intro a w HF HM
 rw [show IntKind.u64.wrap ((aj : Nat) : Int) = ((aj : Nat) : Int) from IntWalk.u64_in _ (by omega)] at HF
 refine dP HF (by kernel_rfl) (bD (IntKind.u64.wrap ((18446744073709551615 : Int).tdiv ((aj : Nat) : Int)))) (by kernel_rfl) (sD rfl rfl rfl (by omega)) ?_
 clear HF; intro a HF; replace HF := HF.sub [(0, .iface 178 (.slice (some ⟨b, o, none⟩) n c)), (4, aG s), (8, aG fb), (9, (aP big)), (10, aB ak), (11, aA 56), (12, aB aj), (13, aB au), (14, aA 64), (15, aB ah), (16, aB (ah - 1)), (26, aA 64), (35, aB aj), (557, .bool true), (558, .bool true), (560, aJ aj), (561, bD (IntKind.u64.wrap ((18446744073709551615 : Int).tdiv ((aj : Nat) : Int))))] (by kernel_rfl)
 have hq := sN aj c3 b6
 rw [IntWalk.u64_in ((18446744073709551615 : Int).tdiv ((aj : Nat) : Int)) (by omega)] at HF
 refine aO HF HM rfl 3 [] ((gX b o n c s fb big ak aj au ah) ++ [(35, aB aj), (557, .bool true), (558, .bool true), (564, .bool (decide (((18446744073709551615 : Int).tdiv ((aj : Nat) : Int)) < 56)))]) [(fb, .cells #[aN 2, .int .u8 dat, aN 1, aV abi, aV aC, (aP big), aZ aQ, aZ aF, aJ ay, aK, aK, aK, aK, aK] 131 (0, 0)), (s, .cells #[.iface 178 (.slice (some ⟨b, o, none⟩) n c), aA 0, aA 0, aA 9223372036854775807, aA 9223372036854775807] 246 (0, 0))] (by kernel_rfl) ?_
 clear HF HM; intro a w HF HM
 rw [show decide (((18446744073709551615 : Int).tdiv ((aj : Nat) : Int)) < 56) = false from bZ (by omega)] at HF
 refine aO HF HM rfl 1 [] ((gX b o n c s fb big ak aj au ah) ++ [(35, aB aj), (565, .bool false)]) [(fb, .cells #[aN 2, .int .u8 dat, aN 1, aV abi, aV aC, (aP big), aZ aQ, aZ aF, aJ ay, aK, aK, aK, aK, aK] 131 (0, 0)), (s, .cells #[.iface 178 (.slice (some ⟨b, o, none⟩) n c), aA 0, aA 0, aA 9223372036854775807, aA 9223372036854775807] 246 (0, 0))] (by kernel_rfl) ?_
 clear HF HM; intro a w HF HM
 refine aI ?_
 refine bf HF rfl ?_
 refine wp_skip ?_
 repeat (first | refine aS ?_ | refine aU ?_)
 replace HF := HF.sub ((gX b o n c s fb big ak aj au ah) ++ [(35, aB aj)]) (by kernel_rfl)
 refine wp_seq (wp_region_lit ?_)
 refine aO HF HM rfl 2 [] ((gX b o n c s fb big ak aj au ah) ++ [(35, aB aj), (571, aG fb), (572, aB aj)]) [(fb, .cells #[aN 2, .int .u8 dat, aN 1, aV abi, aV aC, (aP big), aZ aQ, aZ aF, aJ ay, aK, aK, aK, aK, aK] 131 (0, 0)), (s, .cells #[.iface 178 (.slice (some ⟨b, o, none⟩) n c), aA 0, aA 0, aA 9223372036854775807, aA 9223372036854775807] 246 (0, 0))] (by kernel_rfl) ?_
 clear HF HM; intro a w HF HM
 refine jq HF HM rfl _ _ 127 rfl rfl 136 (.pointer none) 8 Tryd.underlying127 qy .i64 .i64 aj rfl rfl (by omega) (by unfold maxLen; omega) ?_
 intro a2 w2 pg cur hgw hcs bI HF2; have hg0 : w0.heap.size ≤ pg := Nat.le_trans HM.size hgw; clear HF HM hgw; have HM := bI; have HF := HF2; clear bI HF2
 replace HF := HF.sub ((gX b o n c s fb big ak aj au ah) ++ [(35, aB aj), (571, aG fb), (573, aH pg 0 aj)]) (by kernel_rfl)
 refine aO HF HM rfl 3 [[1]] ((gX b o n c s fb big ak aj au ah) ++ [(35, aB aj)]) [(pg, .cells cur 136 (0, 0)), (fb, .cells #[aN 2, .int .u8 dat, aN 1, aV abi, aV aC, (aP big), aZ aQ, aZ aF, aJ ay, aK, aH pg 0 aj, aK, aK, aK] 131 (0, 0)), (s, .cells #[.iface 178 (.slice (some ⟨b, o, none⟩) n c), aA 0, aA 0, aA 9223372036854775807, aA 9223372036854775807] 246 (0, 0))] (by kernel_rfl) ?_
 clear HF HM; intro a w HF HM
 refine aI ?_
 have hbs : b ≠ s := fun e => absurd hbl (Nat.not_lt_of_le (e ▸ HM.ge (i := 2) rfl))
 have hsz : w0.heap.size ≤ w.heap.size := HM.size
 refine wp_seq (wp_region_lit ?_)
 refine aO HF HM rfl 4 [] ((gX b o n c s fb big ak aj au ah) ++ [(35, aB aj), (578, .iface 144 (aG s)), (580, bD (IntKind.u64.wrap ((aj : Nat) : Int)))]) [(pg, .cells cur 136 (0, 0)), (fb, .cells #[aN 2, .int .u8 dat, aN 1, aV abi, aV aC, (aP big), aZ aQ, aZ aF, aJ ay, aK, aH pg 0 aj, aK, aK, aK] 131 (0, 0)), (s, .cells #[.iface 178 (.slice (some ⟨b, o, none⟩) n c), aA 0, aA 0, aA 9223372036854775807, aA 9223372036854775807] 246 (0, 0))] (by kernel_rfl) ?_
 clear HF HM; intro a w HF HM
 rw [show IntKind.u64.wrap ((aj : Nat) : Int) = ((aj : Nat) : Int) from IntWalk.u64_in _ (by omega)] at HF
 refine aO HF HM rfl 3 [] ((gX b o n c s fb big ak aj au ah) ++ [(35, aB aj), (578, .iface 144 (aG s)), (583, bD (IntKind.u64.wrap (((aj : Nat) : Int) * 56)))]) [(pg, .cells cur 136 (0, 0)), (fb, .cells #[aN 2, .int .u8 dat, aN 1, aV abi, aV aC, (aP big), aZ aQ, aZ aF, aJ ay, aK, aH pg 0 aj, aK, aK, aK] 131 (0, 0)), (s, .cells #[.iface 178 (.slice (some ⟨b, o, none⟩) n c), aA 0, aA 0, aA 9223372036854775807, aA 9223372036854775807] 246 (0, 0))] (by kernel_rfl) ?_
 clear HF HM; intro a w HF HM
 rw [show IntKind.u64.wrap (((aj : Nat) : Int) * 56) = (((aj * 56) : Nat) : Int) from (IntWalk.u64_in _ (by omega)).trans (by omega)] at HF
 refine aO HF HM rfl 1 [] ((gX b o n c s fb big ak aj au ah) ++ [(35, aB aj), (578, .iface 144 (aG s)), (583, aJ (aj * 56)), (584, aB ak)]) [(pg, .cells cur 136 (0, 0)), (fb, .cells #[aN 2, .int .u8 dat, aN 1, aV abi, aV aC, (aP big), aZ aQ, aZ aF, aJ ay, aK, aH pg 0 aj, aK, aK, aK] 131 (0, 0)), (s, .cells #[.iface 178 (.slice (some ⟨b, o, none⟩) n c), aA 0, aA 0, aA 9223372036854775807, aA 9223372036854775807] 246 (0, 0))] (by kernel_rfl) ?_
 clear HF HM; intro a w HF HM
 refine bn HF (by kernel_rfl) 99 #[.iface 144 (aG s), aJ (aj * 56), aB ak] (by kernel_rfl) (fun w => by kernel_rfl) (Calls.mono (m_ l b o n c hl hnc s (aj * 56) 0 ak 0 9223372036854775807 9223372036854775807 (by omega) (by omega) (by omega) (by omega) (by omega) (by omega) w (HM.row hr (by intro b' o' s' _; simp)) (Nat.lt_of_lt_of_le hbl HM.size) hbs (HM.get (i := 2) rfl)) ?_)
 rintro _ w3 ⟨pd, rfl, hb, hge, hgn⟩
 replace HM : Mm [] w0 w3 [(pd, .cells (((l.drop (0 + ak)).take (aj * 56)).map Bv).toArray 5 (0, 0)), (pg, .cells cur 136 (0, 0)), (fb, .cells #[aN 2, .int .u8 dat, aN 1, aV abi, aV aC, (aP big), aZ aQ, aZ aF, aJ ay, aK, aH pg 0 aj, aK, aK, aK] 131 (0, 0)), (s, .cells #[.iface 178 (.slice (some ⟨b, o, none⟩) n c), aA 0, aA 0, aA 9223372036854775807, aA 9223372036854775807] 246 (0, 0))] := HM.push hb hge hgn
 clear hb hge hgn
 refine ⟨_, rfl, ?_⟩; clear HF; intro a HF; replace HF := HF.sub ((gX b o n c s fb big ak aj au ah) ++ [(35, aB aj), (578, .iface 144 (aG s)), (583, aJ (aj * 56)), (584, aB ak), (585, .tuple #[aH pd (aj * 56) (aj * 56), .nilIface])]) (by kernel_rfl)
 refine aO HF HM rfl 5 [] ((gX b o n c s fb big ak aj au ah) ++ [(35, aB aj), (36, aH pd (aj * 56) (aj * 56)), (37, .nilIface)]) [(pd, .cells (((l.drop (0 + ak)).take (aj * 56)).map Bv).toArray 5 (0, 0)), (pg, .cells cur 136 (0, 0)), (fb, .cells #[aN 2, .int .u8 dat, aN 1, aV abi, aV aC, (aP big), aZ aQ, aZ aF, aJ ay, aK, aH pg 0 aj, aK, aK, aK] 131 (0, 0)), (s, .cells #[.iface 178 (.slice (some ⟨b, o, none⟩) n c), aA 0, aA 0, aA 9223372036854775807, aA 9223372036854775807] 246 (0, 0))] (by kernel_rfl) ?_
 clear HF HM; intro a w HF HM
 refine aI ?_
 refine wp_seq ?_
 refine wp_seq (wp_region_lit ?_)
 refine aO HF HM rfl 2 [] ((gX b o n c s fb big ak aj au ah) ++ [(35, aB aj), (36, aH pd (aj * 56) (aj * 56)), (37, .nilIface), (589, .bool false)]) [(pd, .cells (((l.drop (0 + ak)).take (aj * 56)).map Bv).toArray 5 (0, 0)), (pg, .cells cur 136 (0, 0)), (fb, .cells #[aN 2, .int .u8 dat, aN 1, aV abi, aV aC, (aP big), aZ aQ, aZ aF, aJ ay, aK, aH pg 0 aj, aK, aK, aK] 131 (0, 0)), (s, .cells #[.iface 178 (.slice (some ⟨b, o, none⟩) n c), aA 0, aA 0, aA 9223372036854775807, aA 9223372036854775807] 246 (0, 0))] (by kernel_rfl) ?_
 clear HF HM; intro a w HF HM
 refine aI ?_
 refine bf HF rfl ?_
 refine wp_skip ?_
 repeat (first | refine aS ?_ | refine aU ?_)
 replace HF := HF.sub ((gX b o n c s fb big ak aj au ah) ++ [(36, aH pd (aj * 56) (aj * 56))]) (by kernel_rfl)
 replace HF := HF.sub ((gX b o n c s fb big ak aj au ah) ++ [(36, aH pd (aj * 56) (aj * 56))]) (by kernel_rfl)
 rw [Nat.zero_add] at HM
 exact K a w pg cur pd hcs HF HM

end Go.Proofs.YtdgehpocmfjbiaaDoor
