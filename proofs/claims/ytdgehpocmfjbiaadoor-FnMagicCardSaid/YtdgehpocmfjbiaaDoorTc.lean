/- elf.NewFile: the ident and the header. · elf.NewFile: the fields of the header, and the checks on them. · elf.NewFile: the table of program headers is -/
import Derived.Test.YtdgehpocmfjbiaaDoorTb
import Derived.OwnWalk
set_option linter.unusedVariables false
set_option linter.unusedSimpArgs false
set_option maxRecDepth 100000
set_option maxHeartbeats 2000000
namespace Go.Proofs.YtdgehpocmfjbiaaDoor
open Go.RowKit

def tl1 : Code → Code
 | .seq _ c => c
 | c => c
def tlN : Nat → Code → Code
 | 0, c => c
 | k + 1, c => tl1 (tlN k c)
/-- a function's code from the k-th piece of its spine on -/
def spine (f : Func) (k : Nat) : Code := tlN k (f.body.getD .skip)
theorem F9 (big : Bool) (l : List UInt8) (n off k : Nat) (h : off + k ≤ n) : num big (l.take n) off k = num big l off k := by
 unfold num
 rw [List.drop_take, List.take_take, Nat.min_eq_left (by omega)]

abbrev gI := fun s (b : Nat) (o : Nat) (n : Nat) (c : Nat) => ((s, .cells #[.iface 178 (.slice (some ⟨b, o, none⟩) n c), ay 0, ay 0, ay 9223372036854775807, ay 9223372036854775807] 246 (0, 0)) : Nat × Obj)
abbrev eX := fun (b : Nat) (o : Nat) (n : Nat) (c : Nat) => ([(0, .iface 178 (.slice (some ⟨b, o, none⟩) n c)), (2, .pointer none), (3, .nilIface)] : Slots)
abbrev iJ := fun z4 (abi : Nat) (aF : Nat) => ((z4, .cells #[aK 127, aK 69, aK 76, aK 70, aK 1, aK 1, aK 1, aV abi, aV aF, aK 0, aK 0, aK 0, aK 0, aK 0, aK 0, aK 0] 205 (0, 0)) : Nat × Obj)
abbrev zI := fun z7 => ((z7, .cells #[aK 1, aK 0, aK 0, aK 0, aK 0, aK 0, .int .u16 0, .int .u16 0, bG 0, aN, aN, aN, aN, aN] 131 (0, 0)) : Nat × Obj)
abbrev tK := fun z7 => ((z7, .cells #[aK 1, aK 1, aK 0, aK 0, aK 0, aK 0, .int .u16 0, .int .u16 0, bG 0, aN, aN, aN, aN, aN] 131 (0, 0)) : Nat × Obj)
abbrev tJ := fun z7 (abi : Nat) (aF : Nat) => ((z7, .cells #[aK 1, aK 1, aK 1, aV abi, aV aF, (aP false), .int .u16 0, .int .u16 0, bG 0, aN, aN, aN, aN, aN] 131 (0, 0)) : Nat × Obj)
theorem Nh (l : List UInt8) (b o n c : Nat) (hl : n = l.length) (hnc : n ≤ c) (hn : 16 ≤ n) (abi aF : Nat) (hid : (((l.drop 0).take 16).map Bv).toArray = #[aK 127, aK 69, aK 76, aK 70, aK 1, aK 1, aK 1, aV abi, aV aF, aK 0, aK 0, aK 0, aK 0, aK 0, aK 0, aK 0]) {Q : Exit → Act → World → Prop} (w0 : World) (hbl : b < w0.heap.size) (hr : Row w0 (some ⟨b, o, none⟩) (l.map Bv)) (a : Act) (w : World) (HF : Fr 1287 a [(0, .iface 178 (.slice (some ⟨b, o, none⟩) n c))]) (HM : Mm [] w0 w [])
  (K : ∀ a w s fb, Fr 1287 a [(0, .iface 178 (.slice (some ⟨b, o, none⟩) n c)), (4, aC s), (8, aC fb), (9, (aP false))] → Mm [] w0 w [(fb, .cells #[aK 1, aK 1, aK 1, aV abi, aV aF, (aP false), .int .u16 0, .int .u16 0, bG 0, aN, aN, aN, aN, aN] 131 (0, 0)), gI s b o n c] → (spine Tryd.f78 20).wp Tryd.prog Q a w) : (spine Tryd.f78 0).wp Tryd.prog Q a w := by
 refine bC HF HM rfl [] (eX b o n c) [] (by kernel_rfl) ?_
 clear HF HM; intro a w HF HM
 refine wp_seq (wp_region_lit ?_)
 refine aO HF HM rfl 1 [] ((eX b o n c) ++ [(57, .iface 178 (.slice (some ⟨b, o, none⟩) n c))]) [] (by kernel_rfl) ?_
 clear HF HM; intro a w HF HM
 refine bn HF (by kernel_rfl) 92 #[.iface 178 (.slice (some ⟨b, o, none⟩) n c), ay 0, ay 9223372036854775807] (by kernel_rfl) (fun w => by kernel_rfl) (Calls.mono (nX 178 (.slice (some ⟨b, o, none⟩) n c) 0 9223372036854775807 (by omega) (by omega) (by omega) w) ?_)
 rintro _ w1 ⟨s, rfl, hb, hge, hgn⟩
 replace HM : Mm [] w0 w1 [gI s b o n c] := HM.push hb hge hgn
 clear hb hge hgn
 refine ⟨_, rfl, ?_⟩; clear HF; intro a HF; replace HF := HF.sub ((eX b o n c) ++ [(57, .iface 178 (.slice (some ⟨b, o, none⟩) n c)), (58, aC s)]) (by kernel_rfl)
 refine aO HF HM rfl 1 [] ((eX b o n c) ++ [(4, aC s)]) [gI s b o n c] (by kernel_rfl) ?_
 clear HF HM; intro a w HF HM
 refine aI ?_
 obtain ⟨z4, nH⟩ : ∃ z, w.heap.size = z := ⟨_, rfl⟩
 refine bC HF HM nH [] ((eX b o n c) ++ [(4, aC s), (5, aC z4)]) [(z4, .cells #[aK 0, aK 0, aK 0, aK 0, aK 0, aK 0, aK 0, aK 0, aK 0, aK 0, aK 0, aK 0, aK 0, aK 0, aK 0, aK 0] 205 (0, 0)), gI s b o n c] (by kernel_rfl) ?_
 clear HF HM nH; intro a w HF HM
 refine wp_seq ?_
 refine jO HM (by kernel_rfl) [gI s b o n c] [(0, false), (1, false), (2, false), (3, false), (4, false), (5, true), (6, false), (7, false), (8, false), (9, false), (10, false)] (by kernel_rfl) ?_
 clear HM; intro w2 HM
 refine bD HF (HM.told [1] rfl) 5 [] ((eX b o n c) ++ [(4, aC s), (5, aC z4), (60, .iface 178 (.slice (some ⟨b, o, none⟩) n c)), (61, aH z4 16 16), (64, .iface 178 (.slice (some ⟨b, o, none⟩) n c))]) (by kernel_rfl) ?_
 clear HF; intro a HF
 refine bQ rfl ?_
 have hbi : b ≠ z4 := fun e => absurd hbl (Nat.not_lt_of_le (e ▸ HM.ge (i := 0) rfl))
 refine bn HF (by kernel_rfl) 127 #[.slice (some ⟨b, o, none⟩) n c, aH z4 16 16, aA 0] (by kernel_rfl) (fun w => by kernel_rfl) (Calls.mono (qh l b o n c hl hnc z4 #[aK 0, aK 0, aK 0, aK 0, aK 0, aK 0, aK 0, aK 0, aK 0, aK 0, aK 0, aK 0, aK 0, aK 0, aK 0, aK 0] 205 16 16 rfl 0 (by omega) (by omega) w2 (HM.row hr (by intro b' o' s' _; simp)) hbi (HM.get (i := 0) rfl)) ?_)
 rintro _ w3 ⟨rfl, hkp, hgn⟩
 rw [hid] at hgn
 replace HM : Mm [] w0 w3 [iJ z4 abi aF, gI s b o n c] := HM.put (i := 0) rfl hgn hkp
 clear hkp hgn
 refine ⟨_, rfl, ?_⟩; clear HF; intro a HF; replace HF := HF.sub ((eX b o n c) ++ [(4, aC s), (5, aC z4), (60, .iface 178 (.slice (some ⟨b, o, none⟩) n c)), (61, aH z4 16 16), (64, .iface 178 (.slice (some ⟨b, o, none⟩) n c)), (65, .tuple #[aA 16, .nilIface])]) (by kernel_rfl)
 refine cZ (HM.told [1] rfl) ?_
 refine bD HF (HM.told [1] rfl) 5 [] ((eX b o n c) ++ [(4, aC s), (5, aC z4), (7, .nilIface)]) (by kernel_rfl) ?_
 clear HF; intro a HF
 refine iP ?_
 refine aQ ?_
 refine wp_seq (wp_region_lit ?_)
 refine aO HF HM rfl 2 [] ((eX b o n c) ++ [(4, aC s), (5, aC z4), (7, .nilIface), (69, .bool false)]) [iJ z4 abi aF, gI s b o n c] (by kernel_rfl) ?_
 clear HF HM; intro a w HF HM
 refine aI ?_
 refine aZ HF rfl ?_
 refine wp_skip ?_
 repeat (first | refine aQ ?_ | refine aU ?_)
 replace HF := HF.sub ((eX b o n c) ++ [(4, aC s), (5, aC z4)]) (by kernel_rfl)
 refine wp_seq ?_
 refine wp_seq (wp_region_lit ?_)
 refine aO HF HM rfl 18 [[1], [1], [1], [1]] ((eX b o n c) ++ [(4, aC s), (5, aC z4), (91, .bool false)]) [iJ z4 abi aF, gI s b o n c] (by kernel_rfl) ?_
 clear HF HM; intro a w HF HM
 refine aI ?_
 refine aZ HF rfl ?_
 refine wp_skip ?_
 repeat (first | refine aQ ?_ | refine aU ?_)
 replace HF := HF.sub ((eX b o n c) ++ [(4, aC s), (5, aC z4)]) (by kernel_rfl)
 obtain ⟨z7, uM⟩ : ∃ z, w.heap.size = z := ⟨_, rfl⟩
 refine bC HF HM uM [] ((eX b o n c) ++ [(4, aC s), (5, aC z4), (8, aC z7)]) [(z7, .cells #[aK 0, aK 0, aK 0, aK 0, aK 0, aK 0, .int .u16 0, .int .u16 0, bG 0, aN, aN, aN, aN, aN] 131 (0, 0)), iJ z4 abi aF, gI s b o n c] (by kernel_rfl) ?_
 clear HF HM uM; intro a w HF HM
 refine bC HF HM rfl [[1], [2]] ((eX b o n c) ++ [(4, aC s), (5, aC z4), (8, aC z7)]) [zI z7, iJ z4 abi aF, gI s b o n c] (by kernel_rfl) ?_
 clear HF HM; intro a w HF HM
 refine wp_seq ?_
 refine bC HF HM rfl [[2]] ((eX b o n c) ++ [(4, aC s), (5, aC z4), (8, aC z7), (108, aK 1)]) [zI z7, iJ z4 abi aF, gI s b o n c] (by kernel_rfl) ?_
 clear HF HM; intro a w HF HM
 refine wp_block ?_
 refine bC HF HM rfl [] ((eX b o n c) ++ [(4, aC s), (5, aC z4), (8, aC z7), (108, aK 1), (118, .bool true)]) [zI z7, iJ z4 abi aF, gI s b o n c] (by kernel_rfl) ?_
 clear HF HM; intro a w HF HM
 refine bF HF rfl ?_
 refine wp_skip ?_
 repeat (first | refine aQ ?_ | refine aU ?_)
 replace HF := HF.sub ((eX b o n c) ++ [(4, aC s), (5, aC z4), (8, aC z7)]) (by kernel_rfl)
 refine bC HF HM rfl [[1], [2]] ((eX b o n c) ++ [(4, aC s), (5, aC z4), (8, aC z7)]) [tK z7, iJ z4 abi aF, gI s b o n c] (by kernel_rfl) ?_
 clear HF HM; intro a w HF HM
 refine bC HF HM rfl [] ((eX b o n c) ++ [(4, aC s), (5, aC z4), (8, aC z7), (9, aK 0)]) [tK z7, iJ z4 abi aF, gI s b o n c] (by kernel_rfl) ?_
 clear HF HM; intro a w HF HM
 refine wp_seq ?_
 refine bC HF HM rfl [[2]] ((eX b o n c) ++ [(4, aC s), (5, aC z4), (8, aC z7), (9, aK 0), (132, aK 1)]) [tK z7, iJ z4 abi aF, gI s b o n c] (by kernel_rfl) ?_
 clear HF HM; intro a w HF HM
 refine wp_block ?_
 refine bC HF HM rfl [] ((eX b o n c) ++ [(4, aC s), (5, aC z4), (8, aC z7), (9, aK 0), (132, aK 1), (142, .bool true)]) [tK z7, iJ z4 abi aF, gI s b o n c] (by kernel_rfl) ?_
 clear HF HM; intro a w HF HM
 refine bF HF rfl ?_
 refine nD HF HM rfl [] ((eX b o n c) ++ [(4, aC s), (5, aC z4), (8, aC z7), (9, (aP false))]) [tK z7, iJ z4 abi aF, gI s b o n c] (by kernel_rfl) ?_
 clear HF HM; intro a w HF HM
 repeat (first | refine aQ ?_ | refine aU ?_)
 refine bC HF HM rfl [[2]] ((eX b o n c) ++ [(4, aC s), (5, aC z4), (8, aC z7), (9, (aP false))]) [(z7, .cells #[aK 1, aK 1, aK 0, aK 0, aK 0, (aP false), .int .u16 0, .int .u16 0, bG 0, aN, aN, aN, aN, aN] 131 (0, 0)), iJ z4 abi aF, gI s b o n c] (by kernel_rfl) ?_
 clear HF HM; intro a w HF HM
 refine bC HF HM rfl [[1], [2]] ((eX b o n c) ++ [(4, aC s), (5, aC z4), (8, aC z7), (9, (aP false))]) [(z7, .cells #[aK 1, aK 1, aK 1, aK 0, aK 0, (aP false), .int .u16 0, .int .u16 0, bG 0, aN, aN, aN, aN, aN] 131 (0, 0)), iJ z4 abi aF, gI s b o n c] (by kernel_rfl) ?_
 clear HF HM; intro a w HF HM
 refine wp_seq ?_
 refine bC HF HM rfl [[2]] ((eX b o n c) ++ [(4, aC s), (5, aC z4), (8, aC z7), (9, (aP false)), (162, .bool false)]) [(z7, .cells #[aK 1, aK 1, aK 1, aK 0, aK 0, (aP false), .int .u16 0, .int .u16 0, bG 0, aN, aN, aN, aN, aN] 131 (0, 0)), iJ z4 abi aF, gI s b o n c] (by kernel_rfl) ?_
 clear HF HM; intro a w HF HM
 refine aZ HF rfl ?_
 refine wp_skip ?_
 repeat (first | refine aQ ?_ | refine aU ?_)
 replace HF := HF.sub ((eX b o n c) ++ [(4, aC s), (5, aC z4), (8, aC z7), (9, (aP false))]) (by kernel_rfl)
 refine bC HF HM rfl [[1], [2]] ((eX b o n c) ++ [(4, aC s), (5, aC z4), (8, aC z7), (9, (aP false))]) [(z7, .cells #[aK 1, aK 1, aK 1, aV abi, aK 0, (aP false), .int .u16 0, .int .u16 0, bG 0, aN, aN, aN, aN, aN] 131 (0, 0)), iJ z4 abi aF, gI s b o n c] (by kernel_rfl) ?_
 clear HF HM; intro a w HF HM
 refine bC HF HM rfl [[1], [2]] ((eX b o n c) ++ [(4, aC s), (8, aC z7), (9, (aP false))]) [tJ z7 abi aF, iJ z4 abi aF, gI s b o n c] (by kernel_rfl) ?_
 clear HF HM; intro a w HF HM
 refine bC HF HM rfl [] ((eX b o n c) ++ [(4, aC s), (8, aC z7), (9, (aP false)), (10, ay 0)]) [tJ z7 abi aF, iJ z4 abi aF, gI s b o n c] (by kernel_rfl) ?_
 clear HF HM; intro a w HF HM
 refine bC HF HM rfl [] ((eX b o n c) ++ [(4, aC s), (8, aC z7), (9, (aP false)), (10, ay 0), (11, ay 0), (12, ay 0)]) [tJ z7 abi aF, iJ z4 abi aF, gI s b o n c] (by kernel_rfl) ?_
 clear HF HM; intro a w HF HM
 refine bC HF HM rfl [] ((eX b o n c) ++ [(4, aC s), (8, aC z7), (9, (aP false)), (10, ay 0), (11, ay 0), (12, ay 0), (13, ay 0)]) [tJ z7 abi aF, iJ z4 abi aF, gI s b o n c] (by kernel_rfl) ?_
 clear HF HM; intro a w HF HM
 refine bC HF HM rfl [] ((eX b o n c) ++ [(4, aC s), (8, aC z7), (9, (aP false)), (10, ay 0), (11, ay 0), (12, ay 0), (13, ay 0), (14, ay 0), (15, ay 0), (16, ay 0)]) [tJ z7 abi aF, iJ z4 abi aF, gI s b o n c] (by kernel_rfl) ?_
 clear HF HM; intro a w HF HM
 replace HF := HF.sub [(0, .iface 178 (.slice (some ⟨b, o, none⟩) n c)), (4, aC s), (8, aC z7), (9, (aP false))] (by kernel_rfl)
 exact K a w s z7 HF (HM.sub (List.Sublist.cons_cons _ (List.Sublist.cons _ (List.Sublist.refl _))))

abbrev fV := fun s (b : Nat) (o : Nat) (n : Nat) (c : Nat) => ((s, .cells #[.iface 178 (.slice (some ⟨b, o, none⟩) n c), ay 0, ay 0, ay 9223372036854775807, ay 9223372036854775807] 246 (0, 0)) : Nat × Obj)
abbrev dZ := fun (b : Nat) (o : Nat) (n : Nat) (c : Nat) => ([(0, .iface 178 (.slice (some ⟨b, o, none⟩) n c)), (2, .pointer none), (3, .nilIface)] : Slots)
abbrev iD := fun z4 (abi : Nat) (aF : Nat) => ((z4, .cells #[aK 127, aK 69, aK 76, aK 70, aK 1, aK 2, aK 1, aV abi, aV aF, aK 0, aK 0, aK 0, aK 0, aK 0, aK 0, aK 0] 205 (0, 0)) : Nat × Obj)
abbrev zJ := fun z7 => ((z7, .cells #[aK 1, aK 0, aK 0, aK 0, aK 0, aK 0, .int .u16 0, .int .u16 0, bG 0, aN, aN, aN, aN, aN] 131 (0, 0)) : Nat × Obj)
abbrev qY := fun z7 => ((z7, .cells #[aK 1, aK 2, aK 0, aK 0, aK 0, aK 0, .int .u16 0, .int .u16 0, bG 0, aN, aN, aN, aN, aN] 131 (0, 0)) : Nat × Obj)
abbrev tN := fun z7 (abi : Nat) (aF : Nat) => ((z7, .cells #[aK 1, aK 2, aK 1, aV abi, aV aF, (aP true), .int .u16 0, .int .u16 0, bG 0, aN, aN, aN, aN, aN] 131 (0, 0)) : Nat × Obj)
theorem Nj (l : List UInt8) (b o n c : Nat) (hl : n = l.length) (hnc : n ≤ c) (hn : 16 ≤ n) (abi aF : Nat) (hid : (((l.drop 0).take 16).map Bv).toArray = #[aK 127, aK 69, aK 76, aK 70, aK 1, aK 2, aK 1, aV abi, aV aF, aK 0, aK 0, aK 0, aK 0, aK 0, aK 0, aK 0]) {Q : Exit → Act → World → Prop} (w0 : World) (hbl : b < w0.heap.size) (hr : Row w0 (some ⟨b, o, none⟩) (l.map Bv)) (a : Act) (w : World) (HF : Fr 1287 a [(0, .iface 178 (.slice (some ⟨b, o, none⟩) n c))]) (HM : Mm [] w0 w [])
  (K : ∀ a w s fb, Fr 1287 a [(0, .iface 178 (.slice (some ⟨b, o, none⟩) n c)), (4, aC s), (8, aC fb), (9, (aP true))] → Mm [] w0 w [(fb, .cells #[aK 1, aK 2, aK 1, aV abi, aV aF, (aP true), .int .u16 0, .int .u16 0, bG 0, aN, aN, aN, aN, aN] 131 (0, 0)), fV s b o n c] → (spine Tryd.f78 20).wp Tryd.prog Q a w) : (spine Tryd.f78 0).wp Tryd.prog Q a w := by
 refine bC HF HM rfl [] (dZ b o n c) [] (by kernel_rfl) ?_
 clear HF HM; intro a w HF HM
 refine wp_seq (wp_region_lit ?_)
 refine aO HF HM rfl 1 [] ((dZ b o n c) ++ [(57, .iface 178 (.slice (some ⟨b, o, none⟩) n c))]) [] (by kernel_rfl) ?_
 clear HF HM; intro a w HF HM
 refine bn HF (by kernel_rfl) 92 #[.iface 178 (.slice (some ⟨b, o, none⟩) n c), ay 0, ay 9223372036854775807] (by kernel_rfl) (fun w => by kernel_rfl) (Calls.mono (nX 178 (.slice (some ⟨b, o, none⟩) n c) 0 9223372036854775807 (by omega) (by omega) (by omega) w) ?_)
 rintro _ w1 ⟨s, rfl, hb, hge, hgn⟩
 replace HM : Mm [] w0 w1 [fV s b o n c] := HM.push hb hge hgn
 clear hb hge hgn
 refine ⟨_, rfl, ?_⟩; clear HF; intro a HF; replace HF := HF.sub ((dZ b o n c) ++ [(57, .iface 178 (.slice (some ⟨b, o, none⟩) n c)), (58, aC s)]) (by kernel_rfl)
 refine aO HF HM rfl 1 [] ((dZ b o n c) ++ [(4, aC s)]) [fV s b o n c] (by kernel_rfl) ?_
 clear HF HM; intro a w HF HM
 refine aI ?_
 obtain ⟨z4, nH⟩ : ∃ z, w.heap.size = z := ⟨_, rfl⟩
 refine bC HF HM nH [] ((dZ b o n c) ++ [(4, aC s), (5, aC z4)]) [(z4, .cells #[aK 0, aK 0, aK 0, aK 0, aK 0, aK 0, aK 0, aK 0, aK 0, aK 0, aK 0, aK 0, aK 0, aK 0, aK 0, aK 0] 205 (0, 0)), fV s b o n c] (by kernel_rfl) ?_
 clear HF HM nH; intro a w HF HM
 refine wp_seq ?_
 refine jO HM (by kernel_rfl) [fV s b o n c] [(0, false), (1, false), (2, false), (3, false), (4, false), (5, true), (6, false), (7, false), (8, false), (9, false), (10, false)] (by kernel_rfl) ?_
 clear HM; intro w2 HM
 refine bD HF (HM.told [1] rfl) 5 [] ((dZ b o n c) ++ [(4, aC s), (5, aC z4), (60, .iface 178 (.slice (some ⟨b, o, none⟩) n c)), (61, aH z4 16 16), (64, .iface 178 (.slice (some ⟨b, o, none⟩) n c))]) (by kernel_rfl) ?_
 clear HF; intro a HF
 refine bQ rfl ?_
 have hbi : b ≠ z4 := fun e => absurd hbl (Nat.not_lt_of_le (e ▸ HM.ge (i := 0) rfl))
 refine bn HF (by kernel_rfl) 127 #[.slice (some ⟨b, o, none⟩) n c, aH z4 16 16, aA 0] (by kernel_rfl) (fun w => by kernel_rfl) (Calls.mono (qh l b o n c hl hnc z4 #[aK 0, aK 0, aK 0, aK 0, aK 0, aK 0, aK 0, aK 0, aK 0, aK 0, aK 0, aK 0, aK 0, aK 0, aK 0, aK 0] 205 16 16 rfl 0 (by omega) (by omega) w2 (HM.row hr (by intro b' o' s' _; simp)) hbi (HM.get (i := 0) rfl)) ?_)
 rintro _ w3 ⟨rfl, hkp, hgn⟩
 rw [hid] at hgn
 replace HM : Mm [] w0 w3 [iD z4 abi aF, fV s b o n c] := HM.put (i := 0) rfl hgn hkp
 clear hkp hgn
 refine ⟨_, rfl, ?_⟩; clear HF; intro a HF; replace HF := HF.sub ((dZ b o n c) ++ [(4, aC s), (5, aC z4), (60, .iface 178 (.slice (some ⟨b, o, none⟩) n c)), (61, aH z4 16 16), (64, .iface 178 (.slice (some ⟨b, o, none⟩) n c)), (65, .tuple #[aA 16, .nilIface])]) (by kernel_rfl)
 refine cZ (HM.told [1] rfl) ?_
 refine bD HF (HM.told [1] rfl) 5 [] ((dZ b o n c) ++ [(4, aC s), (5, aC z4), (7, .nilIface)]) (by kernel_rfl) ?_
 clear HF; intro a HF
 refine iP ?_
 refine aQ ?_
 refine wp_seq (wp_region_lit ?_)
 refine aO HF HM rfl 2 [] ((dZ b o n c) ++ [(4, aC s), (5, aC z4), (7, .nilIface), (69, .bool false)]) [iD z4 abi aF, fV s b o n c] (by kernel_rfl) ?_
 clear HF HM; intro a w HF HM
 refine aI ?_
 refine aZ HF rfl ?_
 refine wp_skip ?_
 repeat (first | refine aQ ?_ | refine aU ?_)
 replace HF := HF.sub ((dZ b o n c) ++ [(4, aC s), (5, aC z4)]) (by kernel_rfl)
 refine wp_seq ?_
 refine wp_seq (wp_region_lit ?_)
 refine aO HF HM rfl 18 [[1], [1], [1], [1]] ((dZ b o n c) ++ [(4, aC s), (5, aC z4), (91, .bool false)]) [iD z4 abi aF, fV s b o n c] (by kernel_rfl) ?_
 clear HF HM; intro a w HF HM
 refine aI ?_
 refine aZ HF rfl ?_
 refine wp_skip ?_
 repeat (first | refine aQ ?_ | refine aU ?_)
 replace HF := HF.sub ((dZ b o n c) ++ [(4, aC s), (5, aC z4)]) (by kernel_rfl)
 obtain ⟨z7, uM⟩ : ∃ z, w.heap.size = z := ⟨_, rfl⟩
 refine bC HF HM uM [] ((dZ b o n c) ++ [(4, aC s), (5, aC z4), (8, aC z7)]) [(z7, .cells #[aK 0, aK 0, aK 0, aK 0, aK 0, aK 0, .int .u16 0, .int .u16 0, bG 0, aN, aN, aN, aN, aN] 131 (0, 0)), iD z4 abi aF, fV s b o n c] (by kernel_rfl) ?_
 clear HF HM uM; intro a w HF HM
 refine bC HF HM rfl [[1], [2]] ((dZ b o n c) ++ [(4, aC s), (5, aC z4), (8, aC z7)]) [zJ z7, iD z4 abi aF, fV s b o n c] (by kernel_rfl) ?_
 clear HF HM; intro a w HF HM
 refine wp_seq ?_
 refine bC HF HM rfl [[2]] ((dZ b o n c) ++ [(4, aC s), (5, aC z4), (8, aC z7), (108, aK 1)]) [zJ z7, iD z4 abi aF, fV s b o n c] (by kernel_rfl) ?_
 clear HF HM; intro a w HF HM
 refine wp_block ?_
 refine bC HF HM rfl [] ((dZ b o n c) ++ [(4, aC s), (5, aC z4), (8, aC z7), (108, aK 1), (118, .bool true)]) [zJ z7, iD z4 abi aF, fV s b o n c] (by kernel_rfl) ?_
 clear HF HM; intro a w HF HM
 refine bF HF rfl ?_
 refine wp_skip ?_
 repeat (first | refine aQ ?_ | refine aU ?_)
 replace HF := HF.sub ((dZ b o n c) ++ [(4, aC s), (5, aC z4), (8, aC z7)]) (by kernel_rfl)
 refine bC HF HM rfl [[1], [2]] ((dZ b o n c) ++ [(4, aC s), (5, aC z4), (8, aC z7)]) [qY z7, iD z4 abi aF, fV s b o n c] (by kernel_rfl) ?_
 clear HF HM; intro a w HF HM
 refine bC HF HM rfl [] ((dZ b o n c) ++ [(4, aC s), (5, aC z4), (8, aC z7), (9, aK 0)]) [qY z7, iD z4 abi aF, fV s b o n c] (by kernel_rfl) ?_
 clear HF HM; intro a w HF HM
 refine wp_seq ?_
 refine bC HF HM rfl [[2]] ((dZ b o n c) ++ [(4, aC s), (5, aC z4), (8, aC z7), (9, aK 0), (132, aK 2)]) [qY z7, iD z4 abi aF, fV s b o n c] (by kernel_rfl) ?_
 clear HF HM; intro a w HF HM
 refine wp_block ?_
 refine bC HF HM rfl [] ((dZ b o n c) ++ [(4, aC s), (5, aC z4), (8, aC z7), (9, aK 0), (132, aK 2), (142, .bool false)]) [qY z7, iD z4 abi aF, fV s b o n c] (by kernel_rfl) ?_
 clear HF HM; intro a w HF HM
 refine aZ HF rfl ?_
 refine bC HF HM rfl [] ((dZ b o n c) ++ [(4, aC s), (5, aC z4), (8, aC z7), (9, aK 0), (132, aK 2), (144, .bool true)]) [qY z7, iD z4 abi aF, fV s b o n c] (by kernel_rfl) ?_
 clear HF HM; intro a w HF HM
 refine bF HF rfl ?_
 refine nD HF HM rfl [] ((dZ b o n c) ++ [(4, aC s), (5, aC z4), (8, aC z7), (9, (aP true))]) [qY z7, iD z4 abi aF, fV s b o n c] (by kernel_rfl) ?_
 clear HF HM; intro a w HF HM
 repeat (first | refine aQ ?_ | refine aU ?_)
 refine bC HF HM rfl [[2]] ((dZ b o n c) ++ [(4, aC s), (5, aC z4), (8, aC z7), (9, (aP true))]) [(z7, .cells #[aK 1, aK 2, aK 0, aK 0, aK 0, (aP true), .int .u16 0, .int .u16 0, bG 0, aN, aN, aN, aN, aN] 131 (0, 0)), iD z4 abi aF, fV s b o n c] (by kernel_rfl) ?_
 clear HF HM; intro a w HF HM
 refine bC HF HM rfl [[1], [2]] ((dZ b o n c) ++ [(4, aC s), (5, aC z4), (8, aC z7), (9, (aP true))]) [(z7, .cells #[aK 1, aK 2, aK 1, aK 0, aK 0, (aP true), .int .u16 0, .int .u16 0, bG 0, aN, aN, aN, aN, aN] 131 (0, 0)), iD z4 abi aF, fV s b o n c] (by kernel_rfl) ?_
 clear HF HM; intro a w HF HM
 refine wp_seq ?_
 refine bC HF HM rfl [[2]] ((dZ b o n c) ++ [(4, aC s), (5, aC z4), (8, aC z7), (9, (aP true)), (162, .bool false)]) [(z7, .cells #[aK 1, aK 2, aK 1, aK 0, aK 0, (aP true), .int .u16 0, .int .u16 0, bG 0, aN, aN, aN, aN, aN] 131 (0, 0)), iD z4 abi aF, fV s b o n c] (by kernel_rfl) ?_
 clear HF HM; intro a w HF HM
 refine aZ HF rfl ?_
 refine wp_skip ?_
 repeat (first | refine aQ ?_ | refine aU ?_)
 replace HF := HF.sub ((dZ b o n c) ++ [(4, aC s), (5, aC z4), (8, aC z7), (9, (aP true))]) (by kernel_rfl)
 refine bC HF HM rfl [[1], [2]] ((dZ b o n c) ++ [(4, aC s), (5, aC z4), (8, aC z7), (9, (aP true))]) [(z7, .cells #[aK 1, aK 2, aK 1, aV abi, aK 0, (aP true), .int .u16 0, .int .u16 0, bG 0, aN, aN, aN, aN, aN] 131 (0, 0)), iD z4 abi aF, fV s b o n c] (by kernel_rfl) ?_
 clear HF HM; intro a w HF HM
 refine bC HF HM rfl [[1], [2]] ((dZ b o n c) ++ [(4, aC s), (8, aC z7), (9, (aP true))]) [tN z7 abi aF, iD z4 abi aF, fV s b o n c] (by kernel_rfl) ?_
 clear HF HM; intro a w HF HM
 refine bC HF HM rfl [] ((dZ b o n c) ++ [(4, aC s), (8, aC z7), (9, (aP true)), (10, ay 0)]) [tN z7 abi aF, iD z4 abi aF, fV s b o n c] (by kernel_rfl) ?_
 clear HF HM; intro a w HF HM
 refine bC HF HM rfl [] ((dZ b o n c) ++ [(4, aC s), (8, aC z7), (9, (aP true)), (10, ay 0), (11, ay 0), (12, ay 0)]) [tN z7 abi aF, iD z4 abi aF, fV s b o n c] (by kernel_rfl) ?_
 clear HF HM; intro a w HF HM
 refine bC HF HM rfl [] ((dZ b o n c) ++ [(4, aC s), (8, aC z7), (9, (aP true)), (10, ay 0), (11, ay 0), (12, ay 0), (13, ay 0)]) [tN z7 abi aF, iD z4 abi aF, fV s b o n c] (by kernel_rfl) ?_
 clear HF HM; intro a w HF HM
 refine bC HF HM rfl [] ((dZ b o n c) ++ [(4, aC s), (8, aC z7), (9, (aP true)), (10, ay 0), (11, ay 0), (12, ay 0), (13, ay 0), (14, ay 0), (15, ay 0), (16, ay 0)]) [tN z7 abi aF, iD z4 abi aF, fV s b o n c] (by kernel_rfl) ?_
 clear HF HM; intro a w HF HM
 replace HF := HF.sub [(0, .iface 178 (.slice (some ⟨b, o, none⟩) n c)), (4, aC s), (8, aC z7), (9, (aP true))] (by kernel_rfl)
 exact K a w s z7 HF (HM.sub (List.Sublist.cons_cons _ (List.Sublist.cons _ (List.Sublist.refl _))))

abbrev fU := fun s (b : Nat) (o : Nat) (n : Nat) (c : Nat) => ((s, .cells #[.iface 178 (.slice (some ⟨b, o, none⟩) n c), ay 0, ay 0, ay 9223372036854775807, ay 9223372036854775807] 246 (0, 0)) : Nat × Obj)
abbrev dY := fun (b : Nat) (o : Nat) (n : Nat) (c : Nat) => ([(0, .iface 178 (.slice (some ⟨b, o, none⟩) n c)), (2, .pointer none), (3, .nilIface)] : Slots)
abbrev iC := fun z4 (abi : Nat) (aF : Nat) => ((z4, .cells #[aK 127, aK 69, aK 76, aK 70, aK 2, aK 1, aK 1, aV abi, aV aF, aK 0, aK 0, aK 0, aK 0, aK 0, aK 0, aK 0] 205 (0, 0)) : Nat × Obj)
abbrev vW := fun z7 => ((z7, .cells #[aK 2, aK 0, aK 0, aK 0, aK 0, aK 0, .int .u16 0, .int .u16 0, bG 0, aN, aN, aN, aN, aN] 131 (0, 0)) : Nat × Obj)
abbrev tC := fun z7 => ((z7, .cells #[aK 2, aK 1, aK 0, aK 0, aK 0, aK 0, .int .u16 0, .int .u16 0, bG 0, aN, aN, aN, aN, aN] 131 (0, 0)) : Nat × Obj)
abbrev tu := fun z7 (abi : Nat) (aF : Nat) => ((z7, .cells #[aK 2, aK 1, aK 1, aV abi, aV aF, (aP false), .int .u16 0, .int .u16 0, bG 0, aN, aN, aN, aN, aN] 131 (0, 0)) : Nat × Obj)
theorem Nb (l : List UInt8) (b o n c : Nat) (hl : n = l.length) (hnc : n ≤ c) (hn : 16 ≤ n) (abi aF : Nat) (hid : (((l.drop 0).take 16).map Bv).toArray = #[aK 127, aK 69, aK 76, aK 70, aK 2, aK 1, aK 1, aV abi, aV aF, aK 0, aK 0, aK 0, aK 0, aK 0, aK 0, aK 0]) {Q : Exit → Act → World → Prop} (w0 : World) (hbl : b < w0.heap.size) (hr : Row w0 (some ⟨b, o, none⟩) (l.map Bv)) (a : Act) (w : World) (HF : Fr 1287 a [(0, .iface 178 (.slice (some ⟨b, o, none⟩) n c))]) (HM : Mm [] w0 w [])
  (K : ∀ a w s fb, Fr 1287 a [(0, .iface 178 (.slice (some ⟨b, o, none⟩) n c)), (4, aC s), (8, aC fb), (9, (aP false))] → Mm [] w0 w [(fb, .cells #[aK 2, aK 1, aK 1, aV abi, aV aF, (aP false), .int .u16 0, .int .u16 0, bG 0, aN, aN, aN, aN, aN] 131 (0, 0)), fU s b o n c] → (spine Tryd.f78 20).wp Tryd.prog Q a w) : (spine Tryd.f78 0).wp Tryd.prog Q a w := by
 refine bC HF HM rfl [] (dY b o n c) [] (by kernel_rfl) ?_
 clear HF HM; intro a w HF HM
 refine wp_seq (wp_region_lit ?_)
 refine aO HF HM rfl 1 [] ((dY b o n c) ++ [(57, .iface 178 (.slice (some ⟨b, o, none⟩) n c))]) [] (by kernel_rfl) ?_
 clear HF HM; intro a w HF HM
 refine bn HF (by kernel_rfl) 92 #[.iface 178 (.slice (some ⟨b, o, none⟩) n c), ay 0, ay 9223372036854775807] (by kernel_rfl) (fun w => by kernel_rfl) (Calls.mono (nX 178 (.slice (some ⟨b, o, none⟩) n c) 0 9223372036854775807 (by omega) (by omega) (by omega) w) ?_)
 rintro _ w1 ⟨s, rfl, hb, hge, hgn⟩
 replace HM : Mm [] w0 w1 [fU s b o n c] := HM.push hb hge hgn
 clear hb hge hgn
 refine ⟨_, rfl, ?_⟩; clear HF; intro a HF; replace HF := HF.sub ((dY b o n c) ++ [(57, .iface 178 (.slice (some ⟨b, o, none⟩) n c)), (58, aC s)]) (by kernel_rfl)
 refine aO HF HM rfl 1 [] ((dY b o n c) ++ [(4, aC s)]) [fU s b o n c] (by kernel_rfl) ?_
 clear HF HM; intro a w HF HM
 refine aI ?_
 obtain ⟨z4, nH⟩ : ∃ z, w.heap.size = z := ⟨_, rfl⟩
 refine bC HF HM nH [] ((dY b o n c) ++ [(4, aC s), (5, aC z4)]) [(z4, .cells #[aK 0, aK 0, aK 0, aK 0, aK 0, aK 0, aK 0, aK 0, aK 0, aK 0, aK 0, aK 0, aK 0, aK 0, aK 0, aK 0] 205 (0, 0)), fU s b o n c] (by kernel_rfl) ?_
 clear HF HM nH; intro a w HF HM
 refine wp_seq ?_
 refine jO HM (by kernel_rfl) [fU s b o n c] [(0, false), (1, false), (2, false), (3, false), (4, false), (5, true), (6, false), (7, false), (8, false), (9, false), (10, false)] (by kernel_rfl) ?_
 clear HM; intro w2 HM
 refine bD HF (HM.told [1] rfl) 5 [] ((dY b o n c) ++ [(4, aC s), (5, aC z4), (60, .iface 178 (.slice (some ⟨b, o, none⟩) n c)), (61, aH z4 16 16), (64, .iface 178 (.slice (some ⟨b, o, none⟩) n c))]) (by kernel_rfl) ?_
 clear HF; intro a HF
 refine bQ rfl ?_
 have hbi : b ≠ z4 := fun e => absurd hbl (Nat.not_lt_of_le (e ▸ HM.ge (i := 0) rfl))
 refine bn HF (by kernel_rfl) 127 #[.slice (some ⟨b, o, none⟩) n c, aH z4 16 16, aA 0] (by kernel_rfl) (fun w => by kernel_rfl) (Calls.mono (qh l b o n c hl hnc z4 #[aK 0, aK 0, aK 0, aK 0, aK 0, aK 0, aK 0, aK 0, aK 0, aK 0, aK 0, aK 0, aK 0, aK 0, aK 0, aK 0] 205 16 16 rfl 0 (by omega) (by omega) w2 (HM.row hr (by intro b' o' s' _; simp)) hbi (HM.get (i := 0) rfl)) ?_)
 rintro _ w3 ⟨rfl, hkp, hgn⟩
 rw [hid] at hgn
 replace HM : Mm [] w0 w3 [iC z4 abi aF, fU s b o n c] := HM.put (i := 0) rfl hgn hkp
 clear hkp hgn
 refine ⟨_, rfl, ?_⟩; clear HF; intro a HF; replace HF := HF.sub ((dY b o n c) ++ [(4, aC s), (5, aC z4), (60, .iface 178 (.slice (some ⟨b, o, none⟩) n c)), (61, aH z4 16 16), (64, .iface 178 (.slice (some ⟨b, o, none⟩) n c)), (65, .tuple #[aA 16, .nilIface])]) (by kernel_rfl)
 refine cZ (HM.told [1] rfl) ?_
 refine bD HF (HM.told [1] rfl) 5 [] ((dY b o n c) ++ [(4, aC s), (5, aC z4), (7, .nilIface)]) (by kernel_rfl) ?_
 clear HF; intro a HF
 refine iP ?_
 refine aQ ?_
 refine wp_seq (wp_region_lit ?_)
 refine aO HF HM rfl 2 [] ((dY b o n c) ++ [(4, aC s), (5, aC z4), (7, .nilIface), (69, .bool false)]) [iC z4 abi aF, fU s b o n c] (by kernel_rfl) ?_
 clear HF HM; intro a w HF HM
 refine aI ?_
 refine aZ HF rfl ?_
 refine wp_skip ?_
 repeat (first | refine aQ ?_ | refine aU ?_)
 replace HF := HF.sub ((dY b o n c) ++ [(4, aC s), (5, aC z4)]) (by kernel_rfl)
 refine wp_seq ?_
 refine wp_seq (wp_region_lit ?_)
 refine aO HF HM rfl 18 [[1], [1], [1], [1]] ((dY b o n c) ++ [(4, aC s), (5, aC z4), (91, .bool false)]) [iC z4 abi aF, fU s b o n c] (by kernel_rfl) ?_
 clear HF HM; intro a w HF HM
 refine aI ?_
 refine aZ HF rfl ?_
 refine wp_skip ?_
 repeat (first | refine aQ ?_ | refine aU ?_)
 replace HF := HF.sub ((dY b o n c) ++ [(4, aC s), (5, aC z4)]) (by kernel_rfl)
 obtain ⟨z7, uM⟩ : ∃ z, w.heap.size = z := ⟨_, rfl⟩
 refine bC HF HM uM [] ((dY b o n c) ++ [(4, aC s), (5, aC z4), (8, aC z7)]) [(z7, .cells #[aK 0, aK 0, aK 0, aK 0, aK 0, aK 0, .int .u16 0, .int .u16 0, bG 0, aN, aN, aN, aN, aN] 131 (0, 0)), iC z4 abi aF, fU s b o n c] (by kernel_rfl) ?_
 clear HF HM uM; intro a w HF HM
 refine bC HF HM rfl [[1], [2]] ((dY b o n c) ++ [(4, aC s), (5, aC z4), (8, aC z7)]) [vW z7, iC z4 abi aF, fU s b o n c] (by kernel_rfl) ?_
 clear HF HM; intro a w HF HM
 refine wp_seq ?_
 refine bC HF HM rfl [[2]] ((dY b o n c) ++ [(4, aC s), (5, aC z4), (8, aC z7), (108, aK 2)]) [vW z7, iC z4 abi aF, fU s b o n c] (by kernel_rfl) ?_
 clear HF HM; intro a w HF HM
 refine wp_block ?_
 refine bC HF HM rfl [] ((dY b o n c) ++ [(4, aC s), (5, aC z4), (8, aC z7), (108, aK 2), (118, .bool false)]) [vW z7, iC z4 abi aF, fU s b o n c] (by kernel_rfl) ?_
 clear HF HM; intro a w HF HM
 refine aZ HF rfl ?_
 refine bC HF HM rfl [] ((dY b o n c) ++ [(4, aC s), (5, aC z4), (8, aC z7), (108, aK 2), (120, .bool true)]) [vW z7, iC z4 abi aF, fU s b o n c] (by kernel_rfl) ?_
 clear HF HM; intro a w HF HM
 refine bF HF rfl ?_
 refine wp_skip ?_
 repeat (first | refine aQ ?_ | refine aU ?_)
 replace HF := HF.sub ((dY b o n c) ++ [(4, aC s), (5, aC z4), (8, aC z7)]) (by kernel_rfl)
 refine bC HF HM rfl [[1], [2]] ((dY b o n c) ++ [(4, aC s), (5, aC z4), (8, aC z7)]) [tC z7, iC z4 abi aF, fU s b o n c] (by kernel_rfl) ?_
 clear HF HM; intro a w HF HM
 refine bC HF HM rfl [] ((dY b o n c) ++ [(4, aC s), (5, aC z4), (8, aC z7), (9, aK 0)]) [tC z7, iC z4 abi aF, fU s b o n c] (by kernel_rfl) ?_
 clear HF HM; intro a w HF HM
 refine wp_seq ?_
 refine bC HF HM rfl [[2]] ((dY b o n c) ++ [(4, aC s), (5, aC z4), (8, aC z7), (9, aK 0), (132, aK 1)]) [tC z7, iC z4 abi aF, fU s b o n c] (by kernel_rfl) ?_
 clear HF HM; intro a w HF HM
 refine wp_block ?_
 refine bC HF HM rfl [] ((dY b o n c) ++ [(4, aC s), (5, aC z4), (8, aC z7), (9, aK 0), (132, aK 1), (142, .bool true)]) [tC z7, iC z4 abi aF, fU s b o n c] (by kernel_rfl) ?_
 clear HF HM; intro a w HF HM
 refine bF HF rfl ?_
 refine nD HF HM rfl [] ((dY b o n c) ++ [(4, aC s), (5, aC z4), (8, aC z7), (9, (aP false))]) [tC z7, iC z4 abi aF, fU s b o n c] (by kernel_rfl) ?_
 clear HF HM; intro a w HF HM
 repeat (first | refine aQ ?_ | refine aU ?_)
 refine bC HF HM rfl [[2]] ((dY b o n c) ++ [(4, aC s), (5, aC z4), (8, aC z7), (9, (aP false))]) [(z7, .cells #[aK 2, aK 1, aK 0, aK 0, aK 0, (aP false), .int .u16 0, .int .u16 0, bG 0, aN, aN, aN, aN, aN] 131 (0, 0)), iC z4 abi aF, fU s b o n c] (by kernel_rfl) ?_
 clear HF HM; intro a w HF HM
 refine bC HF HM rfl [[1], [2]] ((dY b o n c) ++ [(4, aC s), (5, aC z4), (8, aC z7), (9, (aP false))]) [(z7, .cells #[aK 2, aK 1, aK 1, aK 0, aK 0, (aP false), .int .u16 0, .int .u16 0, bG 0, aN, aN, aN, aN, aN] 131 (0, 0)), iC z4 abi aF, fU s b o n c] (by kernel_rfl) ?_
 clear HF HM; intro a w HF HM
 refine wp_seq ?_
 refine bC HF HM rfl [[2]] ((dY b o n c) ++ [(4, aC s), (5, aC z4), (8, aC z7), (9, (aP false)), (162, .bool false)]) [(z7, .cells #[aK 2, aK 1, aK 1, aK 0, aK 0, (aP false), .int .u16 0, .int .u16 0, bG 0, aN, aN, aN, aN, aN] 131 (0, 0)), iC z4 abi aF, fU s b o n c] (by kernel_rfl) ?_
 clear HF HM; intro a w HF HM
 refine aZ HF rfl ?_
 refine wp_skip ?_
 repeat (first | refine aQ ?_ | refine aU ?_)
 replace HF := HF.sub ((dY b o n c) ++ [(4, aC s), (5, aC z4), (8, aC z7), (9, (aP false))]) (by kernel_rfl)
 refine bC HF HM rfl [[1], [2]] ((dY b o n c) ++ [(4, aC s), (5, aC z4), (8, aC z7), (9, (aP false))]) [(z7, .cells #[aK 2, aK 1, aK 1, aV abi, aK 0, (aP false), .int .u16 0, .int .u16 0, bG 0, aN, aN, aN, aN, aN] 131 (0, 0)), iC z4 abi aF, fU s b o n c] (by kernel_rfl) ?_
 clear HF HM; intro a w HF HM
 refine bC HF HM rfl [[1], [2]] ((dY b o n c) ++ [(4, aC s), (8, aC z7), (9, (aP false))]) [tu z7 abi aF, iC z4 abi aF, fU s b o n c] (by kernel_rfl) ?_
 clear HF HM; intro a w HF HM
 refine bC HF HM rfl [] ((dY b o n c) ++ [(4, aC s), (8, aC z7), (9, (aP false)), (10, ay 0)]) [tu z7 abi aF, iC z4 abi aF, fU s b o n c] (by kernel_rfl) ?_
 clear HF HM; intro a w HF HM
 refine bC HF HM rfl [] ((dY b o n c) ++ [(4, aC s), (8, aC z7), (9, (aP false)), (10, ay 0), (11, ay 0), (12, ay 0)]) [tu z7 abi aF, iC z4 abi aF, fU s b o n c] (by kernel_rfl) ?_
 clear HF HM; intro a w HF HM
 refine bC HF HM rfl [] ((dY b o n c) ++ [(4, aC s), (8, aC z7), (9, (aP false)), (10, ay 0), (11, ay 0), (12, ay 0), (13, ay 0)]) [tu z7 abi aF, iC z4 abi aF, fU s b o n c] (by kernel_rfl) ?_
 clear HF HM; intro a w HF HM
 refine bC HF HM rfl [] ((dY b o n c) ++ [(4, aC s), (8, aC z7), (9, (aP false)), (10, ay 0), (11, ay 0), (12, ay 0), (13, ay 0), (14, ay 0), (15, ay 0), (16, ay 0)]) [tu z7 abi aF, iC z4 abi aF, fU s b o n c] (by kernel_rfl) ?_
 clear HF HM; intro a w HF HM
 replace HF := HF.sub [(0, .iface 178 (.slice (some ⟨b, o, none⟩) n c)), (4, aC s), (8, aC z7), (9, (aP false))] (by kernel_rfl)
 exact K a w s z7 HF (HM.sub (List.Sublist.cons_cons _ (List.Sublist.cons _ (List.Sublist.refl _))))

abbrev fO := fun s (b : Nat) (o : Nat) (n : Nat) (c : Nat) => ((s, .cells #[.iface 178 (.slice (some ⟨b, o, none⟩) n c), ay 0, ay 0, ay 9223372036854775807, ay 9223372036854775807] 246 (0, 0)) : Nat × Obj)
abbrev dS := fun (b : Nat) (o : Nat) (n : Nat) (c : Nat) => ([(0, .iface 178 (.slice (some ⟨b, o, none⟩) n c)), (2, .pointer none), (3, .nilIface)] : Slots)
abbrev gZ := fun z4 (abi : Nat) (aF : Nat) => ((z4, .cells #[aK 127, aK 69, aK 76, aK 70, aK 2, aK 2, aK 1, aV abi, aV aF, aK 0, aK 0, aK 0, aK 0, aK 0, aK 0, aK 0] 205 (0, 0)) : Nat × Obj)
abbrev vX := fun z7 => ((z7, .cells #[aK 2, aK 0, aK 0, aK 0, aK 0, aK 0, .int .u16 0, .int .u16 0, bG 0, aN, aN, aN, aN, aN] 131 (0, 0)) : Nat × Obj)
abbrev qX := fun z7 => ((z7, .cells #[aK 2, aK 2, aK 0, aK 0, aK 0, aK 0, .int .u16 0, .int .u16 0, bG 0, aN, aN, aN, aN, aN] 131 (0, 0)) : Nat × Obj)
abbrev tH := fun z7 (abi : Nat) (aF : Nat) => ((z7, .cells #[aK 2, aK 2, aK 1, aV abi, aV aF, (aP true), .int .u16 0, .int .u16 0, bG 0, aN, aN, aN, aN, aN] 131 (0, 0)) : Nat × Obj)
theorem Nc (l : List UInt8) (b o n c : Nat) (hl : n = l.length) (hnc : n ≤ c) (hn : 16 ≤ n) (abi aF : Nat) (hid : (((l.drop 0).take 16).map Bv).toArray = #[aK 127, aK 69, aK 76, aK 70, aK 2, aK 2, aK 1, aV abi, aV aF, aK 0, aK 0, aK 0, aK 0, aK 0, aK 0, aK 0]) {Q : Exit → Act → World → Prop} (w0 : World) (hbl : b < w0.heap.size) (hr : Row w0 (some ⟨b, o, none⟩) (l.map Bv)) (a : Act) (w : World) (HF : Fr 1287 a [(0, .iface 178 (.slice (some ⟨b, o, none⟩) n c))]) (HM : Mm [] w0 w [])
  (K : ∀ a w s fb, Fr 1287 a [(0, .iface 178 (.slice (some ⟨b, o, none⟩) n c)), (4, aC s), (8, aC fb), (9, (aP true))] → Mm [] w0 w [(fb, .cells #[aK 2, aK 2, aK 1, aV abi, aV aF, (aP true), .int .u16 0, .int .u16 0, bG 0, aN, aN, aN, aN, aN] 131 (0, 0)), fO s b o n c] → (spine Tryd.f78 20).wp Tryd.prog Q a w) : (spine Tryd.f78 0).wp Tryd.prog Q a w := by
 refine bC HF HM rfl [] (dS b o n c) [] (by kernel_rfl) ?_
 clear HF HM; intro a w HF HM
 refine wp_seq (wp_region_lit ?_)
 refine aO HF HM rfl 1 [] ((dS b o n c) ++ [(57, .iface 178 (.slice (some ⟨b, o, none⟩) n c))]) [] (by kernel_rfl) ?_
 clear HF HM; intro a w HF HM
 refine bn HF (by kernel_rfl) 92 #[.iface 178 (.slice (some ⟨b, o, none⟩) n c), ay 0, ay 9223372036854775807] (by kernel_rfl) (fun w => by kernel_rfl) (Calls.mono (nX 178 (.slice (some ⟨b, o, none⟩) n c) 0 9223372036854775807 (by omega) (by omega) (by omega) w) ?_)
 rintro _ w1 ⟨s, rfl, hb, hge, hgn⟩
 replace HM : Mm [] w0 w1 [fO s b o n c] := HM.push hb hge hgn
 clear hb hge hgn
 refine ⟨_, rfl, ?_⟩; clear HF; intro a HF; replace HF := HF.sub ((dS b o n c) ++ [(57, .iface 178 (.slice (some ⟨b, o, none⟩) n c)), (58, aC s)]) (by kernel_rfl)
 refine aO HF HM rfl 1 [] ((dS b o n c) ++ [(4, aC s)]) [fO s b o n c] (by kernel_rfl) ?_
 clear HF HM; intro a w HF HM
 refine aI ?_
 obtain ⟨z4, nH⟩ : ∃ z, w.heap.size = z := ⟨_, rfl⟩
 refine bC HF HM nH [] ((dS b o n c) ++ [(4, aC s), (5, aC z4)]) [(z4, .cells #[aK 0, aK 0, aK 0, aK 0, aK 0, aK 0, aK 0, aK 0, aK 0, aK 0, aK 0, aK 0, aK 0, aK 0, aK 0, aK 0] 205 (0, 0)), fO s b o n c] (by kernel_rfl) ?_
 clear HF HM nH; intro a w HF HM
 refine wp_seq ?_
 refine jO HM (by kernel_rfl) [fO s b o n c] [(0, false), (1, false), (2, false), (3, false), (4, false), (5, true), (6, false), (7, false), (8, false), (9, false), (10, false)] (by kernel_rfl) ?_
 clear HM; intro w2 HM
 refine bD HF (HM.told [1] rfl) 5 [] ((dS b o n c) ++ [(4, aC s), (5, aC z4), (60, .iface 178 (.slice (some ⟨b, o, none⟩) n c)), (61, aH z4 16 16), (64, .iface 178 (.slice (some ⟨b, o, none⟩) n c))]) (by kernel_rfl) ?_
 clear HF; intro a HF
 refine bQ rfl ?_
 have hbi : b ≠ z4 := fun e => absurd hbl (Nat.not_lt_of_le (e ▸ HM.ge (i := 0) rfl))
 refine bn HF (by kernel_rfl) 127 #[.slice (some ⟨b, o, none⟩) n c, aH z4 16 16, aA 0] (by kernel_rfl) (fun w => by kernel_rfl) (Calls.mono (qh l b o n c hl hnc z4 #[aK 0, aK 0, aK 0, aK 0, aK 0, aK 0, aK 0, aK 0, aK 0, aK 0, aK 0, aK 0, aK 0, aK 0, aK 0, aK 0] 205 16 16 rfl 0 (by omega) (by omega) w2 (HM.row hr (by intro b' o' s' _; simp)) hbi (HM.get (i := 0) rfl)) ?_)
 rintro _ w3 ⟨rfl, hkp, hgn⟩
 rw [hid] at hgn
 replace HM : Mm [] w0 w3 [gZ z4 abi aF, fO s b o n c] := HM.put (i := 0) rfl hgn hkp
 clear hkp hgn
 refine ⟨_, rfl, ?_⟩; clear HF; intro a HF; replace HF := HF.sub ((dS b o n c) ++ [(4, aC s), (5, aC z4), (60, .iface 178 (.slice (some ⟨b, o, none⟩) n c)), (61, aH z4 16 16), (64, .iface 178 (.slice (some ⟨b, o, none⟩) n c)), (65, .tuple #[aA 16, .nilIface])]) (by kernel_rfl)
 refine cZ (HM.told [1] rfl) ?_
 refine bD HF (HM.told [1] rfl) 5 [] ((dS b o n c) ++ [(4, aC s), (5, aC z4), (7, .nilIface)]) (by kernel_rfl) ?_
 clear HF; intro a HF
 refine iP ?_
 refine aQ ?_
 refine wp_seq (wp_region_lit ?_)
 refine aO HF HM rfl 2 [] ((dS b o n c) ++ [(4, aC s), (5, aC z4), (7, .nilIface), (69, .bool false)]) [gZ z4 abi aF, fO s b o n c] (by kernel_rfl) ?_
 clear HF HM; intro a w HF HM
 refine aI ?_
 refine aZ HF rfl ?_
 refine wp_skip ?_
 repeat (first | refine aQ ?_ | refine aU ?_)
 replace HF := HF.sub ((dS b o n c) ++ [(4, aC s), (5, aC z4)]) (by kernel_rfl)
 refine wp_seq ?_
 refine wp_seq (wp_region_lit ?_)
 refine aO HF HM rfl 18 [[1], [1], [1], [1]] ((dS b o n c) ++ [(4, aC s), (5, aC z4), (91, .bool false)]) [gZ z4 abi aF, fO s b o n c] (by kernel_rfl) ?_
 clear HF HM; intro a w HF HM
 refine aI ?_
 refine aZ HF rfl ?_
 refine wp_skip ?_
 repeat (first | refine aQ ?_ | refine aU ?_)
 replace HF := HF.sub ((dS b o n c) ++ [(4, aC s), (5, aC z4)]) (by kernel_rfl)
 obtain ⟨z7, uM⟩ : ∃ z, w.heap.size = z := ⟨_, rfl⟩
 refine bC HF HM uM [] ((dS b o n c) ++ [(4, aC s), (5, aC z4), (8, aC z7)]) [(z7, .cells #[aK 0, aK 0, aK 0, aK 0, aK 0, aK 0, .int .u16 0, .int .u16 0, bG 0, aN, aN, aN, aN, aN] 131 (0, 0)), gZ z4 abi aF, fO s b o n c] (by kernel_rfl) ?_
 clear HF HM uM; intro a w HF HM
 refine bC HF HM rfl [[1], [2]] ((dS b o n c) ++ [(4, aC s), (5, aC z4), (8, aC z7)]) [vX z7, gZ z4 abi aF, fO s b o n c] (by kernel_rfl) ?_
 clear HF HM; intro a w HF HM
 refine wp_seq ?_
 refine bC HF HM rfl [[2]] ((dS b o n c) ++ [(4, aC s), (5, aC z4), (8, aC z7), (108, aK 2)]) [vX z7, gZ z4 abi aF, fO s b o n c] (by kernel_rfl) ?_
 clear HF HM; intro a w HF HM
 refine wp_block ?_
 refine bC HF HM rfl [] ((dS b o n c) ++ [(4, aC s), (5, aC z4), (8, aC z7), (108, aK 2), (118, .bool false)]) [vX z7, gZ z4 abi aF, fO s b o n c] (by kernel_rfl) ?_
 clear HF HM; intro a w HF HM
 refine aZ HF rfl ?_
 refine bC HF HM rfl [] ((dS b o n c) ++ [(4, aC s), (5, aC z4), (8, aC z7), (108, aK 2), (120, .bool true)]) [vX z7, gZ z4 abi aF, fO s b o n c] (by kernel_rfl) ?_
 clear HF HM; intro a w HF HM
 refine bF HF rfl ?_
 refine wp_skip ?_
 repeat (first | refine aQ ?_ | refine aU ?_)
 replace HF := HF.sub ((dS b o n c) ++ [(4, aC s), (5, aC z4), (8, aC z7)]) (by kernel_rfl)
 refine bC HF HM rfl [[1], [2]] ((dS b o n c) ++ [(4, aC s), (5, aC z4), (8, aC z7)]) [qX z7, gZ z4 abi aF, fO s b o n c] (by kernel_rfl) ?_
 clear HF HM; intro a w HF HM
 refine bC HF HM rfl [] ((dS b o n c) ++ [(4, aC s), (5, aC z4), (8, aC z7), (9, aK 0)]) [qX z7, gZ z4 abi aF, fO s b o n c] (by kernel_rfl) ?_
 clear HF HM; intro a w HF HM
 refine wp_seq ?_
 refine bC HF HM rfl [[2]] ((dS b o n c) ++ [(4, aC s), (5, aC z4), (8, aC z7), (9, aK 0), (132, aK 2)]) [qX z7, gZ z4 abi aF, fO s b o n c] (by kernel_rfl) ?_
 clear HF HM; intro a w HF HM
 refine wp_block ?_
 refine bC HF HM rfl [] ((dS b o n c) ++ [(4, aC s), (5, aC z4), (8, aC z7), (9, aK 0), (132, aK 2), (142, .bool false)]) [qX z7, gZ z4 abi aF, fO s b o n c] (by kernel_rfl) ?_
 clear HF HM; intro a w HF HM
 refine aZ HF rfl ?_
 refine bC HF HM rfl [] ((dS b o n c) ++ [(4, aC s), (5, aC z4), (8, aC z7), (9, aK 0), (132, aK 2), (144, .bool true)]) [qX z7, gZ z4 abi aF, fO s b o n c] (by kernel_rfl) ?_
 clear HF HM; intro a w HF HM
 refine bF HF rfl ?_
 refine nD HF HM rfl [] ((dS b o n c) ++ [(4, aC s), (5, aC z4), (8, aC z7), (9, (aP true))]) [qX z7, gZ z4 abi aF, fO s b o n c] (by kernel_rfl) ?_
 clear HF HM; intro a w HF HM
 repeat (first | refine aQ ?_ | refine aU ?_)
 refine bC HF HM rfl [[2]] ((dS b o n c) ++ [(4, aC s), (5, aC z4), (8, aC z7), (9, (aP true))]) [(z7, .cells #[aK 2, aK 2, aK 0, aK 0, aK 0, (aP true), .int .u16 0, .int .u16 0, bG 0, aN, aN, aN, aN, aN] 131 (0, 0)), gZ z4 abi aF, fO s b o n c] (by kernel_rfl) ?_
 clear HF HM; intro a w HF HM
 refine bC HF HM rfl [[1], [2]] ((dS b o n c) ++ [(4, aC s), (5, aC z4), (8, aC z7), (9, (aP true))]) [(z7, .cells #[aK 2, aK 2, aK 1, aK 0, aK 0, (aP true), .int .u16 0, .int .u16 0, bG 0, aN, aN, aN, aN, aN] 131 (0, 0)), gZ z4 abi aF, fO s b o n c] (by kernel_rfl) ?_
 clear HF HM; intro a w HF HM
 refine wp_seq ?_
 refine bC HF HM rfl [[2]] ((dS b o n c) ++ [(4, aC s), (5, aC z4), (8, aC z7), (9, (aP true)), (162, .bool false)]) [(z7, .cells #[aK 2, aK 2, aK 1, aK 0, aK 0, (aP true), .int .u16 0, .int .u16 0, bG 0, aN, aN, aN, aN, aN] 131 (0, 0)), gZ z4 abi aF, fO s b o n c] (by kernel_rfl) ?_
 clear HF HM; intro a w HF HM
 refine aZ HF rfl ?_
 refine wp_skip ?_
 repeat (first | refine aQ ?_ | refine aU ?_)
 replace HF := HF.sub ((dS b o n c) ++ [(4, aC s), (5, aC z4), (8, aC z7), (9, (aP true))]) (by kernel_rfl)
 refine bC HF HM rfl [[1], [2]] ((dS b o n c) ++ [(4, aC s), (5, aC z4), (8, aC z7), (9, (aP true))]) [(z7, .cells #[aK 2, aK 2, aK 1, aV abi, aK 0, (aP true), .int .u16 0, .int .u16 0, bG 0, aN, aN, aN, aN, aN] 131 (0, 0)), gZ z4 abi aF, fO s b o n c] (by kernel_rfl) ?_
 clear HF HM; intro a w HF HM
 refine bC HF HM rfl [[1], [2]] ((dS b o n c) ++ [(4, aC s), (8, aC z7), (9, (aP true))]) [tH z7 abi aF, gZ z4 abi aF, fO s b o n c] (by kernel_rfl) ?_
 clear HF HM; intro a w HF HM
 refine bC HF HM rfl [] ((dS b o n c) ++ [(4, aC s), (8, aC z7), (9, (aP true)), (10, ay 0)]) [tH z7 abi aF, gZ z4 abi aF, fO s b o n c] (by kernel_rfl) ?_
 clear HF HM; intro a w HF HM
 refine bC HF HM rfl [] ((dS b o n c) ++ [(4, aC s), (8, aC z7), (9, (aP true)), (10, ay 0), (11, ay 0), (12, ay 0)]) [tH z7 abi aF, gZ z4 abi aF, fO s b o n c] (by kernel_rfl) ?_
 clear HF HM; intro a w HF HM
 refine bC HF HM rfl [] ((dS b o n c) ++ [(4, aC s), (8, aC z7), (9, (aP true)), (10, ay 0), (11, ay 0), (12, ay 0), (13, ay 0)]) [tH z7 abi aF, gZ z4 abi aF, fO s b o n c] (by kernel_rfl) ?_
 clear HF HM; intro a w HF HM
 refine bC HF HM rfl [] ((dS b o n c) ++ [(4, aC s), (8, aC z7), (9, (aP true)), (10, ay 0), (11, ay 0), (12, ay 0), (13, ay 0), (14, ay 0), (15, ay 0), (16, ay 0)]) [tH z7 abi aF, gZ z4 abi aF, fO s b o n c] (by kernel_rfl) ?_
 clear HF HM; intro a w HF HM
 replace HF := HF.sub [(0, .iface 178 (.slice (some ⟨b, o, none⟩) n c)), (4, aC s), (8, aC z7), (9, (aP true))] (by kernel_rfl)
 exact K a w s z7 HF (HM.sub (List.Sublist.cons_cons _ (List.Sublist.cons _ (List.Sublist.refl _))))

end Go.Proofs.YtdgehpocmfjbiaaDoor
namespace Go.Proofs.YtdgehpocmfjbiaaDoor
open Go.RowKit

theorem qC {w : World} {g : Nat} {X : List UInt8} {t : TypeId} (hg : w.heap[g]? = some (.cells (X.map Bv).toArray t (0, 0))) : Row w (some ⟨g, 0, none⟩) (X.map Bv) :=
 Row.of_cells fun j hj => by
  rw [cell_of_row w g (0 + j) _ t (0, 0) hg, Nat.zero_add]
  have : j < X.length := by simpa using hj
  simp [this]
theorem oH {w : World} {g : Nat} {X : List UInt8} {t : TypeId} (hg : w.heap[g]? = some (.cells (X.map Bv).toArray t (0, 0))) (big : Bool) (k m : Nat) (hm : m + k = X.length) (hk : k + 2 ≤ X.length) (v : Int) (hv : ((num big X k 2 : Nat) : Int) = v) :
  Calls Tryd.prog 94 #[aP big, .slice (some ⟨g, k, none⟩) m m] w fun e w' => e = .returned (.int .u16 v) ∧ ∃ i, w' = w.drewN i := by
 have hr := (qC hg).drop_at k
 rw [← List.map_drop, Nat.zero_add] at hr
 rw [← hv]
 exact yK big (X.drop k) _ m m (by omega) (by simp; omega) w hr
theorem jy {w : World} {g : Nat} {X : List UInt8} {t : TypeId} (hg : w.heap[g]? = some (.cells (X.map Bv).toArray t (0, 0))) (hX : X.length ≤ maxLen) (big : Bool) (k m : Nat) (hm : m + k = X.length) (hk : k + 4 ≤ X.length) (v : Int) (hv : ((num big X k 4 : Nat) : Int) = v) :
  Calls Tryd.prog 87 #[aP big, .slice (some ⟨g, k, none⟩) m m] w fun e w' => e = .returned (.int .u32 v) ∧ ∃ i, w' = w.drewN i := by
 have hr := (qC hg).drop_at k
 rw [← List.map_drop, Nat.zero_add] at hr
 rw [← hv]
 exact yJ big (X.drop k) _ m m (by omega) (by simp; omega) (Nat.le_refl _) (by omega) w hr
theorem oh {w : World} {g : Nat} {X : List UInt8} {t : TypeId} (hg : w.heap[g]? = some (.cells (X.map Bv).toArray t (0, 0))) (hX : X.length ≤ maxLen) (big : Bool) (k m : Nat) (hm : m + k = X.length) (hk : k + 8 ≤ X.length) (v : Int) (hv : ((num big X k 8 : Nat) : Int) = v) :
  Calls Tryd.prog 88 #[aP big, .slice (some ⟨g, k, none⟩) m m] w fun e w' => e = .returned (.int .u64 v) ∧ ∃ i, w' = w.drewN i := by
 have hr := (qC hg).drop_at k
 rw [← List.map_drop, Nat.zero_add] at hr
 rw [← hv]
 exact I4 big (X.drop k) _ m m (by omega) (by simp; omega) (Nat.le_refl _) (by omega) w hr

abbrev nV := fun (fb : Nat) (dat : Int) (abi : Nat) (aF : Nat) (big : Bool) => ((fb, .cells #[aK 1, .int .u8 dat, aK 1, aV abi, aV aF, (aP big), .int .u16 0, .int .u16 0, bG 0, aN, aN, aN, aN, aN] 131 (0, 0)) : Nat × Obj)
abbrev dG := fun (s : Nat) (b : Nat) (o : Nat) (n : Nat) (c : Nat) => ((s, .cells #[.iface 178 (.slice (some ⟨b, o, none⟩) n c), ay 0, ay 0, ay 9223372036854775807, ay 9223372036854775807] 246 (0, 0)) : Nat × Obj)
abbrev dX := fun (b : Nat) (o : Nat) (n : Nat) (c : Nat) (s : Nat) (fb : Nat) (big : Bool) => ([(0, .iface 178 (.slice (some ⟨b, o, none⟩) n c)), (4, aC s), (8, aC fb), (9, (aP big))] : Slots)
abbrev fH := fun (fb : Nat) (dat : Int) (abi : Nat) (aF : Nat) (big : Bool) (aS : Nat) (aG : Nat) (aB : Nat) => ((fb, .cells #[aK 1, .int .u8 dat, aK 1, aV abi, aV aF, (aP big), bf aS, bf aG, aJ aB, aN, aN, aN, aN, aN] 131 (0, 0)) : Nat × Obj)
abbrev AL := fun (fb : Nat) (dat : Int) (abi : Nat) (aF : Nat) (big : Bool) (aS : Nat) => ((fb, .cells #[aK 1, .int .u8 dat, aK 1, aV abi, aV aF, (aP big), bf aS, .int .u16 0, bG 0, aN, aN, aN, aN, aN] 131 (0, 0)) : Nat × Obj)
abbrev xO := fun (fb : Nat) (dat : Int) (abi : Nat) (aF : Nat) (big : Bool) (aS : Nat) (aG : Nat) => ((fb, .cells #[aK 1, .int .u8 dat, aK 1, aV abi, aV aF, (aP big), bf aS, bf aG, bG 0, aN, aN, aN, aN, aN] 131 (0, 0)) : Nat × Obj)
abbrev kV := fun (b : Nat) (o : Nat) (n : Nat) (c : Nat) (s : Nat) (fb : Nat) (big : Bool) g (ak : Nat) => ((dX b o n c s fb big) ++ [(17, aH g 52 52), (10, aA ak)] : Slots)
abbrev kU := fun (b : Nat) (o : Nat) (n : Nat) (c : Nat) (s : Nat) (fb : Nat) (big : Bool) g (ak : Nat) (aj : Nat) (au : Nat) => ((kV b o n c s fb big g ak) ++ [(11, ay 32), (12, aA aj), (13, aA au)] : Slots)
theorem Kz (l : List UInt8) (b o n c : Nat) (hl : n = l.length) (hnc : n ≤ c) (hn : 52 ≤ n) (big : Bool) (abi aF aS aG aB ak aj au ah : Nat) (dat : Int) (H : DV l false big abi aF aS aG aB ak aj au ah) (b1 : aS < 65536) (b2 : aG < 65536) (b3 : aB ≤ 18446744073709551615) (b4 : ak < 4611686018427387904) (b5 : au < 4611686018427387904) (b6 : aj < 200) (b7 : ah < 200) {Q : Exit → Act → World → Prop} (w0 : World) (hbl : b < w0.heap.size) (hr : Row w0 (some ⟨b, o, none⟩) (l.map Bv)) (a : Act) (w : World) (s fb : Nat) (HF : Fr 1287 a (dX b o n c s fb big)) (HM : Mm [] w0 w [nV fb dat abi aF big, dG s b o n c])
  (K : ∀ a w, Fr 1287 a ((dX b o n c s fb big) ++ [(10, aA ak), (11, ay 32), (12, aA aj), (13, aA au), (14, ay 40), (15, aA ah), (16, aA (ah - 1))]) → Mm [] w0 w [fH fb dat abi aF big aS aG aB, dG s b o n c] → (spine Tryd.f78 21).wp Tryd.prog Q a w) : (spine Tryd.f78 20).wp Tryd.prog Q a w := by
 obtain ⟨X, hX⟩ : ∃ X, (l.drop (0 + 0)).take 52 = X := ⟨_, rfl⟩
 have nI : X.length = 52 := by rw [← hX]; simp; omega
 have hnum : ∀ k s, k + s ≤ 52 → num big X k s = num big l k s := fun k s h => by rw [← hX, Nat.zero_add, List.drop_zero, F9 _ _ _ _ _ h]
 have He : num big l 24 4 = aB := H.entry
 have Hp : num big l 28 4 = ak := H.Md
 have Hs : num big l 32 4 = au := H.kM
 have Hpe : num big l 42 2 = 32 := H.MB
 have Hpn : num big l 44 2 = aj := H.Me
 have Hse : num big l 46 2 = 40 := H.L_
 have Hsn : num big l 48 2 = ah := H.L9
 have Hst : num big l 50 2 = ah - 1 := H.wZ
 refine wp_seq ?_
 refine bC HF HM rfl [[1]] ((dX b o n c s fb big) ++ [(188, aK 1)]) [nV fb dat abi aF big, dG s b o n c] (by kernel_rfl) ?_
 clear HF HM; intro a w HF HM
 refine wp_block ?_
 refine bC HF HM rfl [] ((dX b o n c s fb big) ++ [(188, aK 1), (189, .bool true)]) [nV fb dat abi aF big, dG s b o n c] (by kernel_rfl) ?_
 clear HF HM; intro a w HF HM
 refine bF HF rfl ?_
 replace HF := HF.sub (dX b o n c s fb big) (by kernel_rfl)
 refine wp_seq (wp_region_lit ?_)
 refine BL HF HM rfl _ _ 33 rfl rfl 5 (aK 0) 1 Tryd.underlying33 zL rfl .i64 .i64 52 rfl rfl (by omega) (by omega) ?_
 intro a2 w1 g hgw hbel bU HF2; have hg0 : w0.heap.size ≤ g := Nat.le_trans HM.size hgw; clear HF HM hbel hgw; have HM := bU; have HF := HF2; clear bU HF2
 replace HF := HF.sub ((dX b o n c s fb big) ++ [(191, aH g 52 52)]) (by kernel_rfl)
 refine aO HF HM rfl 1 [] ((dX b o n c s fb big) ++ [(17, aH g 52 52)]) [(g, .cells (madeCells #[aK 0] 52) 5 (0, 0)), nV fb dat abi aF big, dG s b o n c] (by kernel_rfl) ?_
 clear HF HM; intro a w HF HM
 refine aI ?_
 have hbg : b ≠ g := by omega
 have hbs : b ≠ s := fun e => absurd hbl (Nat.not_lt_of_le (e ▸ HM.ge (i := 2) rfl))
 refine wp_seq ?_
 refine wp_seq (wp_region_lit ?_)
 refine aO HF HM rfl 2 [] ((dX b o n c s fb big) ++ [(17, aH g 52 52), (193, aC s), (194, aH g 52 52)]) [(g, .cells (madeCells #[aK 0] 52) 5 (0, 0)), nV fb dat abi aF big, dG s b o n c] (by kernel_rfl) ?_
 clear HF HM; intro a w HF HM
 refine bn HF (by kernel_rfl) 93 #[aC s, aH g 52 52, aA 0] (by kernel_rfl) (fun w => by kernel_rfl) (Calls.mono (wY l b o n c hl hnc g s _ 5 52 52 (qx _ _) 0 0 0 9223372036854775807 9223372036854775807 (by omega) (by omega) (by omega) (by omega) (by omega) w (HM.row hr (by intro b' o' s' _; simp)) hbg hbs (HM.ne (i := 2) (j := 0) rfl rfl (by decide)) (HM.get (i := 2) rfl) (HM.get (i := 0) rfl)) ?_)
 rintro _ w2 ⟨rfl, hkp, hsn, hgn⟩
 rw [hX] at hgn
 replace HM : Mm [] w0 w2 [(g, .cells (X.map Bv).toArray 5 (0, 0)), nV fb dat abi aF big, dG s b o n c] := HM.Je (i := 2) (j := 0) rfl rfl (by decide) hsn hgn hkp
 clear hkp hsn hgn
 refine ⟨_, rfl, ?_⟩; clear HF; intro a HF; replace HF := HF.sub ((dX b o n c s fb big) ++ [(17, aH g 52 52), (193, aC s), (194, aH g 52 52), (195, .tuple #[aA 52, .nilIface])]) (by kernel_rfl)
 refine aO HF HM rfl 5 [] ((dX b o n c s fb big) ++ [(17, aH g 52 52), (19, .nilIface)]) [(g, .cells (X.map Bv).toArray 5 (0, 0)), nV fb dat abi aF big, dG s b o n c] (by kernel_rfl) ?_
 clear HF HM; intro a w HF HM
 refine aI ?_
 refine wp_seq (wp_region_lit ?_)
 refine aO HF HM rfl 2 [] ((dX b o n c s fb big) ++ [(17, aH g 52 52), (19, .nilIface), (199, .bool false)]) [(g, .cells (X.map Bv).toArray 5 (0, 0)), nV fb dat abi aF big, dG s b o n c] (by kernel_rfl) ?_
 clear HF HM; intro a w HF HM
 refine aI ?_
 refine aZ HF rfl ?_
 refine wp_skip ?_
 repeat (first | refine aQ ?_ | refine aU ?_)
 replace HF := HF.sub ((dX b o n c s fb big) ++ [(17, aH g 52 52)]) (by kernel_rfl)
 refine wp_seq (wp_region_lit ?_)
 refine aO HF HM rfl 4 [] ((dX b o n c s fb big) ++ [(17, aH g 52 52), (201, aC fb), (202, (aP big)), (204, .slice (some ⟨g, 16, none⟩) 36 36)]) [(g, .cells (X.map Bv).toArray 5 (0, 0)), nV fb dat abi aF big, dG s b o n c] (by kernel_rfl) ?_
 clear HF HM; intro a w HF HM
 refine bn HF (by kernel_rfl) 94 #[(aP big), .slice (some ⟨g, 16, none⟩) 36 36] (by kernel_rfl) (fun w => by kernel_rfl) (Calls.mono (oH (HM.get (i := 0) rfl) big 16 36 (by omega) (by omega) ((aS : Nat) : Int) (by rw [hnum 16 2 (by omega), H.ty])) ?_)
 rintro _ w3 ⟨rfl, jF, hq⟩
 replace HM : Mm [] w0 w3 [(g, .cells (X.map Bv).toArray 5 (0, 0)), nV fb dat abi aF big, dG s b o n c] := by rw [hq]; exact HM.drewN _
 clear hq
 refine ⟨_, rfl, ?_⟩; clear HF; intro a HF; replace HF := HF.sub ((dX b o n c s fb big) ++ [(17, aH g 52 52), (201, aC fb), (202, (aP big)), (204, .slice (some ⟨g, 16, none⟩) 36 36), (205, bf aS)]) (by kernel_rfl)
 replace HF := HF.sub ((dX b o n c s fb big) ++ [(17, aH g 52 52), (201, aC fb), (205, bf aS)]) (by kernel_rfl)
 refine aO HF HM rfl 4 [[1]] ((dX b o n c s fb big) ++ [(17, aH g 52 52)]) [(g, .cells (X.map Bv).toArray 5 (0, 0)), AL fb dat abi aF big aS, dG s b o n c] (by kernel_rfl) ?_
 clear HF HM; intro a w HF HM
 refine aI ?_
 refine wp_seq (wp_region_lit ?_)
 refine aO HF HM rfl 4 [] ((dX b o n c s fb big) ++ [(17, aH g 52 52), (209, aC fb), (210, (aP big)), (212, .slice (some ⟨g, 18, none⟩) 34 34)]) [(g, .cells (X.map Bv).toArray 5 (0, 0)), AL fb dat abi aF big aS, dG s b o n c] (by kernel_rfl) ?_
 clear HF HM; intro a w HF HM
 refine bn HF (by kernel_rfl) 94 #[(aP big), .slice (some ⟨g, 18, none⟩) 34 34] (by kernel_rfl) (fun w => by kernel_rfl) (Calls.mono (oH (HM.get (i := 0) rfl) big 18 34 (by omega) (by omega) ((aG : Nat) : Int) (by rw [hnum 18 2 (by omega), H.machine])) ?_)
 rintro _ w4 ⟨rfl, jF, hq⟩
 replace HM : Mm [] w0 w4 [(g, .cells (X.map Bv).toArray 5 (0, 0)), AL fb dat abi aF big aS, dG s b o n c] := by rw [hq]; exact HM.drewN _
 clear hq
 refine ⟨_, rfl, ?_⟩; clear HF; intro a HF; replace HF := HF.sub ((dX b o n c s fb big) ++ [(17, aH g 52 52), (209, aC fb), (210, (aP big)), (212, .slice (some ⟨g, 18, none⟩) 34 34), (213, bf aG)]) (by kernel_rfl)
 replace HF := HF.sub ((dX b o n c s fb big) ++ [(17, aH g 52 52), (209, aC fb), (213, bf aG)]) (by kernel_rfl)
 refine aO HF HM rfl 4 [[1]] ((dX b o n c s fb big) ++ [(17, aH g 52 52)]) [(g, .cells (X.map Bv).toArray 5 (0, 0)), xO fb dat abi aF big aS aG, dG s b o n c] (by kernel_rfl) ?_
 clear HF HM; intro a w HF HM
 refine aI ?_
 refine wp_seq (wp_region_lit ?_)
 refine aO HF HM rfl 4 [] ((dX b o n c s fb big) ++ [(17, aH g 52 52), (217, aC fb), (218, (aP big)), (220, .slice (some ⟨g, 24, none⟩) 28 28)]) [(g, .cells (X.map Bv).toArray 5 (0, 0)), xO fb dat abi aF big aS aG, dG s b o n c] (by kernel_rfl) ?_
 clear HF HM; intro a w HF HM
 refine bn HF (by kernel_rfl) 87 #[(aP big), .slice (some ⟨g, 24, none⟩) 28 28] (by kernel_rfl) (fun w => by kernel_rfl) (Calls.mono (jy (HM.get (i := 0) rfl) (by unfold maxLen; omega) big 24 28 (by omega) (by omega) ((aB : Nat) : Int) (by rw [hnum 24 4 (by omega), He])) ?_)
 rintro _ w5 ⟨rfl, jF, hq⟩
 replace HM : Mm [] w0 w5 [(g, .cells (X.map Bv).toArray 5 (0, 0)), xO fb dat abi aF big aS aG, dG s b o n c] := by rw [hq]; exact HM.drewN _
 clear hq
 refine ⟨_, rfl, ?_⟩; clear HF; intro a HF; replace HF := HF.sub ((dX b o n c s fb big) ++ [(17, aH g 52 52), (217, aC fb), (218, (aP big)), (220, .slice (some ⟨g, 24, none⟩) 28 28), (221, aX aB)]) (by kernel_rfl)
 replace HF := HF.sub ((dX b o n c s fb big) ++ [(17, aH g 52 52), (217, aC fb), (221, aX aB)]) (by kernel_rfl)
 refine aO HF HM rfl 1 [] ((dX b o n c s fb big) ++ [(17, aH g 52 52), (217, aC fb), (222, bG (IntKind.u64.wrap ((aB : Nat) : Int)))]) [(g, .cells (X.map Bv).toArray 5 (0, 0)), xO fb dat abi aF big aS aG, dG s b o n c] (by kernel_rfl) ?_
 clear HF HM; intro a w HF HM
 rw [show IntKind.u64.wrap ((aB : Nat) : Int) = ((aB : Nat) : Int) from IntWalk.u64_in _ (by omega)] at HF
 refine aO HF HM rfl 4 [[1]] ((dX b o n c s fb big) ++ [(17, aH g 52 52)]) [(g, .cells (X.map Bv).toArray 5 (0, 0)), fH fb dat abi aF big aS aG aB, dG s b o n c] (by kernel_rfl) ?_
 clear HF HM; intro a w HF HM
 refine aI ?_
 refine wp_seq ?_
 refine wp_seq (wp_region_lit ?_)
 refine aO HF HM rfl 3 [] ((dX b o n c s fb big) ++ [(17, aH g 52 52), (226, (aP big)), (228, .slice (some ⟨g, 20, none⟩) 32 32)]) [(g, .cells (X.map Bv).toArray 5 (0, 0)), fH fb dat abi aF big aS aG aB, dG s b o n c] (by kernel_rfl) ?_
 clear HF HM; intro a w HF HM
 refine bn HF (by kernel_rfl) 87 #[(aP big), .slice (some ⟨g, 20, none⟩) 32 32] (by kernel_rfl) (fun w => by kernel_rfl) (Calls.mono (jy (HM.get (i := 0) rfl) (by unfold maxLen; omega) big 20 32 (by omega) (by omega) ((1 : Nat) : Int) (by rw [hnum 20 4 (by omega), H.ver])) ?_)
 rintro _ w6 ⟨rfl, jF, hq⟩
 replace HM : Mm [] w0 w6 [(g, .cells (X.map Bv).toArray 5 (0, 0)), fH fb dat abi aF big aS aG aB, dG s b o n c] := by rw [hq]; exact HM.drewN _
 clear hq
 refine ⟨_, rfl, ?_⟩; clear HF; intro a HF; replace HF := HF.sub ((dX b o n c s fb big) ++ [(17, aH g 52 52), (226, (aP big)), (228, .slice (some ⟨g, 20, none⟩) 32 32), (229, aX 1)]) (by kernel_rfl)
 replace HF := HF.sub ((dX b o n c s fb big) ++ [(17, aH g 52 52), (229, aX 1)]) (by kernel_rfl)
 refine aO HF HM rfl 2 [] ((dX b o n c s fb big) ++ [(17, aH g 52 52), (20, aK 1)]) [(g, .cells (X.map Bv).toArray 5 (0, 0)), fH fb dat abi aF big aS aG aB, dG s b o n c] (by kernel_rfl) ?_
 clear HF HM; intro a w HF HM
 refine aI ?_
 refine wp_seq (wp_region_lit ?_)
 refine aO HF HM rfl 7 [[1]] ((dX b o n c s fb big) ++ [(17, aH g 52 52), (237, .bool false)]) [(g, .cells (X.map Bv).toArray 5 (0, 0)), fH fb dat abi aF big aS aG aB, dG s b o n c] (by kernel_rfl) ?_
 clear HF HM; intro a w HF HM
 refine aI ?_
 refine aZ HF rfl ?_
 refine wp_skip ?_
 repeat (first | refine aQ ?_ | refine aU ?_)
 replace HF := HF.sub ((dX b o n c s fb big) ++ [(17, aH g 52 52)]) (by kernel_rfl)
 refine wp_seq (wp_region_lit ?_)
 refine aO HF HM rfl 3 [] ((dX b o n c s fb big) ++ [(17, aH g 52 52), (243, (aP big)), (245, .slice (some ⟨g, 28, none⟩) 24 24)]) [(g, .cells (X.map Bv).toArray 5 (0, 0)), fH fb dat abi aF big aS aG aB, dG s b o n c] (by kernel_rfl) ?_
 clear HF HM; intro a w HF HM
 refine bn HF (by kernel_rfl) 87 #[(aP big), .slice (some ⟨g, 28, none⟩) 24 24] (by kernel_rfl) (fun w => by kernel_rfl) (Calls.mono (jy (HM.get (i := 0) rfl) (by unfold maxLen; omega) big 28 24 (by omega) (by omega) ((ak : Nat) : Int) (by rw [hnum 28 4 (by omega), Hp])) ?_)
 rintro _ w7 ⟨rfl, jF, hq⟩
 replace HM : Mm [] w0 w7 [(g, .cells (X.map Bv).toArray 5 (0, 0)), fH fb dat abi aF big aS aG aB, dG s b o n c] := by rw [hq]; exact HM.drewN _
 clear hq
 refine ⟨_, rfl, ?_⟩; clear HF; intro a HF; replace HF := HF.sub ((dX b o n c s fb big) ++ [(17, aH g 52 52), (243, (aP big)), (245, .slice (some ⟨g, 28, none⟩) 24 24), (246, aX ak)]) (by kernel_rfl)
 replace HF := HF.sub ((dX b o n c s fb big) ++ [(17, aH g 52 52), (246, aX ak)]) (by kernel_rfl)
 refine aO HF HM rfl 1 [] ((dX b o n c s fb big) ++ [(17, aH g 52 52), (247, ay (IntKind.i64.wrap ((ak : Nat) : Int)))]) [(g, .cells (X.map Bv).toArray 5 (0, 0)), fH fb dat abi aF big aS aG aB, dG s b o n c] (by kernel_rfl) ?_
 clear HF HM; intro a w HF HM
 rw [show IntKind.i64.wrap ((ak : Nat) : Int) = ((ak : Nat) : Int) from IntWalk.i64_in _ (by omega)] at HF
 refine aO HF HM rfl 1 [] (kV b o n c s fb big g ak) [(g, .cells (X.map Bv).toArray 5 (0, 0)), fH fb dat abi aF big aS aG aB, dG s b o n c] (by kernel_rfl) ?_
 clear HF HM; intro a w HF HM
 refine aI ?_
 refine wp_seq (wp_region_lit ?_)
 refine aO HF HM rfl 3 [] ((kV b o n c s fb big g ak) ++ [(248, (aP big)), (250, .slice (some ⟨g, 42, none⟩) 10 10)]) [(g, .cells (X.map Bv).toArray 5 (0, 0)), fH fb dat abi aF big aS aG aB, dG s b o n c] (by kernel_rfl) ?_
 clear HF HM; intro a w HF HM
 refine bn HF (by kernel_rfl) 94 #[(aP big), .slice (some ⟨g, 42, none⟩) 10 10] (by kernel_rfl) (fun w => by kernel_rfl) (Calls.mono (oH (HM.get (i := 0) rfl) big 42 10 (by omega) (by omega) ((32 : Nat) : Int) (by rw [hnum 42 2 (by omega), Hpe])) ?_)
 rintro _ w8 ⟨rfl, jF, hq⟩
 replace HM : Mm [] w0 w8 [(g, .cells (X.map Bv).toArray 5 (0, 0)), fH fb dat abi aF big aS aG aB, dG s b o n c] := by rw [hq]; exact HM.drewN _
 clear hq
 refine ⟨_, rfl, ?_⟩; clear HF; intro a HF; replace HF := HF.sub ((kV b o n c s fb big g ak) ++ [(248, (aP big)), (250, .slice (some ⟨g, 42, none⟩) 10 10), (251, bf 32)]) (by kernel_rfl)
 replace HF := HF.sub ((kV b o n c s fb big g ak) ++ [(251, bf 32)]) (by kernel_rfl)
 refine aO HF HM rfl 2 [] ((kV b o n c s fb big g ak) ++ [(11, ay 32)]) [(g, .cells (X.map Bv).toArray 5 (0, 0)), fH fb dat abi aF big aS aG aB, dG s b o n c] (by kernel_rfl) ?_
 clear HF HM; intro a w HF HM
 refine aI ?_
 refine wp_seq (wp_region_lit ?_)
 refine aO HF HM rfl 3 [] ((kV b o n c s fb big g ak) ++ [(11, ay 32), (253, (aP big)), (255, .slice (some ⟨g, 44, none⟩) 8 8)]) [(g, .cells (X.map Bv).toArray 5 (0, 0)), fH fb dat abi aF big aS aG aB, dG s b o n c] (by kernel_rfl) ?_
 clear HF HM; intro a w HF HM
 refine bn HF (by kernel_rfl) 94 #[(aP big), .slice (some ⟨g, 44, none⟩) 8 8] (by kernel_rfl) (fun w => by kernel_rfl) (Calls.mono (oH (HM.get (i := 0) rfl) big 44 8 (by omega) (by omega) ((aj : Nat) : Int) (by rw [hnum 44 2 (by omega), Hpn])) ?_)
 rintro _ w9 ⟨rfl, jF, hq⟩
 replace HM : Mm [] w0 w9 [(g, .cells (X.map Bv).toArray 5 (0, 0)), fH fb dat abi aF big aS aG aB, dG s b o n c] := by rw [hq]; exact HM.drewN _
 clear hq
 refine ⟨_, rfl, ?_⟩; clear HF; intro a HF; replace HF := HF.sub ((kV b o n c s fb big g ak) ++ [(11, ay 32), (253, (aP big)), (255, .slice (some ⟨g, 44, none⟩) 8 8), (256, bf aj)]) (by kernel_rfl)
 replace HF := HF.sub ((kV b o n c s fb big g ak) ++ [(11, ay 32), (256, bf aj)]) (by kernel_rfl)
 refine aO HF HM rfl 1 [] ((kV b o n c s fb big g ak) ++ [(11, ay 32), (257, ay (IntKind.i64.wrap ((aj : Nat) : Int)))]) [(g, .cells (X.map Bv).toArray 5 (0, 0)), fH fb dat abi aF big aS aG aB, dG s b o n c] (by kernel_rfl) ?_
 clear HF HM; intro a w HF HM
 rw [show IntKind.i64.wrap ((aj : Nat) : Int) = ((aj : Nat) : Int) from IntWalk.i64_in _ (by omega)] at HF
 refine aO HF HM rfl 1 [] ((kV b o n c s fb big g ak) ++ [(11, ay 32), (12, aA aj)]) [(g, .cells (X.map Bv).toArray 5 (0, 0)), fH fb dat abi aF big aS aG aB, dG s b o n c] (by kernel_rfl) ?_
 clear HF HM; intro a w HF HM
 refine aI ?_
 refine wp_seq (wp_region_lit ?_)
 refine aO HF HM rfl 3 [] ((kV b o n c s fb big g ak) ++ [(11, ay 32), (12, aA aj), (258, (aP big)), (260, .slice (some ⟨g, 32, none⟩) 20 20)]) [(g, .cells (X.map Bv).toArray 5 (0, 0)), fH fb dat abi aF big aS aG aB, dG s b o n c] (by kernel_rfl) ?_
 clear HF HM; intro a w HF HM
 refine bn HF (by kernel_rfl) 87 #[(aP big), .slice (some ⟨g, 32, none⟩) 20 20] (by kernel_rfl) (fun w => by kernel_rfl) (Calls.mono (jy (HM.get (i := 0) rfl) (by unfold maxLen; omega) big 32 20 (by omega) (by omega) ((au : Nat) : Int) (by rw [hnum 32 4 (by omega), Hs])) ?_)
 rintro _ w10 ⟨rfl, jF, hq⟩
 replace HM : Mm [] w0 w10 [(g, .cells (X.map Bv).toArray 5 (0, 0)), fH fb dat abi aF big aS aG aB, dG s b o n c] := by rw [hq]; exact HM.drewN _
 clear hq
 refine ⟨_, rfl, ?_⟩; clear HF; intro a HF; replace HF := HF.sub ((kV b o n c s fb big g ak) ++ [(11, ay 32), (12, aA aj), (258, (aP big)), (260, .slice (some ⟨g, 32, none⟩) 20 20), (261, aX au)]) (by kernel_rfl)
 replace HF := HF.sub ((kV b o n c s fb big g ak) ++ [(11, ay 32), (12, aA aj), (261, aX au)]) (by kernel_rfl)
 refine aO HF HM rfl 1 [] ((kV b o n c s fb big g ak) ++ [(11, ay 32), (12, aA aj), (262, ay (IntKind.i64.wrap ((au : Nat) : Int)))]) [(g, .cells (X.map Bv).toArray 5 (0, 0)), fH fb dat abi aF big aS aG aB, dG s b o n c] (by kernel_rfl) ?_
 clear HF HM; intro a w HF HM
 rw [show IntKind.i64.wrap ((au : Nat) : Int) = ((au : Nat) : Int) from IntWalk.i64_in _ (by omega)] at HF
 refine aO HF HM rfl 1 [] (kU b o n c s fb big g ak aj au) [(g, .cells (X.map Bv).toArray 5 (0, 0)), fH fb dat abi aF big aS aG aB, dG s b o n c] (by kernel_rfl) ?_
 clear HF HM; intro a w HF HM
 refine aI ?_
 refine wp_seq (wp_region_lit ?_)
 refine aO HF HM rfl 3 [] ((kU b o n c s fb big g ak aj au) ++ [(263, (aP big)), (265, .slice (some ⟨g, 46, none⟩) 6 6)]) [(g, .cells (X.map Bv).toArray 5 (0, 0)), fH fb dat abi aF big aS aG aB, dG s b o n c] (by kernel_rfl) ?_
 clear HF HM; intro a w HF HM
 refine bn HF (by kernel_rfl) 94 #[(aP big), .slice (some ⟨g, 46, none⟩) 6 6] (by kernel_rfl) (fun w => by kernel_rfl) (Calls.mono (oH (HM.get (i := 0) rfl) big 46 6 (by omega) (by omega) ((40 : Nat) : Int) (by rw [hnum 46 2 (by omega), Hse])) ?_)
 rintro _ rZ ⟨rfl, jF, hq⟩
 replace HM : Mm [] w0 rZ [(g, .cells (X.map Bv).toArray 5 (0, 0)), fH fb dat abi aF big aS aG aB, dG s b o n c] := by rw [hq]; exact HM.drewN _
 clear hq
 refine ⟨_, rfl, ?_⟩; clear HF; intro a HF; replace HF := HF.sub ((kU b o n c s fb big g ak aj au) ++ [(263, (aP big)), (265, .slice (some ⟨g, 46, none⟩) 6 6), (266, bf 40)]) (by kernel_rfl)
 replace HF := HF.sub ((kU b o n c s fb big g ak aj au) ++ [(266, bf 40)]) (by kernel_rfl)
 refine aO HF HM rfl 2 [] ((kU b o n c s fb big g ak aj au) ++ [(14, ay 40)]) [(g, .cells (X.map Bv).toArray 5 (0, 0)), fH fb dat abi aF big aS aG aB, dG s b o n c] (by kernel_rfl) ?_
 clear HF HM; intro a w HF HM
 refine aI ?_
 refine wp_seq (wp_region_lit ?_)
 refine aO HF HM rfl 3 [] ((kU b o n c s fb big g ak aj au) ++ [(14, ay 40), (268, (aP big)), (270, .slice (some ⟨g, 48, none⟩) 4 4)]) [(g, .cells (X.map Bv).toArray 5 (0, 0)), fH fb dat abi aF big aS aG aB, dG s b o n c] (by kernel_rfl) ?_
 clear HF HM; intro a w HF HM
 refine bn HF (by kernel_rfl) 94 #[(aP big), .slice (some ⟨g, 48, none⟩) 4 4] (by kernel_rfl) (fun w => by kernel_rfl) (Calls.mono (oH (HM.get (i := 0) rfl) big 48 4 (by omega) (by omega) ((ah : Nat) : Int) (by rw [hnum 48 2 (by omega), Hsn])) ?_)
 rintro _ w12 ⟨rfl, jF, hq⟩
 replace HM : Mm [] w0 w12 [(g, .cells (X.map Bv).toArray 5 (0, 0)), fH fb dat abi aF big aS aG aB, dG s b o n c] := by rw [hq]; exact HM.drewN _
 clear hq
 refine ⟨_, rfl, ?_⟩; clear HF; intro a HF; replace HF := HF.sub ((kU b o n c s fb big g ak aj au) ++ [(14, ay 40), (268, (aP big)), (270, .slice (some ⟨g, 48, none⟩) 4 4), (271, bf ah)]) (by kernel_rfl)
 replace HF := HF.sub ((kU b o n c s fb big g ak aj au) ++ [(14, ay 40), (271, bf ah)]) (by kernel_rfl)
 refine aO HF HM rfl 1 [] ((kU b o n c s fb big g ak aj au) ++ [(14, ay 40), (272, ay (IntKind.i64.wrap ((ah : Nat) : Int)))]) [(g, .cells (X.map Bv).toArray 5 (0, 0)), fH fb dat abi aF big aS aG aB, dG s b o n c] (by kernel_rfl) ?_
 clear HF HM; intro a w HF HM
 rw [show IntKind.i64.wrap ((ah : Nat) : Int) = ((ah : Nat) : Int) from IntWalk.i64_in _ (by omega)] at HF
 refine aO HF HM rfl 1 [] ((kU b o n c s fb big g ak aj au) ++ [(14, ay 40), (15, aA ah)]) [(g, .cells (X.map Bv).toArray 5 (0, 0)), fH fb dat abi aF big aS aG aB, dG s b o n c] (by kernel_rfl) ?_
 clear HF HM; intro a w HF HM
 refine aI ?_
 refine wp_region_lit ?_
 refine aO HF HM rfl 3 [] ((kU b o n c s fb big g ak aj au) ++ [(14, ay 40), (15, aA ah), (273, (aP big)), (275, .slice (some ⟨g, 50, none⟩) 2 2)]) [(g, .cells (X.map Bv).toArray 5 (0, 0)), fH fb dat abi aF big aS aG aB, dG s b o n c] (by kernel_rfl) ?_
 clear HF HM; intro a w HF HM
 refine bn HF (by kernel_rfl) 94 #[(aP big), .slice (some ⟨g, 50, none⟩) 2 2] (by kernel_rfl) (fun w => by kernel_rfl) (Calls.mono (oH (HM.get (i := 0) rfl) big 50 2 (by omega) (by omega) (((ah - 1) : Nat) : Int) (by rw [hnum 50 2 (by omega), Hst])) ?_)
 rintro _ wE ⟨rfl, jF, hq⟩
 replace HM : Mm [] w0 wE [(g, .cells (X.map Bv).toArray 5 (0, 0)), fH fb dat abi aF big aS aG aB, dG s b o n c] := by rw [hq]; exact HM.drewN _
 clear hq
 refine ⟨_, rfl, ?_⟩; clear HF; intro a HF; replace HF := HF.sub ((kU b o n c s fb big g ak aj au) ++ [(14, ay 40), (15, aA ah), (273, (aP big)), (275, .slice (some ⟨g, 50, none⟩) 2 2), (276, bf (ah - 1))]) (by kernel_rfl)
 replace HF := HF.sub ((kU b o n c s fb big g ak aj au) ++ [(14, ay 40), (15, aA ah), (276, bf (ah - 1))]) (by kernel_rfl)
 refine aO HF HM rfl 1 [] ((kU b o n c s fb big g ak aj au) ++ [(14, ay 40), (15, aA ah), (277, ay (IntKind.i64.wrap (((ah - 1) : Nat) : Int)))]) [(g, .cells (X.map Bv).toArray 5 (0, 0)), fH fb dat abi aF big aS aG aB, dG s b o n c] (by kernel_rfl) ?_
 clear HF HM; intro a w HF HM
 rw [show IntKind.i64.wrap (((ah - 1) : Nat) : Int) = (((ah - 1) : Nat) : Int) from IntWalk.i64_in _ (by omega)] at HF
 refine aO HF HM rfl 1 [] ((kU b o n c s fb big g ak aj au) ++ [(14, ay 40), (15, aA ah), (16, aA (ah - 1))]) [(g, .cells (X.map Bv).toArray 5 (0, 0)), fH fb dat abi aF big aS aG aB, dG s b o n c] (by kernel_rfl) ?_
 clear HF HM; intro a w HF HM
 refine wpList_nil ?_
 repeat (first | refine aQ ?_ | refine aU ?_)
 replace HF := HF.sub ((dX b o n c s fb big) ++ [(10, aA ak), (11, ay 32), (12, aA aj), (13, aA au), (14, ay 40), (15, aA ah), (16, aA (ah - 1))]) (by kernel_rfl)
 exact K a w HF (HM.sub (List.Sublist.cons _ (List.Sublist.refl _)))

abbrev mX := fun (fb : Nat) (dat : Int) (abi : Nat) (aF : Nat) (big : Bool) => ((fb, .cells #[aK 2, .int .u8 dat, aK 1, aV abi, aV aF, (aP big), .int .u16 0, .int .u16 0, bG 0, aN, aN, aN, aN, aN] 131 (0, 0)) : Nat × Obj)
abbrev dF := fun (s : Nat) (b : Nat) (o : Nat) (n : Nat) (c : Nat) => ((s, .cells #[.iface 178 (.slice (some ⟨b, o, none⟩) n c), ay 0, ay 0, ay 9223372036854775807, ay 9223372036854775807] 246 (0, 0)) : Nat × Obj)
abbrev dW := fun (b : Nat) (o : Nat) (n : Nat) (c : Nat) (s : Nat) (fb : Nat) (big : Bool) => ([(0, .iface 178 (.slice (some ⟨b, o, none⟩) n c)), (4, aC s), (8, aC fb), (9, (aP big))] : Slots)
abbrev fG := fun (fb : Nat) (dat : Int) (abi : Nat) (aF : Nat) (big : Bool) (aS : Nat) (aG : Nat) (aB : Nat) => ((fb, .cells #[aK 2, .int .u8 dat, aK 1, aV abi, aV aF, (aP big), bf aS, bf aG, aJ aB, aN, aN, aN, aN, aN] 131 (0, 0)) : Nat × Obj)
abbrev AB := fun (fb : Nat) (dat : Int) (abi : Nat) (aF : Nat) (big : Bool) (aS : Nat) => ((fb, .cells #[aK 2, .int .u8 dat, aK 1, aV abi, aV aF, (aP big), bf aS, .int .u16 0, bG 0, aN, aN, aN, aN, aN] 131 (0, 0)) : Nat × Obj)
abbrev AA := fun (fb : Nat) (dat : Int) (abi : Nat) (aF : Nat) (big : Bool) (aS : Nat) (aG : Nat) => ((fb, .cells #[aK 2, .int .u8 dat, aK 1, aV abi, aV aF, (aP big), bf aS, bf aG, bG 0, aN, aN, aN, aN, aN] 131 (0, 0)) : Nat × Obj)
abbrev kT := fun (b : Nat) (o : Nat) (n : Nat) (c : Nat) (s : Nat) (fb : Nat) (big : Bool) g (ak : Nat) => ((dW b o n c s fb big) ++ [(21, aH g 64 64), (10, aA ak)] : Slots)
abbrev kS := fun (b : Nat) (o : Nat) (n : Nat) (c : Nat) (s : Nat) (fb : Nat) (big : Bool) g (ak : Nat) (aj : Nat) (au : Nat) => ((kT b o n c s fb big g ak) ++ [(11, ay 56), (12, aA aj), (13, aA au)] : Slots)
theorem Ky (l : List UInt8) (b o n c : Nat) (hl : n = l.length) (hnc : n ≤ c) (hn : 64 ≤ n) (big : Bool) (abi aF aS aG aB ak aj au ah : Nat) (dat : Int) (H : DV l true big abi aF aS aG aB ak aj au ah) (b1 : aS < 65536) (b2 : aG < 65536) (b3 : aB ≤ 18446744073709551615) (b4 : ak < 4611686018427387904) (b5 : au < 4611686018427387904) (b6 : aj < 200) (b7 : ah < 200) {Q : Exit → Act → World → Prop} (w0 : World) (hbl : b < w0.heap.size) (hr : Row w0 (some ⟨b, o, none⟩) (l.map Bv)) (a : Act) (w : World) (s fb : Nat) (HF : Fr 1287 a (dW b o n c s fb big)) (HM : Mm [] w0 w [mX fb dat abi aF big, dF s b o n c])
  (K : ∀ a w, Fr 1287 a ((dW b o n c s fb big) ++ [(10, aA ak), (11, ay 56), (12, aA aj), (13, aA au), (14, ay 64), (15, aA ah), (16, aA (ah - 1))]) → Mm [] w0 w [fG fb dat abi aF big aS aG aB, dF s b o n c] → (spine Tryd.f78 21).wp Tryd.prog Q a w) : (spine Tryd.f78 20).wp Tryd.prog Q a w := by
 obtain ⟨X, hX⟩ : ∃ X, (l.drop (0 + 0)).take 64 = X := ⟨_, rfl⟩
 have nI : X.length = 64 := by rw [← hX]; simp; omega
 have hnum : ∀ k s, k + s ≤ 64 → num big X k s = num big l k s := fun k s h => by rw [← hX, Nat.zero_add, List.drop_zero, F9 _ _ _ _ _ h]
 have He : num big l 24 8 = aB := H.entry
 have Hp : num big l 32 8 = ak := H.Md
 have Hs : num big l 40 8 = au := H.kM
 have Hpe : num big l 54 2 = 56 := H.MB
 have Hpn : num big l 56 2 = aj := H.Me
 have Hse : num big l 58 2 = 64 := H.L_
 have Hsn : num big l 60 2 = ah := H.L9
 have Hst : num big l 62 2 = ah - 1 := H.wZ
 refine wp_seq ?_
 refine bC HF HM rfl [[1]] ((dW b o n c s fb big) ++ [(188, aK 2)]) [mX fb dat abi aF big, dF s b o n c] (by kernel_rfl) ?_
 clear HF HM; intro a w HF HM
 refine wp_block ?_
 refine bC HF HM rfl [] ((dW b o n c s fb big) ++ [(188, aK 2), (189, .bool false)]) [mX fb dat abi aF big, dF s b o n c] (by kernel_rfl) ?_
 clear HF HM; intro a w HF HM
 refine aZ HF rfl ?_
 refine bC HF HM rfl [] ((dW b o n c s fb big) ++ [(188, aK 2), (278, .bool true)]) [mX fb dat abi aF big, dF s b o n c] (by kernel_rfl) ?_
 clear HF HM; intro a w HF HM
 refine bF HF rfl ?_
 replace HF := HF.sub (dW b o n c s fb big) (by kernel_rfl)
 refine wp_seq (wp_region_lit ?_)
 refine BL HF HM rfl _ _ 33 rfl rfl 5 (aK 0) 1 Tryd.underlying33 zL rfl .i64 .i64 64 rfl rfl (by omega) (by omega) ?_
 intro a2 w1 g hgw hbel bU HF2; have hg0 : w0.heap.size ≤ g := Nat.le_trans HM.size hgw; clear HF HM hbel hgw; have HM := bU; have HF := HF2; clear bU HF2
 replace HF := HF.sub ((dW b o n c s fb big) ++ [(280, aH g 64 64)]) (by kernel_rfl)
 refine aO HF HM rfl 1 [] ((dW b o n c s fb big) ++ [(21, aH g 64 64)]) [(g, .cells (madeCells #[aK 0] 64) 5 (0, 0)), mX fb dat abi aF big, dF s b o n c] (by kernel_rfl) ?_
 clear HF HM; intro a w HF HM
 refine aI ?_
 have hbg : b ≠ g := by omega
 have hbs : b ≠ s := fun e => absurd hbl (Nat.not_lt_of_le (e ▸ HM.ge (i := 2) rfl))
 refine wp_seq ?_
 refine wp_seq (wp_region_lit ?_)
 refine aO HF HM rfl 2 [] ((dW b o n c s fb big) ++ [(21, aH g 64 64), (282, aC s), (283, aH g 64 64)]) [(g, .cells (madeCells #[aK 0] 64) 5 (0, 0)), mX fb dat abi aF big, dF s b o n c] (by kernel_rfl) ?_
 clear HF HM; intro a w HF HM
 refine bn HF (by kernel_rfl) 93 #[aC s, aH g 64 64, aA 0] (by kernel_rfl) (fun w => by kernel_rfl) (Calls.mono (wY l b o n c hl hnc g s _ 5 64 64 (qx _ _) 0 0 0 9223372036854775807 9223372036854775807 (by omega) (by omega) (by omega) (by omega) (by omega) w (HM.row hr (by intro b' o' s' _; simp)) hbg hbs (HM.ne (i := 2) (j := 0) rfl rfl (by decide)) (HM.get (i := 2) rfl) (HM.get (i := 0) rfl)) ?_)
 rintro _ w2 ⟨rfl, hkp, hsn, hgn⟩
 rw [hX] at hgn
 replace HM : Mm [] w0 w2 [(g, .cells (X.map Bv).toArray 5 (0, 0)), mX fb dat abi aF big, dF s b o n c] := HM.Je (i := 2) (j := 0) rfl rfl (by decide) hsn hgn hkp
 clear hkp hsn hgn
 refine ⟨_, rfl, ?_⟩; clear HF; intro a HF; replace HF := HF.sub ((dW b o n c s fb big) ++ [(21, aH g 64 64), (282, aC s), (283, aH g 64 64), (284, .tuple #[aA 64, .nilIface])]) (by kernel_rfl)
 refine aO HF HM rfl 5 [] ((dW b o n c s fb big) ++ [(21, aH g 64 64), (23, .nilIface)]) [(g, .cells (X.map Bv).toArray 5 (0, 0)), mX fb dat abi aF big, dF s b o n c] (by kernel_rfl) ?_
 clear HF HM; intro a w HF HM
 refine aI ?_
 refine wp_seq (wp_region_lit ?_)
 refine aO HF HM rfl 2 [] ((dW b o n c s fb big) ++ [(21, aH g 64 64), (23, .nilIface), (288, .bool false)]) [(g, .cells (X.map Bv).toArray 5 (0, 0)), mX fb dat abi aF big, dF s b o n c] (by kernel_rfl) ?_
 clear HF HM; intro a w HF HM
 refine aI ?_
 refine aZ HF rfl ?_
 refine wp_skip ?_
 repeat (first | refine aQ ?_ | refine aU ?_)
 replace HF := HF.sub ((dW b o n c s fb big) ++ [(21, aH g 64 64)]) (by kernel_rfl)
 refine wp_seq (wp_region_lit ?_)
 refine aO HF HM rfl 4 [] ((dW b o n c s fb big) ++ [(21, aH g 64 64), (290, aC fb), (291, (aP big)), (293, .slice (some ⟨g, 16, none⟩) 48 48)]) [(g, .cells (X.map Bv).toArray 5 (0, 0)), mX fb dat abi aF big, dF s b o n c] (by kernel_rfl) ?_
 clear HF HM; intro a w HF HM
 refine bn HF (by kernel_rfl) 94 #[(aP big), .slice (some ⟨g, 16, none⟩) 48 48] (by kernel_rfl) (fun w => by kernel_rfl) (Calls.mono (oH (HM.get (i := 0) rfl) big 16 48 (by omega) (by omega) ((aS : Nat) : Int) (by rw [hnum 16 2 (by omega), H.ty])) ?_)
 rintro _ w3 ⟨rfl, jF, hq⟩
 replace HM : Mm [] w0 w3 [(g, .cells (X.map Bv).toArray 5 (0, 0)), mX fb dat abi aF big, dF s b o n c] := by rw [hq]; exact HM.drewN _
 clear hq
 refine ⟨_, rfl, ?_⟩; clear HF; intro a HF; replace HF := HF.sub ((dW b o n c s fb big) ++ [(21, aH g 64 64), (290, aC fb), (291, (aP big)), (293, .slice (some ⟨g, 16, none⟩) 48 48), (294, bf aS)]) (by kernel_rfl)
 replace HF := HF.sub ((dW b o n c s fb big) ++ [(21, aH g 64 64), (290, aC fb), (294, bf aS)]) (by kernel_rfl)
 refine aO HF HM rfl 4 [[1]] ((dW b o n c s fb big) ++ [(21, aH g 64 64)]) [(g, .cells (X.map Bv).toArray 5 (0, 0)), AB fb dat abi aF big aS, dF s b o n c] (by kernel_rfl) ?_
 clear HF HM; intro a w HF HM
 refine aI ?_
 refine wp_seq (wp_region_lit ?_)
 refine aO HF HM rfl 4 [] ((dW b o n c s fb big) ++ [(21, aH g 64 64), (298, aC fb), (299, (aP big)), (301, .slice (some ⟨g, 18, none⟩) 46 46)]) [(g, .cells (X.map Bv).toArray 5 (0, 0)), AB fb dat abi aF big aS, dF s b o n c] (by kernel_rfl) ?_
 clear HF HM; intro a w HF HM
 refine bn HF (by kernel_rfl) 94 #[(aP big), .slice (some ⟨g, 18, none⟩) 46 46] (by kernel_rfl) (fun w => by kernel_rfl) (Calls.mono (oH (HM.get (i := 0) rfl) big 18 46 (by omega) (by omega) ((aG : Nat) : Int) (by rw [hnum 18 2 (by omega), H.machine])) ?_)
 rintro _ w4 ⟨rfl, jF, hq⟩
 replace HM : Mm [] w0 w4 [(g, .cells (X.map Bv).toArray 5 (0, 0)), AB fb dat abi aF big aS, dF s b o n c] := by rw [hq]; exact HM.drewN _
 clear hq
 refine ⟨_, rfl, ?_⟩; clear HF; intro a HF; replace HF := HF.sub ((dW b o n c s fb big) ++ [(21, aH g 64 64), (298, aC fb), (299, (aP big)), (301, .slice (some ⟨g, 18, none⟩) 46 46), (302, bf aG)]) (by kernel_rfl)
 replace HF := HF.sub ((dW b o n c s fb big) ++ [(21, aH g 64 64), (298, aC fb), (302, bf aG)]) (by kernel_rfl)
 refine aO HF HM rfl 4 [[1]] ((dW b o n c s fb big) ++ [(21, aH g 64 64)]) [(g, .cells (X.map Bv).toArray 5 (0, 0)), AA fb dat abi aF big aS aG, dF s b o n c] (by kernel_rfl) ?_
 clear HF HM; intro a w HF HM
 refine aI ?_
 refine wp_seq (wp_region_lit ?_)
 refine aO HF HM rfl 4 [] ((dW b o n c s fb big) ++ [(21, aH g 64 64), (306, aC fb), (307, (aP big)), (309, .slice (some ⟨g, 24, none⟩) 40 40)]) [(g, .cells (X.map Bv).toArray 5 (0, 0)), AA fb dat abi aF big aS aG, dF s b o n c] (by kernel_rfl) ?_
 clear HF HM; intro a w HF HM
 refine bn HF (by kernel_rfl) 88 #[(aP big), .slice (some ⟨g, 24, none⟩) 40 40] (by kernel_rfl) (fun w => by kernel_rfl) (Calls.mono (oh (HM.get (i := 0) rfl) (by unfold maxLen; omega) big 24 40 (by omega) (by omega) ((aB : Nat) : Int) (by rw [hnum 24 8 (by omega), He])) ?_)
 rintro _ w5 ⟨rfl, jF, hq⟩
 replace HM : Mm [] w0 w5 [(g, .cells (X.map Bv).toArray 5 (0, 0)), AA fb dat abi aF big aS aG, dF s b o n c] := by rw [hq]; exact HM.drewN _
 clear hq
 refine ⟨_, rfl, ?_⟩; clear HF; intro a HF; replace HF := HF.sub ((dW b o n c s fb big) ++ [(21, aH g 64 64), (306, aC fb), (307, (aP big)), (309, .slice (some ⟨g, 24, none⟩) 40 40), (310, aJ aB)]) (by kernel_rfl)
 replace HF := HF.sub ((dW b o n c s fb big) ++ [(21, aH g 64 64), (306, aC fb), (310, aJ aB)]) (by kernel_rfl)
 refine aO HF HM rfl 4 [[1]] ((dW b o n c s fb big) ++ [(21, aH g 64 64)]) [(g, .cells (X.map Bv).toArray 5 (0, 0)), fG fb dat abi aF big aS aG aB, dF s b o n c] (by kernel_rfl) ?_
 clear HF HM; intro a w HF HM
 refine aI ?_
 refine wp_seq ?_
 refine wp_seq (wp_region_lit ?_)
 refine aO HF HM rfl 3 [] ((dW b o n c s fb big) ++ [(21, aH g 64 64), (314, (aP big)), (316, .slice (some ⟨g, 20, none⟩) 44 44)]) [(g, .cells (X.map Bv).toArray 5 (0, 0)), fG fb dat abi aF big aS aG aB, dF s b o n c] (by kernel_rfl) ?_
 clear HF HM; intro a w HF HM
 refine bn HF (by kernel_rfl) 87 #[(aP big), .slice (some ⟨g, 20, none⟩) 44 44] (by kernel_rfl) (fun w => by kernel_rfl) (Calls.mono (jy (HM.get (i := 0) rfl) (by unfold maxLen; omega) big 20 44 (by omega) (by omega) ((1 : Nat) : Int) (by rw [hnum 20 4 (by omega), H.ver])) ?_)
 rintro _ w6 ⟨rfl, jF, hq⟩
 replace HM : Mm [] w0 w6 [(g, .cells (X.map Bv).toArray 5 (0, 0)), fG fb dat abi aF big aS aG aB, dF s b o n c] := by rw [hq]; exact HM.drewN _
 clear hq
 refine ⟨_, rfl, ?_⟩; clear HF; intro a HF; replace HF := HF.sub ((dW b o n c s fb big) ++ [(21, aH g 64 64), (314, (aP big)), (316, .slice (some ⟨g, 20, none⟩) 44 44), (317, aX 1)]) (by kernel_rfl)
 replace HF := HF.sub ((dW b o n c s fb big) ++ [(21, aH g 64 64), (317, aX 1)]) (by kernel_rfl)
 refine aO HF HM rfl 2 [] ((dW b o n c s fb big) ++ [(21, aH g 64 64), (24, aK 1)]) [(g, .cells (X.map Bv).toArray 5 (0, 0)), fG fb dat abi aF big aS aG aB, dF s b o n c] (by kernel_rfl) ?_
 clear HF HM; intro a w HF HM
 refine aI ?_
 refine wp_seq (wp_region_lit ?_)
 refine aO HF HM rfl 7 [[1]] ((dW b o n c s fb big) ++ [(21, aH g 64 64), (325, .bool false)]) [(g, .cells (X.map Bv).toArray 5 (0, 0)), fG fb dat abi aF big aS aG aB, dF s b o n c] (by kernel_rfl) ?_
 clear HF HM; intro a w HF HM
 refine aI ?_
 refine aZ HF rfl ?_
 refine wp_skip ?_
 repeat (first | refine aQ ?_ | refine aU ?_)
 replace HF := HF.sub ((dW b o n c s fb big) ++ [(21, aH g 64 64)]) (by kernel_rfl)
 refine wp_seq (wp_region_lit ?_)
 refine aO HF HM rfl 3 [] ((dW b o n c s fb big) ++ [(21, aH g 64 64), (331, (aP big)), (333, .slice (some ⟨g, 32, none⟩) 32 32)]) [(g, .cells (X.map Bv).toArray 5 (0, 0)), fG fb dat abi aF big aS aG aB, dF s b o n c] (by kernel_rfl) ?_
 clear HF HM; intro a w HF HM
 refine bn HF (by kernel_rfl) 88 #[(aP big), .slice (some ⟨g, 32, none⟩) 32 32] (by kernel_rfl) (fun w => by kernel_rfl) (Calls.mono (oh (HM.get (i := 0) rfl) (by unfold maxLen; omega) big 32 32 (by omega) (by omega) ((ak : Nat) : Int) (by rw [hnum 32 8 (by omega), Hp])) ?_)
 rintro _ w7 ⟨rfl, jF, hq⟩
 replace HM : Mm [] w0 w7 [(g, .cells (X.map Bv).toArray 5 (0, 0)), fG fb dat abi aF big aS aG aB, dF s b o n c] := by rw [hq]; exact HM.drewN _
 clear hq
 refine ⟨_, rfl, ?_⟩; clear HF; intro a HF; replace HF := HF.sub ((dW b o n c s fb big) ++ [(21, aH g 64 64), (331, (aP big)), (333, .slice (some ⟨g, 32, none⟩) 32 32), (334, aJ ak)]) (by kernel_rfl)
 replace HF := HF.sub ((dW b o n c s fb big) ++ [(21, aH g 64 64), (334, aJ ak)]) (by kernel_rfl)
 refine aO HF HM rfl 1 [] ((dW b o n c s fb big) ++ [(21, aH g 64 64), (335, ay (IntKind.i64.wrap ((ak : Nat) : Int)))]) [(g, .cells (X.map Bv).toArray 5 (0, 0)), fG fb dat abi aF big aS aG aB, dF s b o n c] (by kernel_rfl) ?_
 clear HF HM; intro a w HF HM
 rw [show IntKind.i64.wrap ((ak : Nat) : Int) = ((ak : Nat) : Int) from IntWalk.i64_in _ (by omega)] at HF
 refine aO HF HM rfl 1 [] (kT b o n c s fb big g ak) [(g, .cells (X.map Bv).toArray 5 (0, 0)), fG fb dat abi aF big aS aG aB, dF s b o n c] (by kernel_rfl) ?_
 clear HF HM; intro a w HF HM
 refine aI ?_
 refine wp_seq (wp_region_lit ?_)
 refine aO HF HM rfl 3 [] ((kT b o n c s fb big g ak) ++ [(336, (aP big)), (338, .slice (some ⟨g, 54, none⟩) 10 10)]) [(g, .cells (X.map Bv).toArray 5 (0, 0)), fG fb dat abi aF big aS aG aB, dF s b o n c] (by kernel_rfl) ?_
 clear HF HM; intro a w HF HM
 refine bn HF (by kernel_rfl) 94 #[(aP big), .slice (some ⟨g, 54, none⟩) 10 10] (by kernel_rfl) (fun w => by kernel_rfl) (Calls.mono (oH (HM.get (i := 0) rfl) big 54 10 (by omega) (by omega) ((56 : Nat) : Int) (by rw [hnum 54 2 (by omega), Hpe])) ?_)
 rintro _ w8 ⟨rfl, jF, hq⟩
 replace HM : Mm [] w0 w8 [(g, .cells (X.map Bv).toArray 5 (0, 0)), fG fb dat abi aF big aS aG aB, dF s b o n c] := by rw [hq]; exact HM.drewN _
 clear hq
 refine ⟨_, rfl, ?_⟩; clear HF; intro a HF; replace HF := HF.sub ((kT b o n c s fb big g ak) ++ [(336, (aP big)), (338, .slice (some ⟨g, 54, none⟩) 10 10), (339, bf 56)]) (by kernel_rfl)
 replace HF := HF.sub ((kT b o n c s fb big g ak) ++ [(339, bf 56)]) (by kernel_rfl)
 refine aO HF HM rfl 2 [] ((kT b o n c s fb big g ak) ++ [(11, ay 56)]) [(g, .cells (X.map Bv).toArray 5 (0, 0)), fG fb dat abi aF big aS aG aB, dF s b o n c] (by kernel_rfl) ?_
 clear HF HM; intro a w HF HM
 refine aI ?_
 refine wp_seq (wp_region_lit ?_)
 refine aO HF HM rfl 3 [] ((kT b o n c s fb big g ak) ++ [(11, ay 56), (341, (aP big)), (343, .slice (some ⟨g, 56, none⟩) 8 8)]) [(g, .cells (X.map Bv).toArray 5 (0, 0)), fG fb dat abi aF big aS aG aB, dF s b o n c] (by kernel_rfl) ?_
 clear HF HM; intro a w HF HM
 refine bn HF (by kernel_rfl) 94 #[(aP big), .slice (some ⟨g, 56, none⟩) 8 8] (by kernel_rfl) (fun w => by kernel_rfl) (Calls.mono (oH (HM.get (i := 0) rfl) big 56 8 (by omega) (by omega) ((aj : Nat) : Int) (by rw [hnum 56 2 (by omega), Hpn])) ?_)
 rintro _ w9 ⟨rfl, jF, hq⟩
 replace HM : Mm [] w0 w9 [(g, .cells (X.map Bv).toArray 5 (0, 0)), fG fb dat abi aF big aS aG aB, dF s b o n c] := by rw [hq]; exact HM.drewN _
 clear hq
 refine ⟨_, rfl, ?_⟩; clear HF; intro a HF; replace HF := HF.sub ((kT b o n c s fb big g ak) ++ [(11, ay 56), (341, (aP big)), (343, .slice (some ⟨g, 56, none⟩) 8 8), (344, bf aj)]) (by kernel_rfl)
 replace HF := HF.sub ((kT b o n c s fb big g ak) ++ [(11, ay 56), (344, bf aj)]) (by kernel_rfl)
 refine aO HF HM rfl 1 [] ((kT b o n c s fb big g ak) ++ [(11, ay 56), (345, ay (IntKind.i64.wrap ((aj : Nat) : Int)))]) [(g, .cells (X.map Bv).toArray 5 (0, 0)), fG fb dat abi aF big aS aG aB, dF s b o n c] (by kernel_rfl) ?_
 clear HF HM; intro a w HF HM
 rw [show IntKind.i64.wrap ((aj : Nat) : Int) = ((aj : Nat) : Int) from IntWalk.i64_in _ (by omega)] at HF
 refine aO HF HM rfl 1 [] ((kT b o n c s fb big g ak) ++ [(11, ay 56), (12, aA aj)]) [(g, .cells (X.map Bv).toArray 5 (0, 0)), fG fb dat abi aF big aS aG aB, dF s b o n c] (by kernel_rfl) ?_
 clear HF HM; intro a w HF HM
 refine aI ?_
 refine wp_seq (wp_region_lit ?_)
 refine aO HF HM rfl 3 [] ((kT b o n c s fb big g ak) ++ [(11, ay 56), (12, aA aj), (346, (aP big)), (348, .slice (some ⟨g, 40, none⟩) 24 24)]) [(g, .cells (X.map Bv).toArray 5 (0, 0)), fG fb dat abi aF big aS aG aB, dF s b o n c] (by kernel_rfl) ?_
 clear HF HM; intro a w HF HM
 refine bn HF (by kernel_rfl) 88 #[(aP big), .slice (some ⟨g, 40, none⟩) 24 24] (by kernel_rfl) (fun w => by kernel_rfl) (Calls.mono (oh (HM.get (i := 0) rfl) (by unfold maxLen; omega) big 40 24 (by omega) (by omega) ((au : Nat) : Int) (by rw [hnum 40 8 (by omega), Hs])) ?_)
 rintro _ w10 ⟨rfl, jF, hq⟩
 replace HM : Mm [] w0 w10 [(g, .cells (X.map Bv).toArray 5 (0, 0)), fG fb dat abi aF big aS aG aB, dF s b o n c] := by rw [hq]; exact HM.drewN _
 clear hq
 refine ⟨_, rfl, ?_⟩; clear HF; intro a HF; replace HF := HF.sub ((kT b o n c s fb big g ak) ++ [(11, ay 56), (12, aA aj), (346, (aP big)), (348, .slice (some ⟨g, 40, none⟩) 24 24), (349, aJ au)]) (by kernel_rfl)
 replace HF := HF.sub ((kT b o n c s fb big g ak) ++ [(11, ay 56), (12, aA aj), (349, aJ au)]) (by kernel_rfl)
 refine aO HF HM rfl 1 [] ((kT b o n c s fb big g ak) ++ [(11, ay 56), (12, aA aj), (350, ay (IntKind.i64.wrap ((au : Nat) : Int)))]) [(g, .cells (X.map Bv).toArray 5 (0, 0)), fG fb dat abi aF big aS aG aB, dF s b o n c] (by kernel_rfl) ?_
 clear HF HM; intro a w HF HM
 rw [show IntKind.i64.wrap ((au : Nat) : Int) = ((au : Nat) : Int) from IntWalk.i64_in _ (by omega)] at HF
 refine aO HF HM rfl 1 [] (kS b o n c s fb big g ak aj au) [(g, .cells (X.map Bv).toArray 5 (0, 0)), fG fb dat abi aF big aS aG aB, dF s b o n c] (by kernel_rfl) ?_
 clear HF HM; intro a w HF HM
 refine aI ?_
 refine wp_seq (wp_region_lit ?_)
 refine aO HF HM rfl 3 [] ((kS b o n c s fb big g ak aj au) ++ [(351, (aP big)), (353, .slice (some ⟨g, 58, none⟩) 6 6)]) [(g, .cells (X.map Bv).toArray 5 (0, 0)), fG fb dat abi aF big aS aG aB, dF s b o n c] (by kernel_rfl) ?_
 clear HF HM; intro a w HF HM
 refine bn HF (by kernel_rfl) 94 #[(aP big), .slice (some ⟨g, 58, none⟩) 6 6] (by kernel_rfl) (fun w => by kernel_rfl) (Calls.mono (oH (HM.get (i := 0) rfl) big 58 6 (by omega) (by omega) ((64 : Nat) : Int) (by rw [hnum 58 2 (by omega), Hse])) ?_)
 rintro _ rZ ⟨rfl, jF, hq⟩
 replace HM : Mm [] w0 rZ [(g, .cells (X.map Bv).toArray 5 (0, 0)), fG fb dat abi aF big aS aG aB, dF s b o n c] := by rw [hq]; exact HM.drewN _
 clear hq
 refine ⟨_, rfl, ?_⟩; clear HF; intro a HF; replace HF := HF.sub ((kS b o n c s fb big g ak aj au) ++ [(351, (aP big)), (353, .slice (some ⟨g, 58, none⟩) 6 6), (354, bf 64)]) (by kernel_rfl)
 replace HF := HF.sub ((kS b o n c s fb big g ak aj au) ++ [(354, bf 64)]) (by kernel_rfl)
 refine aO HF HM rfl 2 [] ((kS b o n c s fb big g ak aj au) ++ [(14, ay 64)]) [(g, .cells (X.map Bv).toArray 5 (0, 0)), fG fb dat abi aF big aS aG aB, dF s b o n c] (by kernel_rfl) ?_
 clear HF HM; intro a w HF HM
 refine aI ?_
 refine wp_seq (wp_region_lit ?_)
 refine aO HF HM rfl 3 [] ((kS b o n c s fb big g ak aj au) ++ [(14, ay 64), (356, (aP big)), (358, .slice (some ⟨g, 60, none⟩) 4 4)]) [(g, .cells (X.map Bv).toArray 5 (0, 0)), fG fb dat abi aF big aS aG aB, dF s b o n c] (by kernel_rfl) ?_
 clear HF HM; intro a w HF HM
 refine bn HF (by kernel_rfl) 94 #[(aP big), .slice (some ⟨g, 60, none⟩) 4 4] (by kernel_rfl) (fun w => by kernel_rfl) (Calls.mono (oH (HM.get (i := 0) rfl) big 60 4 (by omega) (by omega) ((ah : Nat) : Int) (by rw [hnum 60 2 (by omega), Hsn])) ?_)
 rintro _ w12 ⟨rfl, jF, hq⟩
 replace HM : Mm [] w0 w12 [(g, .cells (X.map Bv).toArray 5 (0, 0)), fG fb dat abi aF big aS aG aB, dF s b o n c] := by rw [hq]; exact HM.drewN _
 clear hq
 refine ⟨_, rfl, ?_⟩; clear HF; intro a HF; replace HF := HF.sub ((kS b o n c s fb big g ak aj au) ++ [(14, ay 64), (356, (aP big)), (358, .slice (some ⟨g, 60, none⟩) 4 4), (359, bf ah)]) (by kernel_rfl)
 replace HF := HF.sub ((kS b o n c s fb big g ak aj au) ++ [(14, ay 64), (359, bf ah)]) (by kernel_rfl)
 refine aO HF HM rfl 1 [] ((kS b o n c s fb big g ak aj au) ++ [(14, ay 64), (360, ay (IntKind.i64.wrap ((ah : Nat) : Int)))]) [(g, .cells (X.map Bv).toArray 5 (0, 0)), fG fb dat abi aF big aS aG aB, dF s b o n c] (by kernel_rfl) ?_
 clear HF HM; intro a w HF HM
 rw [show IntKind.i64.wrap ((ah : Nat) : Int) = ((ah : Nat) : Int) from IntWalk.i64_in _ (by omega)] at HF
 refine aO HF HM rfl 1 [] ((kS b o n c s fb big g ak aj au) ++ [(14, ay 64), (15, aA ah)]) [(g, .cells (X.map Bv).toArray 5 (0, 0)), fG fb dat abi aF big aS aG aB, dF s b o n c] (by kernel_rfl) ?_
 clear HF HM; intro a w HF HM
 refine aI ?_
 refine wp_region_lit ?_
 refine aO HF HM rfl 3 [] ((kS b o n c s fb big g ak aj au) ++ [(14, ay 64), (15, aA ah), (361, (aP big)), (363, .slice (some ⟨g, 62, none⟩) 2 2)]) [(g, .cells (X.map Bv).toArray 5 (0, 0)), fG fb dat abi aF big aS aG aB, dF s b o n c] (by kernel_rfl) ?_
 clear HF HM; intro a w HF HM
 refine bn HF (by kernel_rfl) 94 #[(aP big), .slice (some ⟨g, 62, none⟩) 2 2] (by kernel_rfl) (fun w => by kernel_rfl) (Calls.mono (oH (HM.get (i := 0) rfl) big 62 2 (by omega) (by omega) (((ah - 1) : Nat) : Int) (by rw [hnum 62 2 (by omega), Hst])) ?_)
 rintro _ wE ⟨rfl, jF, hq⟩
 replace HM : Mm [] w0 wE [(g, .cells (X.map Bv).toArray 5 (0, 0)), fG fb dat abi aF big aS aG aB, dF s b o n c] := by rw [hq]; exact HM.drewN _
 clear hq
 refine ⟨_, rfl, ?_⟩; clear HF; intro a HF; replace HF := HF.sub ((kS b o n c s fb big g ak aj au) ++ [(14, ay 64), (15, aA ah), (361, (aP big)), (363, .slice (some ⟨g, 62, none⟩) 2 2), (364, bf (ah - 1))]) (by kernel_rfl)
 replace HF := HF.sub ((kS b o n c s fb big g ak aj au) ++ [(14, ay 64), (15, aA ah), (364, bf (ah - 1))]) (by kernel_rfl)
 refine aO HF HM rfl 1 [] ((kS b o n c s fb big g ak aj au) ++ [(14, ay 64), (15, aA ah), (365, ay (IntKind.i64.wrap (((ah - 1) : Nat) : Int)))]) [(g, .cells (X.map Bv).toArray 5 (0, 0)), fG fb dat abi aF big aS aG aB, dF s b o n c] (by kernel_rfl) ?_
 clear HF HM; intro a w HF HM
 rw [show IntKind.i64.wrap (((ah - 1) : Nat) : Int) = (((ah - 1) : Nat) : Int) from IntWalk.i64_in _ (by omega)] at HF
 refine aO HF HM rfl 1 [] ((kS b o n c s fb big g ak aj au) ++ [(14, ay 64), (15, aA ah), (16, aA (ah - 1))]) [(g, .cells (X.map Bv).toArray 5 (0, 0)), fG fb dat abi aF big aS aG aB, dF s b o n c] (by kernel_rfl) ?_
 clear HF HM; intro a w HF HM
 refine wpList_nil ?_
 repeat (first | refine aQ ?_ | refine aU ?_)
 replace HF := HF.sub ((dW b o n c s fb big) ++ [(10, aA ak), (11, ay 56), (12, aA aj), (13, aA au), (14, ay 64), (15, aA ah), (16, aA (ah - 1))]) (by kernel_rfl)
 exact K a w HF (HM.sub (List.Sublist.cons _ (List.Sublist.refl _)))

abbrev ji := fun (fb : Nat) (dat : Int) (abi : Nat) (aF : Nat) (big : Bool) (aS : Nat) (aG : Nat) (aB : Nat) => ((fb, .cells #[aK 1, .int .u8 dat, aK 1, aV abi, aV aF, (aP big), bf aS, bf aG, aJ aB, aN, aN, aN, aN, aN] 131 (0, 0)) : Nat × Obj)
abbrev jh := fun (s : Nat) (b : Nat) (o : Nat) (n : Nat) (c : Nat) => ((s, .cells #[.iface 178 (.slice (some ⟨b, o, none⟩) n c), ay 0, ay 0, ay 9223372036854775807, ay 9223372036854775807] 246 (0, 0)) : Nat × Obj)
abbrev gK := fun (b : Nat) (o : Nat) (n : Nat) (c : Nat) (s : Nat) (fb : Nat) (big : Bool) (ak : Nat) (au : Nat) (ah : Nat) => ([(0, .iface 178 (.slice (some ⟨b, o, none⟩) n c)), (4, aC s), (8, aC fb), (9, (aP big)), (10, aA ak), (11, ay 32), (12, ay 0), (13, aA au), (14, ay 40), (15, aA ah), (16, aA (ah - 1))] : Slots)
theorem II (l : List UInt8) (b o n c : Nat) (hl : n = l.length) (hnc : n ≤ c) (big : Bool) (abi aF aS aG aB ak aj au ah : Nat) (dat : Int) (b1 : aS < 65536) (b2 : aG < 65536) (b3 : aB ≤ 18446744073709551615) (b4 : ak < 4611686018427387904) (b5 : au < 4611686018427387904) (b6 : aj < 200) (b7 : ah < 200) (c1 : 0 < au) (c2 : 0 < ah) {Q : Exit → Act → World → Prop} (w0 : World) (a : Act) (w : World) (s fb : Nat) (HF : Fr 1287 a (gK b o n c s fb big ak au ah)) (HM : Mm [] w0 w [ji fb dat abi aF big aS aG aB, jh s b o n c])
  (K : ∀ a w, Fr 1287 a ((gK b o n c s fb big ak au ah) ++ [(26, ay 40)]) → Mm [] w0 w [ji fb dat abi aF big aS aG aB, jh s b o n c] → (spine Tryd.f78 29).wp Tryd.prog Q a w) : (spine Tryd.f78 21).wp Tryd.prog Q a w := by
 refine wp_seq ?_
 refine wp_seq (wp_region_lit ?_)
 refine aO HF HM rfl 2 [] ((gK b o n c s fb big ak au ah) ++ [(367, .bool (decide (((au : Nat) : Int) < 0)))]) [ji fb dat abi aF big aS aG aB, jh s b o n c] (by kernel_rfl) ?_
 clear HF HM; intro a w HF HM
 rw [show decide (((au : Nat) : Int) < 0) = false from dI (by omega)] at HF
 refine aI ?_
 refine aZ HF rfl ?_
 refine wp_skip ?_
 repeat (first | refine aQ ?_ | refine aU ?_)
 replace HF := HF.sub (gK b o n c s fb big ak au ah) (by kernel_rfl)
 refine wp_seq ?_
 refine wp_seq (wp_region_lit ?_)
 refine aO HF HM rfl 2 [] ((gK b o n c s fb big ak au ah) ++ [(374, .bool (decide (((ak : Nat) : Int) < 0)))]) [ji fb dat abi aF big aS aG aB, jh s b o n c] (by kernel_rfl) ?_
 clear HF HM; intro a w HF HM
 rw [show decide (((ak : Nat) : Int) < 0) = false from dI (by omega)] at HF
 refine aI ?_
 refine aZ HF rfl ?_
 refine wp_skip ?_
 repeat (first | refine aQ ?_ | refine aU ?_)
 replace HF := HF.sub (gK b o n c s fb big ak au ah) (by kernel_rfl)
 refine wp_seq ?_
 refine wp_seq (wp_region_lit ?_)
 refine aO HF HM rfl 2 [] ((gK b o n c s fb big ak au ah) ++ [(381, .bool (((au : Nat) : Int) == 0))]) [ji fb dat abi aF big aS aG aB, jh s b o n c] (by kernel_rfl) ?_
 clear HF HM; intro a w HF HM
 rw [show (((au : Nat) : Int) == 0) = false from beq_eq_false_iff_ne.2 (by omega)] at HF
 refine aO HF HM rfl 4 [] ((gK b o n c s fb big ak au ah) ++ [(385, .bool false)]) [ji fb dat abi aF big aS aG aB, jh s b o n c] (by kernel_rfl) ?_
 clear HF HM; intro a w HF HM
 refine aI ?_
 refine aZ HF rfl ?_
 refine wp_skip ?_
 repeat (first | refine aQ ?_ | refine aU ?_)
 replace HF := HF.sub (gK b o n c s fb big ak au ah) (by kernel_rfl)
 refine wp_seq ?_
 refine wp_seq (wp_region_lit ?_)
 refine aO HF HM rfl 2 [] ((gK b o n c s fb big ak au ah) ++ [(392, .bool (decide (0 < ((ah : Nat) : Int))))]) [ji fb dat abi aF big aS aG aB, jh s b o n c] (by kernel_rfl) ?_
 clear HF HM; intro a w HF HM
 rw [show decide (0 < ((ah : Nat) : Int)) = true from fC (by omega)] at HF
 refine aO HF HM rfl 4 [] ((gK b o n c s fb big ak au ah) ++ [(393, .bool true), (396, .bool (decide (((ah : Nat) : Int) ≤ (((ah - 1) : Nat) : Int))))]) [ji fb dat abi aF big aS aG aB, jh s b o n c] (by kernel_rfl) ?_
 clear HF HM; intro a w HF HM
 rw [show decide (((ah : Nat) : Int) ≤ (((ah - 1) : Nat) : Int)) = false from dI (by omega)] at HF
 refine aO HF HM rfl 1 [] ((gK b o n c s fb big ak au ah) ++ [(397, .bool false)]) [ji fb dat abi aF big aS aG aB, jh s b o n c] (by kernel_rfl) ?_
 clear HF HM; intro a w HF HM
 refine aI ?_
 refine aZ HF rfl ?_
 refine wp_skip ?_
 repeat (first | refine aQ ?_ | refine aU ?_)
 replace HF := HF.sub (gK b o n c s fb big ak au ah) (by kernel_rfl)
 refine bC HF HM rfl [] ((gK b o n c s fb big ak au ah) ++ [(25, ay 0), (26, ay 0)]) [ji fb dat abi aF big aS aG aB, jh s b o n c] (by kernel_rfl) ?_
 clear HF HM; intro a w HF HM
 refine wp_seq ?_
 refine bC HF HM rfl [[1]] ((gK b o n c s fb big ak au ah) ++ [(25, ay 0), (26, ay 0), (407, aK 1)]) [ji fb dat abi aF big aS aG aB, jh s b o n c] (by kernel_rfl) ?_
 clear HF HM; intro a w HF HM
 refine wp_block ?_
 refine bC HF HM rfl [] ((gK b o n c s fb big ak au ah) ++ [(25, ay 0), (26, ay 0), (407, aK 1), (408, .bool true)]) [ji fb dat abi aF big aS aG aB, jh s b o n c] (by kernel_rfl) ?_
 clear HF HM; intro a w HF HM
 refine bF HF rfl ?_
 refine bC HF HM rfl [] ((gK b o n c s fb big ak au ah) ++ [(26, ay 0), (25, ay 32)]) [ji fb dat abi aF big aS aG aB, jh s b o n c] (by kernel_rfl) ?_
 clear HF HM; intro a w HF HM
 refine nD HF HM rfl [] ((gK b o n c s fb big ak au ah) ++ [(25, ay 32), (26, ay 40)]) [ji fb dat abi aF big aS aG aB, jh s b o n c] (by kernel_rfl) ?_
 clear HF HM; intro a w HF HM
 repeat (first | refine aQ ?_ | refine aU ?_)
 refine wp_seq ?_
 refine wp_seq (wp_region_lit ?_)
 refine aO HF HM rfl 7 [] ((gK b o n c s fb big ak au ah) ++ [(25, ay 32), (26, ay 40), (418, .bool false)]) [ji fb dat abi aF big aS aG aB, jh s b o n c] (by kernel_rfl) ?_
 clear HF HM; intro a w HF HM
 refine aI ?_
 refine aZ HF rfl ?_
 refine wp_skip ?_
 repeat (first | refine aQ ?_ | refine aU ?_)
 replace HF := HF.sub ((gK b o n c s fb big ak au ah) ++ [(25, ay 32), (26, ay 40)]) (by kernel_rfl)
 refine wp_seq ?_
 refine wp_seq (wp_region_lit ?_)
 refine aO HF HM rfl 2 [] ((gK b o n c s fb big ak au ah) ++ [(25, ay 32), (26, ay 40), (425, .bool (decide (0 < ((au : Nat) : Int))))]) [ji fb dat abi aF big aS aG aB, jh s b o n c] (by kernel_rfl) ?_
 clear HF HM; intro a w HF HM
 rw [show decide (0 < ((au : Nat) : Int)) = true from fC (by omega)] at HF
 refine aO HF HM rfl 3 [] ((gK b o n c s fb big ak au ah) ++ [(25, ay 32), (26, ay 40), (426, .bool true), (428, .bool (((ah : Nat) : Int) == 0))]) [ji fb dat abi aF big aS aG aB, jh s b o n c] (by kernel_rfl) ?_
 clear HF HM; intro a w HF HM
 rw [show (((ah : Nat) : Int) == 0) = false from beq_eq_false_iff_ne.2 (by omega)] at HF
 refine aO HF HM rfl 5 [] ((gK b o n c s fb big ak au ah) ++ [(25, ay 32), (26, ay 40), (433, .bool false)]) [ji fb dat abi aF big aS aG aB, jh s b o n c] (by kernel_rfl) ?_
 clear HF HM; intro a w HF HM
 refine aI ?_
 refine aZ HF rfl ?_
 refine wp_skip ?_
 repeat (first | refine aQ ?_ | refine aU ?_)
 replace HF := HF.sub ((gK b o n c s fb big ak au ah) ++ [(25, ay 32), (26, ay 40)]) (by kernel_rfl)
 replace HF := HF.sub ((gK b o n c s fb big ak au ah) ++ [(26, ay 40)]) (by kernel_rfl)
 exact K a w HF HM

abbrev iU := fun (fb : Nat) (dat : Int) (abi : Nat) (aF : Nat) (big : Bool) (aS : Nat) (aG : Nat) (aB : Nat) => ((fb, .cells #[aK 1, .int .u8 dat, aK 1, aV abi, aV aF, (aP big), bf aS, bf aG, aJ aB, aN, aN, aN, aN, aN] 131 (0, 0)) : Nat × Obj)
abbrev iT := fun (s : Nat) (b : Nat) (o : Nat) (n : Nat) (c : Nat) => ((s, .cells #[.iface 178 (.slice (some ⟨b, o, none⟩) n c), ay 0, ay 0, ay 9223372036854775807, ay 9223372036854775807] 246 (0, 0)) : Nat × Obj)
abbrev fQ := fun (b : Nat) (o : Nat) (n : Nat) (c : Nat) (s : Nat) (fb : Nat) (big : Bool) (ak : Nat) (aj : Nat) (au : Nat) (ah : Nat) => ([(0, .iface 178 (.slice (some ⟨b, o, none⟩) n c)), (4, aC s), (8, aC fb), (9, (aP big)), (10, aA ak), (11, ay 32), (12, aA aj), (13, aA au), (14, ay 40), (15, aA ah), (16, aA (ah - 1))] : Slots)
theorem IG (l : List UInt8) (b o n c : Nat) (hl : n = l.length) (hnc : n ≤ c) (big : Bool) (abi aF aS aG aB ak aj au ah : Nat) (dat : Int) (b1 : aS < 65536) (b2 : aG < 65536) (b3 : aB ≤ 18446744073709551615) (b4 : ak < 4611686018427387904) (b5 : au < 4611686018427387904) (b6 : aj < 200) (b7 : ah < 200) (c1 : 0 < au) (c2 : 0 < ah) (c3 : 0 < aj) {Q : Exit → Act → World → Prop} (w0 : World) (a : Act) (w : World) (s fb : Nat) (HF : Fr 1287 a (fQ b o n c s fb big ak aj au ah)) (HM : Mm [] w0 w [iU fb dat abi aF big aS aG aB, iT s b o n c])
  (K : ∀ a w, Fr 1287 a ((fQ b o n c s fb big ak aj au ah) ++ [(26, ay 40)]) → Mm [] w0 w [iU fb dat abi aF big aS aG aB, iT s b o n c] → (spine Tryd.f78 29).wp Tryd.prog Q a w) : (spine Tryd.f78 21).wp Tryd.prog Q a w := by
 refine wp_seq ?_
 refine wp_seq (wp_region_lit ?_)
 refine aO HF HM rfl 2 [] ((fQ b o n c s fb big ak aj au ah) ++ [(367, .bool (decide (((au : Nat) : Int) < 0)))]) [iU fb dat abi aF big aS aG aB, iT s b o n c] (by kernel_rfl) ?_
 clear HF HM; intro a w HF HM
 rw [show decide (((au : Nat) : Int) < 0) = false from dI (by omega)] at HF
 refine aI ?_
 refine aZ HF rfl ?_
 refine wp_skip ?_
 repeat (first | refine aQ ?_ | refine aU ?_)
 replace HF := HF.sub (fQ b o n c s fb big ak aj au ah) (by kernel_rfl)
 refine wp_seq ?_
 refine wp_seq (wp_region_lit ?_)
 refine aO HF HM rfl 2 [] ((fQ b o n c s fb big ak aj au ah) ++ [(374, .bool (decide (((ak : Nat) : Int) < 0)))]) [iU fb dat abi aF big aS aG aB, iT s b o n c] (by kernel_rfl) ?_
 clear HF HM; intro a w HF HM
 rw [show decide (((ak : Nat) : Int) < 0) = false from dI (by omega)] at HF
 refine aI ?_
 refine aZ HF rfl ?_
 refine wp_skip ?_
 repeat (first | refine aQ ?_ | refine aU ?_)
 replace HF := HF.sub (fQ b o n c s fb big ak aj au ah) (by kernel_rfl)
 refine wp_seq ?_
 refine wp_seq (wp_region_lit ?_)
 refine aO HF HM rfl 2 [] ((fQ b o n c s fb big ak aj au ah) ++ [(381, .bool (((au : Nat) : Int) == 0))]) [iU fb dat abi aF big aS aG aB, iT s b o n c] (by kernel_rfl) ?_
 clear HF HM; intro a w HF HM
 rw [show (((au : Nat) : Int) == 0) = false from beq_eq_false_iff_ne.2 (by omega)] at HF
 refine aO HF HM rfl 4 [] ((fQ b o n c s fb big ak aj au ah) ++ [(385, .bool false)]) [iU fb dat abi aF big aS aG aB, iT s b o n c] (by kernel_rfl) ?_
 clear HF HM; intro a w HF HM
 refine aI ?_
 refine aZ HF rfl ?_
 refine wp_skip ?_
 repeat (first | refine aQ ?_ | refine aU ?_)
 replace HF := HF.sub (fQ b o n c s fb big ak aj au ah) (by kernel_rfl)
 refine wp_seq ?_
 refine wp_seq (wp_region_lit ?_)
 refine aO HF HM rfl 2 [] ((fQ b o n c s fb big ak aj au ah) ++ [(392, .bool (decide (0 < ((ah : Nat) : Int))))]) [iU fb dat abi aF big aS aG aB, iT s b o n c] (by kernel_rfl) ?_
 clear HF HM; intro a w HF HM
 rw [show decide (0 < ((ah : Nat) : Int)) = true from fC (by omega)] at HF
 refine aO HF HM rfl 4 [] ((fQ b o n c s fb big ak aj au ah) ++ [(393, .bool true), (396, .bool (decide (((ah : Nat) : Int) ≤ (((ah - 1) : Nat) : Int))))]) [iU fb dat abi aF big aS aG aB, iT s b o n c] (by kernel_rfl) ?_
 clear HF HM; intro a w HF HM
 rw [show decide (((ah : Nat) : Int) ≤ (((ah - 1) : Nat) : Int)) = false from dI (by omega)] at HF
 refine aO HF HM rfl 1 [] ((fQ b o n c s fb big ak aj au ah) ++ [(397, .bool false)]) [iU fb dat abi aF big aS aG aB, iT s b o n c] (by kernel_rfl) ?_
 clear HF HM; intro a w HF HM
 refine aI ?_
 refine aZ HF rfl ?_
 refine wp_skip ?_
 repeat (first | refine aQ ?_ | refine aU ?_)
 replace HF := HF.sub (fQ b o n c s fb big ak aj au ah) (by kernel_rfl)
 refine bC HF HM rfl [] ((fQ b o n c s fb big ak aj au ah) ++ [(25, ay 0), (26, ay 0)]) [iU fb dat abi aF big aS aG aB, iT s b o n c] (by kernel_rfl) ?_
 clear HF HM; intro a w HF HM
 refine wp_seq ?_
 refine bC HF HM rfl [[1]] ((fQ b o n c s fb big ak aj au ah) ++ [(25, ay 0), (26, ay 0), (407, aK 1)]) [iU fb dat abi aF big aS aG aB, iT s b o n c] (by kernel_rfl) ?_
 clear HF HM; intro a w HF HM
 refine wp_block ?_
 refine bC HF HM rfl [] ((fQ b o n c s fb big ak aj au ah) ++ [(25, ay 0), (26, ay 0), (407, aK 1), (408, .bool true)]) [iU fb dat abi aF big aS aG aB, iT s b o n c] (by kernel_rfl) ?_
 clear HF HM; intro a w HF HM
 refine bF HF rfl ?_
 refine bC HF HM rfl [] ((fQ b o n c s fb big ak aj au ah) ++ [(26, ay 0), (25, ay 32)]) [iU fb dat abi aF big aS aG aB, iT s b o n c] (by kernel_rfl) ?_
 clear HF HM; intro a w HF HM
 refine nD HF HM rfl [] ((fQ b o n c s fb big ak aj au ah) ++ [(25, ay 32), (26, ay 40)]) [iU fb dat abi aF big aS aG aB, iT s b o n c] (by kernel_rfl) ?_
 clear HF HM; intro a w HF HM
 repeat (first | refine aQ ?_ | refine aU ?_)
 refine wp_seq ?_
 refine wp_seq (wp_region_lit ?_)
 refine aO HF HM rfl 2 [] ((fQ b o n c s fb big ak aj au ah) ++ [(25, ay 32), (26, ay 40), (413, .bool (decide (0 < ((aj : Nat) : Int))))]) [iU fb dat abi aF big aS aG aB, iT s b o n c] (by kernel_rfl) ?_
 clear HF HM; intro a w HF HM
 rw [show decide (0 < ((aj : Nat) : Int)) = true from fC (by omega)] at HF
 refine aO HF HM rfl 5 [] ((fQ b o n c s fb big ak aj au ah) ++ [(25, ay 32), (26, ay 40), (418, .bool false)]) [iU fb dat abi aF big aS aG aB, iT s b o n c] (by kernel_rfl) ?_
 clear HF HM; intro a w HF HM
 refine aI ?_
 refine aZ HF rfl ?_
 refine wp_skip ?_
 repeat (first | refine aQ ?_ | refine aU ?_)
 replace HF := HF.sub ((fQ b o n c s fb big ak aj au ah) ++ [(25, ay 32), (26, ay 40)]) (by kernel_rfl)
 refine wp_seq ?_
 refine wp_seq (wp_region_lit ?_)
 refine aO HF HM rfl 2 [] ((fQ b o n c s fb big ak aj au ah) ++ [(25, ay 32), (26, ay 40), (425, .bool (decide (0 < ((au : Nat) : Int))))]) [iU fb dat abi aF big aS aG aB, iT s b o n c] (by kernel_rfl) ?_
 clear HF HM; intro a w HF HM
 rw [show decide (0 < ((au : Nat) : Int)) = true from fC (by omega)] at HF
 refine aO HF HM rfl 3 [] ((fQ b o n c s fb big ak aj au ah) ++ [(25, ay 32), (26, ay 40), (426, .bool true), (428, .bool (((ah : Nat) : Int) == 0))]) [iU fb dat abi aF big aS aG aB, iT s b o n c] (by kernel_rfl) ?_
 clear HF HM; intro a w HF HM
 rw [show (((ah : Nat) : Int) == 0) = false from beq_eq_false_iff_ne.2 (by omega)] at HF
 refine aO HF HM rfl 3 [] ((fQ b o n c s fb big ak aj au ah) ++ [(25, ay 32), (26, ay 40), (426, .bool true), (429, .bool false), (431, .bool (((aj : Nat) : Int) == 65535))]) [iU fb dat abi aF big aS aG aB, iT s b o n c] (by kernel_rfl) ?_
 clear HF HM; intro a w HF HM
 rw [show (((aj : Nat) : Int) == 65535) = false from beq_eq_false_iff_ne.2 (by omega)] at HF
 refine aO HF HM rfl 2 [] ((fQ b o n c s fb big ak aj au ah) ++ [(25, ay 32), (26, ay 40), (433, .bool false)]) [iU fb dat abi aF big aS aG aB, iT s b o n c] (by kernel_rfl) ?_
 clear HF HM; intro a w HF HM
 refine aI ?_
 refine aZ HF rfl ?_
 refine wp_skip ?_
 repeat (first | refine aQ ?_ | refine aU ?_)
 replace HF := HF.sub ((fQ b o n c s fb big ak aj au ah) ++ [(25, ay 32), (26, ay 40)]) (by kernel_rfl)
 replace HF := HF.sub ((fQ b o n c s fb big ak aj au ah) ++ [(26, ay 40)]) (by kernel_rfl)
 exact K a w HF HM

abbrev iZ := fun (fb : Nat) (dat : Int) (abi : Nat) (aF : Nat) (big : Bool) (aS : Nat) (aG : Nat) (aB : Nat) => ((fb, .cells #[aK 2, .int .u8 dat, aK 1, aV abi, aV aF, (aP big), bf aS, bf aG, aJ aB, aN, aN, aN, aN, aN] 131 (0, 0)) : Nat × Obj)
abbrev iY := fun (s : Nat) (b : Nat) (o : Nat) (n : Nat) (c : Nat) => ((s, .cells #[.iface 178 (.slice (some ⟨b, o, none⟩) n c), ay 0, ay 0, ay 9223372036854775807, ay 9223372036854775807] 246 (0, 0)) : Nat × Obj)
abbrev gG := fun (b : Nat) (o : Nat) (n : Nat) (c : Nat) (s : Nat) (fb : Nat) (big : Bool) (ak : Nat) (au : Nat) (ah : Nat) => ([(0, .iface 178 (.slice (some ⟨b, o, none⟩) n c)), (4, aC s), (8, aC fb), (9, (aP big)), (10, aA ak), (11, ay 56), (12, ay 0), (13, aA au), (14, ay 64), (15, aA ah), (16, aA (ah - 1))] : Slots)
theorem IE (l : List UInt8) (b o n c : Nat) (hl : n = l.length) (hnc : n ≤ c) (big : Bool) (abi aF aS aG aB ak aj au ah : Nat) (dat : Int) (b1 : aS < 65536) (b2 : aG < 65536) (b3 : aB ≤ 18446744073709551615) (b4 : ak < 4611686018427387904) (b5 : au < 4611686018427387904) (b6 : aj < 200) (b7 : ah < 200) (c1 : 0 < au) (c2 : 0 < ah) {Q : Exit → Act → World → Prop} (w0 : World) (a : Act) (w : World) (s fb : Nat) (HF : Fr 1287 a (gG b o n c s fb big ak au ah)) (HM : Mm [] w0 w [iZ fb dat abi aF big aS aG aB, iY s b o n c])
  (K : ∀ a w, Fr 1287 a ((gG b o n c s fb big ak au ah) ++ [(26, ay 64)]) → Mm [] w0 w [iZ fb dat abi aF big aS aG aB, iY s b o n c] → (spine Tryd.f78 29).wp Tryd.prog Q a w) : (spine Tryd.f78 21).wp Tryd.prog Q a w := by
 refine wp_seq ?_
 refine wp_seq (wp_region_lit ?_)
 refine aO HF HM rfl 2 [] ((gG b o n c s fb big ak au ah) ++ [(367, .bool (decide (((au : Nat) : Int) < 0)))]) [iZ fb dat abi aF big aS aG aB, iY s b o n c] (by kernel_rfl) ?_
 clear HF HM; intro a w HF HM
 rw [show decide (((au : Nat) : Int) < 0) = false from dI (by omega)] at HF
 refine aI ?_
 refine aZ HF rfl ?_
 refine wp_skip ?_
 repeat (first | refine aQ ?_ | refine aU ?_)
 replace HF := HF.sub (gG b o n c s fb big ak au ah) (by kernel_rfl)
 refine wp_seq ?_
 refine wp_seq (wp_region_lit ?_)
 refine aO HF HM rfl 2 [] ((gG b o n c s fb big ak au ah) ++ [(374, .bool (decide (((ak : Nat) : Int) < 0)))]) [iZ fb dat abi aF big aS aG aB, iY s b o n c] (by kernel_rfl) ?_
 clear HF HM; intro a w HF HM
 rw [show decide (((ak : Nat) : Int) < 0) = false from dI (by omega)] at HF
 refine aI ?_
 refine aZ HF rfl ?_
 refine wp_skip ?_
 repeat (first | refine aQ ?_ | refine aU ?_)
 replace HF := HF.sub (gG b o n c s fb big ak au ah) (by kernel_rfl)
 refine wp_seq ?_
 refine wp_seq (wp_region_lit ?_)
 refine aO HF HM rfl 2 [] ((gG b o n c s fb big ak au ah) ++ [(381, .bool (((au : Nat) : Int) == 0))]) [iZ fb dat abi aF big aS aG aB, iY s b o n c] (by kernel_rfl) ?_
 clear HF HM; intro a w HF HM
 rw [show (((au : Nat) : Int) == 0) = false from beq_eq_false_iff_ne.2 (by omega)] at HF
 refine aO HF HM rfl 4 [] ((gG b o n c s fb big ak au ah) ++ [(385, .bool false)]) [iZ fb dat abi aF big aS aG aB, iY s b o n c] (by kernel_rfl) ?_
 clear HF HM; intro a w HF HM
 refine aI ?_
 refine aZ HF rfl ?_
 refine wp_skip ?_
 repeat (first | refine aQ ?_ | refine aU ?_)
 replace HF := HF.sub (gG b o n c s fb big ak au ah) (by kernel_rfl)
 refine wp_seq ?_
 refine wp_seq (wp_region_lit ?_)
 refine aO HF HM rfl 2 [] ((gG b o n c s fb big ak au ah) ++ [(392, .bool (decide (0 < ((ah : Nat) : Int))))]) [iZ fb dat abi aF big aS aG aB, iY s b o n c] (by kernel_rfl) ?_
 clear HF HM; intro a w HF HM
 rw [show decide (0 < ((ah : Nat) : Int)) = true from fC (by omega)] at HF
 refine aO HF HM rfl 4 [] ((gG b o n c s fb big ak au ah) ++ [(393, .bool true), (396, .bool (decide (((ah : Nat) : Int) ≤ (((ah - 1) : Nat) : Int))))]) [iZ fb dat abi aF big aS aG aB, iY s b o n c] (by kernel_rfl) ?_
 clear HF HM; intro a w HF HM
 rw [show decide (((ah : Nat) : Int) ≤ (((ah - 1) : Nat) : Int)) = false from dI (by omega)] at HF
 refine aO HF HM rfl 1 [] ((gG b o n c s fb big ak au ah) ++ [(397, .bool false)]) [iZ fb dat abi aF big aS aG aB, iY s b o n c] (by kernel_rfl) ?_
 clear HF HM; intro a w HF HM
 refine aI ?_
 refine aZ HF rfl ?_
 refine wp_skip ?_
 repeat (first | refine aQ ?_ | refine aU ?_)
 replace HF := HF.sub (gG b o n c s fb big ak au ah) (by kernel_rfl)
 refine bC HF HM rfl [] ((gG b o n c s fb big ak au ah) ++ [(25, ay 0), (26, ay 0)]) [iZ fb dat abi aF big aS aG aB, iY s b o n c] (by kernel_rfl) ?_
 clear HF HM; intro a w HF HM
 refine wp_seq ?_
 refine bC HF HM rfl [[1]] ((gG b o n c s fb big ak au ah) ++ [(25, ay 0), (26, ay 0), (407, aK 2)]) [iZ fb dat abi aF big aS aG aB, iY s b o n c] (by kernel_rfl) ?_
 clear HF HM; intro a w HF HM
 refine wp_block ?_
 refine bC HF HM rfl [] ((gG b o n c s fb big ak au ah) ++ [(25, ay 0), (26, ay 0), (407, aK 2), (408, .bool false)]) [iZ fb dat abi aF big aS aG aB, iY s b o n c] (by kernel_rfl) ?_
 clear HF HM; intro a w HF HM
 refine aZ HF rfl ?_
 refine bC HF HM rfl [] ((gG b o n c s fb big ak au ah) ++ [(25, ay 0), (26, ay 0), (407, aK 2), (410, .bool true)]) [iZ fb dat abi aF big aS aG aB, iY s b o n c] (by kernel_rfl) ?_
 clear HF HM; intro a w HF HM
 refine bF HF rfl ?_
 refine bC HF HM rfl [] ((gG b o n c s fb big ak au ah) ++ [(26, ay 0), (25, ay 56)]) [iZ fb dat abi aF big aS aG aB, iY s b o n c] (by kernel_rfl) ?_
 clear HF HM; intro a w HF HM
 refine nD HF HM rfl [] ((gG b o n c s fb big ak au ah) ++ [(25, ay 56), (26, ay 64)]) [iZ fb dat abi aF big aS aG aB, iY s b o n c] (by kernel_rfl) ?_
 clear HF HM; intro a w HF HM
 repeat (first | refine aQ ?_ | refine aU ?_)
 refine wp_seq ?_
 refine wp_seq (wp_region_lit ?_)
 refine aO HF HM rfl 7 [] ((gG b o n c s fb big ak au ah) ++ [(25, ay 56), (26, ay 64), (418, .bool false)]) [iZ fb dat abi aF big aS aG aB, iY s b o n c] (by kernel_rfl) ?_
 clear HF HM; intro a w HF HM
 refine aI ?_
 refine aZ HF rfl ?_
 refine wp_skip ?_
 repeat (first | refine aQ ?_ | refine aU ?_)
 replace HF := HF.sub ((gG b o n c s fb big ak au ah) ++ [(25, ay 56), (26, ay 64)]) (by kernel_rfl)
 refine wp_seq ?_
 refine wp_seq (wp_region_lit ?_)
 refine aO HF HM rfl 2 [] ((gG b o n c s fb big ak au ah) ++ [(25, ay 56), (26, ay 64), (425, .bool (decide (0 < ((au : Nat) : Int))))]) [iZ fb dat abi aF big aS aG aB, iY s b o n c] (by kernel_rfl) ?_
 clear HF HM; intro a w HF HM
 rw [show decide (0 < ((au : Nat) : Int)) = true from fC (by omega)] at HF
 refine aO HF HM rfl 3 [] ((gG b o n c s fb big ak au ah) ++ [(25, ay 56), (26, ay 64), (426, .bool true), (428, .bool (((ah : Nat) : Int) == 0))]) [iZ fb dat abi aF big aS aG aB, iY s b o n c] (by kernel_rfl) ?_
 clear HF HM; intro a w HF HM
 rw [show (((ah : Nat) : Int) == 0) = false from beq_eq_false_iff_ne.2 (by omega)] at HF
 refine aO HF HM rfl 5 [] ((gG b o n c s fb big ak au ah) ++ [(25, ay 56), (26, ay 64), (433, .bool false)]) [iZ fb dat abi aF big aS aG aB, iY s b o n c] (by kernel_rfl) ?_
 clear HF HM; intro a w HF HM
 refine aI ?_
 refine aZ HF rfl ?_
 refine wp_skip ?_
 repeat (first | refine aQ ?_ | refine aU ?_)
 replace HF := HF.sub ((gG b o n c s fb big ak au ah) ++ [(25, ay 56), (26, ay 64)]) (by kernel_rfl)
 replace HF := HF.sub ((gG b o n c s fb big ak au ah) ++ [(26, ay 64)]) (by kernel_rfl)
 exact K a w HF HM

abbrev iI := fun (fb : Nat) (dat : Int) (abi : Nat) (aF : Nat) (big : Bool) (aS : Nat) (aG : Nat) (aB : Nat) => ((fb, .cells #[aK 2, .int .u8 dat, aK 1, aV abi, aV aF, (aP big), bf aS, bf aG, aJ aB, aN, aN, aN, aN, aN] 131 (0, 0)) : Nat × Obj)
abbrev iH := fun (s : Nat) (b : Nat) (o : Nat) (n : Nat) (c : Nat) => ((s, .cells #[.iface 178 (.slice (some ⟨b, o, none⟩) n c), ay 0, ay 0, ay 9223372036854775807, ay 9223372036854775807] 246 (0, 0)) : Nat × Obj)
abbrev fM := fun (b : Nat) (o : Nat) (n : Nat) (c : Nat) (s : Nat) (fb : Nat) (big : Bool) (ak : Nat) (aj : Nat) (au : Nat) (ah : Nat) => ([(0, .iface 178 (.slice (some ⟨b, o, none⟩) n c)), (4, aC s), (8, aC fb), (9, (aP big)), (10, aA ak), (11, ay 56), (12, aA aj), (13, aA au), (14, ay 64), (15, aA ah), (16, aA (ah - 1))] : Slots)
theorem IC (l : List UInt8) (b o n c : Nat) (hl : n = l.length) (hnc : n ≤ c) (big : Bool) (abi aF aS aG aB ak aj au ah : Nat) (dat : Int) (b1 : aS < 65536) (b2 : aG < 65536) (b3 : aB ≤ 18446744073709551615) (b4 : ak < 4611686018427387904) (b5 : au < 4611686018427387904) (b6 : aj < 200) (b7 : ah < 200) (c1 : 0 < au) (c2 : 0 < ah) (c3 : 0 < aj) {Q : Exit → Act → World → Prop} (w0 : World) (a : Act) (w : World) (s fb : Nat) (HF : Fr 1287 a (fM b o n c s fb big ak aj au ah)) (HM : Mm [] w0 w [iI fb dat abi aF big aS aG aB, iH s b o n c])
  (K : ∀ a w, Fr 1287 a ((fM b o n c s fb big ak aj au ah) ++ [(26, ay 64)]) → Mm [] w0 w [iI fb dat abi aF big aS aG aB, iH s b o n c] → (spine Tryd.f78 29).wp Tryd.prog Q a w) : (spine Tryd.f78 21).wp Tryd.prog Q a w := by
 refine wp_seq ?_
 refine wp_seq (wp_region_lit ?_)
 refine aO HF HM rfl 2 [] ((fM b o n c s fb big ak aj au ah) ++ [(367, .bool (decide (((au : Nat) : Int) < 0)))]) [iI fb dat abi aF big aS aG aB, iH s b o n c] (by kernel_rfl) ?_
 clear HF HM; intro a w HF HM
 rw [show decide (((au : Nat) : Int) < 0) = false from dI (by omega)] at HF
 refine aI ?_
 refine aZ HF rfl ?_
 refine wp_skip ?_
 repeat (first | refine aQ ?_ | refine aU ?_)
 replace HF := HF.sub (fM b o n c s fb big ak aj au ah) (by kernel_rfl)
 refine wp_seq ?_
 refine wp_seq (wp_region_lit ?_)
 refine aO HF HM rfl 2 [] ((fM b o n c s fb big ak aj au ah) ++ [(374, .bool (decide (((ak : Nat) : Int) < 0)))]) [iI fb dat abi aF big aS aG aB, iH s b o n c] (by kernel_rfl) ?_
 clear HF HM; intro a w HF HM
 rw [show decide (((ak : Nat) : Int) < 0) = false from dI (by omega)] at HF
 refine aI ?_
 refine aZ HF rfl ?_
 refine wp_skip ?_
 repeat (first | refine aQ ?_ | refine aU ?_)
 replace HF := HF.sub (fM b o n c s fb big ak aj au ah) (by kernel_rfl)
 refine wp_seq ?_
 refine wp_seq (wp_region_lit ?_)
 refine aO HF HM rfl 2 [] ((fM b o n c s fb big ak aj au ah) ++ [(381, .bool (((au : Nat) : Int) == 0))]) [iI fb dat abi aF big aS aG aB, iH s b o n c] (by kernel_rfl) ?_
 clear HF HM; intro a w HF HM
 rw [show (((au : Nat) : Int) == 0) = false from beq_eq_false_iff_ne.2 (by omega)] at HF
 refine aO HF HM rfl 4 [] ((fM b o n c s fb big ak aj au ah) ++ [(385, .bool false)]) [iI fb dat abi aF big aS aG aB, iH s b o n c] (by kernel_rfl) ?_
 clear HF HM; intro a w HF HM
 refine aI ?_
 refine aZ HF rfl ?_
 refine wp_skip ?_
 repeat (first | refine aQ ?_ | refine aU ?_)
 replace HF := HF.sub (fM b o n c s fb big ak aj au ah) (by kernel_rfl)
 refine wp_seq ?_
 refine wp_seq (wp_region_lit ?_)
 refine aO HF HM rfl 2 [] ((fM b o n c s fb big ak aj au ah) ++ [(392, .bool (decide (0 < ((ah : Nat) : Int))))]) [iI fb dat abi aF big aS aG aB, iH s b o n c] (by kernel_rfl) ?_
 clear HF HM; intro a w HF HM
 rw [show decide (0 < ((ah : Nat) : Int)) = true from fC (by omega)] at HF
 refine aO HF HM rfl 4 [] ((fM b o n c s fb big ak aj au ah) ++ [(393, .bool true), (396, .bool (decide (((ah : Nat) : Int) ≤ (((ah - 1) : Nat) : Int))))]) [iI fb dat abi aF big aS aG aB, iH s b o n c] (by kernel_rfl) ?_
 clear HF HM; intro a w HF HM
 rw [show decide (((ah : Nat) : Int) ≤ (((ah - 1) : Nat) : Int)) = false from dI (by omega)] at HF
 refine aO HF HM rfl 1 [] ((fM b o n c s fb big ak aj au ah) ++ [(397, .bool false)]) [iI fb dat abi aF big aS aG aB, iH s b o n c] (by kernel_rfl) ?_
 clear HF HM; intro a w HF HM
 refine aI ?_
 refine aZ HF rfl ?_
 refine wp_skip ?_
 repeat (first | refine aQ ?_ | refine aU ?_)
 replace HF := HF.sub (fM b o n c s fb big ak aj au ah) (by kernel_rfl)
 refine bC HF HM rfl [] ((fM b o n c s fb big ak aj au ah) ++ [(25, ay 0), (26, ay 0)]) [iI fb dat abi aF big aS aG aB, iH s b o n c] (by kernel_rfl) ?_
 clear HF HM; intro a w HF HM
 refine wp_seq ?_
 refine bC HF HM rfl [[1]] ((fM b o n c s fb big ak aj au ah) ++ [(25, ay 0), (26, ay 0), (407, aK 2)]) [iI fb dat abi aF big aS aG aB, iH s b o n c] (by kernel_rfl) ?_
 clear HF HM; intro a w HF HM
 refine wp_block ?_
 refine bC HF HM rfl [] ((fM b o n c s fb big ak aj au ah) ++ [(25, ay 0), (26, ay 0), (407, aK 2), (408, .bool false)]) [iI fb dat abi aF big aS aG aB, iH s b o n c] (by kernel_rfl) ?_
 clear HF HM; intro a w HF HM
 refine aZ HF rfl ?_
 refine bC HF HM rfl [] ((fM b o n c s fb big ak aj au ah) ++ [(25, ay 0), (26, ay 0), (407, aK 2), (410, .bool true)]) [iI fb dat abi aF big aS aG aB, iH s b o n c] (by kernel_rfl) ?_
 clear HF HM; intro a w HF HM
 refine bF HF rfl ?_
 refine bC HF HM rfl [] ((fM b o n c s fb big ak aj au ah) ++ [(26, ay 0), (25, ay 56)]) [iI fb dat abi aF big aS aG aB, iH s b o n c] (by kernel_rfl) ?_
 clear HF HM; intro a w HF HM
 refine nD HF HM rfl [] ((fM b o n c s fb big ak aj au ah) ++ [(25, ay 56), (26, ay 64)]) [iI fb dat abi aF big aS aG aB, iH s b o n c] (by kernel_rfl) ?_
 clear HF HM; intro a w HF HM
 repeat (first | refine aQ ?_ | refine aU ?_)
 refine wp_seq ?_
 refine wp_seq (wp_region_lit ?_)
 refine aO HF HM rfl 2 [] ((fM b o n c s fb big ak aj au ah) ++ [(25, ay 56), (26, ay 64), (413, .bool (decide (0 < ((aj : Nat) : Int))))]) [iI fb dat abi aF big aS aG aB, iH s b o n c] (by kernel_rfl) ?_
 clear HF HM; intro a w HF HM
 rw [show decide (0 < ((aj : Nat) : Int)) = true from fC (by omega)] at HF
 refine aO HF HM rfl 5 [] ((fM b o n c s fb big ak aj au ah) ++ [(25, ay 56), (26, ay 64), (418, .bool false)]) [iI fb dat abi aF big aS aG aB, iH s b o n c] (by kernel_rfl) ?_
 clear HF HM; intro a w HF HM
 refine aI ?_
 refine aZ HF rfl ?_
 refine wp_skip ?_
 repeat (first | refine aQ ?_ | refine aU ?_)
 replace HF := HF.sub ((fM b o n c s fb big ak aj au ah) ++ [(25, ay 56), (26, ay 64)]) (by kernel_rfl)
 refine wp_seq ?_
 refine wp_seq (wp_region_lit ?_)
 refine aO HF HM rfl 2 [] ((fM b o n c s fb big ak aj au ah) ++ [(25, ay 56), (26, ay 64), (425, .bool (decide (0 < ((au : Nat) : Int))))]) [iI fb dat abi aF big aS aG aB, iH s b o n c] (by kernel_rfl) ?_
 clear HF HM; intro a w HF HM
 rw [show decide (0 < ((au : Nat) : Int)) = true from fC (by omega)] at HF
 refine aO HF HM rfl 3 [] ((fM b o n c s fb big ak aj au ah) ++ [(25, ay 56), (26, ay 64), (426, .bool true), (428, .bool (((ah : Nat) : Int) == 0))]) [iI fb dat abi aF big aS aG aB, iH s b o n c] (by kernel_rfl) ?_
 clear HF HM; intro a w HF HM
 rw [show (((ah : Nat) : Int) == 0) = false from beq_eq_false_iff_ne.2 (by omega)] at HF
 refine aO HF HM rfl 3 [] ((fM b o n c s fb big ak aj au ah) ++ [(25, ay 56), (26, ay 64), (426, .bool true), (429, .bool false), (431, .bool (((aj : Nat) : Int) == 65535))]) [iI fb dat abi aF big aS aG aB, iH s b o n c] (by kernel_rfl) ?_
 clear HF HM; intro a w HF HM
 rw [show (((aj : Nat) : Int) == 65535) = false from beq_eq_false_iff_ne.2 (by omega)] at HF
 refine aO HF HM rfl 2 [] ((fM b o n c s fb big ak aj au ah) ++ [(25, ay 56), (26, ay 64), (433, .bool false)]) [iI fb dat abi aF big aS aG aB, iH s b o n c] (by kernel_rfl) ?_
 clear HF HM; intro a w HF HM
 refine aI ?_
 refine aZ HF rfl ?_
 refine wp_skip ?_
 repeat (first | refine aQ ?_ | refine aU ?_)
 replace HF := HF.sub ((fM b o n c s fb big ak aj au ah) ++ [(25, ay 56), (26, ay 64)]) (by kernel_rfl)
 replace HF := HF.sub ((fM b o n c s fb big ak aj au ah) ++ [(26, ay 64)]) (by kernel_rfl)
 exact K a w HF HM

end Go.Proofs.YtdgehpocmfjbiaaDoor
namespace Go.Proofs.YtdgehpocmfjbiaaDoor
open Go.RowKit

section
variable {P : Program} {N : Nat} {G : List Nat} {w0 w : World} {a : Act} {ops : Array Oper}
/-- make([]T, 0, n) -/
theorem nO {Q : Exit → Act → World → Prop} {rest : List Oper} {o : Oper} {S : Slots} {L : List (Nat × Obj)} (HF : Fr N a S) (HM : Mm G w0 w L) (hgd : o.guard = none) (l c : Operand) (t : TypeId)
  (ho : o.op = .makeSlice t l c) (hd : okD N o.dst = true) (e : TypeId) (z : Value) (bytes : Nat) (ht : P.underlying t = some (.slice e)) (hi : (P.info? e).map (fun i => (i.zero, i.size, i.bytes)) = some (some z, 1, bytes))
  (kl kc : IntKind) (n : Nat) (hl : ev S l = some (.int kl 0)) (hc : ev S c = some (.int kc (n : Int))) (hb : bytes * n ≤ 281474976710656) (h63 : n ≤ maxLen)
  (hK : ∀ a' w' g cur, w.heap.size ≤ g → cur.size = n → Mm G w0 w' ((g, .cells cur e (0, 0)) :: L) → Fr N a' (rE S o.dst (aH g 0 n)) → wpList P ops Q rest a' w') : wpList P ops Q (o :: rest) a w := by
 obtain ⟨i0, hi0, hz0, hz1, hz2⟩ := info_parts hi
 refine wpList_make_own w hgd l c t ho w.heap.size e i0 z 1 ht hi0 hz0 hz1 kl kc n n (HF.ev hl) (HF.ev hc) rfl (by rw [hz2]; exact hb) h63 (Nat.le_refl _) ?_
 intro w' hown hgrow
 have hbel : Below w.heap.size w w' := (Below.refl _ _).grown hgrow (Nat.le_refl _) (by simp)
 rcases hown.2 with ⟨h, _⟩ | ⟨g, cap, cur, hv, hg, hh, hmc, hcm, hcs, htk⟩
 ·cases h
 ·injection hv with h1 h2 h3
  injection h1 with h1
  injection h1 with h1
  subst h1 h3
  exact hK _ w' _ cur (Nat.le_refl _) (by omega) (HM.push hbel hg hh) (HF.put _ _ (j_ hd))
/-- append of one value within the capacity -/
theorem oP {Q : Exit → Act → World → Prop} {rest : List Oper} {o : Oper} {S : Slots} {L : List (Nat × Obj)} (HF : Fr N a S) (HM : Mm G w0 w L) (hgd : o.guard = none) (s x : Operand) (t : TypeId)
  (ho : o.op = .call { callee := .builtin .append, args := #[s, x], argTypes := #[t, t] }) (hd : okD N o.dst = true) (e : TypeId) (z : Value) (bytes : Nat) (ht : P.underlying t = some (.slice e)) (hi : (P.info? e).map (fun i => (i.zero, i.size, i.bytes)) = some (some z, 1, bytes))
  (i j g b k n : Nat) (cur : Array Value) (v : Value) (tx : TypeId) (hL : L[i]? = some (g, .cells cur e (0, 0))) (hcs : cur.size = n) (hk : k < n) (hnm : n ≤ maxLen) (hs : ev S s = some (aH g k n))
  (hx : ev S x = some (aH b 1 1)) (hb : L[j]? = some (b, .cells #[v] tx (0, 0))) (h1 : v.oneCell' = true)
  (hK : ∀ a' w' cur', cur'.size = n → cur'.toList.take (k + 1) = cur.toList.take k ++ [v] → Mm G w0 w' (L.set i (g, .cells cur' e (0, 0))) → Fr N a' (rE S o.dst (aH g (k + 1) n)) → wpList P ops Q rest a' w') : wpList P ops Q (o :: rest) a w := by
 obtain ⟨i0, hi0, hz0, hz1, hz2⟩ := info_parts hi
 have hown : w.ownsRow 0 e 1 (aH g k n) k (cur.toList.take k) :=
  ⟨by simp; omega, .inr ⟨g, n, cur, rfl, Nat.zero_le _, HM.get hL, by omega, hnm, by omega, by rw [Nat.mul_one]⟩⟩
 refine wpList_append_fits w hgd s x t ho 0 e i0 1 ht hi0 hz1 g k n (cur.toList.take k) (HF.ev hs) hown ⟨b, 0, none⟩ 1 1 [v] (HF.ev hx) rfl ?_ (by simpa using h1) (by omega) ?_
 ·intro m u hu
  cases m with
  | zero =>
   simp only [List.getElem?_cons_zero, Option.some.injEq] at hu
   subst hu
   have := cell_of_row w b 0 _ tx (0, 0) (HM.get hb)
   simpa [Addr.add] using this
  | succ m => simp at hu
 ·intro w' hown' hgrow
  rcases hown'.2 with ⟨h, _⟩ | ⟨g', cap, cur', hv, hg, hh, hmc, hcm, hcs', htk⟩
  ·cases h
  ·injection hv with h1 h2 h3
   injection h1 with h1
   injection h1 with h1
   subst h1 h3
   exact hK _ w' cur' (by omega) (by rw [Nat.mul_one] at htk; exact htk) (HM.put hL hh (Keep.Lr hgrow)) (HF.put _ _ (j_ hd))
end
theorem BP {P : Program} {w : World} {ρ : Operand → Value} {o : Oper} {T U : TypeId} {x y : Operand} {k : IntKind} {u v : Int} (ho : o.op = .binOp .quo T x y U) (hx : ρ x = .int k u) (hy : ρ y = .int k v) (hv : v ≠ 0) : (execOp ρ o).run P w = .ok (.value (.int k (k.wrap (u.tdiv v)))) w := by
 unfold execOp
 simp only [ho, hx, hy]
 simp [eqGuard, binOp_quo, Op.intDiv, hv]

theorem wC : (Tryd.prog.info? 136).map (fun i => (i.zero, i.size, i.bytes)) = some (some (.pointer none), 1, 8) := by kernel_rfl
theorem yD : (Tryd.prog.info? 133).map (fun i => (i.zero, i.size, i.bytes)) = some (some (.pointer none), 1, 8) := by kernel_rfl
theorem Cb (n : Nat) (h0 : 0 < n) (h1 : n < 200) : 1000000 ≤ (18446744073709551615 : Int).tdiv (n : Int) ∧ (18446744073709551615 : Int).tdiv (n : Int) ≤ 18446744073709551615 := by
 rw [Int.tdiv_eq_ediv_of_nonneg (by omega)]
 constructor
 ·exact Int.le_ediv_of_mul_le (by omega) (by omega)
 ·exact Int.ediv_le_self _ (by omega)

abbrev jg := fun (b : Nat) (o : Nat) (n : Nat) (c : Nat) (s : Nat) (fb : Nat) (big : Bool) (ak : Nat) (au : Nat) (ah : Nat) => ([(0, .iface 178 (.slice (some ⟨b, o, none⟩) n c)), (4, aC s), (8, aC fb), (9, (aP big)), (10, aA ak), (11, ay 32), (12, ay 0), (13, aA au), (14, ay 40), (15, aA ah), (16, aA (ah - 1)), (26, ay 40)] : Slots)
theorem IB (l : List UInt8) (b o n c : Nat) (hl : n = l.length) (hnc : n ≤ c) (big : Bool) (abi aF aS aG aB ak aj au ah : Nat) (dat : Int) (b1 : aS < 65536) (b2 : aG < 65536) (b3 : aB ≤ 18446744073709551615) (b4 : ak < 4611686018427387904) (b5 : au < 4611686018427387904) (b6 : aj < 200) (b7 : ah < 200) (c1 : 0 < au) (c2 : 0 < ah) (c4 : ak < n) (c5 : ak + (0 * 32) ≤ n) {Q : Exit → Act → World → Prop} (w0 : World) (hbl : b < w0.heap.size) (hr : Row w0 (some ⟨b, o, none⟩) (l.map Bv)) (a : Act) (w : World) (s fb : Nat) (HF : Fr 1287 a (jg b o n c s fb big ak au ah)) (HM : Mm [] w0 w [(fb, .cells #[aK 1, .int .u8 dat, aK 1, aV abi, aV aF, (aP big), bf aS, bf aG, aJ aB, aN, aN, aN, aN, aN] 131 (0, 0)), (s, .cells #[.iface 178 (.slice (some ⟨b, o, none⟩) n c), ay 0, ay 0, ay 9223372036854775807, ay 9223372036854775807] 246 (0, 0))])
  (K : ∀ a w pg cur pd, cur.size = 0 → Fr 1287 a ((jg b o n c s fb big ak au ah) ++ [(36, aH pd (0 * 32) (0 * 32))]) → Mm [] w0 w [(pd, .cells (((l.drop ak).take (0 * 32)).map Bv).toArray 5 (0, 0)), (pg, .cells cur 136 (0, 0)), (fb, .cells #[aK 1, .int .u8 dat, aK 1, aV abi, aV aF, (aP big), bf aS, bf aG, aJ aB, aN, aH pg 0 0, aN, aN, aN] 131 (0, 0)), (s, .cells #[.iface 178 (.slice (some ⟨b, o, none⟩) n c), ay 0, ay 0, ay 9223372036854775807, ay 9223372036854775807] 246 (0, 0))] → (spine Tryd.f78 35).wp Tryd.prog Q a w) : (spine Tryd.f78 29).wp Tryd.prog Q a w := by
 refine wp_seq (wp_region_lit ?_)
 refine aO HF HM rfl 2 [] ((jg b o n c s fb big ak au ah) ++ [(547, bG 0)]) [(fb, .cells #[aK 1, .int .u8 dat, aK 1, aV abi, aV aF, (aP big), bf aS, bf aG, aJ aB, aN, aN, aN, aN, aN] 131 (0, 0)), (s, .cells #[.iface 178 (.slice (some ⟨b, o, none⟩) n c), ay 0, ay 0, ay 9223372036854775807, ay 9223372036854775807] 246 (0, 0))] (by kernel_rfl) ?_
 clear HF HM; intro a w HF HM
 refine bn HF (by kernel_rfl) 98 #[bG 8, aJ 0] (by kernel_rfl) (fun w => by kernel_rfl) (Calls.mono (uV 0 (by omega) w) ?_)
 rintro _ w1 ⟨rfl, hq⟩
 replace HM : Mm [] w0 w1 [(fb, .cells #[aK 1, .int .u8 dat, aK 1, aV abi, aV aF, (aP big), bf aS, bf aG, aJ aB, aN, aN, aN, aN, aN] 131 (0, 0)), (s, .cells #[.iface 178 (.slice (some ⟨b, o, none⟩) n c), ay 0, ay 0, ay 9223372036854775807, ay 9223372036854775807] 246 (0, 0))] := by first | (rw [hq]; exact HM) | (rw [← hq]; exact HM)
 clear hq
 refine ⟨_, rfl, ?_⟩; clear HF; intro a HF; replace HF := HF.sub ((jg b o n c s fb big ak au ah) ++ [(547, bG 0), (548, aA 0)]) (by kernel_rfl)
 refine aO HF HM rfl 1 [] ((jg b o n c s fb big ak au ah) ++ [(35, aA 0)]) [(fb, .cells #[aK 1, .int .u8 dat, aK 1, aV abi, aV aF, (aP big), bf aS, bf aG, aJ aB, aN, aN, aN, aN, aN] 131 (0, 0)), (s, .cells #[.iface 178 (.slice (some ⟨b, o, none⟩) n c), ay 0, ay 0, ay 9223372036854775807, ay 9223372036854775807] 246 (0, 0))] (by kernel_rfl) ?_
 clear HF HM; intro a w HF HM
 refine aI ?_
 refine wp_seq ?_
 refine wp_seq (wp_region_lit ?_)
 refine aO HF HM rfl 2 [] ((jg b o n c s fb big ak au ah) ++ [(35, aA 0), (550, .bool (decide (((0 : Nat) : Int) < 0)))]) [(fb, .cells #[aK 1, .int .u8 dat, aK 1, aV abi, aV aF, (aP big), bf aS, bf aG, aJ aB, aN, aN, aN, aN, aN] 131 (0, 0)), (s, .cells #[.iface 178 (.slice (some ⟨b, o, none⟩) n c), ay 0, ay 0, ay 9223372036854775807, ay 9223372036854775807] 246 (0, 0))] (by kernel_rfl) ?_
 clear HF HM; intro a w HF HM
 rw [show decide (((0 : Nat) : Int) < 0) = false from dI (by omega)] at HF
 refine aI ?_
 refine aZ HF rfl ?_
 refine wp_skip ?_
 repeat (first | refine aQ ?_ | refine aU ?_)
 replace HF := HF.sub ((jg b o n c s fb big ak au ah) ++ [(35, aA 0)]) (by kernel_rfl)
 refine wp_seq ?_
 refine wp_seq (wp_region_lit ?_)
 refine aO HF HM rfl 10 [] ((jg b o n c s fb big ak au ah) ++ [(35, aA 0), (565, .bool false)]) [(fb, .cells #[aK 1, .int .u8 dat, aK 1, aV abi, aV aF, (aP big), bf aS, bf aG, aJ aB, aN, aN, aN, aN, aN] 131 (0, 0)), (s, .cells #[.iface 178 (.slice (some ⟨b, o, none⟩) n c), ay 0, ay 0, ay 9223372036854775807, ay 9223372036854775807] 246 (0, 0))] (by kernel_rfl) ?_
 clear HF HM; intro a w HF HM
 refine aI ?_
 refine aZ HF rfl ?_
 refine wp_skip ?_
 repeat (first | refine aQ ?_ | refine aU ?_)
 replace HF := HF.sub ((jg b o n c s fb big ak au ah) ++ [(35, aA 0)]) (by kernel_rfl)
 refine wp_seq (wp_region_lit ?_)
 refine aO HF HM rfl 2 [] ((jg b o n c s fb big ak au ah) ++ [(35, aA 0), (571, aC fb), (572, aA 0)]) [(fb, .cells #[aK 1, .int .u8 dat, aK 1, aV abi, aV aF, (aP big), bf aS, bf aG, aJ aB, aN, aN, aN, aN, aN] 131 (0, 0)), (s, .cells #[.iface 178 (.slice (some ⟨b, o, none⟩) n c), ay 0, ay 0, ay 9223372036854775807, ay 9223372036854775807] 246 (0, 0))] (by kernel_rfl) ?_
 clear HF HM; intro a w HF HM
 refine nO HF HM rfl _ _ 127 rfl rfl 136 (.pointer none) 8 Tryd.underlying127 wC .i64 .i64 0 rfl rfl (by omega) (by unfold maxLen; omega) ?_
 intro a2 w2 pg cur hgw hcs bU HF2; have hg0 : w0.heap.size ≤ pg := Nat.le_trans HM.size hgw; clear HF HM hgw; have HM := bU; have HF := HF2; clear bU HF2
 replace HF := HF.sub ((jg b o n c s fb big ak au ah) ++ [(35, aA 0), (571, aC fb), (573, aH pg 0 0)]) (by kernel_rfl)
 refine aO HF HM rfl 3 [[1]] ((jg b o n c s fb big ak au ah) ++ [(35, aA 0)]) [(pg, .cells cur 136 (0, 0)), (fb, .cells #[aK 1, .int .u8 dat, aK 1, aV abi, aV aF, (aP big), bf aS, bf aG, aJ aB, aN, aH pg 0 0, aN, aN, aN] 131 (0, 0)), (s, .cells #[.iface 178 (.slice (some ⟨b, o, none⟩) n c), ay 0, ay 0, ay 9223372036854775807, ay 9223372036854775807] 246 (0, 0))] (by kernel_rfl) ?_
 clear HF HM; intro a w HF HM
 refine aI ?_
 have hbs : b ≠ s := fun e => absurd hbl (Nat.not_lt_of_le (e ▸ HM.ge (i := 2) rfl))
 have hsz : w0.heap.size ≤ w.heap.size := HM.size
 refine wp_seq (wp_region_lit ?_)
 refine aO HF HM rfl 8 [] ((jg b o n c s fb big ak au ah) ++ [(35, aA 0), (578, .iface 144 (aC s)), (583, bG 0), (584, aA ak)]) [(pg, .cells cur 136 (0, 0)), (fb, .cells #[aK 1, .int .u8 dat, aK 1, aV abi, aV aF, (aP big), bf aS, bf aG, aJ aB, aN, aH pg 0 0, aN, aN, aN] 131 (0, 0)), (s, .cells #[.iface 178 (.slice (some ⟨b, o, none⟩) n c), ay 0, ay 0, ay 9223372036854775807, ay 9223372036854775807] 246 (0, 0))] (by kernel_rfl) ?_
 clear HF HM; intro a w HF HM
 refine bn HF (by kernel_rfl) 99 #[.iface 144 (aC s), aJ (0 * 32), aA ak] (by kernel_rfl) (fun w => by kernel_rfl) (Calls.mono (ni l b o n c hl hnc s (0 * 32) 0 ak 0 9223372036854775807 9223372036854775807 (by omega) (by omega) (by omega) (by omega) (by omega) (by omega) w (HM.row hr (by intro b' o' s' _; simp)) (Nat.lt_of_lt_of_le hbl HM.size) hbs (HM.get (i := 2) rfl)) ?_)
 rintro _ w3 ⟨pd, rfl, hb, hge, hgn⟩
 replace HM : Mm [] w0 w3 [(pd, .cells (((l.drop (0 + ak)).take (0 * 32)).map Bv).toArray 5 (0, 0)), (pg, .cells cur 136 (0, 0)), (fb, .cells #[aK 1, .int .u8 dat, aK 1, aV abi, aV aF, (aP big), bf aS, bf aG, aJ aB, aN, aH pg 0 0, aN, aN, aN] 131 (0, 0)), (s, .cells #[.iface 178 (.slice (some ⟨b, o, none⟩) n c), ay 0, ay 0, ay 9223372036854775807, ay 9223372036854775807] 246 (0, 0))] := HM.push hb hge hgn
 clear hb hge hgn
 refine ⟨_, rfl, ?_⟩; clear HF; intro a HF; replace HF := HF.sub ((jg b o n c s fb big ak au ah) ++ [(35, aA 0), (578, .iface 144 (aC s)), (583, bG 0), (584, aA ak), (585, .tuple #[aH pd (0 * 32) (0 * 32), .nilIface])]) (by kernel_rfl)
 refine aO HF HM rfl 5 [] ((jg b o n c s fb big ak au ah) ++ [(35, aA 0), (36, aH pd (0 * 32) (0 * 32)), (37, .nilIface)]) [(pd, .cells (((l.drop (0 + ak)).take (0 * 32)).map Bv).toArray 5 (0, 0)), (pg, .cells cur 136 (0, 0)), (fb, .cells #[aK 1, .int .u8 dat, aK 1, aV abi, aV aF, (aP big), bf aS, bf aG, aJ aB, aN, aH pg 0 0, aN, aN, aN] 131 (0, 0)), (s, .cells #[.iface 178 (.slice (some ⟨b, o, none⟩) n c), ay 0, ay 0, ay 9223372036854775807, ay 9223372036854775807] 246 (0, 0))] (by kernel_rfl) ?_
 clear HF HM; intro a w HF HM
 refine aI ?_
 refine wp_seq ?_
 refine wp_seq (wp_region_lit ?_)
 refine aO HF HM rfl 2 [] ((jg b o n c s fb big ak au ah) ++ [(35, aA 0), (36, aH pd (0 * 32) (0 * 32)), (37, .nilIface), (589, .bool false)]) [(pd, .cells (((l.drop (0 + ak)).take (0 * 32)).map Bv).toArray 5 (0, 0)), (pg, .cells cur 136 (0, 0)), (fb, .cells #[aK 1, .int .u8 dat, aK 1, aV abi, aV aF, (aP big), bf aS, bf aG, aJ aB, aN, aH pg 0 0, aN, aN, aN] 131 (0, 0)), (s, .cells #[.iface 178 (.slice (some ⟨b, o, none⟩) n c), ay 0, ay 0, ay 9223372036854775807, ay 9223372036854775807] 246 (0, 0))] (by kernel_rfl) ?_
 clear HF HM; intro a w HF HM
 refine aI ?_
 refine aZ HF rfl ?_
 refine wp_skip ?_
 repeat (first | refine aQ ?_ | refine aU ?_)
 replace HF := HF.sub ((jg b o n c s fb big ak au ah) ++ [(36, aH pd (0 * 32) (0 * 32))]) (by kernel_rfl)
 replace HF := HF.sub ((jg b o n c s fb big ak au ah) ++ [(36, aH pd (0 * 32) (0 * 32))]) (by kernel_rfl)
 rw [Nat.zero_add] at HM
 exact K a w pg cur pd hcs HF HM

abbrev gY := fun (b : Nat) (o : Nat) (n : Nat) (c : Nat) (s : Nat) (fb : Nat) (big : Bool) (ak : Nat) (aj : Nat) (au : Nat) (ah : Nat) => ([(0, .iface 178 (.slice (some ⟨b, o, none⟩) n c)), (4, aC s), (8, aC fb), (9, (aP big)), (10, aA ak), (11, ay 32), (12, aA aj), (13, aA au), (14, ay 40), (15, aA ah), (16, aA (ah - 1)), (26, ay 40)] : Slots)
theorem Iz (l : List UInt8) (b o n c : Nat) (hl : n = l.length) (hnc : n ≤ c) (big : Bool) (abi aF aS aG aB ak aj au ah : Nat) (dat : Int) (b1 : aS < 65536) (b2 : aG < 65536) (b3 : aB ≤ 18446744073709551615) (b4 : ak < 4611686018427387904) (b5 : au < 4611686018427387904) (b6 : aj < 200) (b7 : ah < 200) (c1 : 0 < au) (c2 : 0 < ah) (c3 : 0 < aj) (c4 : ak < n) (c5 : ak + (aj * 32) ≤ n) {Q : Exit → Act → World → Prop} (w0 : World) (hbl : b < w0.heap.size) (hr : Row w0 (some ⟨b, o, none⟩) (l.map Bv)) (a : Act) (w : World) (s fb : Nat) (HF : Fr 1287 a (gY b o n c s fb big ak aj au ah)) (HM : Mm [] w0 w [(fb, .cells #[aK 1, .int .u8 dat, aK 1, aV abi, aV aF, (aP big), bf aS, bf aG, aJ aB, aN, aN, aN, aN, aN] 131 (0, 0)), (s, .cells #[.iface 178 (.slice (some ⟨b, o, none⟩) n c), ay 0, ay 0, ay 9223372036854775807, ay 9223372036854775807] 246 (0, 0))])
  (K : ∀ a w pg cur pd, cur.size = aj → Fr 1287 a ((gY b o n c s fb big ak aj au ah) ++ [(36, aH pd (aj * 32) (aj * 32))]) → Mm [] w0 w [(pd, .cells (((l.drop ak).take (aj * 32)).map Bv).toArray 5 (0, 0)), (pg, .cells cur 136 (0, 0)), (fb, .cells #[aK 1, .int .u8 dat, aK 1, aV abi, aV aF, (aP big), bf aS, bf aG, aJ aB, aN, aH pg 0 aj, aN, aN, aN] 131 (0, 0)), (s, .cells #[.iface 178 (.slice (some ⟨b, o, none⟩) n c), ay 0, ay 0, ay 9223372036854775807, ay 9223372036854775807] 246 (0, 0))] → (spine Tryd.f78 35).wp Tryd.prog Q a w) : (spine Tryd.f78 29).wp Tryd.prog Q a w := by
 refine wp_seq (wp_region_lit ?_)
 refine aO HF HM rfl 2 [] ((gY b o n c s fb big ak aj au ah) ++ [(547, bG (IntKind.u64.wrap ((aj : Nat) : Int)))]) [(fb, .cells #[aK 1, .int .u8 dat, aK 1, aV abi, aV aF, (aP big), bf aS, bf aG, aJ aB, aN, aN, aN, aN, aN] 131 (0, 0)), (s, .cells #[.iface 178 (.slice (some ⟨b, o, none⟩) n c), ay 0, ay 0, ay 9223372036854775807, ay 9223372036854775807] 246 (0, 0))] (by kernel_rfl) ?_
 clear HF HM; intro a w HF HM
 rw [show IntKind.u64.wrap ((aj : Nat) : Int) = ((aj : Nat) : Int) from IntWalk.u64_in _ (by omega)] at HF
 refine bn HF (by kernel_rfl) 98 #[bG 8, aJ aj] (by kernel_rfl) (fun w => by kernel_rfl) (Calls.mono (uV aj (by omega) w) ?_)
 rintro _ w1 ⟨rfl, hq⟩
 replace HM : Mm [] w0 w1 [(fb, .cells #[aK 1, .int .u8 dat, aK 1, aV abi, aV aF, (aP big), bf aS, bf aG, aJ aB, aN, aN, aN, aN, aN] 131 (0, 0)), (s, .cells #[.iface 178 (.slice (some ⟨b, o, none⟩) n c), ay 0, ay 0, ay 9223372036854775807, ay 9223372036854775807] 246 (0, 0))] := by first | (rw [hq]; exact HM) | (rw [← hq]; exact HM)
 clear hq
 refine ⟨_, rfl, ?_⟩; clear HF; intro a HF; replace HF := HF.sub ((gY b o n c s fb big ak aj au ah) ++ [(547, aJ aj), (548, aA aj)]) (by kernel_rfl)
 refine aO HF HM rfl 1 [] ((gY b o n c s fb big ak aj au ah) ++ [(35, aA aj)]) [(fb, .cells #[aK 1, .int .u8 dat, aK 1, aV abi, aV aF, (aP big), bf aS, bf aG, aJ aB, aN, aN, aN, aN, aN] 131 (0, 0)), (s, .cells #[.iface 178 (.slice (some ⟨b, o, none⟩) n c), ay 0, ay 0, ay 9223372036854775807, ay 9223372036854775807] 246 (0, 0))] (by kernel_rfl) ?_
 clear HF HM; intro a w HF HM
 refine aI ?_
 refine wp_seq ?_
 refine wp_seq (wp_region_lit ?_)
 refine aO HF HM rfl 2 [] ((gY b o n c s fb big ak aj au ah) ++ [(35, aA aj), (550, .bool (decide (((aj : Nat) : Int) < 0)))]) [(fb, .cells #[aK 1, .int .u8 dat, aK 1, aV abi, aV aF, (aP big), bf aS, bf aG, aJ aB, aN, aN, aN, aN, aN] 131 (0, 0)), (s, .cells #[.iface 178 (.slice (some ⟨b, o, none⟩) n c), ay 0, ay 0, ay 9223372036854775807, ay 9223372036854775807] 246 (0, 0))] (by kernel_rfl) ?_
 clear HF HM; intro a w HF HM
 rw [show decide (((aj : Nat) : Int) < 0) = false from dI (by omega)] at HF
 refine aI ?_
 refine aZ HF rfl ?_
 refine wp_skip ?_
 repeat (first | refine aQ ?_ | refine aU ?_)
 replace HF := HF.sub ((gY b o n c s fb big ak aj au ah) ++ [(35, aA aj)]) (by kernel_rfl)
 refine wp_seq ?_
 refine wp_seq (wp_region_lit ?_)
 refine aO HF HM rfl 2 [] ((gY b o n c s fb big ak aj au ah) ++ [(35, aA aj), (557, .bool (decide (0 < ((aj : Nat) : Int))))]) [(fb, .cells #[aK 1, .int .u8 dat, aK 1, aV abi, aV aF, (aP big), bf aS, bf aG, aJ aB, aN, aN, aN, aN, aN] 131 (0, 0)), (s, .cells #[.iface 178 (.slice (some ⟨b, o, none⟩) n c), ay 0, ay 0, ay 9223372036854775807, ay 9223372036854775807] 246 (0, 0))] (by kernel_rfl) ?_
 clear HF HM; intro a w HF HM
 rw [show decide (0 < ((aj : Nat) : Int)) = true from fC (by omega)] at HF
 refine aO HF HM rfl 3 [] ((gY b o n c s fb big ak aj au ah) ++ [(35, aA aj), (557, .bool true), (558, .bool true), (560, bG (IntKind.u64.wrap ((aj : Nat) : Int)))]) [(fb, .cells #[aK 1, .int .u8 dat, aK 1, aV abi, aV aF, (aP big), bf aS, bf aG, aJ aB, aN, aN, aN, aN, aN] 131 (0, 0)), (s, .cells #[.iface 178 (.slice (some ⟨b, o, none⟩) n c), ay 0, ay 0, ay 9223372036854775807, ay 9223372036854775807] 246 (0, 0))] (by kernel_rfl) ?_
 clear HF HM; intro a w HF HM
 rw [show IntKind.u64.wrap ((aj : Nat) : Int) = ((aj : Nat) : Int) from IntWalk.u64_in _ (by omega)] at HF
 refine eY HF (by kernel_rfl) (bG (IntKind.u64.wrap ((18446744073709551615 : Int).tdiv ((aj : Nat) : Int)))) (by kernel_rfl) (BP rfl rfl rfl (by omega)) ?_
 clear HF; intro a HF; replace HF := HF.sub [(0, .iface 178 (.slice (some ⟨b, o, none⟩) n c)), (4, aC s), (8, aC fb), (9, (aP big)), (10, aA ak), (11, ay 32), (12, aA aj), (13, aA au), (14, ay 40), (15, aA ah), (16, aA (ah - 1)), (26, ay 40), (35, aA aj), (557, .bool true), (558, .bool true), (560, aJ aj), (561, bG (IntKind.u64.wrap ((18446744073709551615 : Int).tdiv ((aj : Nat) : Int))))] (by kernel_rfl)
 have hq := Cb aj c3 b6
 rw [IntWalk.u64_in ((18446744073709551615 : Int).tdiv ((aj : Nat) : Int)) (by omega)] at HF
 refine aO HF HM rfl 3 [] ((gY b o n c s fb big ak aj au ah) ++ [(35, aA aj), (557, .bool true), (558, .bool true), (564, .bool (decide (((18446744073709551615 : Int).tdiv ((aj : Nat) : Int)) < 32)))]) [(fb, .cells #[aK 1, .int .u8 dat, aK 1, aV abi, aV aF, (aP big), bf aS, bf aG, aJ aB, aN, aN, aN, aN, aN] 131 (0, 0)), (s, .cells #[.iface 178 (.slice (some ⟨b, o, none⟩) n c), ay 0, ay 0, ay 9223372036854775807, ay 9223372036854775807] 246 (0, 0))] (by kernel_rfl) ?_
 clear HF HM; intro a w HF HM
 rw [show decide (((18446744073709551615 : Int).tdiv ((aj : Nat) : Int)) < 32) = false from dI (by omega)] at HF
 refine aO HF HM rfl 1 [] ((gY b o n c s fb big ak aj au ah) ++ [(35, aA aj), (565, .bool false)]) [(fb, .cells #[aK 1, .int .u8 dat, aK 1, aV abi, aV aF, (aP big), bf aS, bf aG, aJ aB, aN, aN, aN, aN, aN] 131 (0, 0)), (s, .cells #[.iface 178 (.slice (some ⟨b, o, none⟩) n c), ay 0, ay 0, ay 9223372036854775807, ay 9223372036854775807] 246 (0, 0))] (by kernel_rfl) ?_
 clear HF HM; intro a w HF HM
 refine aI ?_
 refine aZ HF rfl ?_
 refine wp_skip ?_
 repeat (first | refine aQ ?_ | refine aU ?_)
 replace HF := HF.sub ((gY b o n c s fb big ak aj au ah) ++ [(35, aA aj)]) (by kernel_rfl)
 refine wp_seq (wp_region_lit ?_)
 refine aO HF HM rfl 2 [] ((gY b o n c s fb big ak aj au ah) ++ [(35, aA aj), (571, aC fb), (572, aA aj)]) [(fb, .cells #[aK 1, .int .u8 dat, aK 1, aV abi, aV aF, (aP big), bf aS, bf aG, aJ aB, aN, aN, aN, aN, aN] 131 (0, 0)), (s, .cells #[.iface 178 (.slice (some ⟨b, o, none⟩) n c), ay 0, ay 0, ay 9223372036854775807, ay 9223372036854775807] 246 (0, 0))] (by kernel_rfl) ?_
 clear HF HM; intro a w HF HM
 refine nO HF HM rfl _ _ 127 rfl rfl 136 (.pointer none) 8 Tryd.underlying127 wC .i64 .i64 aj rfl rfl (by omega) (by unfold maxLen; omega) ?_
 intro a2 w2 pg cur hgw hcs bU HF2; have hg0 : w0.heap.size ≤ pg := Nat.le_trans HM.size hgw; clear HF HM hgw; have HM := bU; have HF := HF2; clear bU HF2
 replace HF := HF.sub ((gY b o n c s fb big ak aj au ah) ++ [(35, aA aj), (571, aC fb), (573, aH pg 0 aj)]) (by kernel_rfl)
 refine aO HF HM rfl 3 [[1]] ((gY b o n c s fb big ak aj au ah) ++ [(35, aA aj)]) [(pg, .cells cur 136 (0, 0)), (fb, .cells #[aK 1, .int .u8 dat, aK 1, aV abi, aV aF, (aP big), bf aS, bf aG, aJ aB, aN, aH pg 0 aj, aN, aN, aN] 131 (0, 0)), (s, .cells #[.iface 178 (.slice (some ⟨b, o, none⟩) n c), ay 0, ay 0, ay 9223372036854775807, ay 9223372036854775807] 246 (0, 0))] (by kernel_rfl) ?_
 clear HF HM; intro a w HF HM
 refine aI ?_
 have hbs : b ≠ s := fun e => absurd hbl (Nat.not_lt_of_le (e ▸ HM.ge (i := 2) rfl))
 have hsz : w0.heap.size ≤ w.heap.size := HM.size
 refine wp_seq (wp_region_lit ?_)
 refine aO HF HM rfl 4 [] ((gY b o n c s fb big ak aj au ah) ++ [(35, aA aj), (578, .iface 144 (aC s)), (580, bG (IntKind.u64.wrap ((aj : Nat) : Int)))]) [(pg, .cells cur 136 (0, 0)), (fb, .cells #[aK 1, .int .u8 dat, aK 1, aV abi, aV aF, (aP big), bf aS, bf aG, aJ aB, aN, aH pg 0 aj, aN, aN, aN] 131 (0, 0)), (s, .cells #[.iface 178 (.slice (some ⟨b, o, none⟩) n c), ay 0, ay 0, ay 9223372036854775807, ay 9223372036854775807] 246 (0, 0))] (by kernel_rfl) ?_
 clear HF HM; intro a w HF HM
 rw [show IntKind.u64.wrap ((aj : Nat) : Int) = ((aj : Nat) : Int) from IntWalk.u64_in _ (by omega)] at HF
 refine aO HF HM rfl 3 [] ((gY b o n c s fb big ak aj au ah) ++ [(35, aA aj), (578, .iface 144 (aC s)), (583, bG (IntKind.u64.wrap (((aj : Nat) : Int) * 32)))]) [(pg, .cells cur 136 (0, 0)), (fb, .cells #[aK 1, .int .u8 dat, aK 1, aV abi, aV aF, (aP big), bf aS, bf aG, aJ aB, aN, aH pg 0 aj, aN, aN, aN] 131 (0, 0)), (s, .cells #[.iface 178 (.slice (some ⟨b, o, none⟩) n c), ay 0, ay 0, ay 9223372036854775807, ay 9223372036854775807] 246 (0, 0))] (by kernel_rfl) ?_
 clear HF HM; intro a w HF HM
 rw [show IntKind.u64.wrap (((aj : Nat) : Int) * 32) = (((aj * 32) : Nat) : Int) from (IntWalk.u64_in _ (by omega)).trans (by omega)] at HF
 refine aO HF HM rfl 1 [] ((gY b o n c s fb big ak aj au ah) ++ [(35, aA aj), (578, .iface 144 (aC s)), (583, aJ (aj * 32)), (584, aA ak)]) [(pg, .cells cur 136 (0, 0)), (fb, .cells #[aK 1, .int .u8 dat, aK 1, aV abi, aV aF, (aP big), bf aS, bf aG, aJ aB, aN, aH pg 0 aj, aN, aN, aN] 131 (0, 0)), (s, .cells #[.iface 178 (.slice (some ⟨b, o, none⟩) n c), ay 0, ay 0, ay 9223372036854775807, ay 9223372036854775807] 246 (0, 0))] (by kernel_rfl) ?_
 clear HF HM; intro a w HF HM
 refine bn HF (by kernel_rfl) 99 #[.iface 144 (aC s), aJ (aj * 32), aA ak] (by kernel_rfl) (fun w => by kernel_rfl) (Calls.mono (ni l b o n c hl hnc s (aj * 32) 0 ak 0 9223372036854775807 9223372036854775807 (by omega) (by omega) (by omega) (by omega) (by omega) (by omega) w (HM.row hr (by intro b' o' s' _; simp)) (Nat.lt_of_lt_of_le hbl HM.size) hbs (HM.get (i := 2) rfl)) ?_)
 rintro _ w3 ⟨pd, rfl, hb, hge, hgn⟩
 replace HM : Mm [] w0 w3 [(pd, .cells (((l.drop (0 + ak)).take (aj * 32)).map Bv).toArray 5 (0, 0)), (pg, .cells cur 136 (0, 0)), (fb, .cells #[aK 1, .int .u8 dat, aK 1, aV abi, aV aF, (aP big), bf aS, bf aG, aJ aB, aN, aH pg 0 aj, aN, aN, aN] 131 (0, 0)), (s, .cells #[.iface 178 (.slice (some ⟨b, o, none⟩) n c), ay 0, ay 0, ay 9223372036854775807, ay 9223372036854775807] 246 (0, 0))] := HM.push hb hge hgn
 clear hb hge hgn
 refine ⟨_, rfl, ?_⟩; clear HF; intro a HF; replace HF := HF.sub ((gY b o n c s fb big ak aj au ah) ++ [(35, aA aj), (578, .iface 144 (aC s)), (583, aJ (aj * 32)), (584, aA ak), (585, .tuple #[aH pd (aj * 32) (aj * 32), .nilIface])]) (by kernel_rfl)
 refine aO HF HM rfl 5 [] ((gY b o n c s fb big ak aj au ah) ++ [(35, aA aj), (36, aH pd (aj * 32) (aj * 32)), (37, .nilIface)]) [(pd, .cells (((l.drop (0 + ak)).take (aj * 32)).map Bv).toArray 5 (0, 0)), (pg, .cells cur 136 (0, 0)), (fb, .cells #[aK 1, .int .u8 dat, aK 1, aV abi, aV aF, (aP big), bf aS, bf aG, aJ aB, aN, aH pg 0 aj, aN, aN, aN] 131 (0, 0)), (s, .cells #[.iface 178 (.slice (some ⟨b, o, none⟩) n c), ay 0, ay 0, ay 9223372036854775807, ay 9223372036854775807] 246 (0, 0))] (by kernel_rfl) ?_
 clear HF HM; intro a w HF HM
 refine aI ?_
 refine wp_seq ?_
 refine wp_seq (wp_region_lit ?_)
 refine aO HF HM rfl 2 [] ((gY b o n c s fb big ak aj au ah) ++ [(35, aA aj), (36, aH pd (aj * 32) (aj * 32)), (37, .nilIface), (589, .bool false)]) [(pd, .cells (((l.drop (0 + ak)).take (aj * 32)).map Bv).toArray 5 (0, 0)), (pg, .cells cur 136 (0, 0)), (fb, .cells #[aK 1, .int .u8 dat, aK 1, aV abi, aV aF, (aP big), bf aS, bf aG, aJ aB, aN, aH pg 0 aj, aN, aN, aN] 131 (0, 0)), (s, .cells #[.iface 178 (.slice (some ⟨b, o, none⟩) n c), ay 0, ay 0, ay 9223372036854775807, ay 9223372036854775807] 246 (0, 0))] (by kernel_rfl) ?_
 clear HF HM; intro a w HF HM
 refine aI ?_
 refine aZ HF rfl ?_
 refine wp_skip ?_
 repeat (first | refine aQ ?_ | refine aU ?_)
 replace HF := HF.sub ((gY b o n c s fb big ak aj au ah) ++ [(36, aH pd (aj * 32) (aj * 32))]) (by kernel_rfl)
 replace HF := HF.sub ((gY b o n c s fb big ak aj au ah) ++ [(36, aH pd (aj * 32) (aj * 32))]) (by kernel_rfl)
 rw [Nat.zero_add] at HM
 exact K a w pg cur pd hcs HF HM

abbrev jf := fun (b : Nat) (o : Nat) (n : Nat) (c : Nat) (s : Nat) (fb : Nat) (big : Bool) (ak : Nat) (au : Nat) (ah : Nat) => ([(0, .iface 178 (.slice (some ⟨b, o, none⟩) n c)), (4, aC s), (8, aC fb), (9, (aP big)), (10, aA ak), (11, ay 56), (12, ay 0), (13, aA au), (14, ay 64), (15, aA ah), (16, aA (ah - 1)), (26, ay 64)] : Slots)
theorem Iy (l : List UInt8) (b o n c : Nat) (hl : n = l.length) (hnc : n ≤ c) (big : Bool) (abi aF aS aG aB ak aj au ah : Nat) (dat : Int) (b1 : aS < 65536) (b2 : aG < 65536) (b3 : aB ≤ 18446744073709551615) (b4 : ak < 4611686018427387904) (b5 : au < 4611686018427387904) (b6 : aj < 200) (b7 : ah < 200) (c1 : 0 < au) (c2 : 0 < ah) (c4 : ak < n) (c5 : ak + (0 * 56) ≤ n) {Q : Exit → Act → World → Prop} (w0 : World) (hbl : b < w0.heap.size) (hr : Row w0 (some ⟨b, o, none⟩) (l.map Bv)) (a : Act) (w : World) (s fb : Nat) (HF : Fr 1287 a (jf b o n c s fb big ak au ah)) (HM : Mm [] w0 w [(fb, .cells #[aK 2, .int .u8 dat, aK 1, aV abi, aV aF, (aP big), bf aS, bf aG, aJ aB, aN, aN, aN, aN, aN] 131 (0, 0)), (s, .cells #[.iface 178 (.slice (some ⟨b, o, none⟩) n c), ay 0, ay 0, ay 9223372036854775807, ay 9223372036854775807] 246 (0, 0))])
  (K : ∀ a w pg cur pd, cur.size = 0 → Fr 1287 a ((jf b o n c s fb big ak au ah) ++ [(36, aH pd (0 * 56) (0 * 56))]) → Mm [] w0 w [(pd, .cells (((l.drop ak).take (0 * 56)).map Bv).toArray 5 (0, 0)), (pg, .cells cur 136 (0, 0)), (fb, .cells #[aK 2, .int .u8 dat, aK 1, aV abi, aV aF, (aP big), bf aS, bf aG, aJ aB, aN, aH pg 0 0, aN, aN, aN] 131 (0, 0)), (s, .cells #[.iface 178 (.slice (some ⟨b, o, none⟩) n c), ay 0, ay 0, ay 9223372036854775807, ay 9223372036854775807] 246 (0, 0))] → (spine Tryd.f78 35).wp Tryd.prog Q a w) : (spine Tryd.f78 29).wp Tryd.prog Q a w := by
 refine wp_seq (wp_region_lit ?_)
 refine aO HF HM rfl 2 [] ((jf b o n c s fb big ak au ah) ++ [(547, bG 0)]) [(fb, .cells #[aK 2, .int .u8 dat, aK 1, aV abi, aV aF, (aP big), bf aS, bf aG, aJ aB, aN, aN, aN, aN, aN] 131 (0, 0)), (s, .cells #[.iface 178 (.slice (some ⟨b, o, none⟩) n c), ay 0, ay 0, ay 9223372036854775807, ay 9223372036854775807] 246 (0, 0))] (by kernel_rfl) ?_
 clear HF HM; intro a w HF HM
 refine bn HF (by kernel_rfl) 98 #[bG 8, aJ 0] (by kernel_rfl) (fun w => by kernel_rfl) (Calls.mono (uV 0 (by omega) w) ?_)
 rintro _ w1 ⟨rfl, hq⟩
 replace HM : Mm [] w0 w1 [(fb, .cells #[aK 2, .int .u8 dat, aK 1, aV abi, aV aF, (aP big), bf aS, bf aG, aJ aB, aN, aN, aN, aN, aN] 131 (0, 0)), (s, .cells #[.iface 178 (.slice (some ⟨b, o, none⟩) n c), ay 0, ay 0, ay 9223372036854775807, ay 9223372036854775807] 246 (0, 0))] := by first | (rw [hq]; exact HM) | (rw [← hq]; exact HM)
 clear hq
 refine ⟨_, rfl, ?_⟩; clear HF; intro a HF; replace HF := HF.sub ((jf b o n c s fb big ak au ah) ++ [(547, bG 0), (548, aA 0)]) (by kernel_rfl)
 refine aO HF HM rfl 1 [] ((jf b o n c s fb big ak au ah) ++ [(35, aA 0)]) [(fb, .cells #[aK 2, .int .u8 dat, aK 1, aV abi, aV aF, (aP big), bf aS, bf aG, aJ aB, aN, aN, aN, aN, aN] 131 (0, 0)), (s, .cells #[.iface 178 (.slice (some ⟨b, o, none⟩) n c), ay 0, ay 0, ay 9223372036854775807, ay 9223372036854775807] 246 (0, 0))] (by kernel_rfl) ?_
 clear HF HM; intro a w HF HM
 refine aI ?_
 refine wp_seq ?_
 refine wp_seq (wp_region_lit ?_)
 refine aO HF HM rfl 2 [] ((jf b o n c s fb big ak au ah) ++ [(35, aA 0), (550, .bool (decide (((0 : Nat) : Int) < 0)))]) [(fb, .cells #[aK 2, .int .u8 dat, aK 1, aV abi, aV aF, (aP big), bf aS, bf aG, aJ aB, aN, aN, aN, aN, aN] 131 (0, 0)), (s, .cells #[.iface 178 (.slice (some ⟨b, o, none⟩) n c), ay 0, ay 0, ay 9223372036854775807, ay 9223372036854775807] 246 (0, 0))] (by kernel_rfl) ?_
 clear HF HM; intro a w HF HM
 rw [show decide (((0 : Nat) : Int) < 0) = false from dI (by omega)] at HF
 refine aI ?_
 refine aZ HF rfl ?_
 refine wp_skip ?_
 repeat (first | refine aQ ?_ | refine aU ?_)
 replace HF := HF.sub ((jf b o n c s fb big ak au ah) ++ [(35, aA 0)]) (by kernel_rfl)
 refine wp_seq ?_
 refine wp_seq (wp_region_lit ?_)
 refine aO HF HM rfl 10 [] ((jf b o n c s fb big ak au ah) ++ [(35, aA 0), (565, .bool false)]) [(fb, .cells #[aK 2, .int .u8 dat, aK 1, aV abi, aV aF, (aP big), bf aS, bf aG, aJ aB, aN, aN, aN, aN, aN] 131 (0, 0)), (s, .cells #[.iface 178 (.slice (some ⟨b, o, none⟩) n c), ay 0, ay 0, ay 9223372036854775807, ay 9223372036854775807] 246 (0, 0))] (by kernel_rfl) ?_
 clear HF HM; intro a w HF HM
 refine aI ?_
 refine aZ HF rfl ?_
 refine wp_skip ?_
 repeat (first | refine aQ ?_ | refine aU ?_)
 replace HF := HF.sub ((jf b o n c s fb big ak au ah) ++ [(35, aA 0)]) (by kernel_rfl)
 refine wp_seq (wp_region_lit ?_)
 refine aO HF HM rfl 2 [] ((jf b o n c s fb big ak au ah) ++ [(35, aA 0), (571, aC fb), (572, aA 0)]) [(fb, .cells #[aK 2, .int .u8 dat, aK 1, aV abi, aV aF, (aP big), bf aS, bf aG, aJ aB, aN, aN, aN, aN, aN] 131 (0, 0)), (s, .cells #[.iface 178 (.slice (some ⟨b, o, none⟩) n c), ay 0, ay 0, ay 9223372036854775807, ay 9223372036854775807] 246 (0, 0))] (by kernel_rfl) ?_
 clear HF HM; intro a w HF HM
 refine nO HF HM rfl _ _ 127 rfl rfl 136 (.pointer none) 8 Tryd.underlying127 wC .i64 .i64 0 rfl rfl (by omega) (by unfold maxLen; omega) ?_
 intro a2 w2 pg cur hgw hcs bU HF2; have hg0 : w0.heap.size ≤ pg := Nat.le_trans HM.size hgw; clear HF HM hgw; have HM := bU; have HF := HF2; clear bU HF2
 replace HF := HF.sub ((jf b o n c s fb big ak au ah) ++ [(35, aA 0), (571, aC fb), (573, aH pg 0 0)]) (by kernel_rfl)
 refine aO HF HM rfl 3 [[1]] ((jf b o n c s fb big ak au ah) ++ [(35, aA 0)]) [(pg, .cells cur 136 (0, 0)), (fb, .cells #[aK 2, .int .u8 dat, aK 1, aV abi, aV aF, (aP big), bf aS, bf aG, aJ aB, aN, aH pg 0 0, aN, aN, aN] 131 (0, 0)), (s, .cells #[.iface 178 (.slice (some ⟨b, o, none⟩) n c), ay 0, ay 0, ay 9223372036854775807, ay 9223372036854775807] 246 (0, 0))] (by kernel_rfl) ?_
 clear HF HM; intro a w HF HM
 refine aI ?_
 have hbs : b ≠ s := fun e => absurd hbl (Nat.not_lt_of_le (e ▸ HM.ge (i := 2) rfl))
 have hsz : w0.heap.size ≤ w.heap.size := HM.size
 refine wp_seq (wp_region_lit ?_)
 refine aO HF HM rfl 8 [] ((jf b o n c s fb big ak au ah) ++ [(35, aA 0), (578, .iface 144 (aC s)), (583, bG 0), (584, aA ak)]) [(pg, .cells cur 136 (0, 0)), (fb, .cells #[aK 2, .int .u8 dat, aK 1, aV abi, aV aF, (aP big), bf aS, bf aG, aJ aB, aN, aH pg 0 0, aN, aN, aN] 131 (0, 0)), (s, .cells #[.iface 178 (.slice (some ⟨b, o, none⟩) n c), ay 0, ay 0, ay 9223372036854775807, ay 9223372036854775807] 246 (0, 0))] (by kernel_rfl) ?_
 clear HF HM; intro a w HF HM
 refine bn HF (by kernel_rfl) 99 #[.iface 144 (aC s), aJ (0 * 56), aA ak] (by kernel_rfl) (fun w => by kernel_rfl) (Calls.mono (ni l b o n c hl hnc s (0 * 56) 0 ak 0 9223372036854775807 9223372036854775807 (by omega) (by omega) (by omega) (by omega) (by omega) (by omega) w (HM.row hr (by intro b' o' s' _; simp)) (Nat.lt_of_lt_of_le hbl HM.size) hbs (HM.get (i := 2) rfl)) ?_)
 rintro _ w3 ⟨pd, rfl, hb, hge, hgn⟩
 replace HM : Mm [] w0 w3 [(pd, .cells (((l.drop (0 + ak)).take (0 * 56)).map Bv).toArray 5 (0, 0)), (pg, .cells cur 136 (0, 0)), (fb, .cells #[aK 2, .int .u8 dat, aK 1, aV abi, aV aF, (aP big), bf aS, bf aG, aJ aB, aN, aH pg 0 0, aN, aN, aN] 131 (0, 0)), (s, .cells #[.iface 178 (.slice (some ⟨b, o, none⟩) n c), ay 0, ay 0, ay 9223372036854775807, ay 9223372036854775807] 246 (0, 0))] := HM.push hb hge hgn
 clear hb hge hgn
 refine ⟨_, rfl, ?_⟩; clear HF; intro a HF; replace HF := HF.sub ((jf b o n c s fb big ak au ah) ++ [(35, aA 0), (578, .iface 144 (aC s)), (583, bG 0), (584, aA ak), (585, .tuple #[aH pd (0 * 56) (0 * 56), .nilIface])]) (by kernel_rfl)
 refine aO HF HM rfl 5 [] ((jf b o n c s fb big ak au ah) ++ [(35, aA 0), (36, aH pd (0 * 56) (0 * 56)), (37, .nilIface)]) [(pd, .cells (((l.drop (0 + ak)).take (0 * 56)).map Bv).toArray 5 (0, 0)), (pg, .cells cur 136 (0, 0)), (fb, .cells #[aK 2, .int .u8 dat, aK 1, aV abi, aV aF, (aP big), bf aS, bf aG, aJ aB, aN, aH pg 0 0, aN, aN, aN] 131 (0, 0)), (s, .cells #[.iface 178 (.slice (some ⟨b, o, none⟩) n c), ay 0, ay 0, ay 9223372036854775807, ay 9223372036854775807] 246 (0, 0))] (by kernel_rfl) ?_
 clear HF HM; intro a w HF HM
 refine aI ?_
 refine wp_seq ?_
 refine wp_seq (wp_region_lit ?_)
 refine aO HF HM rfl 2 [] ((jf b o n c s fb big ak au ah) ++ [(35, aA 0), (36, aH pd (0 * 56) (0 * 56)), (37, .nilIface), (589, .bool false)]) [(pd, .cells (((l.drop (0 + ak)).take (0 * 56)).map Bv).toArray 5 (0, 0)), (pg, .cells cur 136 (0, 0)), (fb, .cells #[aK 2, .int .u8 dat, aK 1, aV abi, aV aF, (aP big), bf aS, bf aG, aJ aB, aN, aH pg 0 0, aN, aN, aN] 131 (0, 0)), (s, .cells #[.iface 178 (.slice (some ⟨b, o, none⟩) n c), ay 0, ay 0, ay 9223372036854775807, ay 9223372036854775807] 246 (0, 0))] (by kernel_rfl) ?_
 clear HF HM; intro a w HF HM
 refine aI ?_
 refine aZ HF rfl ?_
 refine wp_skip ?_
 repeat (first | refine aQ ?_ | refine aU ?_)
 replace HF := HF.sub ((jf b o n c s fb big ak au ah) ++ [(36, aH pd (0 * 56) (0 * 56))]) (by kernel_rfl)
 replace HF := HF.sub ((jf b o n c s fb big ak au ah) ++ [(36, aH pd (0 * 56) (0 * 56))]) (by kernel_rfl)
 rw [Nat.zero_add] at HM
 exact K a w pg cur pd hcs HF HM

abbrev gX := fun (b : Nat) (o : Nat) (n : Nat) (c : Nat) (s : Nat) (fb : Nat) (big : Bool) (ak : Nat) (aj : Nat) (au : Nat) (ah : Nat) => ([(0, .iface 178 (.slice (some ⟨b, o, none⟩) n c)), (4, aC s), (8, aC fb), (9, (aP big)), (10, aA ak), (11, ay 56), (12, aA aj), (13, aA au), (14, ay 64), (15, aA ah), (16, aA (ah - 1)), (26, ay 64)] : Slots)
theorem Iw (l : List UInt8) (b o n c : Nat) (hl : n = l.length) (hnc : n ≤ c) (big : Bool) (abi aF aS aG aB ak aj au ah : Nat) (dat : Int) (b1 : aS < 65536) (b2 : aG < 65536) (b3 : aB ≤ 18446744073709551615) (b4 : ak < 4611686018427387904) (b5 : au < 4611686018427387904) (b6 : aj < 200) (b7 : ah < 200) (c1 : 0 < au) (c2 : 0 < ah) (c3 : 0 < aj) (c4 : ak < n) (c5 : ak + (aj * 56) ≤ n) {Q : Exit → Act → World → Prop} (w0 : World) (hbl : b < w0.heap.size) (hr : Row w0 (some ⟨b, o, none⟩) (l.map Bv)) (a : Act) (w : World) (s fb : Nat) (HF : Fr 1287 a (gX b o n c s fb big ak aj au ah)) (HM : Mm [] w0 w [(fb, .cells #[aK 2, .int .u8 dat, aK 1, aV abi, aV aF, (aP big), bf aS, bf aG, aJ aB, aN, aN, aN, aN, aN] 131 (0, 0)), (s, .cells #[.iface 178 (.slice (some ⟨b, o, none⟩) n c), ay 0, ay 0, ay 9223372036854775807, ay 9223372036854775807] 246 (0, 0))])
  (K : ∀ a w pg cur pd, cur.size = aj → Fr 1287 a ((gX b o n c s fb big ak aj au ah) ++ [(36, aH pd (aj * 56) (aj * 56))]) → Mm [] w0 w [(pd, .cells (((l.drop ak).take (aj * 56)).map Bv).toArray 5 (0, 0)), (pg, .cells cur 136 (0, 0)), (fb, .cells #[aK 2, .int .u8 dat, aK 1, aV abi, aV aF, (aP big), bf aS, bf aG, aJ aB, aN, aH pg 0 aj, aN, aN, aN] 131 (0, 0)), (s, .cells #[.iface 178 (.slice (some ⟨b, o, none⟩) n c), ay 0, ay 0, ay 9223372036854775807, ay 9223372036854775807] 246 (0, 0))] → (spine Tryd.f78 35).wp Tryd.prog Q a w) : (spine Tryd.f78 29).wp Tryd.prog Q a w := by
 refine wp_seq (wp_region_lit ?_)
 refine aO HF HM rfl 2 [] ((gX b o n c s fb big ak aj au ah) ++ [(547, bG (IntKind.u64.wrap ((aj : Nat) : Int)))]) [(fb, .cells #[aK 2, .int .u8 dat, aK 1, aV abi, aV aF, (aP big), bf aS, bf aG, aJ aB, aN, aN, aN, aN, aN] 131 (0, 0)), (s, .cells #[.iface 178 (.slice (some ⟨b, o, none⟩) n c), ay 0, ay 0, ay 9223372036854775807, ay 9223372036854775807] 246 (0, 0))] (by kernel_rfl) ?_
 clear HF HM; intro a w HF HM
 rw [show IntKind.u64.wrap ((aj : Nat) : Int) = ((aj : Nat) : Int) from IntWalk.u64_in _ (by omega)] at HF
 refine bn HF (by kernel_rfl) 98 #[bG 8, aJ aj] (by kernel_rfl) (fun w => by kernel_rfl) (Calls.mono (uV aj (by omega) w) ?_)
 rintro _ w1 ⟨rfl, hq⟩
 replace HM : Mm [] w0 w1 [(fb, .cells #[aK 2, .int .u8 dat, aK 1, aV abi, aV aF, (aP big), bf aS, bf aG, aJ aB, aN, aN, aN, aN, aN] 131 (0, 0)), (s, .cells #[.iface 178 (.slice (some ⟨b, o, none⟩) n c), ay 0, ay 0, ay 9223372036854775807, ay 9223372036854775807] 246 (0, 0))] := by first | (rw [hq]; exact HM) | (rw [← hq]; exact HM)
 clear hq
 refine ⟨_, rfl, ?_⟩; clear HF; intro a HF; replace HF := HF.sub ((gX b o n c s fb big ak aj au ah) ++ [(547, aJ aj), (548, aA aj)]) (by kernel_rfl)
 refine aO HF HM rfl 1 [] ((gX b o n c s fb big ak aj au ah) ++ [(35, aA aj)]) [(fb, .cells #[aK 2, .int .u8 dat, aK 1, aV abi, aV aF, (aP big), bf aS, bf aG, aJ aB, aN, aN, aN, aN, aN] 131 (0, 0)), (s, .cells #[.iface 178 (.slice (some ⟨b, o, none⟩) n c), ay 0, ay 0, ay 9223372036854775807, ay 9223372036854775807] 246 (0, 0))] (by kernel_rfl) ?_
 clear HF HM; intro a w HF HM
 refine aI ?_
 refine wp_seq ?_
 refine wp_seq (wp_region_lit ?_)
 refine aO HF HM rfl 2 [] ((gX b o n c s fb big ak aj au ah) ++ [(35, aA aj), (550, .bool (decide (((aj : Nat) : Int) < 0)))]) [(fb, .cells #[aK 2, .int .u8 dat, aK 1, aV abi, aV aF, (aP big), bf aS, bf aG, aJ aB, aN, aN, aN, aN, aN] 131 (0, 0)), (s, .cells #[.iface 178 (.slice (some ⟨b, o, none⟩) n c), ay 0, ay 0, ay 9223372036854775807, ay 9223372036854775807] 246 (0, 0))] (by kernel_rfl) ?_
 clear HF HM; intro a w HF HM
 rw [show decide (((aj : Nat) : Int) < 0) = false from dI (by omega)] at HF
 refine aI ?_
 refine aZ HF rfl ?_
 refine wp_skip ?_
 repeat (first | refine aQ ?_ | refine aU ?_)
 replace HF := HF.sub ((gX b o n c s fb big ak aj au ah) ++ [(35, aA aj)]) (by kernel_rfl)
 refine wp_seq ?_
 refine wp_seq (wp_region_lit ?_)
 refine aO HF HM rfl 2 [] ((gX b o n c s fb big ak aj au ah) ++ [(35, aA aj), (557, .bool (decide (0 < ((aj : Nat) : Int))))]) [(fb, .cells #[aK 2, .int .u8 dat, aK 1, aV abi, aV aF, (aP big), bf aS, bf aG, aJ aB, aN, aN, aN, aN, aN] 131 (0, 0)), (s, .cells #[.iface 178 (.slice (some ⟨b, o, none⟩) n c), ay 0, ay 0, ay 9223372036854775807, ay 9223372036854775807] 246 (0, 0))] (by kernel_rfl) ?_
 clear HF HM; intro a w HF HM
 rw [show decide (0 < ((aj : Nat) : Int)) = true from fC (by omega)] at HF
 refine aO HF HM rfl 3 [] ((gX b o n c s fb big ak aj au ah) ++ [(35, aA aj), (557, .bool true), (558, .bool true), (560, bG (IntKind.u64.wrap ((aj : Nat) : Int)))]) [(fb, .cells #[aK 2, .int .u8 dat, aK 1, aV abi, aV aF, (aP big), bf aS, bf aG, aJ aB, aN, aN, aN, aN, aN] 131 (0, 0)), (s, .cells #[.iface 178 (.slice (some ⟨b, o, none⟩) n c), ay 0, ay 0, ay 9223372036854775807, ay 9223372036854775807] 246 (0, 0))] (by kernel_rfl) ?_
 clear HF HM; intro a w HF HM
 rw [show IntKind.u64.wrap ((aj : Nat) : Int) = ((aj : Nat) : Int) from IntWalk.u64_in _ (by omega)] at HF
 refine eY HF (by kernel_rfl) (bG (IntKind.u64.wrap ((18446744073709551615 : Int).tdiv ((aj : Nat) : Int)))) (by kernel_rfl) (BP rfl rfl rfl (by omega)) ?_
 clear HF; intro a HF; replace HF := HF.sub [(0, .iface 178 (.slice (some ⟨b, o, none⟩) n c)), (4, aC s), (8, aC fb), (9, (aP big)), (10, aA ak), (11, ay 56), (12, aA aj), (13, aA au), (14, ay 64), (15, aA ah), (16, aA (ah - 1)), (26, ay 64), (35, aA aj), (557, .bool true), (558, .bool true), (560, aJ aj), (561, bG (IntKind.u64.wrap ((18446744073709551615 : Int).tdiv ((aj : Nat) : Int))))] (by kernel_rfl)
 have hq := Cb aj c3 b6
 rw [IntWalk.u64_in ((18446744073709551615 : Int).tdiv ((aj : Nat) : Int)) (by omega)] at HF
 refine aO HF HM rfl 3 [] ((gX b o n c s fb big ak aj au ah) ++ [(35, aA aj), (557, .bool true), (558, .bool true), (564, .bool (decide (((18446744073709551615 : Int).tdiv ((aj : Nat) : Int)) < 56)))]) [(fb, .cells #[aK 2, .int .u8 dat, aK 1, aV abi, aV aF, (aP big), bf aS, bf aG, aJ aB, aN, aN, aN, aN, aN] 131 (0, 0)), (s, .cells #[.iface 178 (.slice (some ⟨b, o, none⟩) n c), ay 0, ay 0, ay 9223372036854775807, ay 9223372036854775807] 246 (0, 0))] (by kernel_rfl) ?_
 clear HF HM; intro a w HF HM
 rw [show decide (((18446744073709551615 : Int).tdiv ((aj : Nat) : Int)) < 56) = false from dI (by omega)] at HF
 refine aO HF HM rfl 1 [] ((gX b o n c s fb big ak aj au ah) ++ [(35, aA aj), (565, .bool false)]) [(fb, .cells #[aK 2, .int .u8 dat, aK 1, aV abi, aV aF, (aP big), bf aS, bf aG, aJ aB, aN, aN, aN, aN, aN] 131 (0, 0)), (s, .cells #[.iface 178 (.slice (some ⟨b, o, none⟩) n c), ay 0, ay 0, ay 9223372036854775807, ay 9223372036854775807] 246 (0, 0))] (by kernel_rfl) ?_
 clear HF HM; intro a w HF HM
 refine aI ?_
 refine aZ HF rfl ?_
 refine wp_skip ?_
 repeat (first | refine aQ ?_ | refine aU ?_)
 replace HF := HF.sub ((gX b o n c s fb big ak aj au ah) ++ [(35, aA aj)]) (by kernel_rfl)
 refine wp_seq (wp_region_lit ?_)
 refine aO HF HM rfl 2 [] ((gX b o n c s fb big ak aj au ah) ++ [(35, aA aj), (571, aC fb), (572, aA aj)]) [(fb, .cells #[aK 2, .int .u8 dat, aK 1, aV abi, aV aF, (aP big), bf aS, bf aG, aJ aB, aN, aN, aN, aN, aN] 131 (0, 0)), (s, .cells #[.iface 178 (.slice (some ⟨b, o, none⟩) n c), ay 0, ay 0, ay 9223372036854775807, ay 9223372036854775807] 246 (0, 0))] (by kernel_rfl) ?_
 clear HF HM; intro a w HF HM
 refine nO HF HM rfl _ _ 127 rfl rfl 136 (.pointer none) 8 Tryd.underlying127 wC .i64 .i64 aj rfl rfl (by omega) (by unfold maxLen; omega) ?_
 intro a2 w2 pg cur hgw hcs bU HF2; have hg0 : w0.heap.size ≤ pg := Nat.le_trans HM.size hgw; clear HF HM hgw; have HM := bU; have HF := HF2; clear bU HF2
 replace HF := HF.sub ((gX b o n c s fb big ak aj au ah) ++ [(35, aA aj), (571, aC fb), (573, aH pg 0 aj)]) (by kernel_rfl)
 refine aO HF HM rfl 3 [[1]] ((gX b o n c s fb big ak aj au ah) ++ [(35, aA aj)]) [(pg, .cells cur 136 (0, 0)), (fb, .cells #[aK 2, .int .u8 dat, aK 1, aV abi, aV aF, (aP big), bf aS, bf aG, aJ aB, aN, aH pg 0 aj, aN, aN, aN] 131 (0, 0)), (s, .cells #[.iface 178 (.slice (some ⟨b, o, none⟩) n c), ay 0, ay 0, ay 9223372036854775807, ay 9223372036854775807] 246 (0, 0))] (by kernel_rfl) ?_
 clear HF HM; intro a w HF HM
 refine aI ?_
 have hbs : b ≠ s := fun e => absurd hbl (Nat.not_lt_of_le (e ▸ HM.ge (i := 2) rfl))
 have hsz : w0.heap.size ≤ w.heap.size := HM.size
 refine wp_seq (wp_region_lit ?_)
 refine aO HF HM rfl 4 [] ((gX b o n c s fb big ak aj au ah) ++ [(35, aA aj), (578, .iface 144 (aC s)), (580, bG (IntKind.u64.wrap ((aj : Nat) : Int)))]) [(pg, .cells cur 136 (0, 0)), (fb, .cells #[aK 2, .int .u8 dat, aK 1, aV abi, aV aF, (aP big), bf aS, bf aG, aJ aB, aN, aH pg 0 aj, aN, aN, aN] 131 (0, 0)), (s, .cells #[.iface 178 (.slice (some ⟨b, o, none⟩) n c), ay 0, ay 0, ay 9223372036854775807, ay 9223372036854775807] 246 (0, 0))] (by kernel_rfl) ?_
 clear HF HM; intro a w HF HM
 rw [show IntKind.u64.wrap ((aj : Nat) : Int) = ((aj : Nat) : Int) from IntWalk.u64_in _ (by omega)] at HF
 refine aO HF HM rfl 3 [] ((gX b o n c s fb big ak aj au ah) ++ [(35, aA aj), (578, .iface 144 (aC s)), (583, bG (IntKind.u64.wrap (((aj : Nat) : Int) * 56)))]) [(pg, .cells cur 136 (0, 0)), (fb, .cells #[aK 2, .int .u8 dat, aK 1, aV abi, aV aF, (aP big), bf aS, bf aG, aJ aB, aN, aH pg 0 aj, aN, aN, aN] 131 (0, 0)), (s, .cells #[.iface 178 (.slice (some ⟨b, o, none⟩) n c), ay 0, ay 0, ay 9223372036854775807, ay 9223372036854775807] 246 (0, 0))] (by kernel_rfl) ?_
 clear HF HM; intro a w HF HM
 rw [show IntKind.u64.wrap (((aj : Nat) : Int) * 56) = (((aj * 56) : Nat) : Int) from (IntWalk.u64_in _ (by omega)).trans (by omega)] at HF
 refine aO HF HM rfl 1 [] ((gX b o n c s fb big ak aj au ah) ++ [(35, aA aj), (578, .iface 144 (aC s)), (583, aJ (aj * 56)), (584, aA ak)]) [(pg, .cells cur 136 (0, 0)), (fb, .cells #[aK 2, .int .u8 dat, aK 1, aV abi, aV aF, (aP big), bf aS, bf aG, aJ aB, aN, aH pg 0 aj, aN, aN, aN] 131 (0, 0)), (s, .cells #[.iface 178 (.slice (some ⟨b, o, none⟩) n c), ay 0, ay 0, ay 9223372036854775807, ay 9223372036854775807] 246 (0, 0))] (by kernel_rfl) ?_
 clear HF HM; intro a w HF HM
 refine bn HF (by kernel_rfl) 99 #[.iface 144 (aC s), aJ (aj * 56), aA ak] (by kernel_rfl) (fun w => by kernel_rfl) (Calls.mono (ni l b o n c hl hnc s (aj * 56) 0 ak 0 9223372036854775807 9223372036854775807 (by omega) (by omega) (by omega) (by omega) (by omega) (by omega) w (HM.row hr (by intro b' o' s' _; simp)) (Nat.lt_of_lt_of_le hbl HM.size) hbs (HM.get (i := 2) rfl)) ?_)
 rintro _ w3 ⟨pd, rfl, hb, hge, hgn⟩
 replace HM : Mm [] w0 w3 [(pd, .cells (((l.drop (0 + ak)).take (aj * 56)).map Bv).toArray 5 (0, 0)), (pg, .cells cur 136 (0, 0)), (fb, .cells #[aK 2, .int .u8 dat, aK 1, aV abi, aV aF, (aP big), bf aS, bf aG, aJ aB, aN, aH pg 0 aj, aN, aN, aN] 131 (0, 0)), (s, .cells #[.iface 178 (.slice (some ⟨b, o, none⟩) n c), ay 0, ay 0, ay 9223372036854775807, ay 9223372036854775807] 246 (0, 0))] := HM.push hb hge hgn
 clear hb hge hgn
 refine ⟨_, rfl, ?_⟩; clear HF; intro a HF; replace HF := HF.sub ((gX b o n c s fb big ak aj au ah) ++ [(35, aA aj), (578, .iface 144 (aC s)), (583, aJ (aj * 56)), (584, aA ak), (585, .tuple #[aH pd (aj * 56) (aj * 56), .nilIface])]) (by kernel_rfl)
 refine aO HF HM rfl 5 [] ((gX b o n c s fb big ak aj au ah) ++ [(35, aA aj), (36, aH pd (aj * 56) (aj * 56)), (37, .nilIface)]) [(pd, .cells (((l.drop (0 + ak)).take (aj * 56)).map Bv).toArray 5 (0, 0)), (pg, .cells cur 136 (0, 0)), (fb, .cells #[aK 2, .int .u8 dat, aK 1, aV abi, aV aF, (aP big), bf aS, bf aG, aJ aB, aN, aH pg 0 aj, aN, aN, aN] 131 (0, 0)), (s, .cells #[.iface 178 (.slice (some ⟨b, o, none⟩) n c), ay 0, ay 0, ay 9223372036854775807, ay 9223372036854775807] 246 (0, 0))] (by kernel_rfl) ?_
 clear HF HM; intro a w HF HM
 refine aI ?_
 refine wp_seq ?_
 refine wp_seq (wp_region_lit ?_)
 refine aO HF HM rfl 2 [] ((gX b o n c s fb big ak aj au ah) ++ [(35, aA aj), (36, aH pd (aj * 56) (aj * 56)), (37, .nilIface), (589, .bool false)]) [(pd, .cells (((l.drop (0 + ak)).take (aj * 56)).map Bv).toArray 5 (0, 0)), (pg, .cells cur 136 (0, 0)), (fb, .cells #[aK 2, .int .u8 dat, aK 1, aV abi, aV aF, (aP big), bf aS, bf aG, aJ aB, aN, aH pg 0 aj, aN, aN, aN] 131 (0, 0)), (s, .cells #[.iface 178 (.slice (some ⟨b, o, none⟩) n c), ay 0, ay 0, ay 9223372036854775807, ay 9223372036854775807] 246 (0, 0))] (by kernel_rfl) ?_
 clear HF HM; intro a w HF HM
 refine aI ?_
 refine aZ HF rfl ?_
 refine wp_skip ?_
 repeat (first | refine aQ ?_ | refine aU ?_)
 replace HF := HF.sub ((gX b o n c s fb big ak aj au ah) ++ [(36, aH pd (aj * 56) (aj * 56))]) (by kernel_rfl)
 replace HF := HF.sub ((gX b o n c s fb big ak aj au ah) ++ [(36, aH pd (aj * 56) (aj * 56))]) (by kernel_rfl)
 rw [Nat.zero_add] at HM
 exact K a w pg cur pd hcs HF HM

end Go.Proofs.YtdgehpocmfjbiaaDoor
