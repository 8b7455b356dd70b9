/- elf.NewFile: the ident and the header. · elf.NewFile: the fields of the header, and the checks on them. · elf.NewFile: the table of program headers is -/
import Derived.Test.YtdgehpocmfjbiaaDoorSb
import Derived.OwnWalk
set_option linter.unusedVariables false
set_option linter.unusedSimpArgs false
set_option maxRecDepth 100000
set_option maxHeartbeats 2000000
namespace Go.Proofs.YtdgehpocmfjbiaaDoor
open Go.RowKit

def tl1 : Code → Code
 | .seq _ c => c
 | c => c
def tlN : Nat → Code → Code
 | 0, c => c
 | k + 1, c => tl1 (tlN k c)
/-- a function's code from the k-th piece of its spine on -/
def spine (f : Func) (k : Nat) : Code := tlN k (f.body.getD .skip)
theorem KE (big : Bool) (l : List UInt8) (n off k : Nat) (h : off + k ≤ n) : num big (l.take n) off k = num big l off k := by
 unfold num
 rw [List.drop_take, List.take_take, Nat.min_eq_left (by omega)]

abbrev iC := fun s (b : Nat) (o : Nat) (n : Nat) (c : Nat) => ((s, .cells #[.iface 178 (.slice (some ⟨b, o, none⟩) n c), aF 0, aF 0, aF 9223372036854775807, aF 9223372036854775807] 246 (0, 0)) : Nat × Obj)
abbrev fM := fun (b : Nat) (o : Nat) (n : Nat) (c : Nat) => ([(0, .iface 178 (.slice (some ⟨b, o, none⟩) n c)), (2, .pointer none), (3, .nilIface)] : Slots)
abbrev jm := fun z4 (abi : Nat) (aH : Nat) => ((z4, .cells #[aQ 127, aQ 69, aQ 76, aQ 70, aQ 1, aQ 1, aQ 1, aX abi, aX aH, aQ 0, aQ 0, aQ 0, aQ 0, aQ 0, aQ 0, aQ 0] 205 (0, 0)) : Nat × Obj)
abbrev D6 := fun z7 => ((z7, .cells #[aQ 1, aQ 0, aQ 0, aQ 0, aQ 0, aQ 0, .int .u16 0, .int .u16 0, bH 0, aN, aN, aN, aN, aN] 131 (0, 0)) : Nat × Obj)
abbrev xX := fun z7 => ((z7, .cells #[aQ 1, aQ 1, aQ 0, aQ 0, aQ 0, aQ 0, .int .u16 0, .int .u16 0, bH 0, aN, aN, aN, aN, aN] 131 (0, 0)) : Nat × Obj)
abbrev xW := fun z7 (abi : Nat) (aH : Nat) => ((z7, .cells #[aQ 1, aQ 1, aQ 1, aX abi, aX aH, (aS false), .int .u16 0, .int .u16 0, bH 0, aN, aN, aN, aN, aN] 131 (0, 0)) : Nat × Obj)
theorem RP (l : List UInt8) (b o n c : Nat) (hl : n = l.length) (hnc : n ≤ c) (hn : 16 ≤ n) (abi aH : Nat) (hid : (((l.drop 0).take 16).map Bv).toArray = #[aQ 127, aQ 69, aQ 76, aQ 70, aQ 1, aQ 1, aQ 1, aX abi, aX aH, aQ 0, aQ 0, aQ 0, aQ 0, aQ 0, aQ 0, aQ 0]) {Q : Exit → Act → World → Prop} (w0 : World) (hbl : b < w0.heap.size) (hr : Row w0 (some ⟨b, o, none⟩) (l.map Bv)) (a : Act) (w : World) (HF : Fr 1287 a [(0, .iface 178 (.slice (some ⟨b, o, none⟩) n c))]) (HM : Mm [] w0 w [])
  (K : ∀ a w s fb, Fr 1287 a [(0, .iface 178 (.slice (some ⟨b, o, none⟩) n c)), (4, aB s), (8, aB fb), (9, (aS false))] → Mm [] w0 w [(fb, .cells #[aQ 1, aQ 1, aQ 1, aX abi, aX aH, (aS false), .int .u16 0, .int .u16 0, bH 0, aN, aN, aN, aN, aN] 131 (0, 0)), iC s b o n c] → (spine Tryd.f78 20).wp Tryd.prog Q a w) : (spine Tryd.f78 0).wp Tryd.prog Q a w := by
 refine bG HF HM rfl [] (fM b o n c) [] (by kernel_rfl) ?_
 clear HF HM; intro a w HF HM
 refine wp_seq (wp_region_lit ?_)
 refine aT HF HM rfl 1 [] ((fM b o n c) ++ [(57, .iface 178 (.slice (some ⟨b, o, none⟩) n c))]) [] (by kernel_rfl) ?_
 clear HF HM; intro a w HF HM
 refine bf HF (by kernel_rfl) 92 #[.iface 178 (.slice (some ⟨b, o, none⟩) n c), aF 0, aF 9223372036854775807] (by kernel_rfl) (fun w => by kernel_rfl) (Calls.mono (rF 178 (.slice (some ⟨b, o, none⟩) n c) 0 9223372036854775807 (by omega) (by omega) (by omega) w) ?_)
 rintro _ w1 ⟨s, rfl, hb, hge, hgn⟩
 replace HM : Mm [] w0 w1 [iC s b o n c] := HM.push hb hge hgn
 clear hb hge hgn
 refine ⟨_, rfl, ?_⟩; clear HF; intro a HF; replace HF := HF.sub ((fM b o n c) ++ [(57, .iface 178 (.slice (some ⟨b, o, none⟩) n c)), (58, aB s)]) (by kernel_rfl)
 refine aT HF HM rfl 1 [] ((fM b o n c) ++ [(4, aB s)]) [iC s b o n c] (by kernel_rfl) ?_
 clear HF HM; intro a w HF HM
 refine aA ?_
 obtain ⟨z4, qP⟩ : ∃ z, w.heap.size = z := ⟨_, rfl⟩
 refine bG HF HM qP [] ((fM b o n c) ++ [(4, aB s), (5, aB z4)]) [(z4, .cells #[aQ 0, aQ 0, aQ 0, aQ 0, aQ 0, aQ 0, aQ 0, aQ 0, aQ 0, aQ 0, aQ 0, aQ 0, aQ 0, aQ 0, aQ 0, aQ 0] 205 (0, 0)), iC s b o n c] (by kernel_rfl) ?_
 clear HF HM qP; intro a w HF HM
 refine wp_seq ?_
 refine jS HM (by kernel_rfl) [iC s b o n c] [(0, false), (1, false), (2, false), (3, false), (4, false), (5, true), (6, false), (7, false), (8, false), (9, false), (10, false)] (by kernel_rfl) ?_
 clear HM; intro w2 HM
 refine bI HF (HM.told [1] rfl) 5 [] ((fM b o n c) ++ [(4, aB s), (5, aB z4), (60, .iface 178 (.slice (some ⟨b, o, none⟩) n c)), (61, aC z4 16 16), (64, .iface 178 (.slice (some ⟨b, o, none⟩) n c))]) (by kernel_rfl) ?_
 clear HF; intro a HF
 refine bW rfl ?_
 have hbi : b ≠ z4 := fun e => absurd hbl (Nat.not_lt_of_le (e ▸ HM.ge (i := 0) rfl))
 refine bf HF (by kernel_rfl) 127 #[.slice (some ⟨b, o, none⟩) n c, aC z4 16 16, ay 0] (by kernel_rfl) (fun w => by kernel_rfl) (Calls.mono (wB l b o n c hl hnc z4 #[aQ 0, aQ 0, aQ 0, aQ 0, aQ 0, aQ 0, aQ 0, aQ 0, aQ 0, aQ 0, aQ 0, aQ 0, aQ 0, aQ 0, aQ 0, aQ 0] 205 16 16 rfl 0 (by omega) (by omega) w2 (HM.row hr (by intro b' o' s' _; simp)) hbi (HM.get (i := 0) rfl)) ?_)
 rintro _ w3 ⟨rfl, hkp, hgn⟩
 rw [hid] at hgn
 replace HM : Mm [] w0 w3 [jm z4 abi aH, iC s b o n c] := HM.put (i := 0) rfl hgn hkp
 clear hkp hgn
 refine ⟨_, rfl, ?_⟩; clear HF; intro a HF; replace HF := HF.sub ((fM b o n c) ++ [(4, aB s), (5, aB z4), (60, .iface 178 (.slice (some ⟨b, o, none⟩) n c)), (61, aC z4 16 16), (64, .iface 178 (.slice (some ⟨b, o, none⟩) n c)), (65, .tuple #[ay 16, .nilIface])]) (by kernel_rfl)
 refine dH (HM.told [1] rfl) ?_
 refine bI HF (HM.told [1] rfl) 5 [] ((fM b o n c) ++ [(4, aB s), (5, aB z4), (7, .nilIface)]) (by kernel_rfl) ?_
 clear HF; intro a HF
 refine iM ?_
 refine aK ?_
 refine wp_seq (wp_region_lit ?_)
 refine aT HF HM rfl 2 [] ((fM b o n c) ++ [(4, aB s), (5, aB z4), (7, .nilIface), (69, .bool false)]) [jm z4 abi aH, iC s b o n c] (by kernel_rfl) ?_
 clear HF HM; intro a w HF HM
 refine aA ?_
 refine aY HF rfl ?_
 refine wp_skip ?_
 repeat (first | refine aK ?_ | refine aP ?_)
 replace HF := HF.sub ((fM b o n c) ++ [(4, aB s), (5, aB z4)]) (by kernel_rfl)
 refine wp_seq ?_
 refine wp_seq (wp_region_lit ?_)
 refine aT HF HM rfl 18 [[1], [1], [1], [1]] ((fM b o n c) ++ [(4, aB s), (5, aB z4), (91, .bool false)]) [jm z4 abi aH, iC s b o n c] (by kernel_rfl) ?_
 clear HF HM; intro a w HF HM
 refine aA ?_
 refine aY HF rfl ?_
 refine wp_skip ?_
 repeat (first | refine aK ?_ | refine aP ?_)
 replace HF := HF.sub ((fM b o n c) ++ [(4, aB s), (5, aB z4)]) (by kernel_rfl)
 obtain ⟨z7, yX⟩ : ∃ z, w.heap.size = z := ⟨_, rfl⟩
 refine bG HF HM yX [] ((fM b o n c) ++ [(4, aB s), (5, aB z4), (8, aB z7)]) [(z7, .cells #[aQ 0, aQ 0, aQ 0, aQ 0, aQ 0, aQ 0, .int .u16 0, .int .u16 0, bH 0, aN, aN, aN, aN, aN] 131 (0, 0)), jm z4 abi aH, iC s b o n c] (by kernel_rfl) ?_
 clear HF HM yX; intro a w HF HM
 refine bG HF HM rfl [[1], [2]] ((fM b o n c) ++ [(4, aB s), (5, aB z4), (8, aB z7)]) [D6 z7, jm z4 abi aH, iC s b o n c] (by kernel_rfl) ?_
 clear HF HM; intro a w HF HM
 refine wp_seq ?_
 refine bG HF HM rfl [[2]] ((fM b o n c) ++ [(4, aB s), (5, aB z4), (8, aB z7), (108, aQ 1)]) [D6 z7, jm z4 abi aH, iC s b o n c] (by kernel_rfl) ?_
 clear HF HM; intro a w HF HM
 refine wp_block ?_
 refine bG HF HM rfl [] ((fM b o n c) ++ [(4, aB s), (5, aB z4), (8, aB z7), (108, aQ 1), (118, .bool true)]) [D6 z7, jm z4 abi aH, iC s b o n c] (by kernel_rfl) ?_
 clear HF HM; intro a w HF HM
 refine bD HF rfl ?_
 refine wp_skip ?_
 repeat (first | refine aK ?_ | refine aP ?_)
 replace HF := HF.sub ((fM b o n c) ++ [(4, aB s), (5, aB z4), (8, aB z7)]) (by kernel_rfl)
 refine bG HF HM rfl [[1], [2]] ((fM b o n c) ++ [(4, aB s), (5, aB z4), (8, aB z7)]) [xX z7, jm z4 abi aH, iC s b o n c] (by kernel_rfl) ?_
 clear HF HM; intro a w HF HM
 refine bG HF HM rfl [] ((fM b o n c) ++ [(4, aB s), (5, aB z4), (8, aB z7), (9, aQ 0)]) [xX z7, jm z4 abi aH, iC s b o n c] (by kernel_rfl) ?_
 clear HF HM; intro a w HF HM
 refine wp_seq ?_
 refine bG HF HM rfl [[2]] ((fM b o n c) ++ [(4, aB s), (5, aB z4), (8, aB z7), (9, aQ 0), (132, aQ 1)]) [xX z7, jm z4 abi aH, iC s b o n c] (by kernel_rfl) ?_
 clear HF HM; intro a w HF HM
 refine wp_block ?_
 refine bG HF HM rfl [] ((fM b o n c) ++ [(4, aB s), (5, aB z4), (8, aB z7), (9, aQ 0), (132, aQ 1), (142, .bool true)]) [xX z7, jm z4 abi aH, iC s b o n c] (by kernel_rfl) ?_
 clear HF HM; intro a w HF HM
 refine bD HF rfl ?_
 refine pK HF HM rfl [] ((fM b o n c) ++ [(4, aB s), (5, aB z4), (8, aB z7), (9, (aS false))]) [xX z7, jm z4 abi aH, iC s b o n c] (by kernel_rfl) ?_
 clear HF HM; intro a w HF HM
 repeat (first | refine aK ?_ | refine aP ?_)
 refine bG HF HM rfl [[2]] ((fM b o n c) ++ [(4, aB s), (5, aB z4), (8, aB z7), (9, (aS false))]) [(z7, .cells #[aQ 1, aQ 1, aQ 0, aQ 0, aQ 0, (aS false), .int .u16 0, .int .u16 0, bH 0, aN, aN, aN, aN, aN] 131 (0, 0)), jm z4 abi aH, iC s b o n c] (by kernel_rfl) ?_
 clear HF HM; intro a w HF HM
 refine bG HF HM rfl [[1], [2]] ((fM b o n c) ++ [(4, aB s), (5, aB z4), (8, aB z7), (9, (aS false))]) [(z7, .cells #[aQ 1, aQ 1, aQ 1, aQ 0, aQ 0, (aS false), .int .u16 0, .int .u16 0, bH 0, aN, aN, aN, aN, aN] 131 (0, 0)), jm z4 abi aH, iC s b o n c] (by kernel_rfl) ?_
 clear HF HM; intro a w HF HM
 refine wp_seq ?_
 refine bG HF HM rfl [[2]] ((fM b o n c) ++ [(4, aB s), (5, aB z4), (8, aB z7), (9, (aS false)), (162, .bool false)]) [(z7, .cells #[aQ 1, aQ 1, aQ 1, aQ 0, aQ 0, (aS false), .int .u16 0, .int .u16 0, bH 0, aN, aN, aN, aN, aN] 131 (0, 0)), jm z4 abi aH, iC s b o n c] (by kernel_rfl) ?_
 clear HF HM; intro a w HF HM
 refine aY HF rfl ?_
 refine wp_skip ?_
 repeat (first | refine aK ?_ | refine aP ?_)
 replace HF := HF.sub ((fM b o n c) ++ [(4, aB s), (5, aB z4), (8, aB z7), (9, (aS false))]) (by kernel_rfl)
 refine bG HF HM rfl [[1], [2]] ((fM b o n c) ++ [(4, aB s), (5, aB z4), (8, aB z7), (9, (aS false))]) [(z7, .cells #[aQ 1, aQ 1, aQ 1, aX abi, aQ 0, (aS false), .int .u16 0, .int .u16 0, bH 0, aN, aN, aN, aN, aN] 131 (0, 0)), jm z4 abi aH, iC s b o n c] (by kernel_rfl) ?_
 clear HF HM; intro a w HF HM
 refine bG HF HM rfl [[1], [2]] ((fM b o n c) ++ [(4, aB s), (8, aB z7), (9, (aS false))]) [xW z7 abi aH, jm z4 abi aH, iC s b o n c] (by kernel_rfl) ?_
 clear HF HM; intro a w HF HM
 refine bG HF HM rfl [] ((fM b o n c) ++ [(4, aB s), (8, aB z7), (9, (aS false)), (10, aF 0)]) [xW z7 abi aH, jm z4 abi aH, iC s b o n c] (by kernel_rfl) ?_
 clear HF HM; intro a w HF HM
 refine bG HF HM rfl [] ((fM b o n c) ++ [(4, aB s), (8, aB z7), (9, (aS false)), (10, aF 0), (11, aF 0), (12, aF 0)]) [xW z7 abi aH, jm z4 abi aH, iC s b o n c] (by kernel_rfl) ?_
 clear HF HM; intro a w HF HM
 refine bG HF HM rfl [] ((fM b o n c) ++ [(4, aB s), (8, aB z7), (9, (aS false)), (10, aF 0), (11, aF 0), (12, aF 0), (13, aF 0)]) [xW z7 abi aH, jm z4 abi aH, iC s b o n c] (by kernel_rfl) ?_
 clear HF HM; intro a w HF HM
 refine bG HF HM rfl [] ((fM b o n c) ++ [(4, aB s), (8, aB z7), (9, (aS false)), (10, aF 0), (11, aF 0), (12, aF 0), (13, aF 0), (14, aF 0), (15, aF 0), (16, aF 0)]) [xW z7 abi aH, jm z4 abi aH, iC s b o n c] (by kernel_rfl) ?_
 clear HF HM; intro a w HF HM
 replace HF := HF.sub [(0, .iface 178 (.slice (some ⟨b, o, none⟩) n c)), (4, aB s), (8, aB z7), (9, (aS false))] (by kernel_rfl)
 exact K a w s z7 HF (HM.sub (List.Sublist.cons_cons _ (List.Sublist.cons _ (List.Sublist.refl _))))

abbrev gY := fun s (b : Nat) (o : Nat) (n : Nat) (c : Nat) => ((s, .cells #[.iface 178 (.slice (some ⟨b, o, none⟩) n c), aF 0, aF 0, aF 9223372036854775807, aF 9223372036854775807] 246 (0, 0)) : Nat × Obj)
abbrev fC := fun (b : Nat) (o : Nat) (n : Nat) (c : Nat) => ([(0, .iface 178 (.slice (some ⟨b, o, none⟩) n c)), (2, .pointer none), (3, .nilIface)] : Slots)
abbrev jg := fun z4 (abi : Nat) (aH : Nat) => ((z4, .cells #[aQ 127, aQ 69, aQ 76, aQ 70, aQ 1, aQ 2, aQ 1, aX abi, aX aH, aQ 0, aQ 0, aQ 0, aQ 0, aQ 0, aQ 0, aQ 0] 205 (0, 0)) : Nat × Obj)
abbrev D7 := fun z7 => ((z7, .cells #[aQ 1, aQ 0, aQ 0, aQ 0, aQ 0, aQ 0, .int .u16 0, .int .u16 0, bH 0, aN, aN, aN, aN, aN] 131 (0, 0)) : Nat × Obj)
abbrev vS := fun z7 => ((z7, .cells #[aQ 1, aQ 2, aQ 0, aQ 0, aQ 0, aQ 0, .int .u16 0, .int .u16 0, bH 0, aN, aN, aN, aN, aN] 131 (0, 0)) : Nat × Obj)
abbrev xY := fun z7 (abi : Nat) (aH : Nat) => ((z7, .cells #[aQ 1, aQ 2, aQ 1, aX abi, aX aH, (aS true), .int .u16 0, .int .u16 0, bH 0, aN, aN, aN, aN, aN] 131 (0, 0)) : Nat × Obj)
theorem RQ (l : List UInt8) (b o n c : Nat) (hl : n = l.length) (hnc : n ≤ c) (hn : 16 ≤ n) (abi aH : Nat) (hid : (((l.drop 0).take 16).map Bv).toArray = #[aQ 127, aQ 69, aQ 76, aQ 70, aQ 1, aQ 2, aQ 1, aX abi, aX aH, aQ 0, aQ 0, aQ 0, aQ 0, aQ 0, aQ 0, aQ 0]) {Q : Exit → Act → World → Prop} (w0 : World) (hbl : b < w0.heap.size) (hr : Row w0 (some ⟨b, o, none⟩) (l.map Bv)) (a : Act) (w : World) (HF : Fr 1287 a [(0, .iface 178 (.slice (some ⟨b, o, none⟩) n c))]) (HM : Mm [] w0 w [])
  (K : ∀ a w s fb, Fr 1287 a [(0, .iface 178 (.slice (some ⟨b, o, none⟩) n c)), (4, aB s), (8, aB fb), (9, (aS true))] → Mm [] w0 w [(fb, .cells #[aQ 1, aQ 2, aQ 1, aX abi, aX aH, (aS true), .int .u16 0, .int .u16 0, bH 0, aN, aN, aN, aN, aN] 131 (0, 0)), gY s b o n c] → (spine Tryd.f78 20).wp Tryd.prog Q a w) : (spine Tryd.f78 0).wp Tryd.prog Q a w := by
 refine bG HF HM rfl [] (fC b o n c) [] (by kernel_rfl) ?_
 clear HF HM; intro a w HF HM
 refine wp_seq (wp_region_lit ?_)
 refine aT HF HM rfl 1 [] ((fC b o n c) ++ [(57, .iface 178 (.slice (some ⟨b, o, none⟩) n c))]) [] (by kernel_rfl) ?_
 clear HF HM; intro a w HF HM
 refine bf HF (by kernel_rfl) 92 #[.iface 178 (.slice (some ⟨b, o, none⟩) n c), aF 0, aF 9223372036854775807] (by kernel_rfl) (fun w => by kernel_rfl) (Calls.mono (rF 178 (.slice (some ⟨b, o, none⟩) n c) 0 9223372036854775807 (by omega) (by omega) (by omega) w) ?_)
 rintro _ w1 ⟨s, rfl, hb, hge, hgn⟩
 replace HM : Mm [] w0 w1 [gY s b o n c] := HM.push hb hge hgn
 clear hb hge hgn
 refine ⟨_, rfl, ?_⟩; clear HF; intro a HF; replace HF := HF.sub ((fC b o n c) ++ [(57, .iface 178 (.slice (some ⟨b, o, none⟩) n c)), (58, aB s)]) (by kernel_rfl)
 refine aT HF HM rfl 1 [] ((fC b o n c) ++ [(4, aB s)]) [gY s b o n c] (by kernel_rfl) ?_
 clear HF HM; intro a w HF HM
 refine aA ?_
 obtain ⟨z4, qP⟩ : ∃ z, w.heap.size = z := ⟨_, rfl⟩
 refine bG HF HM qP [] ((fC b o n c) ++ [(4, aB s), (5, aB z4)]) [(z4, .cells #[aQ 0, aQ 0, aQ 0, aQ 0, aQ 0, aQ 0, aQ 0, aQ 0, aQ 0, aQ 0, aQ 0, aQ 0, aQ 0, aQ 0, aQ 0, aQ 0] 205 (0, 0)), gY s b o n c] (by kernel_rfl) ?_
 clear HF HM qP; intro a w HF HM
 refine wp_seq ?_
 refine jS HM (by kernel_rfl) [gY s b o n c] [(0, false), (1, false), (2, false), (3, false), (4, false), (5, true), (6, false), (7, false), (8, false), (9, false), (10, false)] (by kernel_rfl) ?_
 clear HM; intro w2 HM
 refine bI HF (HM.told [1] rfl) 5 [] ((fC b o n c) ++ [(4, aB s), (5, aB z4), (60, .iface 178 (.slice (some ⟨b, o, none⟩) n c)), (61, aC z4 16 16), (64, .iface 178 (.slice (some ⟨b, o, none⟩) n c))]) (by kernel_rfl) ?_
 clear HF; intro a HF
 refine bW rfl ?_
 have hbi : b ≠ z4 := fun e => absurd hbl (Nat.not_lt_of_le (e ▸ HM.ge (i := 0) rfl))
 refine bf HF (by kernel_rfl) 127 #[.slice (some ⟨b, o, none⟩) n c, aC z4 16 16, ay 0] (by kernel_rfl) (fun w => by kernel_rfl) (Calls.mono (wB l b o n c hl hnc z4 #[aQ 0, aQ 0, aQ 0, aQ 0, aQ 0, aQ 0, aQ 0, aQ 0, aQ 0, aQ 0, aQ 0, aQ 0, aQ 0, aQ 0, aQ 0, aQ 0] 205 16 16 rfl 0 (by omega) (by omega) w2 (HM.row hr (by intro b' o' s' _; simp)) hbi (HM.get (i := 0) rfl)) ?_)
 rintro _ w3 ⟨rfl, hkp, hgn⟩
 rw [hid] at hgn
 replace HM : Mm [] w0 w3 [jg z4 abi aH, gY s b o n c] := HM.put (i := 0) rfl hgn hkp
 clear hkp hgn
 refine ⟨_, rfl, ?_⟩; clear HF; intro a HF; replace HF := HF.sub ((fC b o n c) ++ [(4, aB s), (5, aB z4), (60, .iface 178 (.slice (some ⟨b, o, none⟩) n c)), (61, aC z4 16 16), (64, .iface 178 (.slice (some ⟨b, o, none⟩) n c)), (65, .tuple #[ay 16, .nilIface])]) (by kernel_rfl)
 refine dH (HM.told [1] rfl) ?_
 refine bI HF (HM.told [1] rfl) 5 [] ((fC b o n c) ++ [(4, aB s), (5, aB z4), (7, .nilIface)]) (by kernel_rfl) ?_
 clear HF; intro a HF
 refine iM ?_
 refine aK ?_
 refine wp_seq (wp_region_lit ?_)
 refine aT HF HM rfl 2 [] ((fC b o n c) ++ [(4, aB s), (5, aB z4), (7, .nilIface), (69, .bool false)]) [jg z4 abi aH, gY s b o n c] (by kernel_rfl) ?_
 clear HF HM; intro a w HF HM
 refine aA ?_
 refine aY HF rfl ?_
 refine wp_skip ?_
 repeat (first | refine aK ?_ | refine aP ?_)
 replace HF := HF.sub ((fC b o n c) ++ [(4, aB s), (5, aB z4)]) (by kernel_rfl)
 refine wp_seq ?_
 refine wp_seq (wp_region_lit ?_)
 refine aT HF HM rfl 18 [[1], [1], [1], [1]] ((fC b o n c) ++ [(4, aB s), (5, aB z4), (91, .bool false)]) [jg z4 abi aH, gY s b o n c] (by kernel_rfl) ?_
 clear HF HM; intro a w HF HM
 refine aA ?_
 refine aY HF rfl ?_
 refine wp_skip ?_
 repeat (first | refine aK ?_ | refine aP ?_)
 replace HF := HF.sub ((fC b o n c) ++ [(4, aB s), (5, aB z4)]) (by kernel_rfl)
 obtain ⟨z7, yX⟩ : ∃ z, w.heap.size = z := ⟨_, rfl⟩
 refine bG HF HM yX [] ((fC b o n c) ++ [(4, aB s), (5, aB z4), (8, aB z7)]) [(z7, .cells #[aQ 0, aQ 0, aQ 0, aQ 0, aQ 0, aQ 0, .int .u16 0, .int .u16 0, bH 0, aN, aN, aN, aN, aN] 131 (0, 0)), jg z4 abi aH, gY s b o n c] (by kernel_rfl) ?_
 clear HF HM yX; intro a w HF HM
 refine bG HF HM rfl [[1], [2]] ((fC b o n c) ++ [(4, aB s), (5, aB z4), (8, aB z7)]) [D7 z7, jg z4 abi aH, gY s b o n c] (by kernel_rfl) ?_
 clear HF HM; intro a w HF HM
 refine wp_seq ?_
 refine bG HF HM rfl [[2]] ((fC b o n c) ++ [(4, aB s), (5, aB z4), (8, aB z7), (108, aQ 1)]) [D7 z7, jg z4 abi aH, gY s b o n c] (by kernel_rfl) ?_
 clear HF HM; intro a w HF HM
 refine wp_block ?_
 refine bG HF HM rfl [] ((fC b o n c) ++ [(4, aB s), (5, aB z4), (8, aB z7), (108, aQ 1), (118, .bool true)]) [D7 z7, jg z4 abi aH, gY s b o n c] (by kernel_rfl) ?_
 clear HF HM; intro a w HF HM
 refine bD HF rfl ?_
 refine wp_skip ?_
 repeat (first | refine aK ?_ | refine aP ?_)
 replace HF := HF.sub ((fC b o n c) ++ [(4, aB s), (5, aB z4), (8, aB z7)]) (by kernel_rfl)
 refine bG HF HM rfl [[1], [2]] ((fC b o n c) ++ [(4, aB s), (5, aB z4), (8, aB z7)]) [vS z7, jg z4 abi aH, gY s b o n c] (by kernel_rfl) ?_
 clear HF HM; intro a w HF HM
 refine bG HF HM rfl [] ((fC b o n c) ++ [(4, aB s), (5, aB z4), (8, aB z7), (9, aQ 0)]) [vS z7, jg z4 abi aH, gY s b o n c] (by kernel_rfl) ?_
 clear HF HM; intro a w HF HM
 refine wp_seq ?_
 refine bG HF HM rfl [[2]] ((fC b o n c) ++ [(4, aB s), (5, aB z4), (8, aB z7), (9, aQ 0), (132, aQ 2)]) [vS z7, jg z4 abi aH, gY s b o n c] (by kernel_rfl) ?_
 clear HF HM; intro a w HF HM
 refine wp_block ?_
 refine bG HF HM rfl [] ((fC b o n c) ++ [(4, aB s), (5, aB z4), (8, aB z7), (9, aQ 0), (132, aQ 2), (142, .bool false)]) [vS z7, jg z4 abi aH, gY s b o n c] (by kernel_rfl) ?_
 clear HF HM; intro a w HF HM
 refine aY HF rfl ?_
 refine bG HF HM rfl [] ((fC b o n c) ++ [(4, aB s), (5, aB z4), (8, aB z7), (9, aQ 0), (132, aQ 2), (144, .bool true)]) [vS z7, jg z4 abi aH, gY s b o n c] (by kernel_rfl) ?_
 clear HF HM; intro a w HF HM
 refine bD HF rfl ?_
 refine pK HF HM rfl [] ((fC b o n c) ++ [(4, aB s), (5, aB z4), (8, aB z7), (9, (aS true))]) [vS z7, jg z4 abi aH, gY s b o n c] (by kernel_rfl) ?_
 clear HF HM; intro a w HF HM
 repeat (first | refine aK ?_ | refine aP ?_)
 refine bG HF HM rfl [[2]] ((fC b o n c) ++ [(4, aB s), (5, aB z4), (8, aB z7), (9, (aS true))]) [(z7, .cells #[aQ 1, aQ 2, aQ 0, aQ 0, aQ 0, (aS true), .int .u16 0, .int .u16 0, bH 0, aN, aN, aN, aN, aN] 131 (0, 0)), jg z4 abi aH, gY s b o n c] (by kernel_rfl) ?_
 clear HF HM; intro a w HF HM
 refine bG HF HM rfl [[1], [2]] ((fC b o n c) ++ [(4, aB s), (5, aB z4), (8, aB z7), (9, (aS true))]) [(z7, .cells #[aQ 1, aQ 2, aQ 1, aQ 0, aQ 0, (aS true), .int .u16 0, .int .u16 0, bH 0, aN, aN, aN, aN, aN] 131 (0, 0)), jg z4 abi aH, gY s b o n c] (by kernel_rfl) ?_
 clear HF HM; intro a w HF HM
 refine wp_seq ?_
 refine bG HF HM rfl [[2]] ((fC b o n c) ++ [(4, aB s), (5, aB z4), (8, aB z7), (9, (aS true)), (162, .bool false)]) [(z7, .cells #[aQ 1, aQ 2, aQ 1, aQ 0, aQ 0, (aS true), .int .u16 0, .int .u16 0, bH 0, aN, aN, aN, aN, aN] 131 (0, 0)), jg z4 abi aH, gY s b o n c] (by kernel_rfl) ?_
 clear HF HM; intro a w HF HM
 refine aY HF rfl ?_
 refine wp_skip ?_
 repeat (first | refine aK ?_ | refine aP ?_)
 replace HF := HF.sub ((fC b o n c) ++ [(4, aB s), (5, aB z4), (8, aB z7), (9, (aS true))]) (by kernel_rfl)
 refine bG HF HM rfl [[1], [2]] ((fC b o n c) ++ [(4, aB s), (5, aB z4), (8, aB z7), (9, (aS true))]) [(z7, .cells #[aQ 1, aQ 2, aQ 1, aX abi, aQ 0, (aS true), .int .u16 0, .int .u16 0, bH 0, aN, aN, aN, aN, aN] 131 (0, 0)), jg z4 abi aH, gY s b o n c] (by kernel_rfl) ?_
 clear HF HM; intro a w HF HM
 refine bG HF HM rfl [[1], [2]] ((fC b o n c) ++ [(4, aB s), (8, aB z7), (9, (aS true))]) [xY z7 abi aH, jg z4 abi aH, gY s b o n c] (by kernel_rfl) ?_
 clear HF HM; intro a w HF HM
 refine bG HF HM rfl [] ((fC b o n c) ++ [(4, aB s), (8, aB z7), (9, (aS true)), (10, aF 0)]) [xY z7 abi aH, jg z4 abi aH, gY s b o n c] (by kernel_rfl) ?_
 clear HF HM; intro a w HF HM
 refine bG HF HM rfl [] ((fC b o n c) ++ [(4, aB s), (8, aB z7), (9, (aS true)), (10, aF 0), (11, aF 0), (12, aF 0)]) [xY z7 abi aH, jg z4 abi aH, gY s b o n c] (by kernel_rfl) ?_
 clear HF HM; intro a w HF HM
 refine bG HF HM rfl [] ((fC b o n c) ++ [(4, aB s), (8, aB z7), (9, (aS true)), (10, aF 0), (11, aF 0), (12, aF 0), (13, aF 0)]) [xY z7 abi aH, jg z4 abi aH, gY s b o n c] (by kernel_rfl) ?_
 clear HF HM; intro a w HF HM
 refine bG HF HM rfl [] ((fC b o n c) ++ [(4, aB s), (8, aB z7), (9, (aS true)), (10, aF 0), (11, aF 0), (12, aF 0), (13, aF 0), (14, aF 0), (15, aF 0), (16, aF 0)]) [xY z7 abi aH, jg z4 abi aH, gY s b o n c] (by kernel_rfl) ?_
 clear HF HM; intro a w HF HM
 replace HF := HF.sub [(0, .iface 178 (.slice (some ⟨b, o, none⟩) n c)), (4, aB s), (8, aB z7), (9, (aS true))] (by kernel_rfl)
 exact K a w s z7 HF (HM.sub (List.Sublist.cons_cons _ (List.Sublist.cons _ (List.Sublist.refl _))))

abbrev gX := fun s (b : Nat) (o : Nat) (n : Nat) (c : Nat) => ((s, .cells #[.iface 178 (.slice (some ⟨b, o, none⟩) n c), aF 0, aF 0, aF 9223372036854775807, aF 9223372036854775807] 246 (0, 0)) : Nat × Obj)
abbrev fB := fun (b : Nat) (o : Nat) (n : Nat) (c : Nat) => ([(0, .iface 178 (.slice (some ⟨b, o, none⟩) n c)), (2, .pointer none), (3, .nilIface)] : Slots)
abbrev jf := fun z4 (abi : Nat) (aH : Nat) => ((z4, .cells #[aQ 127, aQ 69, aQ 76, aQ 70, aQ 2, aQ 1, aQ 1, aX abi, aX aH, aQ 0, aQ 0, aQ 0, aQ 0, aQ 0, aQ 0, aQ 0] 205 (0, 0)) : Nat × Obj)
abbrev zZ := fun z7 => ((z7, .cells #[aQ 2, aQ 0, aQ 0, aQ 0, aQ 0, aQ 0, .int .u16 0, .int .u16 0, bH 0, aN, aN, aN, aN, aN] 131 (0, 0)) : Nat × Obj)
abbrev xR := fun z7 => ((z7, .cells #[aQ 2, aQ 1, aQ 0, aQ 0, aQ 0, aQ 0, .int .u16 0, .int .u16 0, bH 0, aN, aN, aN, aN, aN] 131 (0, 0)) : Nat × Obj)
abbrev xQ := fun z7 (abi : Nat) (aH : Nat) => ((z7, .cells #[aQ 2, aQ 1, aQ 1, aX abi, aX aH, (aS false), .int .u16 0, .int .u16 0, bH 0, aN, aN, aN, aN, aN] 131 (0, 0)) : Nat × Obj)
theorem RJ (l : List UInt8) (b o n c : Nat) (hl : n = l.length) (hnc : n ≤ c) (hn : 16 ≤ n) (abi aH : Nat) (hid : (((l.drop 0).take 16).map Bv).toArray = #[aQ 127, aQ 69, aQ 76, aQ 70, aQ 2, aQ 1, aQ 1, aX abi, aX aH, aQ 0, aQ 0, aQ 0, aQ 0, aQ 0, aQ 0, aQ 0]) {Q : Exit → Act → World → Prop} (w0 : World) (hbl : b < w0.heap.size) (hr : Row w0 (some ⟨b, o, none⟩) (l.map Bv)) (a : Act) (w : World) (HF : Fr 1287 a [(0, .iface 178 (.slice (some ⟨b, o, none⟩) n c))]) (HM : Mm [] w0 w [])
  (K : ∀ a w s fb, Fr 1287 a [(0, .iface 178 (.slice (some ⟨b, o, none⟩) n c)), (4, aB s), (8, aB fb), (9, (aS false))] → Mm [] w0 w [(fb, .cells #[aQ 2, aQ 1, aQ 1, aX abi, aX aH, (aS false), .int .u16 0, .int .u16 0, bH 0, aN, aN, aN, aN, aN] 131 (0, 0)), gX s b o n c] → (spine Tryd.f78 20).wp Tryd.prog Q a w) : (spine Tryd.f78 0).wp Tryd.prog Q a w := by
 refine bG HF HM rfl [] (fB b o n c) [] (by kernel_rfl) ?_
 clear HF HM; intro a w HF HM
 refine wp_seq (wp_region_lit ?_)
 refine aT HF HM rfl 1 [] ((fB b o n c) ++ [(57, .iface 178 (.slice (some ⟨b, o, none⟩) n c))]) [] (by kernel_rfl) ?_
 clear HF HM; intro a w HF HM
 refine bf HF (by kernel_rfl) 92 #[.iface 178 (.slice (some ⟨b, o, none⟩) n c), aF 0, aF 9223372036854775807] (by kernel_rfl) (fun w => by kernel_rfl) (Calls.mono (rF 178 (.slice (some ⟨b, o, none⟩) n c) 0 9223372036854775807 (by omega) (by omega) (by omega) w) ?_)
 rintro _ w1 ⟨s, rfl, hb, hge, hgn⟩
 replace HM : Mm [] w0 w1 [gX s b o n c] := HM.push hb hge hgn
 clear hb hge hgn
 refine ⟨_, rfl, ?_⟩; clear HF; intro a HF; replace HF := HF.sub ((fB b o n c) ++ [(57, .iface 178 (.slice (some ⟨b, o, none⟩) n c)), (58, aB s)]) (by kernel_rfl)
 refine aT HF HM rfl 1 [] ((fB b o n c) ++ [(4, aB s)]) [gX s b o n c] (by kernel_rfl) ?_
 clear HF HM; intro a w HF HM
 refine aA ?_
 obtain ⟨z4, qP⟩ : ∃ z, w.heap.size = z := ⟨_, rfl⟩
 refine bG HF HM qP [] ((fB b o n c) ++ [(4, aB s), (5, aB z4)]) [(z4, .cells #[aQ 0, aQ 0, aQ 0, aQ 0, aQ 0, aQ 0, aQ 0, aQ 0, aQ 0, aQ 0, aQ 0, aQ 0, aQ 0, aQ 0, aQ 0, aQ 0] 205 (0, 0)), gX s b o n c] (by kernel_rfl) ?_
 clear HF HM qP; intro a w HF HM
 refine wp_seq ?_
 refine jS HM (by kernel_rfl) [gX s b o n c] [(0, false), (1, false), (2, false), (3, false), (4, false), (5, true), (6, false), (7, false), (8, false), (9, false), (10, false)] (by kernel_rfl) ?_
 clear HM; intro w2 HM
 refine bI HF (HM.told [1] rfl) 5 [] ((fB b o n c) ++ [(4, aB s), (5, aB z4), (60, .iface 178 (.slice (some ⟨b, o, none⟩) n c)), (61, aC z4 16 16), (64, .iface 178 (.slice (some ⟨b, o, none⟩) n c))]) (by kernel_rfl) ?_
 clear HF; intro a HF
 refine bW rfl ?_
 have hbi : b ≠ z4 := fun e => absurd hbl (Nat.not_lt_of_le (e ▸ HM.ge (i := 0) rfl))
 refine bf HF (by kernel_rfl) 127 #[.slice (some ⟨b, o, none⟩) n c, aC z4 16 16, ay 0] (by kernel_rfl) (fun w => by kernel_rfl) (Calls.mono (wB l b o n c hl hnc z4 #[aQ 0, aQ 0, aQ 0, aQ 0, aQ 0, aQ 0, aQ 0, aQ 0, aQ 0, aQ 0, aQ 0, aQ 0, aQ 0, aQ 0, aQ 0, aQ 0] 205 16 16 rfl 0 (by omega) (by omega) w2 (HM.row hr (by intro b' o' s' _; simp)) hbi (HM.get (i := 0) rfl)) ?_)
 rintro _ w3 ⟨rfl, hkp, hgn⟩
 rw [hid] at hgn
 replace HM : Mm [] w0 w3 [jf z4 abi aH, gX s b o n c] := HM.put (i := 0) rfl hgn hkp
 clear hkp hgn
 refine ⟨_, rfl, ?_⟩; clear HF; intro a HF; replace HF := HF.sub ((fB b o n c) ++ [(4, aB s), (5, aB z4), (60, .iface 178 (.slice (some ⟨b, o, none⟩) n c)), (61, aC z4 16 16), (64, .iface 178 (.slice (some ⟨b, o, none⟩) n c)), (65, .tuple #[ay 16, .nilIface])]) (by kernel_rfl)
 refine dH (HM.told [1] rfl) ?_
 refine bI HF (HM.told [1] rfl) 5 [] ((fB b o n c) ++ [(4, aB s), (5, aB z4), (7, .nilIface)]) (by kernel_rfl) ?_
 clear HF; intro a HF
 refine iM ?_
 refine aK ?_
 refine wp_seq (wp_region_lit ?_)
 refine aT HF HM rfl 2 [] ((fB b o n c) ++ [(4, aB s), (5, aB z4), (7, .nilIface), (69, .bool false)]) [jf z4 abi aH, gX s b o n c] (by kernel_rfl) ?_
 clear HF HM; intro a w HF HM
 refine aA ?_
 refine aY HF rfl ?_
 refine wp_skip ?_
 repeat (first | refine aK ?_ | refine aP ?_)
 replace HF := HF.sub ((fB b o n c) ++ [(4, aB s), (5, aB z4)]) (by kernel_rfl)
 refine wp_seq ?_
 refine wp_seq (wp_region_lit ?_)
 refine aT HF HM rfl 18 [[1], [1], [1], [1]] ((fB b o n c) ++ [(4, aB s), (5, aB z4), (91, .bool false)]) [jf z4 abi aH, gX s b o n c] (by kernel_rfl) ?_
 clear HF HM; intro a w HF HM
 refine aA ?_
 refine aY HF rfl ?_
 refine wp_skip ?_
 repeat (first | refine aK ?_ | refine aP ?_)
 replace HF := HF.sub ((fB b o n c) ++ [(4, aB s), (5, aB z4)]) (by kernel_rfl)
 obtain ⟨z7, yX⟩ : ∃ z, w.heap.size = z := ⟨_, rfl⟩
 refine bG HF HM yX [] ((fB b o n c) ++ [(4, aB s), (5, aB z4), (8, aB z7)]) [(z7, .cells #[aQ 0, aQ 0, aQ 0, aQ 0, aQ 0, aQ 0, .int .u16 0, .int .u16 0, bH 0, aN, aN, aN, aN, aN] 131 (0, 0)), jf z4 abi aH, gX s b o n c] (by kernel_rfl) ?_
 clear HF HM yX; intro a w HF HM
 refine bG HF HM rfl [[1], [2]] ((fB b o n c) ++ [(4, aB s), (5, aB z4), (8, aB z7)]) [zZ z7, jf z4 abi aH, gX s b o n c] (by kernel_rfl) ?_
 clear HF HM; intro a w HF HM
 refine wp_seq ?_
 refine bG HF HM rfl [[2]] ((fB b o n c) ++ [(4, aB s), (5, aB z4), (8, aB z7), (108, aQ 2)]) [zZ z7, jf z4 abi aH, gX s b o n c] (by kernel_rfl) ?_
 clear HF HM; intro a w HF HM
 refine wp_block ?_
 refine bG HF HM rfl [] ((fB b o n c) ++ [(4, aB s), (5, aB z4), (8, aB z7), (108, aQ 2), (118, .bool false)]) [zZ z7, jf z4 abi aH, gX s b o n c] (by kernel_rfl) ?_
 clear HF HM; intro a w HF HM
 refine aY HF rfl ?_
 refine bG HF HM rfl [] ((fB b o n c) ++ [(4, aB s), (5, aB z4), (8, aB z7), (108, aQ 2), (120, .bool true)]) [zZ z7, jf z4 abi aH, gX s b o n c] (by kernel_rfl) ?_
 clear HF HM; intro a w HF HM
 refine bD HF rfl ?_
 refine wp_skip ?_
 repeat (first | refine aK ?_ | refine aP ?_)
 replace HF := HF.sub ((fB b o n c) ++ [(4, aB s), (5, aB z4), (8, aB z7)]) (by kernel_rfl)
 refine bG HF HM rfl [[1], [2]] ((fB b o n c) ++ [(4, aB s), (5, aB z4), (8, aB z7)]) [xR z7, jf z4 abi aH, gX s b o n c] (by kernel_rfl) ?_
 clear HF HM; intro a w HF HM
 refine bG HF HM rfl [] ((fB b o n c) ++ [(4, aB s), (5, aB z4), (8, aB z7), (9, aQ 0)]) [xR z7, jf z4 abi aH, gX s b o n c] (by kernel_rfl) ?_
 clear HF HM; intro a w HF HM
 refine wp_seq ?_
 refine bG HF HM rfl [[2]] ((fB b o n c) ++ [(4, aB s), (5, aB z4), (8, aB z7), (9, aQ 0), (132, aQ 1)]) [xR z7, jf z4 abi aH, gX s b o n c] (by kernel_rfl) ?_
 clear HF HM; intro a w HF HM
 refine wp_block ?_
 refine bG HF HM rfl [] ((fB b o n c) ++ [(4, aB s), (5, aB z4), (8, aB z7), (9, aQ 0), (132, aQ 1), (142, .bool true)]) [xR z7, jf z4 abi aH, gX s b o n c] (by kernel_rfl) ?_
 clear HF HM; intro a w HF HM
 refine bD HF rfl ?_
 refine pK HF HM rfl [] ((fB b o n c) ++ [(4, aB s), (5, aB z4), (8, aB z7), (9, (aS false))]) [xR z7, jf z4 abi aH, gX s b o n c] (by kernel_rfl) ?_
 clear HF HM; intro a w HF HM
 repeat (first | refine aK ?_ | refine aP ?_)
 refine bG HF HM rfl [[2]] ((fB b o n c) ++ [(4, aB s), (5, aB z4), (8, aB z7), (9, (aS false))]) [(z7, .cells #[aQ 2, aQ 1, aQ 0, aQ 0, aQ 0, (aS false), .int .u16 0, .int .u16 0, bH 0, aN, aN, aN, aN, aN] 131 (0, 0)), jf z4 abi aH, gX s b o n c] (by kernel_rfl) ?_
 clear HF HM; intro a w HF HM
 refine bG HF HM rfl [[1], [2]] ((fB b o n c) ++ [(4, aB s), (5, aB z4), (8, aB z7), (9, (aS false))]) [(z7, .cells #[aQ 2, aQ 1, aQ 1, aQ 0, aQ 0, (aS false), .int .u16 0, .int .u16 0, bH 0, aN, aN, aN, aN, aN] 131 (0, 0)), jf z4 abi aH, gX s b o n c] (by kernel_rfl) ?_
 clear HF HM; intro a w HF HM
 refine wp_seq ?_
 refine bG HF HM rfl [[2]] ((fB b o n c) ++ [(4, aB s), (5, aB z4), (8, aB z7), (9, (aS false)), (162, .bool false)]) [(z7, .cells #[aQ 2, aQ 1, aQ 1, aQ 0, aQ 0, (aS false), .int .u16 0, .int .u16 0, bH 0, aN, aN, aN, aN, aN] 131 (0, 0)), jf z4 abi aH, gX s b o n c] (by kernel_rfl) ?_
 clear HF HM; intro a w HF HM
 refine aY HF rfl ?_
 refine wp_skip ?_
 repeat (first | refine aK ?_ | refine aP ?_)
 replace HF := HF.sub ((fB b o n c) ++ [(4, aB s), (5, aB z4), (8, aB z7), (9, (aS false))]) (by kernel_rfl)
 refine bG HF HM rfl [[1], [2]] ((fB b o n c) ++ [(4, aB s), (5, aB z4), (8, aB z7), (9, (aS false))]) [(z7, .cells #[aQ 2, aQ 1, aQ 1, aX abi, aQ 0, (aS false), .int .u16 0, .int .u16 0, bH 0, aN, aN, aN, aN, aN] 131 (0, 0)), jf z4 abi aH, gX s b o n c] (by kernel_rfl) ?_
 clear HF HM; intro a w HF HM
 refine bG HF HM rfl [[1], [2]] ((fB b o n c) ++ [(4, aB s), (8, aB z7), (9, (aS false))]) [xQ z7 abi aH, jf z4 abi aH, gX s b o n c] (by kernel_rfl) ?_
 clear HF HM; intro a w HF HM
 refine bG HF HM rfl [] ((fB b o n c) ++ [(4, aB s), (8, aB z7), (9, (aS false)), (10, aF 0)]) [xQ z7 abi aH, jf z4 abi aH, gX s b o n c] (by kernel_rfl) ?_
 clear HF HM; intro a w HF HM
 refine bG HF HM rfl [] ((fB b o n c) ++ [(4, aB s), (8, aB z7), (9, (aS false)), (10, aF 0), (11, aF 0), (12, aF 0)]) [xQ z7 abi aH, jf z4 abi aH, gX s b o n c] (by kernel_rfl) ?_
 clear HF HM; intro a w HF HM
 refine bG HF HM rfl [] ((fB b o n c) ++ [(4, aB s), (8, aB z7), (9, (aS false)), (10, aF 0), (11, aF 0), (12, aF 0), (13, aF 0)]) [xQ z7 abi aH, jf z4 abi aH, gX s b o n c] (by kernel_rfl) ?_
 clear HF HM; intro a w HF HM
 refine bG HF HM rfl [] ((fB b o n c) ++ [(4, aB s), (8, aB z7), (9, (aS false)), (10, aF 0), (11, aF 0), (12, aF 0), (13, aF 0), (14, aF 0), (15, aF 0), (16, aF 0)]) [xQ z7 abi aH, jf z4 abi aH, gX s b o n c] (by kernel_rfl) ?_
 clear HF HM; intro a w HF HM
 replace HF := HF.sub [(0, .iface 178 (.slice (some ⟨b, o, none⟩) n c)), (4, aB s), (8, aB z7), (9, (aS false))] (by kernel_rfl)
 exact K a w s z7 HF (HM.sub (List.Sublist.cons_cons _ (List.Sublist.cons _ (List.Sublist.refl _))))

abbrev gU := fun s (b : Nat) (o : Nat) (n : Nat) (c : Nat) => ((s, .cells #[.iface 178 (.slice (some ⟨b, o, none⟩) n c), aF 0, aF 0, aF 9223372036854775807, aF 9223372036854775807] 246 (0, 0)) : Nat × Obj)
abbrev eP := fun (b : Nat) (o : Nat) (n : Nat) (c : Nat) => ([(0, .iface 178 (.slice (some ⟨b, o, none⟩) n c)), (2, .pointer none), (3, .nilIface)] : Slots)
abbrev iQ := fun z4 (abi : Nat) (aH : Nat) => ((z4, .cells #[aQ 127, aQ 69, aQ 76, aQ 70, aQ 2, aQ 2, aQ 1, aX abi, aX aH, aQ 0, aQ 0, aQ 0, aQ 0, aQ 0, aQ 0, aQ 0] 205 (0, 0)) : Nat × Obj)
abbrev z_ := fun z7 => ((z7, .cells #[aQ 2, aQ 0, aQ 0, aQ 0, aQ 0, aQ 0, .int .u16 0, .int .u16 0, bH 0, aN, aN, aN, aN, aN] 131 (0, 0)) : Nat × Obj)
abbrev vP := fun z7 => ((z7, .cells #[aQ 2, aQ 2, aQ 0, aQ 0, aQ 0, aQ 0, .int .u16 0, .int .u16 0, bH 0, aN, aN, aN, aN, aN] 131 (0, 0)) : Nat × Obj)
abbrev xU := fun z7 (abi : Nat) (aH : Nat) => ((z7, .cells #[aQ 2, aQ 2, aQ 1, aX abi, aX aH, (aS true), .int .u16 0, .int .u16 0, bH 0, aN, aN, aN, aN, aN] 131 (0, 0)) : Nat × Obj)
theorem RN (l : List UInt8) (b o n c : Nat) (hl : n = l.length) (hnc : n ≤ c) (hn : 16 ≤ n) (abi aH : Nat) (hid : (((l.drop 0).take 16).map Bv).toArray = #[aQ 127, aQ 69, aQ 76, aQ 70, aQ 2, aQ 2, aQ 1, aX abi, aX aH, aQ 0, aQ 0, aQ 0, aQ 0, aQ 0, aQ 0, aQ 0]) {Q : Exit → Act → World → Prop} (w0 : World) (hbl : b < w0.heap.size) (hr : Row w0 (some ⟨b, o, none⟩) (l.map Bv)) (a : Act) (w : World) (HF : Fr 1287 a [(0, .iface 178 (.slice (some ⟨b, o, none⟩) n c))]) (HM : Mm [] w0 w [])
  (K : ∀ a w s fb, Fr 1287 a [(0, .iface 178 (.slice (some ⟨b, o, none⟩) n c)), (4, aB s), (8, aB fb), (9, (aS true))] → Mm [] w0 w [(fb, .cells #[aQ 2, aQ 2, aQ 1, aX abi, aX aH, (aS true), .int .u16 0, .int .u16 0, bH 0, aN, aN, aN, aN, aN] 131 (0, 0)), gU s b o n c] → (spine Tryd.f78 20).wp Tryd.prog Q a w) : (spine Tryd.f78 0).wp Tryd.prog Q a w := by
 refine bG HF HM rfl [] (eP b o n c) [] (by kernel_rfl) ?_
 clear HF HM; intro a w HF HM
 refine wp_seq (wp_region_lit ?_)
 refine aT HF HM rfl 1 [] ((eP b o n c) ++ [(57, .iface 178 (.slice (some ⟨b, o, none⟩) n c))]) [] (by kernel_rfl) ?_
 clear HF HM; intro a w HF HM
 refine bf HF (by kernel_rfl) 92 #[.iface 178 (.slice (some ⟨b, o, none⟩) n c), aF 0, aF 9223372036854775807] (by kernel_rfl) (fun w => by kernel_rfl) (Calls.mono (rF 178 (.slice (some ⟨b, o, none⟩) n c) 0 9223372036854775807 (by omega) (by omega) (by omega) w) ?_)
 rintro _ w1 ⟨s, rfl, hb, hge, hgn⟩
 replace HM : Mm [] w0 w1 [gU s b o n c] := HM.push hb hge hgn
 clear hb hge hgn
 refine ⟨_, rfl, ?_⟩; clear HF; intro a HF; replace HF := HF.sub ((eP b o n c) ++ [(57, .iface 178 (.slice (some ⟨b, o, none⟩) n c)), (58, aB s)]) (by kernel_rfl)
 refine aT HF HM rfl 1 [] ((eP b o n c) ++ [(4, aB s)]) [gU s b o n c] (by kernel_rfl) ?_
 clear HF HM; intro a w HF HM
 refine aA ?_
 obtain ⟨z4, qP⟩ : ∃ z, w.heap.size = z := ⟨_, rfl⟩
 refine bG HF HM qP [] ((eP b o n c) ++ [(4, aB s), (5, aB z4)]) [(z4, .cells #[aQ 0, aQ 0, aQ 0, aQ 0, aQ 0, aQ 0, aQ 0, aQ 0, aQ 0, aQ 0, aQ 0, aQ 0, aQ 0, aQ 0, aQ 0, aQ 0] 205 (0, 0)), gU s b o n c] (by kernel_rfl) ?_
 clear HF HM qP; intro a w HF HM
 refine wp_seq ?_
 refine jS HM (by kernel_rfl) [gU s b o n c] [(0, false), (1, false), (2, false), (3, false), (4, false), (5, true), (6, false), (7, false), (8, false), (9, false), (10, false)] (by kernel_rfl) ?_
 clear HM; intro w2 HM
 refine bI HF (HM.told [1] rfl) 5 [] ((eP b o n c) ++ [(4, aB s), (5, aB z4), (60, .iface 178 (.slice (some ⟨b, o, none⟩) n c)), (61, aC z4 16 16), (64, .iface 178 (.slice (some ⟨b, o, none⟩) n c))]) (by kernel_rfl) ?_
 clear HF; intro a HF
 refine bW rfl ?_
 have hbi : b ≠ z4 := fun e => absurd hbl (Nat.not_lt_of_le (e ▸ HM.ge (i := 0) rfl))
 refine bf HF (by kernel_rfl) 127 #[.slice (some ⟨b, o, none⟩) n c, aC z4 16 16, ay 0] (by kernel_rfl) (fun w => by kernel_rfl) (Calls.mono (wB l b o n c hl hnc z4 #[aQ 0, aQ 0, aQ 0, aQ 0, aQ 0, aQ 0, aQ 0, aQ 0, aQ 0, aQ 0, aQ 0, aQ 0, aQ 0, aQ 0, aQ 0, aQ 0] 205 16 16 rfl 0 (by omega) (by omega) w2 (HM.row hr (by intro b' o' s' _; simp)) hbi (HM.get (i := 0) rfl)) ?_)
 rintro _ w3 ⟨rfl, hkp, hgn⟩
 rw [hid] at hgn
 replace HM : Mm [] w0 w3 [iQ z4 abi aH, gU s b o n c] := HM.put (i := 0) rfl hgn hkp
 clear hkp hgn
 refine ⟨_, rfl, ?_⟩; clear HF; intro a HF; replace HF := HF.sub ((eP b o n c) ++ [(4, aB s), (5, aB z4), (60, .iface 178 (.slice (some ⟨b, o, none⟩) n c)), (61, aC z4 16 16), (64, .iface 178 (.slice (some ⟨b, o, none⟩) n c)), (65, .tuple #[ay 16, .nilIface])]) (by kernel_rfl)
 refine dH (HM.told [1] rfl) ?_
 refine bI HF (HM.told [1] rfl) 5 [] ((eP b o n c) ++ [(4, aB s), (5, aB z4), (7, .nilIface)]) (by kernel_rfl) ?_
 clear HF; intro a HF
 refine iM ?_
 refine aK ?_
 refine wp_seq (wp_region_lit ?_)
 refine aT HF HM rfl 2 [] ((eP b o n c) ++ [(4, aB s), (5, aB z4), (7, .nilIface), (69, .bool false)]) [iQ z4 abi aH, gU s b o n c] (by kernel_rfl) ?_
 clear HF HM; intro a w HF HM
 refine aA ?_
 refine aY HF rfl ?_
 refine wp_skip ?_
 repeat (first | refine aK ?_ | refine aP ?_)
 replace HF := HF.sub ((eP b o n c) ++ [(4, aB s), (5, aB z4)]) (by kernel_rfl)
 refine wp_seq ?_
 refine wp_seq (wp_region_lit ?_)
 refine aT HF HM rfl 18 [[1], [1], [1], [1]] ((eP b o n c) ++ [(4, aB s), (5, aB z4), (91, .bool false)]) [iQ z4 abi aH, gU s b o n c] (by kernel_rfl) ?_
 clear HF HM; intro a w HF HM
 refine aA ?_
 refine aY HF rfl ?_
 refine wp_skip ?_
 repeat (first | refine aK ?_ | refine aP ?_)
 replace HF := HF.sub ((eP b o n c) ++ [(4, aB s), (5, aB z4)]) (by kernel_rfl)
 obtain ⟨z7, yX⟩ : ∃ z, w.heap.size = z := ⟨_, rfl⟩
 refine bG HF HM yX [] ((eP b o n c) ++ [(4, aB s), (5, aB z4), (8, aB z7)]) [(z7, .cells #[aQ 0, aQ 0, aQ 0, aQ 0, aQ 0, aQ 0, .int .u16 0, .int .u16 0, bH 0, aN, aN, aN, aN, aN] 131 (0, 0)), iQ z4 abi aH, gU s b o n c] (by kernel_rfl) ?_
 clear HF HM yX; intro a w HF HM
 refine bG HF HM rfl [[1], [2]] ((eP b o n c) ++ [(4, aB s), (5, aB z4), (8, aB z7)]) [z_ z7, iQ z4 abi aH, gU s b o n c] (by kernel_rfl) ?_
 clear HF HM; intro a w HF HM
 refine wp_seq ?_
 refine bG HF HM rfl [[2]] ((eP b o n c) ++ [(4, aB s), (5, aB z4), (8, aB z7), (108, aQ 2)]) [z_ z7, iQ z4 abi aH, gU s b o n c] (by kernel_rfl) ?_
 clear HF HM; intro a w HF HM
 refine wp_block ?_
 refine bG HF HM rfl [] ((eP b o n c) ++ [(4, aB s), (5, aB z4), (8, aB z7), (108, aQ 2), (118, .bool false)]) [z_ z7, iQ z4 abi aH, gU s b o n c] (by kernel_rfl) ?_
 clear HF HM; intro a w HF HM
 refine aY HF rfl ?_
 refine bG HF HM rfl [] ((eP b o n c) ++ [(4, aB s), (5, aB z4), (8, aB z7), (108, aQ 2), (120, .bool true)]) [z_ z7, iQ z4 abi aH, gU s b o n c] (by kernel_rfl) ?_
 clear HF HM; intro a w HF HM
 refine bD HF rfl ?_
 refine wp_skip ?_
 repeat (first | refine aK ?_ | refine aP ?_)
 replace HF := HF.sub ((eP b o n c) ++ [(4, aB s), (5, aB z4), (8, aB z7)]) (by kernel_rfl)
 refine bG HF HM rfl [[1], [2]] ((eP b o n c) ++ [(4, aB s), (5, aB z4), (8, aB z7)]) [vP z7, iQ z4 abi aH, gU s b o n c] (by kernel_rfl) ?_
 clear HF HM; intro a w HF HM
 refine bG HF HM rfl [] ((eP b o n c) ++ [(4, aB s), (5, aB z4), (8, aB z7), (9, aQ 0)]) [vP z7, iQ z4 abi aH, gU s b o n c] (by kernel_rfl) ?_
 clear HF HM; intro a w HF HM
 refine wp_seq ?_
 refine bG HF HM rfl [[2]] ((eP b o n c) ++ [(4, aB s), (5, aB z4), (8, aB z7), (9, aQ 0), (132, aQ 2)]) [vP z7, iQ z4 abi aH, gU s b o n c] (by kernel_rfl) ?_
 clear HF HM; intro a w HF HM
 refine wp_block ?_
 refine bG HF HM rfl [] ((eP b o n c) ++ [(4, aB s), (5, aB z4), (8, aB z7), (9, aQ 0), (132, aQ 2), (142, .bool false)]) [vP z7, iQ z4 abi aH, gU s b o n c] (by kernel_rfl) ?_
 clear HF HM; intro a w HF HM
 refine aY HF rfl ?_
 refine bG HF HM rfl [] ((eP b o n c) ++ [(4, aB s), (5, aB z4), (8, aB z7), (9, aQ 0), (132, aQ 2), (144, .bool true)]) [vP z7, iQ z4 abi aH, gU s b o n c] (by kernel_rfl) ?_
 clear HF HM; intro a w HF HM
 refine bD HF rfl ?_
 refine pK HF HM rfl [] ((eP b o n c) ++ [(4, aB s), (5, aB z4), (8, aB z7), (9, (aS true))]) [vP z7, iQ z4 abi aH, gU s b o n c] (by kernel_rfl) ?_
 clear HF HM; intro a w HF HM
 repeat (first | refine aK ?_ | refine aP ?_)
 refine bG HF HM rfl [[2]] ((eP b o n c) ++ [(4, aB s), (5, aB z4), (8, aB z7), (9, (aS true))]) [(z7, .cells #[aQ 2, aQ 2, aQ 0, aQ 0, aQ 0, (aS true), .int .u16 0, .int .u16 0, bH 0, aN, aN, aN, aN, aN] 131 (0, 0)), iQ z4 abi aH, gU s b o n c] (by kernel_rfl) ?_
 clear HF HM; intro a w HF HM
 refine bG HF HM rfl [[1], [2]] ((eP b o n c) ++ [(4, aB s), (5, aB z4), (8, aB z7), (9, (aS true))]) [(z7, .cells #[aQ 2, aQ 2, aQ 1, aQ 0, aQ 0, (aS true), .int .u16 0, .int .u16 0, bH 0, aN, aN, aN, aN, aN] 131 (0, 0)), iQ z4 abi aH, gU s b o n c] (by kernel_rfl) ?_
 clear HF HM; intro a w HF HM
 refine wp_seq ?_
 refine bG HF HM rfl [[2]] ((eP b o n c) ++ [(4, aB s), (5, aB z4), (8, aB z7), (9, (aS true)), (162, .bool false)]) [(z7, .cells #[aQ 2, aQ 2, aQ 1, aQ 0, aQ 0, (aS true), .int .u16 0, .int .u16 0, bH 0, aN, aN, aN, aN, aN] 131 (0, 0)), iQ z4 abi aH, gU s b o n c] (by kernel_rfl) ?_
 clear HF HM; intro a w HF HM
 refine aY HF rfl ?_
 refine wp_skip ?_
 repeat (first | refine aK ?_ | refine aP ?_)
 replace HF := HF.sub ((eP b o n c) ++ [(4, aB s), (5, aB z4), (8, aB z7), (9, (aS true))]) (by kernel_rfl)
 refine bG HF HM rfl [[1], [2]] ((eP b o n c) ++ [(4, aB s), (5, aB z4), (8, aB z7), (9, (aS true))]) [(z7, .cells #[aQ 2, aQ 2, aQ 1, aX abi, aQ 0, (aS true), .int .u16 0, .int .u16 0, bH 0, aN, aN, aN, aN, aN] 131 (0, 0)), iQ z4 abi aH, gU s b o n c] (by kernel_rfl) ?_
 clear HF HM; intro a w HF HM
 refine bG HF HM rfl [[1], [2]] ((eP b o n c) ++ [(4, aB s), (8, aB z7), (9, (aS true))]) [xU z7 abi aH, iQ z4 abi aH, gU s b o n c] (by kernel_rfl) ?_
 clear HF HM; intro a w HF HM
 refine bG HF HM rfl [] ((eP b o n c) ++ [(4, aB s), (8, aB z7), (9, (aS true)), (10, aF 0)]) [xU z7 abi aH, iQ z4 abi aH, gU s b o n c] (by kernel_rfl) ?_
 clear HF HM; intro a w HF HM
 refine bG HF HM rfl [] ((eP b o n c) ++ [(4, aB s), (8, aB z7), (9, (aS true)), (10, aF 0), (11, aF 0), (12, aF 0)]) [xU z7 abi aH, iQ z4 abi aH, gU s b o n c] (by kernel_rfl) ?_
 clear HF HM; intro a w HF HM
 refine bG HF HM rfl [] ((eP b o n c) ++ [(4, aB s), (8, aB z7), (9, (aS true)), (10, aF 0), (11, aF 0), (12, aF 0), (13, aF 0)]) [xU z7 abi aH, iQ z4 abi aH, gU s b o n c] (by kernel_rfl) ?_
 clear HF HM; intro a w HF HM
 refine bG HF HM rfl [] ((eP b o n c) ++ [(4, aB s), (8, aB z7), (9, (aS true)), (10, aF 0), (11, aF 0), (12, aF 0), (13, aF 0), (14, aF 0), (15, aF 0), (16, aF 0)]) [xU z7 abi aH, iQ z4 abi aH, gU s b o n c] (by kernel_rfl) ?_
 clear HF HM; intro a w HF HM
 replace HF := HF.sub [(0, .iface 178 (.slice (some ⟨b, o, none⟩) n c)), (4, aB s), (8, aB z7), (9, (aS true))] (by kernel_rfl)
 exact K a w s z7 HF (HM.sub (List.Sublist.cons_cons _ (List.Sublist.cons _ (List.Sublist.refl _))))

end Go.Proofs.YtdgehpocmfjbiaaDoor
namespace Go.Proofs.YtdgehpocmfjbiaaDoor
open Go.RowKit

theorem nJ {w : World} {g : Nat} {X : List UInt8} {t : TypeId} (hg : w.heap[g]? = some (.cells (X.map Bv).toArray t (0, 0))) : Row w (some ⟨g, 0, none⟩) (X.map Bv) :=
 Row.of_cells fun j hj => by
  rw [cell_of_row w g (0 + j) _ t (0, 0) hg, Nat.zero_add]
  have : j < X.length := by simpa using hj
  simp [this]
theorem qV {w : World} {g : Nat} {X : List UInt8} {t : TypeId} (hg : w.heap[g]? = some (.cells (X.map Bv).toArray t (0, 0))) (big : Bool) (k m : Nat) (hm : m + k = X.length) (hk : k + 2 ≤ X.length) (v : Int) (hv : ((num big X k 2 : Nat) : Int) = v) :
  Calls Tryd.prog 94 #[aS big, .slice (some ⟨g, k, none⟩) m m] w fun e w' => e = .returned (.int .u16 v) ∧ ∃ i, w' = w.drewN i := by
 have hr := (nJ hg).drop_at k
 rw [← List.map_drop, Nat.zero_add] at hr
 rw [← hv]
 exact C_ big (X.drop k) _ m m (by omega) (by simp; omega) w hr
theorem kF {w : World} {g : Nat} {X : List UInt8} {t : TypeId} (hg : w.heap[g]? = some (.cells (X.map Bv).toArray t (0, 0))) (hX : X.length ≤ maxLen) (big : Bool) (k m : Nat) (hm : m + k = X.length) (hk : k + 4 ≤ X.length) (v : Int) (hv : ((num big X k 4 : Nat) : Int) = v) :
  Calls Tryd.prog 87 #[aS big, .slice (some ⟨g, k, none⟩) m m] w fun e w' => e = .returned (.int .u32 v) ∧ ∃ i, w' = w.drewN i := by
 have hr := (nJ hg).drop_at k
 rw [← List.map_drop, Nat.zero_add] at hr
 rw [← hv]
 exact zo big (X.drop k) _ m m (by omega) (by simp; omega) (Nat.le_refl _) (by omega) w hr
theorem qI {w : World} {g : Nat} {X : List UInt8} {t : TypeId} (hg : w.heap[g]? = some (.cells (X.map Bv).toArray t (0, 0))) (hX : X.length ≤ maxLen) (big : Bool) (k m : Nat) (hm : m + k = X.length) (hk : k + 8 ≤ X.length) (v : Int) (hv : ((num big X k 8 : Nat) : Int) = v) :
  Calls Tryd.prog 88 #[aS big, .slice (some ⟨g, k, none⟩) m m] w fun e w' => e = .returned (.int .u64 v) ∧ ∃ i, w' = w.drewN i := by
 have hr := (nJ hg).drop_at k
 rw [← List.map_drop, Nat.zero_add] at hr
 rw [← hv]
 exact Hu big (X.drop k) _ m m (by omega) (by simp; omega) (Nat.le_refl _) (by omega) w hr

abbrev qB := fun (fb : Nat) (dat : Int) (abi : Nat) (aH : Nat) (big : Bool) => ((fb, .cells #[aQ 1, .int .u8 dat, aQ 1, aX abi, aX aH, (aS big), .int .u16 0, .int .u16 0, bH 0, aN, aN, aN, aN, aN] 131 (0, 0)) : Nat × Obj)
abbrev dO := fun (s : Nat) (b : Nat) (o : Nat) (n : Nat) (c : Nat) => ((s, .cells #[.iface 178 (.slice (some ⟨b, o, none⟩) n c), aF 0, aF 0, aF 9223372036854775807, aF 9223372036854775807] 246 (0, 0)) : Nat × Obj)
abbrev fA := fun (b : Nat) (o : Nat) (n : Nat) (c : Nat) (s : Nat) (fb : Nat) (big : Bool) => ([(0, .iface 178 (.slice (some ⟨b, o, none⟩) n c)), (4, aB s), (8, aB fb), (9, (aS big))] : Slots)
abbrev gG := fun (fb : Nat) (dat : Int) (abi : Nat) (aH : Nat) (big : Bool) (aU : Nat) (aJ : Nat) (aG : Nat) => ((fb, .cells #[aQ 1, .int .u8 dat, aQ 1, aX abi, aX aH, (aS big), bF aU, bF aJ, aI aG, aN, aN, aN, aN, aN] 131 (0, 0)) : Nat × Obj)
abbrev ES := fun (fb : Nat) (dat : Int) (abi : Nat) (aH : Nat) (big : Bool) (aU : Nat) => ((fb, .cells #[aQ 1, .int .u8 dat, aQ 1, aX abi, aX aH, (aS big), bF aU, .int .u16 0, bH 0, aN, aN, aN, aN, aN] 131 (0, 0)) : Nat × Obj)
abbrev BQ := fun (fb : Nat) (dat : Int) (abi : Nat) (aH : Nat) (big : Bool) (aU : Nat) (aJ : Nat) => ((fb, .cells #[aQ 1, .int .u8 dat, aQ 1, aX abi, aX aH, (aS big), bF aU, bF aJ, bH 0, aN, aN, aN, aN, aN] 131 (0, 0)) : Nat × Obj)
abbrev mP := fun (b : Nat) (o : Nat) (n : Nat) (c : Nat) (s : Nat) (fb : Nat) (big : Bool) g (ak : Nat) => ((fA b o n c s fb big) ++ [(17, aC g 52 52), (10, ay ak)] : Slots)
abbrev mO := fun (b : Nat) (o : Nat) (n : Nat) (c : Nat) (s : Nat) (fb : Nat) (big : Bool) g (ak : Nat) (aj : Nat) (au : Nat) => ((mP b o n c s fb big g ak) ++ [(11, aF 32), (12, ay aj), (13, ay au)] : Slots)
theorem PN (l : List UInt8) (b o n c : Nat) (hl : n = l.length) (hnc : n ≤ c) (hn : 52 ≤ n) (big : Bool) (abi aH aU aJ aG ak aj au ah : Nat) (dat : Int) (H : Ip l false big abi aH aU aJ aG ak aj au ah) (b1 : aU < 65536) (b2 : aJ < 65536) (b3 : aG ≤ 18446744073709551615) (b4 : ak < 4611686018427387904) (b5 : au < 4611686018427387904) (b6 : aj < 200) (b7 : ah < 200) {Q : Exit → Act → World → Prop} (w0 : World) (hbl : b < w0.heap.size) (hr : Row w0 (some ⟨b, o, none⟩) (l.map Bv)) (a : Act) (w : World) (s fb : Nat) (HF : Fr 1287 a (fA b o n c s fb big)) (HM : Mm [] w0 w [qB fb dat abi aH big, dO s b o n c])
  (K : ∀ a w, Fr 1287 a ((fA b o n c s fb big) ++ [(10, ay ak), (11, aF 32), (12, ay aj), (13, ay au), (14, aF 40), (15, ay ah), (16, ay (ah - 1))]) → Mm [] w0 w [gG fb dat abi aH big aU aJ aG, dO s b o n c] → (spine Tryd.f78 21).wp Tryd.prog Q a w) : (spine Tryd.f78 20).wp Tryd.prog Q a w := by
 obtain ⟨X, hX⟩ : ∃ X, (l.drop (0 + 0)).take 52 = X := ⟨_, rfl⟩
 have pV : X.length = 52 := by rw [← hX]; simp; omega
 have hnum : ∀ k s, k + s ≤ 52 → num big X k s = num big l k s := fun k s h => by rw [← hX, Nat.zero_add, List.drop_zero, KE _ _ _ _ _ h]
 have He : num big l 24 4 = aG := H.entry
 have Hp : num big l 28 4 = ak := H.QX
 have Hs : num big l 32 4 = au := H.m_
 have Hpe : num big l 42 2 = 32 := H.QZ
 have Hpn : num big l 44 2 = aj := H.QY
 have Hse : num big l 46 2 = 40 := H.QU
 have Hsn : num big l 48 2 = ah := H.QT
 have Hst : num big l 50 2 = ah - 1 := H.zy
 refine wp_seq ?_
 refine bG HF HM rfl [[1]] ((fA b o n c s fb big) ++ [(188, aQ 1)]) [qB fb dat abi aH big, dO s b o n c] (by kernel_rfl) ?_
 clear HF HM; intro a w HF HM
 refine wp_block ?_
 refine bG HF HM rfl [] ((fA b o n c s fb big) ++ [(188, aQ 1), (189, .bool true)]) [qB fb dat abi aH big, dO s b o n c] (by kernel_rfl) ?_
 clear HF HM; intro a w HF HM
 refine bD HF rfl ?_
 replace HF := HF.sub (fA b o n c s fb big) (by kernel_rfl)
 refine wp_seq (wp_region_lit ?_)
 refine FZ HF HM rfl _ _ 33 rfl rfl 5 (aQ 0) 1 Tryd.underlying33 D_ rfl .i64 .i64 52 rfl rfl (by omega) (by omega) ?_
 intro a2 w1 g hgw hbel bT HF2; have hg0 : w0.heap.size ≤ g := Nat.le_trans HM.size hgw; clear HF HM hbel hgw; have HM := bT; have HF := HF2; clear bT HF2
 replace HF := HF.sub ((fA b o n c s fb big) ++ [(191, aC g 52 52)]) (by kernel_rfl)
 refine aT HF HM rfl 1 [] ((fA b o n c s fb big) ++ [(17, aC g 52 52)]) [(g, .cells (madeCells #[aQ 0] 52) 5 (0, 0)), qB fb dat abi aH big, dO s b o n c] (by kernel_rfl) ?_
 clear HF HM; intro a w HF HM
 refine aA ?_
 have hbg : b ≠ g := by omega
 have hbs : b ≠ s := fun e => absurd hbl (Nat.not_lt_of_le (e ▸ HM.ge (i := 2) rfl))
 refine wp_seq ?_
 refine wp_seq (wp_region_lit ?_)
 refine aT HF HM rfl 2 [] ((fA b o n c s fb big) ++ [(17, aC g 52 52), (193, aB s), (194, aC g 52 52)]) [(g, .cells (madeCells #[aQ 0] 52) 5 (0, 0)), qB fb dat abi aH big, dO s b o n c] (by kernel_rfl) ?_
 clear HF HM; intro a w HF HM
 refine bf HF (by kernel_rfl) 93 #[aB s, aC g 52 52, ay 0] (by kernel_rfl) (fun w => by kernel_rfl) (Calls.mono (Bh l b o n c hl hnc g s _ 5 52 52 (uF _ _) 0 0 0 9223372036854775807 9223372036854775807 (by omega) (by omega) (by omega) (by omega) (by omega) w (HM.row hr (by intro b' o' s' _; simp)) hbg hbs (HM.ne (i := 2) (j := 0) rfl rfl (by decide)) (HM.get (i := 2) rfl) (HM.get (i := 0) rfl)) ?_)
 rintro _ w2 ⟨rfl, hkp, hsn, hgn⟩
 rw [hX] at hgn
 replace HM : Mm [] w0 w2 [(g, .cells (X.map Bv).toArray 5 (0, 0)), qB fb dat abi aH big, dO s b o n c] := HM.N7 (i := 2) (j := 0) rfl rfl (by decide) hsn hgn hkp
 clear hkp hsn hgn
 refine ⟨_, rfl, ?_⟩; clear HF; intro a HF; replace HF := HF.sub ((fA b o n c s fb big) ++ [(17, aC g 52 52), (193, aB s), (194, aC g 52 52), (195, .tuple #[ay 52, .nilIface])]) (by kernel_rfl)
 refine aT HF HM rfl 5 [] ((fA b o n c s fb big) ++ [(17, aC g 52 52), (19, .nilIface)]) [(g, .cells (X.map Bv).toArray 5 (0, 0)), qB fb dat abi aH big, dO s b o n c] (by kernel_rfl) ?_
 clear HF HM; intro a w HF HM
 refine aA ?_
 refine wp_seq (wp_region_lit ?_)
 refine aT HF HM rfl 2 [] ((fA b o n c s fb big) ++ [(17, aC g 52 52), (19, .nilIface), (199, .bool false)]) [(g, .cells (X.map Bv).toArray 5 (0, 0)), qB fb dat abi aH big, dO s b o n c] (by kernel_rfl) ?_
 clear HF HM; intro a w HF HM
 refine aA ?_
 refine aY HF rfl ?_
 refine wp_skip ?_
 repeat (first | refine aK ?_ | refine aP ?_)
 replace HF := HF.sub ((fA b o n c s fb big) ++ [(17, aC g 52 52)]) (by kernel_rfl)
 refine wp_seq (wp_region_lit ?_)
 refine aT HF HM rfl 4 [] ((fA b o n c s fb big) ++ [(17, aC g 52 52), (201, aB fb), (202, (aS big)), (204, .slice (some ⟨g, 16, none⟩) 36 36)]) [(g, .cells (X.map Bv).toArray 5 (0, 0)), qB fb dat abi aH big, dO s b o n c] (by kernel_rfl) ?_
 clear HF HM; intro a w HF HM
 refine bf HF (by kernel_rfl) 94 #[(aS big), .slice (some ⟨g, 16, none⟩) 36 36] (by kernel_rfl) (fun w => by kernel_rfl) (Calls.mono (qV (HM.get (i := 0) rfl) big 16 36 (by omega) (by omega) ((aU : Nat) : Int) (by rw [hnum 16 2 (by omega), H.ty])) ?_)
 rintro _ w3 ⟨rfl, kM, hq⟩
 replace HM : Mm [] w0 w3 [(g, .cells (X.map Bv).toArray 5 (0, 0)), qB fb dat abi aH big, dO s b o n c] := by rw [hq]; exact HM.drewN _
 clear hq
 refine ⟨_, rfl, ?_⟩; clear HF; intro a HF; replace HF := HF.sub ((fA b o n c s fb big) ++ [(17, aC g 52 52), (201, aB fb), (202, (aS big)), (204, .slice (some ⟨g, 16, none⟩) 36 36), (205, bF aU)]) (by kernel_rfl)
 replace HF := HF.sub ((fA b o n c s fb big) ++ [(17, aC g 52 52), (201, aB fb), (205, bF aU)]) (by kernel_rfl)
 refine aT HF HM rfl 4 [[1]] ((fA b o n c s fb big) ++ [(17, aC g 52 52)]) [(g, .cells (X.map Bv).toArray 5 (0, 0)), ES fb dat abi aH big aU, dO s b o n c] (by kernel_rfl) ?_
 clear HF HM; intro a w HF HM
 refine aA ?_
 refine wp_seq (wp_region_lit ?_)
 refine aT HF HM rfl 4 [] ((fA b o n c s fb big) ++ [(17, aC g 52 52), (209, aB fb), (210, (aS big)), (212, .slice (some ⟨g, 18, none⟩) 34 34)]) [(g, .cells (X.map Bv).toArray 5 (0, 0)), ES fb dat abi aH big aU, dO s b o n c] (by kernel_rfl) ?_
 clear HF HM; intro a w HF HM
 refine bf HF (by kernel_rfl) 94 #[(aS big), .slice (some ⟨g, 18, none⟩) 34 34] (by kernel_rfl) (fun w => by kernel_rfl) (Calls.mono (qV (HM.get (i := 0) rfl) big 18 34 (by omega) (by omega) ((aJ : Nat) : Int) (by rw [hnum 18 2 (by omega), H.machine])) ?_)
 rintro _ w4 ⟨rfl, kM, hq⟩
 replace HM : Mm [] w0 w4 [(g, .cells (X.map Bv).toArray 5 (0, 0)), ES fb dat abi aH big aU, dO s b o n c] := by rw [hq]; exact HM.drewN _
 clear hq
 refine ⟨_, rfl, ?_⟩; clear HF; intro a HF; replace HF := HF.sub ((fA b o n c s fb big) ++ [(17, aC g 52 52), (209, aB fb), (210, (aS big)), (212, .slice (some ⟨g, 18, none⟩) 34 34), (213, bF aJ)]) (by kernel_rfl)
 replace HF := HF.sub ((fA b o n c s fb big) ++ [(17, aC g 52 52), (209, aB fb), (213, bF aJ)]) (by kernel_rfl)
 refine aT HF HM rfl 4 [[1]] ((fA b o n c s fb big) ++ [(17, aC g 52 52)]) [(g, .cells (X.map Bv).toArray 5 (0, 0)), BQ fb dat abi aH big aU aJ, dO s b o n c] (by kernel_rfl) ?_
 clear HF HM; intro a w HF HM
 refine aA ?_
 refine wp_seq (wp_region_lit ?_)
 refine aT HF HM rfl 4 [] ((fA b o n c s fb big) ++ [(17, aC g 52 52), (217, aB fb), (218, (aS big)), (220, .slice (some ⟨g, 24, none⟩) 28 28)]) [(g, .cells (X.map Bv).toArray 5 (0, 0)), BQ fb dat abi aH big aU aJ, dO s b o n c] (by kernel_rfl) ?_
 clear HF HM; intro a w HF HM
 refine bf HF (by kernel_rfl) 87 #[(aS big), .slice (some ⟨g, 24, none⟩) 28 28] (by kernel_rfl) (fun w => by kernel_rfl) (Calls.mono (kF (HM.get (i := 0) rfl) (by unfold maxLen; omega) big 24 28 (by omega) (by omega) ((aG : Nat) : Int) (by rw [hnum 24 4 (by omega), He])) ?_)
 rintro _ w5 ⟨rfl, kM, hq⟩
 replace HM : Mm [] w0 w5 [(g, .cells (X.map Bv).toArray 5 (0, 0)), BQ fb dat abi aH big aU aJ, dO s b o n c] := by rw [hq]; exact HM.drewN _
 clear hq
 refine ⟨_, rfl, ?_⟩; clear HF; intro a HF; replace HF := HF.sub ((fA b o n c s fb big) ++ [(17, aC g 52 52), (217, aB fb), (218, (aS big)), (220, .slice (some ⟨g, 24, none⟩) 28 28), (221, bn aG)]) (by kernel_rfl)
 replace HF := HF.sub ((fA b o n c s fb big) ++ [(17, aC g 52 52), (217, aB fb), (221, bn aG)]) (by kernel_rfl)
 refine aT HF HM rfl 1 [] ((fA b o n c s fb big) ++ [(17, aC g 52 52), (217, aB fb), (222, bH (IntKind.u64.wrap ((aG : Nat) : Int)))]) [(g, .cells (X.map Bv).toArray 5 (0, 0)), BQ fb dat abi aH big aU aJ, dO s b o n c] (by kernel_rfl) ?_
 clear HF HM; intro a w HF HM
 rw [show IntKind.u64.wrap ((aG : Nat) : Int) = ((aG : Nat) : Int) from IntWalk.u64_in _ (by omega)] at HF
 refine aT HF HM rfl 4 [[1]] ((fA b o n c s fb big) ++ [(17, aC g 52 52)]) [(g, .cells (X.map Bv).toArray 5 (0, 0)), gG fb dat abi aH big aU aJ aG, dO s b o n c] (by kernel_rfl) ?_
 clear HF HM; intro a w HF HM
 refine aA ?_
 refine wp_seq ?_
 refine wp_seq (wp_region_lit ?_)
 refine aT HF HM rfl 3 [] ((fA b o n c s fb big) ++ [(17, aC g 52 52), (226, (aS big)), (228, .slice (some ⟨g, 20, none⟩) 32 32)]) [(g, .cells (X.map Bv).toArray 5 (0, 0)), gG fb dat abi aH big aU aJ aG, dO s b o n c] (by kernel_rfl) ?_
 clear HF HM; intro a w HF HM
 refine bf HF (by kernel_rfl) 87 #[(aS big), .slice (some ⟨g, 20, none⟩) 32 32] (by kernel_rfl) (fun w => by kernel_rfl) (Calls.mono (kF (HM.get (i := 0) rfl) (by unfold maxLen; omega) big 20 32 (by omega) (by omega) ((1 : Nat) : Int) (by rw [hnum 20 4 (by omega), H.ver])) ?_)
 rintro _ w6 ⟨rfl, kM, hq⟩
 replace HM : Mm [] w0 w6 [(g, .cells (X.map Bv).toArray 5 (0, 0)), gG fb dat abi aH big aU aJ aG, dO s b o n c] := by rw [hq]; exact HM.drewN _
 clear hq
 refine ⟨_, rfl, ?_⟩; clear HF; intro a HF; replace HF := HF.sub ((fA b o n c s fb big) ++ [(17, aC g 52 52), (226, (aS big)), (228, .slice (some ⟨g, 20, none⟩) 32 32), (229, bn 1)]) (by kernel_rfl)
 replace HF := HF.sub ((fA b o n c s fb big) ++ [(17, aC g 52 52), (229, bn 1)]) (by kernel_rfl)
 refine aT HF HM rfl 2 [] ((fA b o n c s fb big) ++ [(17, aC g 52 52), (20, aQ 1)]) [(g, .cells (X.map Bv).toArray 5 (0, 0)), gG fb dat abi aH big aU aJ aG, dO s b o n c] (by kernel_rfl) ?_
 clear HF HM; intro a w HF HM
 refine aA ?_
 refine wp_seq (wp_region_lit ?_)
 refine aT HF HM rfl 7 [[1]] ((fA b o n c s fb big) ++ [(17, aC g 52 52), (237, .bool false)]) [(g, .cells (X.map Bv).toArray 5 (0, 0)), gG fb dat abi aH big aU aJ aG, dO s b o n c] (by kernel_rfl) ?_
 clear HF HM; intro a w HF HM
 refine aA ?_
 refine aY HF rfl ?_
 refine wp_skip ?_
 repeat (first | refine aK ?_ | refine aP ?_)
 replace HF := HF.sub ((fA b o n c s fb big) ++ [(17, aC g 52 52)]) (by kernel_rfl)
 refine wp_seq (wp_region_lit ?_)
 refine aT HF HM rfl 3 [] ((fA b o n c s fb big) ++ [(17, aC g 52 52), (243, (aS big)), (245, .slice (some ⟨g, 28, none⟩) 24 24)]) [(g, .cells (X.map Bv).toArray 5 (0, 0)), gG fb dat abi aH big aU aJ aG, dO s b o n c] (by kernel_rfl) ?_
 clear HF HM; intro a w HF HM
 refine bf HF (by kernel_rfl) 87 #[(aS big), .slice (some ⟨g, 28, none⟩) 24 24] (by kernel_rfl) (fun w => by kernel_rfl) (Calls.mono (kF (HM.get (i := 0) rfl) (by unfold maxLen; omega) big 28 24 (by omega) (by omega) ((ak : Nat) : Int) (by rw [hnum 28 4 (by omega), Hp])) ?_)
 rintro _ w7 ⟨rfl, kM, hq⟩
 replace HM : Mm [] w0 w7 [(g, .cells (X.map Bv).toArray 5 (0, 0)), gG fb dat abi aH big aU aJ aG, dO s b o n c] := by rw [hq]; exact HM.drewN _
 clear hq
 refine ⟨_, rfl, ?_⟩; clear HF; intro a HF; replace HF := HF.sub ((fA b o n c s fb big) ++ [(17, aC g 52 52), (243, (aS big)), (245, .slice (some ⟨g, 28, none⟩) 24 24), (246, bn ak)]) (by kernel_rfl)
 replace HF := HF.sub ((fA b o n c s fb big) ++ [(17, aC g 52 52), (246, bn ak)]) (by kernel_rfl)
 refine aT HF HM rfl 1 [] ((fA b o n c s fb big) ++ [(17, aC g 52 52), (247, aF (IntKind.i64.wrap ((ak : Nat) : Int)))]) [(g, .cells (X.map Bv).toArray 5 (0, 0)), gG fb dat abi aH big aU aJ aG, dO s b o n c] (by kernel_rfl) ?_
 clear HF HM; intro a w HF HM
 rw [show IntKind.i64.wrap ((ak : Nat) : Int) = ((ak : Nat) : Int) from IntWalk.i64_in _ (by omega)] at HF
 refine aT HF HM rfl 1 [] (mP b o n c s fb big g ak) [(g, .cells (X.map Bv).toArray 5 (0, 0)), gG fb dat abi aH big aU aJ aG, dO s b o n c] (by kernel_rfl) ?_
 clear HF HM; intro a w HF HM
 refine aA ?_
 refine wp_seq (wp_region_lit ?_)
 refine aT HF HM rfl 3 [] ((mP b o n c s fb big g ak) ++ [(248, (aS big)), (250, .slice (some ⟨g, 42, none⟩) 10 10)]) [(g, .cells (X.map Bv).toArray 5 (0, 0)), gG fb dat abi aH big aU aJ aG, dO s b o n c] (by kernel_rfl) ?_
 clear HF HM; intro a w HF HM
 refine bf HF (by kernel_rfl) 94 #[(aS big), .slice (some ⟨g, 42, none⟩) 10 10] (by kernel_rfl) (fun w => by kernel_rfl) (Calls.mono (qV (HM.get (i := 0) rfl) big 42 10 (by omega) (by omega) ((32 : Nat) : Int) (by rw [hnum 42 2 (by omega), Hpe])) ?_)
 rintro _ w8 ⟨rfl, kM, hq⟩
 replace HM : Mm [] w0 w8 [(g, .cells (X.map Bv).toArray 5 (0, 0)), gG fb dat abi aH big aU aJ aG, dO s b o n c] := by rw [hq]; exact HM.drewN _
 clear hq
 refine ⟨_, rfl, ?_⟩; clear HF; intro a HF; replace HF := HF.sub ((mP b o n c s fb big g ak) ++ [(248, (aS big)), (250, .slice (some ⟨g, 42, none⟩) 10 10), (251, bF 32)]) (by kernel_rfl)
 replace HF := HF.sub ((mP b o n c s fb big g ak) ++ [(251, bF 32)]) (by kernel_rfl)
 refine aT HF HM rfl 2 [] ((mP b o n c s fb big g ak) ++ [(11, aF 32)]) [(g, .cells (X.map Bv).toArray 5 (0, 0)), gG fb dat abi aH big aU aJ aG, dO s b o n c] (by kernel_rfl) ?_
 clear HF HM; intro a w HF HM
 refine aA ?_
 refine wp_seq (wp_region_lit ?_)
 refine aT HF HM rfl 3 [] ((mP b o n c s fb big g ak) ++ [(11, aF 32), (253, (aS big)), (255, .slice (some ⟨g, 44, none⟩) 8 8)]) [(g, .cells (X.map Bv).toArray 5 (0, 0)), gG fb dat abi aH big aU aJ aG, dO s b o n c] (by kernel_rfl) ?_
 clear HF HM; intro a w HF HM
 refine bf HF (by kernel_rfl) 94 #[(aS big), .slice (some ⟨g, 44, none⟩) 8 8] (by kernel_rfl) (fun w => by kernel_rfl) (Calls.mono (qV (HM.get (i := 0) rfl) big 44 8 (by omega) (by omega) ((aj : Nat) : Int) (by rw [hnum 44 2 (by omega), Hpn])) ?_)
 rintro _ w9 ⟨rfl, kM, hq⟩
 replace HM : Mm [] w0 w9 [(g, .cells (X.map Bv).toArray 5 (0, 0)), gG fb dat abi aH big aU aJ aG, dO s b o n c] := by rw [hq]; exact HM.drewN _
 clear hq
 refine ⟨_, rfl, ?_⟩; clear HF; intro a HF; replace HF := HF.sub ((mP b o n c s fb big g ak) ++ [(11, aF 32), (253, (aS big)), (255, .slice (some ⟨g, 44, none⟩) 8 8), (256, bF aj)]) (by kernel_rfl)
 replace HF := HF.sub ((mP b o n c s fb big g ak) ++ [(11, aF 32), (256, bF aj)]) (by kernel_rfl)
 refine aT HF HM rfl 1 [] ((mP b o n c s fb big g ak) ++ [(11, aF 32), (257, aF (IntKind.i64.wrap ((aj : Nat) : Int)))]) [(g, .cells (X.map Bv).toArray 5 (0, 0)), gG fb dat abi aH big aU aJ aG, dO s b o n c] (by kernel_rfl) ?_
 clear HF HM; intro a w HF HM
 rw [show IntKind.i64.wrap ((aj : Nat) : Int) = ((aj : Nat) : Int) from IntWalk.i64_in _ (by omega)] at HF
 refine aT HF HM rfl 1 [] ((mP b o n c s fb big g ak) ++ [(11, aF 32), (12, ay aj)]) [(g, .cells (X.map Bv).toArray 5 (0, 0)), gG fb dat abi aH big aU aJ aG, dO s b o n c] (by kernel_rfl) ?_
 clear HF HM; intro a w HF HM
 refine aA ?_
 refine wp_seq (wp_region_lit ?_)
 refine aT HF HM rfl 3 [] ((mP b o n c s fb big g ak) ++ [(11, aF 32), (12, ay aj), (258, (aS big)), (260, .slice (some ⟨g, 32, none⟩) 20 20)]) [(g, .cells (X.map Bv).toArray 5 (0, 0)), gG fb dat abi aH big aU aJ aG, dO s b o n c] (by kernel_rfl) ?_
 clear HF HM; intro a w HF HM
 refine bf HF (by kernel_rfl) 87 #[(aS big), .slice (some ⟨g, 32, none⟩) 20 20] (by kernel_rfl) (fun w => by kernel_rfl) (Calls.mono (kF (HM.get (i := 0) rfl) (by unfold maxLen; omega) big 32 20 (by omega) (by omega) ((au : Nat) : Int) (by rw [hnum 32 4 (by omega), Hs])) ?_)
 rintro _ w10 ⟨rfl, kM, hq⟩
 replace HM : Mm [] w0 w10 [(g, .cells (X.map Bv).toArray 5 (0, 0)), gG fb dat abi aH big aU aJ aG, dO s b o n c] := by rw [hq]; exact HM.drewN _
 clear hq
 refine ⟨_, rfl, ?_⟩; clear HF; intro a HF; replace HF := HF.sub ((mP b o n c s fb big g ak) ++ [(11, aF 32), (12, ay aj), (258, (aS big)), (260, .slice (some ⟨g, 32, none⟩) 20 20), (261, bn au)]) (by kernel_rfl)
 replace HF := HF.sub ((mP b o n c s fb big g ak) ++ [(11, aF 32), (12, ay aj), (261, bn au)]) (by kernel_rfl)
 refine aT HF HM rfl 1 [] ((mP b o n c s fb big g ak) ++ [(11, aF 32), (12, ay aj), (262, aF (IntKind.i64.wrap ((au : Nat) : Int)))]) [(g, .cells (X.map Bv).toArray 5 (0, 0)), gG fb dat abi aH big aU aJ aG, dO s b o n c] (by kernel_rfl) ?_
 clear HF HM; intro a w HF HM
 rw [show IntKind.i64.wrap ((au : Nat) : Int) = ((au : Nat) : Int) from IntWalk.i64_in _ (by omega)] at HF
 refine aT HF HM rfl 1 [] (mO b o n c s fb big g ak aj au) [(g, .cells (X.map Bv).toArray 5 (0, 0)), gG fb dat abi aH big aU aJ aG, dO s b o n c] (by kernel_rfl) ?_
 clear HF HM; intro a w HF HM
 refine aA ?_
 refine wp_seq (wp_region_lit ?_)
 refine aT HF HM rfl 3 [] ((mO b o n c s fb big g ak aj au) ++ [(263, (aS big)), (265, .slice (some ⟨g, 46, none⟩) 6 6)]) [(g, .cells (X.map Bv).toArray 5 (0, 0)), gG fb dat abi aH big aU aJ aG, dO s b o n c] (by kernel_rfl) ?_
 clear HF HM; intro a w HF HM
 refine bf HF (by kernel_rfl) 94 #[(aS big), .slice (some ⟨g, 46, none⟩) 6 6] (by kernel_rfl) (fun w => by kernel_rfl) (Calls.mono (qV (HM.get (i := 0) rfl) big 46 6 (by omega) (by omega) ((40 : Nat) : Int) (by rw [hnum 46 2 (by omega), Hse])) ?_)
 rintro _ qU ⟨rfl, kM, hq⟩
 replace HM : Mm [] w0 qU [(g, .cells (X.map Bv).toArray 5 (0, 0)), gG fb dat abi aH big aU aJ aG, dO s b o n c] := by rw [hq]; exact HM.drewN _
 clear hq
 refine ⟨_, rfl, ?_⟩; clear HF; intro a HF; replace HF := HF.sub ((mO b o n c s fb big g ak aj au) ++ [(263, (aS big)), (265, .slice (some ⟨g, 46, none⟩) 6 6), (266, bF 40)]) (by kernel_rfl)
 replace HF := HF.sub ((mO b o n c s fb big g ak aj au) ++ [(266, bF 40)]) (by kernel_rfl)
 refine aT HF HM rfl 2 [] ((mO b o n c s fb big g ak aj au) ++ [(14, aF 40)]) [(g, .cells (X.map Bv).toArray 5 (0, 0)), gG fb dat abi aH big aU aJ aG, dO s b o n c] (by kernel_rfl) ?_
 clear HF HM; intro a w HF HM
 refine aA ?_
 refine wp_seq (wp_region_lit ?_)
 refine aT HF HM rfl 3 [] ((mO b o n c s fb big g ak aj au) ++ [(14, aF 40), (268, (aS big)), (270, .slice (some ⟨g, 48, none⟩) 4 4)]) [(g, .cells (X.map Bv).toArray 5 (0, 0)), gG fb dat abi aH big aU aJ aG, dO s b o n c] (by kernel_rfl) ?_
 clear HF HM; intro a w HF HM
 refine bf HF (by kernel_rfl) 94 #[(aS big), .slice (some ⟨g, 48, none⟩) 4 4] (by kernel_rfl) (fun w => by kernel_rfl) (Calls.mono (qV (HM.get (i := 0) rfl) big 48 4 (by omega) (by omega) ((ah : Nat) : Int) (by rw [hnum 48 2 (by omega), Hsn])) ?_)
 rintro _ w12 ⟨rfl, kM, hq⟩
 replace HM : Mm [] w0 w12 [(g, .cells (X.map Bv).toArray 5 (0, 0)), gG fb dat abi aH big aU aJ aG, dO s b o n c] := by rw [hq]; exact HM.drewN _
 clear hq
 refine ⟨_, rfl, ?_⟩; clear HF; intro a HF; replace HF := HF.sub ((mO b o n c s fb big g ak aj au) ++ [(14, aF 40), (268, (aS big)), (270, .slice (some ⟨g, 48, none⟩) 4 4), (271, bF ah)]) (by kernel_rfl)
 replace HF := HF.sub ((mO b o n c s fb big g ak aj au) ++ [(14, aF 40), (271, bF ah)]) (by kernel_rfl)
 refine aT HF HM rfl 1 [] ((mO b o n c s fb big g ak aj au) ++ [(14, aF 40), (272, aF (IntKind.i64.wrap ((ah : Nat) : Int)))]) [(g, .cells (X.map Bv).toArray 5 (0, 0)), gG fb dat abi aH big aU aJ aG, dO s b o n c] (by kernel_rfl) ?_
 clear HF HM; intro a w HF HM
 rw [show IntKind.i64.wrap ((ah : Nat) : Int) = ((ah : Nat) : Int) from IntWalk.i64_in _ (by omega)] at HF
 refine aT HF HM rfl 1 [] ((mO b o n c s fb big g ak aj au) ++ [(14, aF 40), (15, ay ah)]) [(g, .cells (X.map Bv).toArray 5 (0, 0)), gG fb dat abi aH big aU aJ aG, dO s b o n c] (by kernel_rfl) ?_
 clear HF HM; intro a w HF HM
 refine aA ?_
 refine wp_region_lit ?_
 refine aT HF HM rfl 3 [] ((mO b o n c s fb big g ak aj au) ++ [(14, aF 40), (15, ay ah), (273, (aS big)), (275, .slice (some ⟨g, 50, none⟩) 2 2)]) [(g, .cells (X.map Bv).toArray 5 (0, 0)), gG fb dat abi aH big aU aJ aG, dO s b o n c] (by kernel_rfl) ?_
 clear HF HM; intro a w HF HM
 refine bf HF (by kernel_rfl) 94 #[(aS big), .slice (some ⟨g, 50, none⟩) 2 2] (by kernel_rfl) (fun w => by kernel_rfl) (Calls.mono (qV (HM.get (i := 0) rfl) big 50 2 (by omega) (by omega) (((ah - 1) : Nat) : Int) (by rw [hnum 50 2 (by omega), Hst])) ?_)
 rintro _ uI ⟨rfl, kM, hq⟩
 replace HM : Mm [] w0 uI [(g, .cells (X.map Bv).toArray 5 (0, 0)), gG fb dat abi aH big aU aJ aG, dO s b o n c] := by rw [hq]; exact HM.drewN _
 clear hq
 refine ⟨_, rfl, ?_⟩; clear HF; intro a HF; replace HF := HF.sub ((mO b o n c s fb big g ak aj au) ++ [(14, aF 40), (15, ay ah), (273, (aS big)), (275, .slice (some ⟨g, 50, none⟩) 2 2), (276, bF (ah - 1))]) (by kernel_rfl)
 replace HF := HF.sub ((mO b o n c s fb big g ak aj au) ++ [(14, aF 40), (15, ay ah), (276, bF (ah - 1))]) (by kernel_rfl)
 refine aT HF HM rfl 1 [] ((mO b o n c s fb big g ak aj au) ++ [(14, aF 40), (15, ay ah), (277, aF (IntKind.i64.wrap (((ah - 1) : Nat) : Int)))]) [(g, .cells (X.map Bv).toArray 5 (0, 0)), gG fb dat abi aH big aU aJ aG, dO s b o n c] (by kernel_rfl) ?_
 clear HF HM; intro a w HF HM
 rw [show IntKind.i64.wrap (((ah - 1) : Nat) : Int) = (((ah - 1) : Nat) : Int) from IntWalk.i64_in _ (by omega)] at HF
 refine aT HF HM rfl 1 [] ((mO b o n c s fb big g ak aj au) ++ [(14, aF 40), (15, ay ah), (16, ay (ah - 1))]) [(g, .cells (X.map Bv).toArray 5 (0, 0)), gG fb dat abi aH big aU aJ aG, dO s b o n c] (by kernel_rfl) ?_
 clear HF HM; intro a w HF HM
 refine wpList_nil ?_
 repeat (first | refine aK ?_ | refine aP ?_)
 replace HF := HF.sub ((fA b o n c s fb big) ++ [(10, ay ak), (11, aF 32), (12, ay aj), (13, ay au), (14, aF 40), (15, ay ah), (16, ay (ah - 1))]) (by kernel_rfl)
 exact K a w HF (HM.sub (List.Sublist.cons _ (List.Sublist.refl _)))

abbrev o7 := fun (fb : Nat) (dat : Int) (abi : Nat) (aH : Nat) (big : Bool) => ((fb, .cells #[aQ 2, .int .u8 dat, aQ 1, aX abi, aX aH, (aS big), .int .u16 0, .int .u16 0, bH 0, aN, aN, aN, aN, aN] 131 (0, 0)) : Nat × Obj)
abbrev dN := fun (s : Nat) (b : Nat) (o : Nat) (n : Nat) (c : Nat) => ((s, .cells #[.iface 178 (.slice (some ⟨b, o, none⟩) n c), aF 0, aF 0, aF 9223372036854775807, aF 9223372036854775807] 246 (0, 0)) : Nat × Obj)
abbrev eY := fun (b : Nat) (o : Nat) (n : Nat) (c : Nat) (s : Nat) (fb : Nat) (big : Bool) => ([(0, .iface 178 (.slice (some ⟨b, o, none⟩) n c)), (4, aB s), (8, aB fb), (9, (aS big))] : Slots)
abbrev gB := fun (fb : Nat) (dat : Int) (abi : Nat) (aH : Nat) (big : Bool) (aU : Nat) (aJ : Nat) (aG : Nat) => ((fb, .cells #[aQ 2, .int .u8 dat, aQ 1, aX abi, aX aH, (aS big), bF aU, bF aJ, aI aG, aN, aN, aN, aN, aN] 131 (0, 0)) : Nat × Obj)
abbrev ER := fun (fb : Nat) (dat : Int) (abi : Nat) (aH : Nat) (big : Bool) (aU : Nat) => ((fb, .cells #[aQ 2, .int .u8 dat, aQ 1, aX abi, aX aH, (aS big), bF aU, .int .u16 0, bH 0, aN, aN, aN, aN, aN] 131 (0, 0)) : Nat × Obj)
abbrev EP := fun (fb : Nat) (dat : Int) (abi : Nat) (aH : Nat) (big : Bool) (aU : Nat) (aJ : Nat) => ((fb, .cells #[aQ 2, .int .u8 dat, aQ 1, aX abi, aX aH, (aS big), bF aU, bF aJ, bH 0, aN, aN, aN, aN, aN] 131 (0, 0)) : Nat × Obj)
abbrev mM := fun (b : Nat) (o : Nat) (n : Nat) (c : Nat) (s : Nat) (fb : Nat) (big : Bool) g (ak : Nat) => ((eY b o n c s fb big) ++ [(21, aC g 64 64), (10, ay ak)] : Slots)
abbrev mJ := fun (b : Nat) (o : Nat) (n : Nat) (c : Nat) (s : Nat) (fb : Nat) (big : Bool) g (ak : Nat) (aj : Nat) (au : Nat) => ((mM b o n c s fb big g ak) ++ [(11, aF 56), (12, ay aj), (13, ay au)] : Slots)
theorem PL (l : List UInt8) (b o n c : Nat) (hl : n = l.length) (hnc : n ≤ c) (hn : 64 ≤ n) (big : Bool) (abi aH aU aJ aG ak aj au ah : Nat) (dat : Int) (H : Ip l true big abi aH aU aJ aG ak aj au ah) (b1 : aU < 65536) (b2 : aJ < 65536) (b3 : aG ≤ 18446744073709551615) (b4 : ak < 4611686018427387904) (b5 : au < 4611686018427387904) (b6 : aj < 200) (b7 : ah < 200) {Q : Exit → Act → World → Prop} (w0 : World) (hbl : b < w0.heap.size) (hr : Row w0 (some ⟨b, o, none⟩) (l.map Bv)) (a : Act) (w : World) (s fb : Nat) (HF : Fr 1287 a (eY b o n c s fb big)) (HM : Mm [] w0 w [o7 fb dat abi aH big, dN s b o n c])
  (K : ∀ a w, Fr 1287 a ((eY b o n c s fb big) ++ [(10, ay ak), (11, aF 56), (12, ay aj), (13, ay au), (14, aF 64), (15, ay ah), (16, ay (ah - 1))]) → Mm [] w0 w [gB fb dat abi aH big aU aJ aG, dN s b o n c] → (spine Tryd.f78 21).wp Tryd.prog Q a w) : (spine Tryd.f78 20).wp Tryd.prog Q a w := by
 obtain ⟨X, hX⟩ : ∃ X, (l.drop (0 + 0)).take 64 = X := ⟨_, rfl⟩
 have pV : X.length = 64 := by rw [← hX]; simp; omega
 have hnum : ∀ k s, k + s ≤ 64 → num big X k s = num big l k s := fun k s h => by rw [← hX, Nat.zero_add, List.drop_zero, KE _ _ _ _ _ h]
 have He : num big l 24 8 = aG := H.entry
 have Hp : num big l 32 8 = ak := H.QX
 have Hs : num big l 40 8 = au := H.m_
 have Hpe : num big l 54 2 = 56 := H.QZ
 have Hpn : num big l 56 2 = aj := H.QY
 have Hse : num big l 58 2 = 64 := H.QU
 have Hsn : num big l 60 2 = ah := H.QT
 have Hst : num big l 62 2 = ah - 1 := H.zy
 refine wp_seq ?_
 refine bG HF HM rfl [[1]] ((eY b o n c s fb big) ++ [(188, aQ 2)]) [o7 fb dat abi aH big, dN s b o n c] (by kernel_rfl) ?_
 clear HF HM; intro a w HF HM
 refine wp_block ?_
 refine bG HF HM rfl [] ((eY b o n c s fb big) ++ [(188, aQ 2), (189, .bool false)]) [o7 fb dat abi aH big, dN s b o n c] (by kernel_rfl) ?_
 clear HF HM; intro a w HF HM
 refine aY HF rfl ?_
 refine bG HF HM rfl [] ((eY b o n c s fb big) ++ [(188, aQ 2), (278, .bool true)]) [o7 fb dat abi aH big, dN s b o n c] (by kernel_rfl) ?_
 clear HF HM; intro a w HF HM
 refine bD HF rfl ?_
 replace HF := HF.sub (eY b o n c s fb big) (by kernel_rfl)
 refine wp_seq (wp_region_lit ?_)
 refine FZ HF HM rfl _ _ 33 rfl rfl 5 (aQ 0) 1 Tryd.underlying33 D_ rfl .i64 .i64 64 rfl rfl (by omega) (by omega) ?_
 intro a2 w1 g hgw hbel bT HF2; have hg0 : w0.heap.size ≤ g := Nat.le_trans HM.size hgw; clear HF HM hbel hgw; have HM := bT; have HF := HF2; clear bT HF2
 replace HF := HF.sub ((eY b o n c s fb big) ++ [(280, aC g 64 64)]) (by kernel_rfl)
 refine aT HF HM rfl 1 [] ((eY b o n c s fb big) ++ [(21, aC g 64 64)]) [(g, .cells (madeCells #[aQ 0] 64) 5 (0, 0)), o7 fb dat abi aH big, dN s b o n c] (by kernel_rfl) ?_
 clear HF HM; intro a w HF HM
 refine aA ?_
 have hbg : b ≠ g := by omega
 have hbs : b ≠ s := fun e => absurd hbl (Nat.not_lt_of_le (e ▸ HM.ge (i := 2) rfl))
 refine wp_seq ?_
 refine wp_seq (wp_region_lit ?_)
 refine aT HF HM rfl 2 [] ((eY b o n c s fb big) ++ [(21, aC g 64 64), (282, aB s), (283, aC g 64 64)]) [(g, .cells (madeCells #[aQ 0] 64) 5 (0, 0)), o7 fb dat abi aH big, dN s b o n c] (by kernel_rfl) ?_
 clear HF HM; intro a w HF HM
 refine bf HF (by kernel_rfl) 93 #[aB s, aC g 64 64, ay 0] (by kernel_rfl) (fun w => by kernel_rfl) (Calls.mono (Bh l b o n c hl hnc g s _ 5 64 64 (uF _ _) 0 0 0 9223372036854775807 9223372036854775807 (by omega) (by omega) (by omega) (by omega) (by omega) w (HM.row hr (by intro b' o' s' _; simp)) hbg hbs (HM.ne (i := 2) (j := 0) rfl rfl (by decide)) (HM.get (i := 2) rfl) (HM.get (i := 0) rfl)) ?_)
 rintro _ w2 ⟨rfl, hkp, hsn, hgn⟩
 rw [hX] at hgn
 replace HM : Mm [] w0 w2 [(g, .cells (X.map Bv).toArray 5 (0, 0)), o7 fb dat abi aH big, dN s b o n c] := HM.N7 (i := 2) (j := 0) rfl rfl (by decide) hsn hgn hkp
 clear hkp hsn hgn
 refine ⟨_, rfl, ?_⟩; clear HF; intro a HF; replace HF := HF.sub ((eY b o n c s fb big) ++ [(21, aC g 64 64), (282, aB s), (283, aC g 64 64), (284, .tuple #[ay 64, .nilIface])]) (by kernel_rfl)
 refine aT HF HM rfl 5 [] ((eY b o n c s fb big) ++ [(21, aC g 64 64), (23, .nilIface)]) [(g, .cells (X.map Bv).toArray 5 (0, 0)), o7 fb dat abi aH big, dN s b o n c] (by kernel_rfl) ?_
 clear HF HM; intro a w HF HM
 refine aA ?_
 refine wp_seq (wp_region_lit ?_)
 refine aT HF HM rfl 2 [] ((eY b o n c s fb big) ++ [(21, aC g 64 64), (23, .nilIface), (288, .bool false)]) [(g, .cells (X.map Bv).toArray 5 (0, 0)), o7 fb dat abi aH big, dN s b o n c] (by kernel_rfl) ?_
 clear HF HM; intro a w HF HM
 refine aA ?_
 refine aY HF rfl ?_
 refine wp_skip ?_
 repeat (first | refine aK ?_ | refine aP ?_)
 replace HF := HF.sub ((eY b o n c s fb big) ++ [(21, aC g 64 64)]) (by kernel_rfl)
 refine wp_seq (wp_region_lit ?_)
 refine aT HF HM rfl 4 [] ((eY b o n c s fb big) ++ [(21, aC g 64 64), (290, aB fb), (291, (aS big)), (293, .slice (some ⟨g, 16, none⟩) 48 48)]) [(g, .cells (X.map Bv).toArray 5 (0, 0)), o7 fb dat abi aH big, dN s b o n c] (by kernel_rfl) ?_
 clear HF HM; intro a w HF HM
 refine bf HF (by kernel_rfl) 94 #[(aS big), .slice (some ⟨g, 16, none⟩) 48 48] (by kernel_rfl) (fun w => by kernel_rfl) (Calls.mono (qV (HM.get (i := 0) rfl) big 16 48 (by omega) (by omega) ((aU : Nat) : Int) (by rw [hnum 16 2 (by omega), H.ty])) ?_)
 rintro _ w3 ⟨rfl, kM, hq⟩
 replace HM : Mm [] w0 w3 [(g, .cells (X.map Bv).toArray 5 (0, 0)), o7 fb dat abi aH big, dN s b o n c] := by rw [hq]; exact HM.drewN _
 clear hq
 refine ⟨_, rfl, ?_⟩; clear HF; intro a HF; replace HF := HF.sub ((eY b o n c s fb big) ++ [(21, aC g 64 64), (290, aB fb), (291, (aS big)), (293, .slice (some ⟨g, 16, none⟩) 48 48), (294, bF aU)]) (by kernel_rfl)
 replace HF := HF.sub ((eY b o n c s fb big) ++ [(21, aC g 64 64), (290, aB fb), (294, bF aU)]) (by kernel_rfl)
 refine aT HF HM rfl 4 [[1]] ((eY b o n c s fb big) ++ [(21, aC g 64 64)]) [(g, .cells (X.map Bv).toArray 5 (0, 0)), ER fb dat abi aH big aU, dN s b o n c] (by kernel_rfl) ?_
 clear HF HM; intro a w HF HM
 refine aA ?_
 refine wp_seq (wp_region_lit ?_)
 refine aT HF HM rfl 4 [] ((eY b o n c s fb big) ++ [(21, aC g 64 64), (298, aB fb), (299, (aS big)), (301, .slice (some ⟨g, 18, none⟩) 46 46)]) [(g, .cells (X.map Bv).toArray 5 (0, 0)), ER fb dat abi aH big aU, dN s b o n c] (by kernel_rfl) ?_
 clear HF HM; intro a w HF HM
 refine bf HF (by kernel_rfl) 94 #[(aS big), .slice (some ⟨g, 18, none⟩) 46 46] (by kernel_rfl) (fun w => by kernel_rfl) (Calls.mono (qV (HM.get (i := 0) rfl) big 18 46 (by omega) (by omega) ((aJ : Nat) : Int) (by rw [hnum 18 2 (by omega), H.machine])) ?_)
 rintro _ w4 ⟨rfl, kM, hq⟩
 replace HM : Mm [] w0 w4 [(g, .cells (X.map Bv).toArray 5 (0, 0)), ER fb dat abi aH big aU, dN s b o n c] := by rw [hq]; exact HM.drewN _
 clear hq
 refine ⟨_, rfl, ?_⟩; clear HF; intro a HF; replace HF := HF.sub ((eY b o n c s fb big) ++ [(21, aC g 64 64), (298, aB fb), (299, (aS big)), (301, .slice (some ⟨g, 18, none⟩) 46 46), (302, bF aJ)]) (by kernel_rfl)
 replace HF := HF.sub ((eY b o n c s fb big) ++ [(21, aC g 64 64), (298, aB fb), (302, bF aJ)]) (by kernel_rfl)
 refine aT HF HM rfl 4 [[1]] ((eY b o n c s fb big) ++ [(21, aC g 64 64)]) [(g, .cells (X.map Bv).toArray 5 (0, 0)), EP fb dat abi aH big aU aJ, dN s b o n c] (by kernel_rfl) ?_
 clear HF HM; intro a w HF HM
 refine aA ?_
 refine wp_seq (wp_region_lit ?_)
 refine aT HF HM rfl 4 [] ((eY b o n c s fb big) ++ [(21, aC g 64 64), (306, aB fb), (307, (aS big)), (309, .slice (some ⟨g, 24, none⟩) 40 40)]) [(g, .cells (X.map Bv).toArray 5 (0, 0)), EP fb dat abi aH big aU aJ, dN s b o n c] (by kernel_rfl) ?_
 clear HF HM; intro a w HF HM
 refine bf HF (by kernel_rfl) 88 #[(aS big), .slice (some ⟨g, 24, none⟩) 40 40] (by kernel_rfl) (fun w => by kernel_rfl) (Calls.mono (qI (HM.get (i := 0) rfl) (by unfold maxLen; omega) big 24 40 (by omega) (by omega) ((aG : Nat) : Int) (by rw [hnum 24 8 (by omega), He])) ?_)
 rintro _ w5 ⟨rfl, kM, hq⟩
 replace HM : Mm [] w0 w5 [(g, .cells (X.map Bv).toArray 5 (0, 0)), EP fb dat abi aH big aU aJ, dN s b o n c] := by rw [hq]; exact HM.drewN _
 clear hq
 refine ⟨_, rfl, ?_⟩; clear HF; intro a HF; replace HF := HF.sub ((eY b o n c s fb big) ++ [(21, aC g 64 64), (306, aB fb), (307, (aS big)), (309, .slice (some ⟨g, 24, none⟩) 40 40), (310, aI aG)]) (by kernel_rfl)
 replace HF := HF.sub ((eY b o n c s fb big) ++ [(21, aC g 64 64), (306, aB fb), (310, aI aG)]) (by kernel_rfl)
 refine aT HF HM rfl 4 [[1]] ((eY b o n c s fb big) ++ [(21, aC g 64 64)]) [(g, .cells (X.map Bv).toArray 5 (0, 0)), gB fb dat abi aH big aU aJ aG, dN s b o n c] (by kernel_rfl) ?_
 clear HF HM; intro a w HF HM
 refine aA ?_
 refine wp_seq ?_
 refine wp_seq (wp_region_lit ?_)
 refine aT HF HM rfl 3 [] ((eY b o n c s fb big) ++ [(21, aC g 64 64), (314, (aS big)), (316, .slice (some ⟨g, 20, none⟩) 44 44)]) [(g, .cells (X.map Bv).toArray 5 (0, 0)), gB fb dat abi aH big aU aJ aG, dN s b o n c] (by kernel_rfl) ?_
 clear HF HM; intro a w HF HM
 refine bf HF (by kernel_rfl) 87 #[(aS big), .slice (some ⟨g, 20, none⟩) 44 44] (by kernel_rfl) (fun w => by kernel_rfl) (Calls.mono (kF (HM.get (i := 0) rfl) (by unfold maxLen; omega) big 20 44 (by omega) (by omega) ((1 : Nat) : Int) (by rw [hnum 20 4 (by omega), H.ver])) ?_)
 rintro _ w6 ⟨rfl, kM, hq⟩
 replace HM : Mm [] w0 w6 [(g, .cells (X.map Bv).toArray 5 (0, 0)), gB fb dat abi aH big aU aJ aG, dN s b o n c] := by rw [hq]; exact HM.drewN _
 clear hq
 refine ⟨_, rfl, ?_⟩; clear HF; intro a HF; replace HF := HF.sub ((eY b o n c s fb big) ++ [(21, aC g 64 64), (314, (aS big)), (316, .slice (some ⟨g, 20, none⟩) 44 44), (317, bn 1)]) (by kernel_rfl)
 replace HF := HF.sub ((eY b o n c s fb big) ++ [(21, aC g 64 64), (317, bn 1)]) (by kernel_rfl)
 refine aT HF HM rfl 2 [] ((eY b o n c s fb big) ++ [(21, aC g 64 64), (24, aQ 1)]) [(g, .cells (X.map Bv).toArray 5 (0, 0)), gB fb dat abi aH big aU aJ aG, dN s b o n c] (by kernel_rfl) ?_
 clear HF HM; intro a w HF HM
 refine aA ?_
 refine wp_seq (wp_region_lit ?_)
 refine aT HF HM rfl 7 [[1]] ((eY b o n c s fb big) ++ [(21, aC g 64 64), (325, .bool false)]) [(g, .cells (X.map Bv).toArray 5 (0, 0)), gB fb dat abi aH big aU aJ aG, dN s b o n c] (by kernel_rfl) ?_
 clear HF HM; intro a w HF HM
 refine aA ?_
 refine aY HF rfl ?_
 refine wp_skip ?_
 repeat (first | refine aK ?_ | refine aP ?_)
 replace HF := HF.sub ((eY b o n c s fb big) ++ [(21, aC g 64 64)]) (by kernel_rfl)
 refine wp_seq (wp_region_lit ?_)
 refine aT HF HM rfl 3 [] ((eY b o n c s fb big) ++ [(21, aC g 64 64), (331, (aS big)), (333, .slice (some ⟨g, 32, none⟩) 32 32)]) [(g, .cells (X.map Bv).toArray 5 (0, 0)), gB fb dat abi aH big aU aJ aG, dN s b o n c] (by kernel_rfl) ?_
 clear HF HM; intro a w HF HM
 refine bf HF (by kernel_rfl) 88 #[(aS big), .slice (some ⟨g, 32, none⟩) 32 32] (by kernel_rfl) (fun w => by kernel_rfl) (Calls.mono (qI (HM.get (i := 0) rfl) (by unfold maxLen; omega) big 32 32 (by omega) (by omega) ((ak : Nat) : Int) (by rw [hnum 32 8 (by omega), Hp])) ?_)
 rintro _ w7 ⟨rfl, kM, hq⟩
 replace HM : Mm [] w0 w7 [(g, .cells (X.map Bv).toArray 5 (0, 0)), gB fb dat abi aH big aU aJ aG, dN s b o n c] := by rw [hq]; exact HM.drewN _
 clear hq
 refine ⟨_, rfl, ?_⟩; clear HF; intro a HF; replace HF := HF.sub ((eY b o n c s fb big) ++ [(21, aC g 64 64), (331, (aS big)), (333, .slice (some ⟨g, 32, none⟩) 32 32), (334, aI ak)]) (by kernel_rfl)
 replace HF := HF.sub ((eY b o n c s fb big) ++ [(21, aC g 64 64), (334, aI ak)]) (by kernel_rfl)
 refine aT HF HM rfl 1 [] ((eY b o n c s fb big) ++ [(21, aC g 64 64), (335, aF (IntKind.i64.wrap ((ak : Nat) : Int)))]) [(g, .cells (X.map Bv).toArray 5 (0, 0)), gB fb dat abi aH big aU aJ aG, dN s b o n c] (by kernel_rfl) ?_
 clear HF HM; intro a w HF HM
 rw [show IntKind.i64.wrap ((ak : Nat) : Int) = ((ak : Nat) : Int) from IntWalk.i64_in _ (by omega)] at HF
 refine aT HF HM rfl 1 [] (mM b o n c s fb big g ak) [(g, .cells (X.map Bv).toArray 5 (0, 0)), gB fb dat abi aH big aU aJ aG, dN s b o n c] (by kernel_rfl) ?_
 clear HF HM; intro a w HF HM
 refine aA ?_
 refine wp_seq (wp_region_lit ?_)
 refine aT HF HM rfl 3 [] ((mM b o n c s fb big g ak) ++ [(336, (aS big)), (338, .slice (some ⟨g, 54, none⟩) 10 10)]) [(g, .cells (X.map Bv).toArray 5 (0, 0)), gB fb dat abi aH big aU aJ aG, dN s b o n c] (by kernel_rfl) ?_
 clear HF HM; intro a w HF HM
 refine bf HF (by kernel_rfl) 94 #[(aS big), .slice (some ⟨g, 54, none⟩) 10 10] (by kernel_rfl) (fun w => by kernel_rfl) (Calls.mono (qV (HM.get (i := 0) rfl) big 54 10 (by omega) (by omega) ((56 : Nat) : Int) (by rw [hnum 54 2 (by omega), Hpe])) ?_)
 rintro _ w8 ⟨rfl, kM, hq⟩
 replace HM : Mm [] w0 w8 [(g, .cells (X.map Bv).toArray 5 (0, 0)), gB fb dat abi aH big aU aJ aG, dN s b o n c] := by rw [hq]; exact HM.drewN _
 clear hq
 refine ⟨_, rfl, ?_⟩; clear HF; intro a HF; replace HF := HF.sub ((mM b o n c s fb big g ak) ++ [(336, (aS big)), (338, .slice (some ⟨g, 54, none⟩) 10 10), (339, bF 56)]) (by kernel_rfl)
 replace HF := HF.sub ((mM b o n c s fb big g ak) ++ [(339, bF 56)]) (by kernel_rfl)
 refine aT HF HM rfl 2 [] ((mM b o n c s fb big g ak) ++ [(11, aF 56)]) [(g, .cells (X.map Bv).toArray 5 (0, 0)), gB fb dat abi aH big aU aJ aG, dN s b o n c] (by kernel_rfl) ?_
 clear HF HM; intro a w HF HM
 refine aA ?_
 refine wp_seq (wp_region_lit ?_)
 refine aT HF HM rfl 3 [] ((mM b o n c s fb big g ak) ++ [(11, aF 56), (341, (aS big)), (343, .slice (some ⟨g, 56, none⟩) 8 8)]) [(g, .cells (X.map Bv).toArray 5 (0, 0)), gB fb dat abi aH big aU aJ aG, dN s b o n c] (by kernel_rfl) ?_
 clear HF HM; intro a w HF HM
 refine bf HF (by kernel_rfl) 94 #[(aS big), .slice (some ⟨g, 56, none⟩) 8 8] (by kernel_rfl) (fun w => by kernel_rfl) (Calls.mono (qV (HM.get (i := 0) rfl) big 56 8 (by omega) (by omega) ((aj : Nat) : Int) (by rw [hnum 56 2 (by omega), Hpn])) ?_)
 rintro _ w9 ⟨rfl, kM, hq⟩
 replace HM : Mm [] w0 w9 [(g, .cells (X.map Bv).toArray 5 (0, 0)), gB fb dat abi aH big aU aJ aG, dN s b o n c] := by rw [hq]; exact HM.drewN _
 clear hq
 refine ⟨_, rfl, ?_⟩; clear HF; intro a HF; replace HF := HF.sub ((mM b o n c s fb big g ak) ++ [(11, aF 56), (341, (aS big)), (343, .slice (some ⟨g, 56, none⟩) 8 8), (344, bF aj)]) (by kernel_rfl)
 replace HF := HF.sub ((mM b o n c s fb big g ak) ++ [(11, aF 56), (344, bF aj)]) (by kernel_rfl)
 refine aT HF HM rfl 1 [] ((mM b o n c s fb big g ak) ++ [(11, aF 56), (345, aF (IntKind.i64.wrap ((aj : Nat) : Int)))]) [(g, .cells (X.map Bv).toArray 5 (0, 0)), gB fb dat abi aH big aU aJ aG, dN s b o n c] (by kernel_rfl) ?_
 clear HF HM; intro a w HF HM
 rw [show IntKind.i64.wrap ((aj : Nat) : Int) = ((aj : Nat) : Int) from IntWalk.i64_in _ (by omega)] at HF
 refine aT HF HM rfl 1 [] ((mM b o n c s fb big g ak) ++ [(11, aF 56), (12, ay aj)]) [(g, .cells (X.map Bv).toArray 5 (0, 0)), gB fb dat abi aH big aU aJ aG, dN s b o n c] (by kernel_rfl) ?_
 clear HF HM; intro a w HF HM
 refine aA ?_
 refine wp_seq (wp_region_lit ?_)
 refine aT HF HM rfl 3 [] ((mM b o n c s fb big g ak) ++ [(11, aF 56), (12, ay aj), (346, (aS big)), (348, .slice (some ⟨g, 40, none⟩) 24 24)]) [(g, .cells (X.map Bv).toArray 5 (0, 0)), gB fb dat abi aH big aU aJ aG, dN s b o n c] (by kernel_rfl) ?_
 clear HF HM; intro a w HF HM
 refine bf HF (by kernel_rfl) 88 #[(aS big), .slice (some ⟨g, 40, none⟩) 24 24] (by kernel_rfl) (fun w => by kernel_rfl) (Calls.mono (qI (HM.get (i := 0) rfl) (by unfold maxLen; omega) big 40 24 (by omega) (by omega) ((au : Nat) : Int) (by rw [hnum 40 8 (by omega), Hs])) ?_)
 rintro _ w10 ⟨rfl, kM, hq⟩
 replace HM : Mm [] w0 w10 [(g, .cells (X.map Bv).toArray 5 (0, 0)), gB fb dat abi aH big aU aJ aG, dN s b o n c] := by rw [hq]; exact HM.drewN _
 clear hq
 refine ⟨_, rfl, ?_⟩; clear HF; intro a HF; replace HF := HF.sub ((mM b o n c s fb big g ak) ++ [(11, aF 56), (12, ay aj), (346, (aS big)), (348, .slice (some ⟨g, 40, none⟩) 24 24), (349, aI au)]) (by kernel_rfl)
 replace HF := HF.sub ((mM b o n c s fb big g ak) ++ [(11, aF 56), (12, ay aj), (349, aI au)]) (by kernel_rfl)
 refine aT HF HM rfl 1 [] ((mM b o n c s fb big g ak) ++ [(11, aF 56), (12, ay aj), (350, aF (IntKind.i64.wrap ((au : Nat) : Int)))]) [(g, .cells (X.map Bv).toArray 5 (0, 0)), gB fb dat abi aH big aU aJ aG, dN s b o n c] (by kernel_rfl) ?_
 clear HF HM; intro a w HF HM
 rw [show IntKind.i64.wrap ((au : Nat) : Int) = ((au : Nat) : Int) from IntWalk.i64_in _ (by omega)] at HF
 refine aT HF HM rfl 1 [] (mJ b o n c s fb big g ak aj au) [(g, .cells (X.map Bv).toArray 5 (0, 0)), gB fb dat abi aH big aU aJ aG, dN s b o n c] (by kernel_rfl) ?_
 clear HF HM; intro a w HF HM
 refine aA ?_
 refine wp_seq (wp_region_lit ?_)
 refine aT HF HM rfl 3 [] ((mJ b o n c s fb big g ak aj au) ++ [(351, (aS big)), (353, .slice (some ⟨g, 58, none⟩) 6 6)]) [(g, .cells (X.map Bv).toArray 5 (0, 0)), gB fb dat abi aH big aU aJ aG, dN s b o n c] (by kernel_rfl) ?_
 clear HF HM; intro a w HF HM
 refine bf HF (by kernel_rfl) 94 #[(aS big), .slice (some ⟨g, 58, none⟩) 6 6] (by kernel_rfl) (fun w => by kernel_rfl) (Calls.mono (qV (HM.get (i := 0) rfl) big 58 6 (by omega) (by omega) ((64 : Nat) : Int) (by rw [hnum 58 2 (by omega), Hse])) ?_)
 rintro _ qU ⟨rfl, kM, hq⟩
 replace HM : Mm [] w0 qU [(g, .cells (X.map Bv).toArray 5 (0, 0)), gB fb dat abi aH big aU aJ aG, dN s b o n c] := by rw [hq]; exact HM.drewN _
 clear hq
 refine ⟨_, rfl, ?_⟩; clear HF; intro a HF; replace HF := HF.sub ((mJ b o n c s fb big g ak aj au) ++ [(351, (aS big)), (353, .slice (some ⟨g, 58, none⟩) 6 6), (354, bF 64)]) (by kernel_rfl)
 replace HF := HF.sub ((mJ b o n c s fb big g ak aj au) ++ [(354, bF 64)]) (by kernel_rfl)
 refine aT HF HM rfl 2 [] ((mJ b o n c s fb big g ak aj au) ++ [(14, aF 64)]) [(g, .cells (X.map Bv).toArray 5 (0, 0)), gB fb dat abi aH big aU aJ aG, dN s b o n c] (by kernel_rfl) ?_
 clear HF HM; intro a w HF HM
 refine aA ?_
 refine wp_seq (wp_region_lit ?_)
 refine aT HF HM rfl 3 [] ((mJ b o n c s fb big g ak aj au) ++ [(14, aF 64), (356, (aS big)), (358, .slice (some ⟨g, 60, none⟩) 4 4)]) [(g, .cells (X.map Bv).toArray 5 (0, 0)), gB fb dat abi aH big aU aJ aG, dN s b o n c] (by kernel_rfl) ?_
 clear HF HM; intro a w HF HM
 refine bf HF (by kernel_rfl) 94 #[(aS big), .slice (some ⟨g, 60, none⟩) 4 4] (by kernel_rfl) (fun w => by kernel_rfl) (Calls.mono (qV (HM.get (i := 0) rfl) big 60 4 (by omega) (by omega) ((ah : Nat) : Int) (by rw [hnum 60 2 (by omega), Hsn])) ?_)
 rintro _ w12 ⟨rfl, kM, hq⟩
 replace HM : Mm [] w0 w12 [(g, .cells (X.map Bv).toArray 5 (0, 0)), gB fb dat abi aH big aU aJ aG, dN s b o n c] := by rw [hq]; exact HM.drewN _
 clear hq
 refine ⟨_, rfl, ?_⟩; clear HF; intro a HF; replace HF := HF.sub ((mJ b o n c s fb big g ak aj au) ++ [(14, aF 64), (356, (aS big)), (358, .slice (some ⟨g, 60, none⟩) 4 4), (359, bF ah)]) (by kernel_rfl)
 replace HF := HF.sub ((mJ b o n c s fb big g ak aj au) ++ [(14, aF 64), (359, bF ah)]) (by kernel_rfl)
 refine aT HF HM rfl 1 [] ((mJ b o n c s fb big g ak aj au) ++ [(14, aF 64), (360, aF (IntKind.i64.wrap ((ah : Nat) : Int)))]) [(g, .cells (X.map Bv).toArray 5 (0, 0)), gB fb dat abi aH big aU aJ aG, dN s b o n c] (by kernel_rfl) ?_
 clear HF HM; intro a w HF HM
 rw [show IntKind.i64.wrap ((ah : Nat) : Int) = ((ah : Nat) : Int) from IntWalk.i64_in _ (by omega)] at HF
 refine aT HF HM rfl 1 [] ((mJ b o n c s fb big g ak aj au) ++ [(14, aF 64), (15, ay ah)]) [(g, .cells (X.map Bv).toArray 5 (0, 0)), gB fb dat abi aH big aU aJ aG, dN s b o n c] (by kernel_rfl) ?_
 clear HF HM; intro a w HF HM
 refine aA ?_
 refine wp_region_lit ?_
 refine aT HF HM rfl 3 [] ((mJ b o n c s fb big g ak aj au) ++ [(14, aF 64), (15, ay ah), (361, (aS big)), (363, .slice (some ⟨g, 62, none⟩) 2 2)]) [(g, .cells (X.map Bv).toArray 5 (0, 0)), gB fb dat abi aH big aU aJ aG, dN s b o n c] (by kernel_rfl) ?_
 clear HF HM; intro a w HF HM
 refine bf HF (by kernel_rfl) 94 #[(aS big), .slice (some ⟨g, 62, none⟩) 2 2] (by kernel_rfl) (fun w => by kernel_rfl) (Calls.mono (qV (HM.get (i := 0) rfl) big 62 2 (by omega) (by omega) (((ah - 1) : Nat) : Int) (by rw [hnum 62 2 (by omega), Hst])) ?_)
 rintro _ uI ⟨rfl, kM, hq⟩
 replace HM : Mm [] w0 uI [(g, .cells (X.map Bv).toArray 5 (0, 0)), gB fb dat abi aH big aU aJ aG, dN s b o n c] := by rw [hq]; exact HM.drewN _
 clear hq
 refine ⟨_, rfl, ?_⟩; clear HF; intro a HF; replace HF := HF.sub ((mJ b o n c s fb big g ak aj au) ++ [(14, aF 64), (15, ay ah), (361, (aS big)), (363, .slice (some ⟨g, 62, none⟩) 2 2), (364, bF (ah - 1))]) (by kernel_rfl)
 replace HF := HF.sub ((mJ b o n c s fb big g ak aj au) ++ [(14, aF 64), (15, ay ah), (364, bF (ah - 1))]) (by kernel_rfl)
 refine aT HF HM rfl 1 [] ((mJ b o n c s fb big g ak aj au) ++ [(14, aF 64), (15, ay ah), (365, aF (IntKind.i64.wrap (((ah - 1) : Nat) : Int)))]) [(g, .cells (X.map Bv).toArray 5 (0, 0)), gB fb dat abi aH big aU aJ aG, dN s b o n c] (by kernel_rfl) ?_
 clear HF HM; intro a w HF HM
 rw [show IntKind.i64.wrap (((ah - 1) : Nat) : Int) = (((ah - 1) : Nat) : Int) from IntWalk.i64_in _ (by omega)] at HF
 refine aT HF HM rfl 1 [] ((mJ b o n c s fb big g ak aj au) ++ [(14, aF 64), (15, ay ah), (16, ay (ah - 1))]) [(g, .cells (X.map Bv).toArray 5 (0, 0)), gB fb dat abi aH big aU aJ aG, dN s b o n c] (by kernel_rfl) ?_
 clear HF HM; intro a w HF HM
 refine wpList_nil ?_
 repeat (first | refine aK ?_ | refine aP ?_)
 replace HF := HF.sub ((eY b o n c s fb big) ++ [(10, ay ak), (11, aF 56), (12, ay aj), (13, ay au), (14, aF 64), (15, ay ah), (16, ay (ah - 1))]) (by kernel_rfl)
 exact K a w HF (HM.sub (List.Sublist.cons _ (List.Sublist.refl _)))

abbrev jW := fun (fb : Nat) (dat : Int) (abi : Nat) (aH : Nat) (big : Bool) (aU : Nat) (aJ : Nat) (aG : Nat) => ((fb, .cells #[aQ 1, .int .u8 dat, aQ 1, aX abi, aX aH, (aS big), bF aU, bF aJ, aI aG, aN, aN, aN, aN, aN] 131 (0, 0)) : Nat × Obj)
abbrev jV := fun (s : Nat) (b : Nat) (o : Nat) (n : Nat) (c : Nat) => ((s, .cells #[.iface 178 (.slice (some ⟨b, o, none⟩) n c), aF 0, aF 0, aF 9223372036854775807, aF 9223372036854775807] 246 (0, 0)) : Nat × Obj)
abbrev iE := fun (b : Nat) (o : Nat) (n : Nat) (c : Nat) (s : Nat) (fb : Nat) (big : Bool) (ak : Nat) (au : Nat) (ah : Nat) => ([(0, .iface 178 (.slice (some ⟨b, o, none⟩) n c)), (4, aB s), (8, aB fb), (9, (aS big)), (10, ay ak), (11, aF 32), (12, aF 0), (13, ay au), (14, aF 40), (15, ay ah), (16, ay (ah - 1))] : Slots)
theorem Ns (l : List UInt8) (b o n c : Nat) (hl : n = l.length) (hnc : n ≤ c) (big : Bool) (abi aH aU aJ aG ak aj au ah : Nat) (dat : Int) (b1 : aU < 65536) (b2 : aJ < 65536) (b3 : aG ≤ 18446744073709551615) (b4 : ak < 4611686018427387904) (b5 : au < 4611686018427387904) (b6 : aj < 200) (b7 : ah < 200) (c1 : 0 < au) (c2 : 0 < ah) {Q : Exit → Act → World → Prop} (w0 : World) (a : Act) (w : World) (s fb : Nat) (HF : Fr 1287 a (iE b o n c s fb big ak au ah)) (HM : Mm [] w0 w [jW fb dat abi aH big aU aJ aG, jV s b o n c])
  (K : ∀ a w, Fr 1287 a ((iE b o n c s fb big ak au ah) ++ [(26, aF 40)]) → Mm [] w0 w [jW fb dat abi aH big aU aJ aG, jV s b o n c] → (spine Tryd.f78 29).wp Tryd.prog Q a w) : (spine Tryd.f78 21).wp Tryd.prog Q a w := by
 refine wp_seq ?_
 refine wp_seq (wp_region_lit ?_)
 refine aT HF HM rfl 2 [] ((iE b o n c s fb big ak au ah) ++ [(367, .bool (decide (((au : Nat) : Int) < 0)))]) [jW fb dat abi aH big aU aJ aG, jV s b o n c] (by kernel_rfl) ?_
 clear HF HM; intro a w HF HM
 rw [show decide (((au : Nat) : Int) < 0) = false from cZ (by omega)] at HF
 refine aA ?_
 refine aY HF rfl ?_
 refine wp_skip ?_
 repeat (first | refine aK ?_ | refine aP ?_)
 replace HF := HF.sub (iE b o n c s fb big ak au ah) (by kernel_rfl)
 refine wp_seq ?_
 refine wp_seq (wp_region_lit ?_)
 refine aT HF HM rfl 2 [] ((iE b o n c s fb big ak au ah) ++ [(374, .bool (decide (((ak : Nat) : Int) < 0)))]) [jW fb dat abi aH big aU aJ aG, jV s b o n c] (by kernel_rfl) ?_
 clear HF HM; intro a w HF HM
 rw [show decide (((ak : Nat) : Int) < 0) = false from cZ (by omega)] at HF
 refine aA ?_
 refine aY HF rfl ?_
 refine wp_skip ?_
 repeat (first | refine aK ?_ | refine aP ?_)
 replace HF := HF.sub (iE b o n c s fb big ak au ah) (by kernel_rfl)
 refine wp_seq ?_
 refine wp_seq (wp_region_lit ?_)
 refine aT HF HM rfl 2 [] ((iE b o n c s fb big ak au ah) ++ [(381, .bool (((au : Nat) : Int) == 0))]) [jW fb dat abi aH big aU aJ aG, jV s b o n c] (by kernel_rfl) ?_
 clear HF HM; intro a w HF HM
 rw [show (((au : Nat) : Int) == 0) = false from beq_eq_false_iff_ne.2 (by omega)] at HF
 refine aT HF HM rfl 4 [] ((iE b o n c s fb big ak au ah) ++ [(385, .bool false)]) [jW fb dat abi aH big aU aJ aG, jV s b o n c] (by kernel_rfl) ?_
 clear HF HM; intro a w HF HM
 refine aA ?_
 refine aY HF rfl ?_
 refine wp_skip ?_
 repeat (first | refine aK ?_ | refine aP ?_)
 replace HF := HF.sub (iE b o n c s fb big ak au ah) (by kernel_rfl)
 refine wp_seq ?_
 refine wp_seq (wp_region_lit ?_)
 refine aT HF HM rfl 2 [] ((iE b o n c s fb big ak au ah) ++ [(392, .bool (decide (0 < ((ah : Nat) : Int))))]) [jW fb dat abi aH big aU aJ aG, jV s b o n c] (by kernel_rfl) ?_
 clear HF HM; intro a w HF HM
 rw [show decide (0 < ((ah : Nat) : Int)) = true from dK (by omega)] at HF
 refine aT HF HM rfl 4 [] ((iE b o n c s fb big ak au ah) ++ [(393, .bool true), (396, .bool (decide (((ah : Nat) : Int) ≤ (((ah - 1) : Nat) : Int))))]) [jW fb dat abi aH big aU aJ aG, jV s b o n c] (by kernel_rfl) ?_
 clear HF HM; intro a w HF HM
 rw [show decide (((ah : Nat) : Int) ≤ (((ah - 1) : Nat) : Int)) = false from cZ (by omega)] at HF
 refine aT HF HM rfl 1 [] ((iE b o n c s fb big ak au ah) ++ [(397, .bool false)]) [jW fb dat abi aH big aU aJ aG, jV s b o n c] (by kernel_rfl) ?_
 clear HF HM; intro a w HF HM
 refine aA ?_
 refine aY HF rfl ?_
 refine wp_skip ?_
 repeat (first | refine aK ?_ | refine aP ?_)
 replace HF := HF.sub (iE b o n c s fb big ak au ah) (by kernel_rfl)
 refine bG HF HM rfl [] ((iE b o n c s fb big ak au ah) ++ [(25, aF 0), (26, aF 0)]) [jW fb dat abi aH big aU aJ aG, jV s b o n c] (by kernel_rfl) ?_
 clear HF HM; intro a w HF HM
 refine wp_seq ?_
 refine bG HF HM rfl [[1]] ((iE b o n c s fb big ak au ah) ++ [(25, aF 0), (26, aF 0), (407, aQ 1)]) [jW fb dat abi aH big aU aJ aG, jV s b o n c] (by kernel_rfl) ?_
 clear HF HM; intro a w HF HM
 refine wp_block ?_
 refine bG HF HM rfl [] ((iE b o n c s fb big ak au ah) ++ [(25, aF 0), (26, aF 0), (407, aQ 1), (408, .bool true)]) [jW fb dat abi aH big aU aJ aG, jV s b o n c] (by kernel_rfl) ?_
 clear HF HM; intro a w HF HM
 refine bD HF rfl ?_
 refine bG HF HM rfl [] ((iE b o n c s fb big ak au ah) ++ [(26, aF 0), (25, aF 32)]) [jW fb dat abi aH big aU aJ aG, jV s b o n c] (by kernel_rfl) ?_
 clear HF HM; intro a w HF HM
 refine pK HF HM rfl [] ((iE b o n c s fb big ak au ah) ++ [(25, aF 32), (26, aF 40)]) [jW fb dat abi aH big aU aJ aG, jV s b o n c] (by kernel_rfl) ?_
 clear HF HM; intro a w HF HM
 repeat (first | refine aK ?_ | refine aP ?_)
 refine wp_seq ?_
 refine wp_seq (wp_region_lit ?_)
 refine aT HF HM rfl 7 [] ((iE b o n c s fb big ak au ah) ++ [(25, aF 32), (26, aF 40), (418, .bool false)]) [jW fb dat abi aH big aU aJ aG, jV s b o n c] (by kernel_rfl) ?_
 clear HF HM; intro a w HF HM
 refine aA ?_
 refine aY HF rfl ?_
 refine wp_skip ?_
 repeat (first | refine aK ?_ | refine aP ?_)
 replace HF := HF.sub ((iE b o n c s fb big ak au ah) ++ [(25, aF 32), (26, aF 40)]) (by kernel_rfl)
 refine wp_seq ?_
 refine wp_seq (wp_region_lit ?_)
 refine aT HF HM rfl 2 [] ((iE b o n c s fb big ak au ah) ++ [(25, aF 32), (26, aF 40), (425, .bool (decide (0 < ((au : Nat) : Int))))]) [jW fb dat abi aH big aU aJ aG, jV s b o n c] (by kernel_rfl) ?_
 clear HF HM; intro a w HF HM
 rw [show decide (0 < ((au : Nat) : Int)) = true from dK (by omega)] at HF
 refine aT HF HM rfl 3 [] ((iE b o n c s fb big ak au ah) ++ [(25, aF 32), (26, aF 40), (426, .bool true), (428, .bool (((ah : Nat) : Int) == 0))]) [jW fb dat abi aH big aU aJ aG, jV s b o n c] (by kernel_rfl) ?_
 clear HF HM; intro a w HF HM
 rw [show (((ah : Nat) : Int) == 0) = false from beq_eq_false_iff_ne.2 (by omega)] at HF
 refine aT HF HM rfl 5 [] ((iE b o n c s fb big ak au ah) ++ [(25, aF 32), (26, aF 40), (433, .bool false)]) [jW fb dat abi aH big aU aJ aG, jV s b o n c] (by kernel_rfl) ?_
 clear HF HM; intro a w HF HM
 refine aA ?_
 refine aY HF rfl ?_
 refine wp_skip ?_
 repeat (first | refine aK ?_ | refine aP ?_)
 replace HF := HF.sub ((iE b o n c s fb big ak au ah) ++ [(25, aF 32), (26, aF 40)]) (by kernel_rfl)
 replace HF := HF.sub ((iE b o n c s fb big ak au ah) ++ [(26, aF 40)]) (by kernel_rfl)
 exact K a w HF HM

abbrev jD := fun (fb : Nat) (dat : Int) (abi : Nat) (aH : Nat) (big : Bool) (aU : Nat) (aJ : Nat) (aG : Nat) => ((fb, .cells #[aQ 1, .int .u8 dat, aQ 1, aX abi, aX aH, (aS big), bF aU, bF aJ, aI aG, aN, aN, aN, aN, aN] 131 (0, 0)) : Nat × Obj)
abbrev jC := fun (s : Nat) (b : Nat) (o : Nat) (n : Nat) (c : Nat) => ((s, .cells #[.iface 178 (.slice (some ⟨b, o, none⟩) n c), aF 0, aF 0, aF 9223372036854775807, aF 9223372036854775807] 246 (0, 0)) : Nat × Obj)
abbrev gW := fun (b : Nat) (o : Nat) (n : Nat) (c : Nat) (s : Nat) (fb : Nat) (big : Bool) (ak : Nat) (aj : Nat) (au : Nat) (ah : Nat) => ([(0, .iface 178 (.slice (some ⟨b, o, none⟩) n c)), (4, aB s), (8, aB fb), (9, (aS big)), (10, ay ak), (11, aF 32), (12, ay aj), (13, ay au), (14, aF 40), (15, ay ah), (16, ay (ah - 1))] : Slots)
theorem Nr (l : List UInt8) (b o n c : Nat) (hl : n = l.length) (hnc : n ≤ c) (big : Bool) (abi aH aU aJ aG ak aj au ah : Nat) (dat : Int) (b1 : aU < 65536) (b2 : aJ < 65536) (b3 : aG ≤ 18446744073709551615) (b4 : ak < 4611686018427387904) (b5 : au < 4611686018427387904) (b6 : aj < 200) (b7 : ah < 200) (c1 : 0 < au) (c2 : 0 < ah) (c3 : 0 < aj) {Q : Exit → Act → World → Prop} (w0 : World) (a : Act) (w : World) (s fb : Nat) (HF : Fr 1287 a (gW b o n c s fb big ak aj au ah)) (HM : Mm [] w0 w [jD fb dat abi aH big aU aJ aG, jC s b o n c])
  (K : ∀ a w, Fr 1287 a ((gW b o n c s fb big ak aj au ah) ++ [(26, aF 40)]) → Mm [] w0 w [jD fb dat abi aH big aU aJ aG, jC s b o n c] → (spine Tryd.f78 29).wp Tryd.prog Q a w) : (spine Tryd.f78 21).wp Tryd.prog Q a w := by
 refine wp_seq ?_
 refine wp_seq (wp_region_lit ?_)
 refine aT HF HM rfl 2 [] ((gW b o n c s fb big ak aj au ah) ++ [(367, .bool (decide (((au : Nat) : Int) < 0)))]) [jD fb dat abi aH big aU aJ aG, jC s b o n c] (by kernel_rfl) ?_
 clear HF HM; intro a w HF HM
 rw [show decide (((au : Nat) : Int) < 0) = false from cZ (by omega)] at HF
 refine aA ?_
 refine aY HF rfl ?_
 refine wp_skip ?_
 repeat (first | refine aK ?_ | refine aP ?_)
 replace HF := HF.sub (gW b o n c s fb big ak aj au ah) (by kernel_rfl)
 refine wp_seq ?_
 refine wp_seq (wp_region_lit ?_)
 refine aT HF HM rfl 2 [] ((gW b o n c s fb big ak aj au ah) ++ [(374, .bool (decide (((ak : Nat) : Int) < 0)))]) [jD fb dat abi aH big aU aJ aG, jC s b o n c] (by kernel_rfl) ?_
 clear HF HM; intro a w HF HM
 rw [show decide (((ak : Nat) : Int) < 0) = false from cZ (by omega)] at HF
 refine aA ?_
 refine aY HF rfl ?_
 refine wp_skip ?_
 repeat (first | refine aK ?_ | refine aP ?_)
 replace HF := HF.sub (gW b o n c s fb big ak aj au ah) (by kernel_rfl)
 refine wp_seq ?_
 refine wp_seq (wp_region_lit ?_)
 refine aT HF HM rfl 2 [] ((gW b o n c s fb big ak aj au ah) ++ [(381, .bool (((au : Nat) : Int) == 0))]) [jD fb dat abi aH big aU aJ aG, jC s b o n c] (by kernel_rfl) ?_
 clear HF HM; intro a w HF HM
 rw [show (((au : Nat) : Int) == 0) = false from beq_eq_false_iff_ne.2 (by omega)] at HF
 refine aT HF HM rfl 4 [] ((gW b o n c s fb big ak aj au ah) ++ [(385, .bool false)]) [jD fb dat abi aH big aU aJ aG, jC s b o n c] (by kernel_rfl) ?_
 clear HF HM; intro a w HF HM
 refine aA ?_
 refine aY HF rfl ?_
 refine wp_skip ?_
 repeat (first | refine aK ?_ | refine aP ?_)
 replace HF := HF.sub (gW b o n c s fb big ak aj au ah) (by kernel_rfl)
 refine wp_seq ?_
 refine wp_seq (wp_region_lit ?_)
 refine aT HF HM rfl 2 [] ((gW b o n c s fb big ak aj au ah) ++ [(392, .bool (decide (0 < ((ah : Nat) : Int))))]) [jD fb dat abi aH big aU aJ aG, jC s b o n c] (by kernel_rfl) ?_
 clear HF HM; intro a w HF HM
 rw [show decide (0 < ((ah : Nat) : Int)) = true from dK (by omega)] at HF
 refine aT HF HM rfl 4 [] ((gW b o n c s fb big ak aj au ah) ++ [(393, .bool true), (396, .bool (decide (((ah : Nat) : Int) ≤ (((ah - 1) : Nat) : Int))))]) [jD fb dat abi aH big aU aJ aG, jC s b o n c] (by kernel_rfl) ?_
 clear HF HM; intro a w HF HM
 rw [show decide (((ah : Nat) : Int) ≤ (((ah - 1) : Nat) : Int)) = false from cZ (by omega)] at HF
 refine aT HF HM rfl 1 [] ((gW b o n c s fb big ak aj au ah) ++ [(397, .bool false)]) [jD fb dat abi aH big aU aJ aG, jC s b o n c] (by kernel_rfl) ?_
 clear HF HM; intro a w HF HM
 refine aA ?_
 refine aY HF rfl ?_
 refine wp_skip ?_
 repeat (first | refine aK ?_ | refine aP ?_)
 replace HF := HF.sub (gW b o n c s fb big ak aj au ah) (by kernel_rfl)
 refine bG HF HM rfl [] ((gW b o n c s fb big ak aj au ah) ++ [(25, aF 0), (26, aF 0)]) [jD fb dat abi aH big aU aJ aG, jC s b o n c] (by kernel_rfl) ?_
 clear HF HM; intro a w HF HM
 refine wp_seq ?_
 refine bG HF HM rfl [[1]] ((gW b o n c s fb big ak aj au ah) ++ [(25, aF 0), (26, aF 0), (407, aQ 1)]) [jD fb dat abi aH big aU aJ aG, jC s b o n c] (by kernel_rfl) ?_
 clear HF HM; intro a w HF HM
 refine wp_block ?_
 refine bG HF HM rfl [] ((gW b o n c s fb big ak aj au ah) ++ [(25, aF 0), (26, aF 0), (407, aQ 1), (408, .bool true)]) [jD fb dat abi aH big aU aJ aG, jC s b o n c] (by kernel_rfl) ?_
 clear HF HM; intro a w HF HM
 refine bD HF rfl ?_
 refine bG HF HM rfl [] ((gW b o n c s fb big ak aj au ah) ++ [(26, aF 0), (25, aF 32)]) [jD fb dat abi aH big aU aJ aG, jC s b o n c] (by kernel_rfl) ?_
 clear HF HM; intro a w HF HM
 refine pK HF HM rfl [] ((gW b o n c s fb big ak aj au ah) ++ [(25, aF 32), (26, aF 40)]) [jD fb dat abi aH big aU aJ aG, jC s b o n c] (by kernel_rfl) ?_
 clear HF HM; intro a w HF HM
 repeat (first | refine aK ?_ | refine aP ?_)
 refine wp_seq ?_
 refine wp_seq (wp_region_lit ?_)
 refine aT HF HM rfl 2 [] ((gW b o n c s fb big ak aj au ah) ++ [(25, aF 32), (26, aF 40), (413, .bool (decide (0 < ((aj : Nat) : Int))))]) [jD fb dat abi aH big aU aJ aG, jC s b o n c] (by kernel_rfl) ?_
 clear HF HM; intro a w HF HM
 rw [show decide (0 < ((aj : Nat) : Int)) = true from dK (by omega)] at HF
 refine aT HF HM rfl 5 [] ((gW b o n c s fb big ak aj au ah) ++ [(25, aF 32), (26, aF 40), (418, .bool false)]) [jD fb dat abi aH big aU aJ aG, jC s b o n c] (by kernel_rfl) ?_
 clear HF HM; intro a w HF HM
 refine aA ?_
 refine aY HF rfl ?_
 refine wp_skip ?_
 repeat (first | refine aK ?_ | refine aP ?_)
 replace HF := HF.sub ((gW b o n c s fb big ak aj au ah) ++ [(25, aF 32), (26, aF 40)]) (by kernel_rfl)
 refine wp_seq ?_
 refine wp_seq (wp_region_lit ?_)
 refine aT HF HM rfl 2 [] ((gW b o n c s fb big ak aj au ah) ++ [(25, aF 32), (26, aF 40), (425, .bool (decide (0 < ((au : Nat) : Int))))]) [jD fb dat abi aH big aU aJ aG, jC s b o n c] (by kernel_rfl) ?_
 clear HF HM; intro a w HF HM
 rw [show decide (0 < ((au : Nat) : Int)) = true from dK (by omega)] at HF
 refine aT HF HM rfl 3 [] ((gW b o n c s fb big ak aj au ah) ++ [(25, aF 32), (26, aF 40), (426, .bool true), (428, .bool (((ah : Nat) : Int) == 0))]) [jD fb dat abi aH big aU aJ aG, jC s b o n c] (by kernel_rfl) ?_
 clear HF HM; intro a w HF HM
 rw [show (((ah : Nat) : Int) == 0) = false from beq_eq_false_iff_ne.2 (by omega)] at HF
 refine aT HF HM rfl 3 [] ((gW b o n c s fb big ak aj au ah) ++ [(25, aF 32), (26, aF 40), (426, .bool true), (429, .bool false), (431, .bool (((aj : Nat) : Int) == 65535))]) [jD fb dat abi aH big aU aJ aG, jC s b o n c] (by kernel_rfl) ?_
 clear HF HM; intro a w HF HM
 rw [show (((aj : Nat) : Int) == 65535) = false from beq_eq_false_iff_ne.2 (by omega)] at HF
 refine aT HF HM rfl 2 [] ((gW b o n c s fb big ak aj au ah) ++ [(25, aF 32), (26, aF 40), (433, .bool false)]) [jD fb dat abi aH big aU aJ aG, jC s b o n c] (by kernel_rfl) ?_
 clear HF HM; intro a w HF HM
 refine aA ?_
 refine aY HF rfl ?_
 refine wp_skip ?_
 repeat (first | refine aK ?_ | refine aP ?_)
 replace HF := HF.sub ((gW b o n c s fb big ak aj au ah) ++ [(25, aF 32), (26, aF 40)]) (by kernel_rfl)
 replace HF := HF.sub ((gW b o n c s fb big ak aj au ah) ++ [(26, aF 40)]) (by kernel_rfl)
 exact K a w HF HM

abbrev jO := fun (fb : Nat) (dat : Int) (abi : Nat) (aH : Nat) (big : Bool) (aU : Nat) (aJ : Nat) (aG : Nat) => ((fb, .cells #[aQ 2, .int .u8 dat, aQ 1, aX abi, aX aH, (aS big), bF aU, bF aJ, aI aG, aN, aN, aN, aN, aN] 131 (0, 0)) : Nat × Obj)
abbrev jM := fun (s : Nat) (b : Nat) (o : Nat) (n : Nat) (c : Nat) => ((s, .cells #[.iface 178 (.slice (some ⟨b, o, none⟩) n c), aF 0, aF 0, aF 9223372036854775807, aF 9223372036854775807] 246 (0, 0)) : Nat × Obj)
abbrev iy := fun (b : Nat) (o : Nat) (n : Nat) (c : Nat) (s : Nat) (fb : Nat) (big : Bool) (ak : Nat) (au : Nat) (ah : Nat) => ([(0, .iface 178 (.slice (some ⟨b, o, none⟩) n c)), (4, aB s), (8, aB fb), (9, (aS big)), (10, ay ak), (11, aF 56), (12, aF 0), (13, ay au), (14, aF 64), (15, ay ah), (16, ay (ah - 1))] : Slots)
theorem Nq (l : List UInt8) (b o n c : Nat) (hl : n = l.length) (hnc : n ≤ c) (big : Bool) (abi aH aU aJ aG ak aj au ah : Nat) (dat : Int) (b1 : aU < 65536) (b2 : aJ < 65536) (b3 : aG ≤ 18446744073709551615) (b4 : ak < 4611686018427387904) (b5 : au < 4611686018427387904) (b6 : aj < 200) (b7 : ah < 200) (c1 : 0 < au) (c2 : 0 < ah) {Q : Exit → Act → World → Prop} (w0 : World) (a : Act) (w : World) (s fb : Nat) (HF : Fr 1287 a (iy b o n c s fb big ak au ah)) (HM : Mm [] w0 w [jO fb dat abi aH big aU aJ aG, jM s b o n c])
  (K : ∀ a w, Fr 1287 a ((iy b o n c s fb big ak au ah) ++ [(26, aF 64)]) → Mm [] w0 w [jO fb dat abi aH big aU aJ aG, jM s b o n c] → (spine Tryd.f78 29).wp Tryd.prog Q a w) : (spine Tryd.f78 21).wp Tryd.prog Q a w := by
 refine wp_seq ?_
 refine wp_seq (wp_region_lit ?_)
 refine aT HF HM rfl 2 [] ((iy b o n c s fb big ak au ah) ++ [(367, .bool (decide (((au : Nat) : Int) < 0)))]) [jO fb dat abi aH big aU aJ aG, jM s b o n c] (by kernel_rfl) ?_
 clear HF HM; intro a w HF HM
 rw [show decide (((au : Nat) : Int) < 0) = false from cZ (by omega)] at HF
 refine aA ?_
 refine aY HF rfl ?_
 refine wp_skip ?_
 repeat (first | refine aK ?_ | refine aP ?_)
 replace HF := HF.sub (iy b o n c s fb big ak au ah) (by kernel_rfl)
 refine wp_seq ?_
 refine wp_seq (wp_region_lit ?_)
 refine aT HF HM rfl 2 [] ((iy b o n c s fb big ak au ah) ++ [(374, .bool (decide (((ak : Nat) : Int) < 0)))]) [jO fb dat abi aH big aU aJ aG, jM s b o n c] (by kernel_rfl) ?_
 clear HF HM; intro a w HF HM
 rw [show decide (((ak : Nat) : Int) < 0) = false from cZ (by omega)] at HF
 refine aA ?_
 refine aY HF rfl ?_
 refine wp_skip ?_
 repeat (first | refine aK ?_ | refine aP ?_)
 replace HF := HF.sub (iy b o n c s fb big ak au ah) (by kernel_rfl)
 refine wp_seq ?_
 refine wp_seq (wp_region_lit ?_)
 refine aT HF HM rfl 2 [] ((iy b o n c s fb big ak au ah) ++ [(381, .bool (((au : Nat) : Int) == 0))]) [jO fb dat abi aH big aU aJ aG, jM s b o n c] (by kernel_rfl) ?_
 clear HF HM; intro a w HF HM
 rw [show (((au : Nat) : Int) == 0) = false from beq_eq_false_iff_ne.2 (by omega)] at HF
 refine aT HF HM rfl 4 [] ((iy b o n c s fb big ak au ah) ++ [(385, .bool false)]) [jO fb dat abi aH big aU aJ aG, jM s b o n c] (by kernel_rfl) ?_
 clear HF HM; intro a w HF HM
 refine aA ?_
 refine aY HF rfl ?_
 refine wp_skip ?_
 repeat (first | refine aK ?_ | refine aP ?_)
 replace HF := HF.sub (iy b o n c s fb big ak au ah) (by kernel_rfl)
 refine wp_seq ?_
 refine wp_seq (wp_region_lit ?_)
 refine aT HF HM rfl 2 [] ((iy b o n c s fb big ak au ah) ++ [(392, .bool (decide (0 < ((ah : Nat) : Int))))]) [jO fb dat abi aH big aU aJ aG, jM s b o n c] (by kernel_rfl) ?_
 clear HF HM; intro a w HF HM
 rw [show decide (0 < ((ah : Nat) : Int)) = true from dK (by omega)] at HF
 refine aT HF HM rfl 4 [] ((iy b o n c s fb big ak au ah) ++ [(393, .bool true), (396, .bool (decide (((ah : Nat) : Int) ≤ (((ah - 1) : Nat) : Int))))]) [jO fb dat abi aH big aU aJ aG, jM s b o n c] (by kernel_rfl) ?_
 clear HF HM; intro a w HF HM
 rw [show decide (((ah : Nat) : Int) ≤ (((ah - 1) : Nat) : Int)) = false from cZ (by omega)] at HF
 refine aT HF HM rfl 1 [] ((iy b o n c s fb big ak au ah) ++ [(397, .bool false)]) [jO fb dat abi aH big aU aJ aG, jM s b o n c] (by kernel_rfl) ?_
 clear HF HM; intro a w HF HM
 refine aA ?_
 refine aY HF rfl ?_
 refine wp_skip ?_
 repeat (first | refine aK ?_ | refine aP ?_)
 replace HF := HF.sub (iy b o n c s fb big ak au ah) (by kernel_rfl)
 refine bG HF HM rfl [] ((iy b o n c s fb big ak au ah) ++ [(25, aF 0), (26, aF 0)]) [jO fb dat abi aH big aU aJ aG, jM s b o n c] (by kernel_rfl) ?_
 clear HF HM; intro a w HF HM
 refine wp_seq ?_
 refine bG HF HM rfl [[1]] ((iy b o n c s fb big ak au ah) ++ [(25, aF 0), (26, aF 0), (407, aQ 2)]) [jO fb dat abi aH big aU aJ aG, jM s b o n c] (by kernel_rfl) ?_
 clear HF HM; intro a w HF HM
 refine wp_block ?_
 refine bG HF HM rfl [] ((iy b o n c s fb big ak au ah) ++ [(25, aF 0), (26, aF 0), (407, aQ 2), (408, .bool false)]) [jO fb dat abi aH big aU aJ aG, jM s b o n c] (by kernel_rfl) ?_
 clear HF HM; intro a w HF HM
 refine aY HF rfl ?_
 refine bG HF HM rfl [] ((iy b o n c s fb big ak au ah) ++ [(25, aF 0), (26, aF 0), (407, aQ 2), (410, .bool true)]) [jO fb dat abi aH big aU aJ aG, jM s b o n c] (by kernel_rfl) ?_
 clear HF HM; intro a w HF HM
 refine bD HF rfl ?_
 refine bG HF HM rfl [] ((iy b o n c s fb big ak au ah) ++ [(26, aF 0), (25, aF 56)]) [jO fb dat abi aH big aU aJ aG, jM s b o n c] (by kernel_rfl) ?_
 clear HF HM; intro a w HF HM
 refine pK HF HM rfl [] ((iy b o n c s fb big ak au ah) ++ [(25, aF 56), (26, aF 64)]) [jO fb dat abi aH big aU aJ aG, jM s b o n c] (by kernel_rfl) ?_
 clear HF HM; intro a w HF HM
 repeat (first | refine aK ?_ | refine aP ?_)
 refine wp_seq ?_
 refine wp_seq (wp_region_lit ?_)
 refine aT HF HM rfl 7 [] ((iy b o n c s fb big ak au ah) ++ [(25, aF 56), (26, aF 64), (418, .bool false)]) [jO fb dat abi aH big aU aJ aG, jM s b o n c] (by kernel_rfl) ?_
 clear HF HM; intro a w HF HM
 refine aA ?_
 refine aY HF rfl ?_
 refine wp_skip ?_
 repeat (first | refine aK ?_ | refine aP ?_)
 replace HF := HF.sub ((iy b o n c s fb big ak au ah) ++ [(25, aF 56), (26, aF 64)]) (by kernel_rfl)
 refine wp_seq ?_
 refine wp_seq (wp_region_lit ?_)
 refine aT HF HM rfl 2 [] ((iy b o n c s fb big ak au ah) ++ [(25, aF 56), (26, aF 64), (425, .bool (decide (0 < ((au : Nat) : Int))))]) [jO fb dat abi aH big aU aJ aG, jM s b o n c] (by kernel_rfl) ?_
 clear HF HM; intro a w HF HM
 rw [show decide (0 < ((au : Nat) : Int)) = true from dK (by omega)] at HF
 refine aT HF HM rfl 3 [] ((iy b o n c s fb big ak au ah) ++ [(25, aF 56), (26, aF 64), (426, .bool true), (428, .bool (((ah : Nat) : Int) == 0))]) [jO fb dat abi aH big aU aJ aG, jM s b o n c] (by kernel_rfl) ?_
 clear HF HM; intro a w HF HM
 rw [show (((ah : Nat) : Int) == 0) = false from beq_eq_false_iff_ne.2 (by omega)] at HF
 refine aT HF HM rfl 5 [] ((iy b o n c s fb big ak au ah) ++ [(25, aF 56), (26, aF 64), (433, .bool false)]) [jO fb dat abi aH big aU aJ aG, jM s b o n c] (by kernel_rfl) ?_
 clear HF HM; intro a w HF HM
 refine aA ?_
 refine aY HF rfl ?_
 refine wp_skip ?_
 repeat (first | refine aK ?_ | refine aP ?_)
 replace HF := HF.sub ((iy b o n c s fb big ak au ah) ++ [(25, aF 56), (26, aF 64)]) (by kernel_rfl)
 replace HF := HF.sub ((iy b o n c s fb big ak au ah) ++ [(26, aF 64)]) (by kernel_rfl)
 exact K a w HF HM

abbrev jl := fun (fb : Nat) (dat : Int) (abi : Nat) (aH : Nat) (big : Bool) (aU : Nat) (aJ : Nat) (aG : Nat) => ((fb, .cells #[aQ 2, .int .u8 dat, aQ 1, aX abi, aX aH, (aS big), bF aU, bF aJ, aI aG, aN, aN, aN, aN, aN] 131 (0, 0)) : Nat × Obj)
abbrev jk := fun (s : Nat) (b : Nat) (o : Nat) (n : Nat) (c : Nat) => ((s, .cells #[.iface 178 (.slice (some ⟨b, o, none⟩) n c), aF 0, aF 0, aF 9223372036854775807, aF 9223372036854775807] 246 (0, 0)) : Nat × Obj)
abbrev gQ := fun (b : Nat) (o : Nat) (n : Nat) (c : Nat) (s : Nat) (fb : Nat) (big : Bool) (ak : Nat) (aj : Nat) (au : Nat) (ah : Nat) => ([(0, .iface 178 (.slice (some ⟨b, o, none⟩) n c)), (4, aB s), (8, aB fb), (9, (aS big)), (10, ay ak), (11, aF 56), (12, ay aj), (13, ay au), (14, aF 64), (15, ay ah), (16, ay (ah - 1))] : Slots)
theorem Np (l : List UInt8) (b o n c : Nat) (hl : n = l.length) (hnc : n ≤ c) (big : Bool) (abi aH aU aJ aG ak aj au ah : Nat) (dat : Int) (b1 : aU < 65536) (b2 : aJ < 65536) (b3 : aG ≤ 18446744073709551615) (b4 : ak < 4611686018427387904) (b5 : au < 4611686018427387904) (b6 : aj < 200) (b7 : ah < 200) (c1 : 0 < au) (c2 : 0 < ah) (c3 : 0 < aj) {Q : Exit → Act → World → Prop} (w0 : World) (a : Act) (w : World) (s fb : Nat) (HF : Fr 1287 a (gQ b o n c s fb big ak aj au ah)) (HM : Mm [] w0 w [jl fb dat abi aH big aU aJ aG, jk s b o n c])
  (K : ∀ a w, Fr 1287 a ((gQ b o n c s fb big ak aj au ah) ++ [(26, aF 64)]) → Mm [] w0 w [jl fb dat abi aH big aU aJ aG, jk s b o n c] → (spine Tryd.f78 29).wp Tryd.prog Q a w) : (spine Tryd.f78 21).wp Tryd.prog Q a w := by
 refine wp_seq ?_
 refine wp_seq (wp_region_lit ?_)
 refine aT HF HM rfl 2 [] ((gQ b o n c s fb big ak aj au ah) ++ [(367, .bool (decide (((au : Nat) : Int) < 0)))]) [jl fb dat abi aH big aU aJ aG, jk s b o n c] (by kernel_rfl) ?_
 clear HF HM; intro a w HF HM
 rw [show decide (((au : Nat) : Int) < 0) = false from cZ (by omega)] at HF
 refine aA ?_
 refine aY HF rfl ?_
 refine wp_skip ?_
 repeat (first | refine aK ?_ | refine aP ?_)
 replace HF := HF.sub (gQ b o n c s fb big ak aj au ah) (by kernel_rfl)
 refine wp_seq ?_
 refine wp_seq (wp_region_lit ?_)
 refine aT HF HM rfl 2 [] ((gQ b o n c s fb big ak aj au ah) ++ [(374, .bool (decide (((ak : Nat) : Int) < 0)))]) [jl fb dat abi aH big aU aJ aG, jk s b o n c] (by kernel_rfl) ?_
 clear HF HM; intro a w HF HM
 rw [show decide (((ak : Nat) : Int) < 0) = false from cZ (by omega)] at HF
 refine aA ?_
 refine aY HF rfl ?_
 refine wp_skip ?_
 repeat (first | refine aK ?_ | refine aP ?_)
 replace HF := HF.sub (gQ b o n c s fb big ak aj au ah) (by kernel_rfl)
 refine wp_seq ?_
 refine wp_seq (wp_region_lit ?_)
 refine aT HF HM rfl 2 [] ((gQ b o n c s fb big ak aj au ah) ++ [(381, .bool (((au : Nat) : Int) == 0))]) [jl fb dat abi aH big aU aJ aG, jk s b o n c] (by kernel_rfl) ?_
 clear HF HM; intro a w HF HM
 rw [show (((au : Nat) : Int) == 0) = false from beq_eq_false_iff_ne.2 (by omega)] at HF
 refine aT HF HM rfl 4 [] ((gQ b o n c s fb big ak aj au ah) ++ [(385, .bool false)]) [jl fb dat abi aH big aU aJ aG, jk s b o n c] (by kernel_rfl) ?_
 clear HF HM; intro a w HF HM
 refine aA ?_
 refine aY HF rfl ?_
 refine wp_skip ?_
 repeat (first | refine aK ?_ | refine aP ?_)
 replace HF := HF.sub (gQ b o n c s fb big ak aj au ah) (by kernel_rfl)
 refine wp_seq ?_
 refine wp_seq (wp_region_lit ?_)
 refine aT HF HM rfl 2 [] ((gQ b o n c s fb big ak aj au ah) ++ [(392, .bool (decide (0 < ((ah : Nat) : Int))))]) [jl fb dat abi aH big aU aJ aG, jk s b o n c] (by kernel_rfl) ?_
 clear HF HM; intro a w HF HM
 rw [show decide (0 < ((ah : Nat) : Int)) = true from dK (by omega)] at HF
 refine aT HF HM rfl 4 [] ((gQ b o n c s fb big ak aj au ah) ++ [(393, .bool true), (396, .bool (decide (((ah : Nat) : Int) ≤ (((ah - 1) : Nat) : Int))))]) [jl fb dat abi aH big aU aJ aG, jk s b o n c] (by kernel_rfl) ?_
 clear HF HM; intro a w HF HM
 rw [show decide (((ah : Nat) : Int) ≤ (((ah - 1) : Nat) : Int)) = false from cZ (by omega)] at HF
 refine aT HF HM rfl 1 [] ((gQ b o n c s fb big ak aj au ah) ++ [(397, .bool false)]) [jl fb dat abi aH big aU aJ aG, jk s b o n c] (by kernel_rfl) ?_
 clear HF HM; intro a w HF HM
 refine aA ?_
 refine aY HF rfl ?_
 refine wp_skip ?_
 repeat (first | refine aK ?_ | refine aP ?_)
 replace HF := HF.sub (gQ b o n c s fb big ak aj au ah) (by kernel_rfl)
 refine bG HF HM rfl [] ((gQ b o n c s fb big ak aj au ah) ++ [(25, aF 0), (26, aF 0)]) [jl fb dat abi aH big aU aJ aG, jk s b o n c] (by kernel_rfl) ?_
 clear HF HM; intro a w HF HM
 refine wp_seq ?_
 refine bG HF HM rfl [[1]] ((gQ b o n c s fb big ak aj au ah) ++ [(25, aF 0), (26, aF 0), (407, aQ 2)]) [jl fb dat abi aH big aU aJ aG, jk s b o n c] (by kernel_rfl) ?_
 clear HF HM; intro a w HF HM
 refine wp_block ?_
 refine bG HF HM rfl [] ((gQ b o n c s fb big ak aj au ah) ++ [(25, aF 0), (26, aF 0), (407, aQ 2), (408, .bool false)]) [jl fb dat abi aH big aU aJ aG, jk s b o n c] (by kernel_rfl) ?_
 clear HF HM; intro a w HF HM
 refine aY HF rfl ?_
 refine bG HF HM rfl [] ((gQ b o n c s fb big ak aj au ah) ++ [(25, aF 0), (26, aF 0), (407, aQ 2), (410, .bool true)]) [jl fb dat abi aH big aU aJ aG, jk s b o n c] (by kernel_rfl) ?_
 clear HF HM; intro a w HF HM
 refine bD HF rfl ?_
 refine bG HF HM rfl [] ((gQ b o n c s fb big ak aj au ah) ++ [(26, aF 0), (25, aF 56)]) [jl fb dat abi aH big aU aJ aG, jk s b o n c] (by kernel_rfl) ?_
 clear HF HM; intro a w HF HM
 refine pK HF HM rfl [] ((gQ b o n c s fb big ak aj au ah) ++ [(25, aF 56), (26, aF 64)]) [jl fb dat abi aH big aU aJ aG, jk s b o n c] (by kernel_rfl) ?_
 clear HF HM; intro a w HF HM
 repeat (first | refine aK ?_ | refine aP ?_)
 refine wp_seq ?_
 refine wp_seq (wp_region_lit ?_)
 refine aT HF HM rfl 2 [] ((gQ b o n c s fb big ak aj au ah) ++ [(25, aF 56), (26, aF 64), (413, .bool (decide (0 < ((aj : Nat) : Int))))]) [jl fb dat abi aH big aU aJ aG, jk s b o n c] (by kernel_rfl) ?_
 clear HF HM; intro a w HF HM
 rw [show decide (0 < ((aj : Nat) : Int)) = true from dK (by omega)] at HF
 refine aT HF HM rfl 5 [] ((gQ b o n c s fb big ak aj au ah) ++ [(25, aF 56), (26, aF 64), (418, .bool false)]) [jl fb dat abi aH big aU aJ aG, jk s b o n c] (by kernel_rfl) ?_
 clear HF HM; intro a w HF HM
 refine aA ?_
 refine aY HF rfl ?_
 refine wp_skip ?_
 repeat (first | refine aK ?_ | refine aP ?_)
 replace HF := HF.sub ((gQ b o n c s fb big ak aj au ah) ++ [(25, aF 56), (26, aF 64)]) (by kernel_rfl)
 refine wp_seq ?_
 refine wp_seq (wp_region_lit ?_)
 refine aT HF HM rfl 2 [] ((gQ b o n c s fb big ak aj au ah) ++ [(25, aF 56), (26, aF 64), (425, .bool (decide (0 < ((au : Nat) : Int))))]) [jl fb dat abi aH big aU aJ aG, jk s b o n c] (by kernel_rfl) ?_
 clear HF HM; intro a w HF HM
 rw [show decide (0 < ((au : Nat) : Int)) = true from dK (by omega)] at HF
 refine aT HF HM rfl 3 [] ((gQ b o n c s fb big ak aj au ah) ++ [(25, aF 56), (26, aF 64), (426, .bool true), (428, .bool (((ah : Nat) : Int) == 0))]) [jl fb dat abi aH big aU aJ aG, jk s b o n c] (by kernel_rfl) ?_
 clear HF HM; intro a w HF HM
 rw [show (((ah : Nat) : Int) == 0) = false from beq_eq_false_iff_ne.2 (by omega)] at HF
 refine aT HF HM rfl 3 [] ((gQ b o n c s fb big ak aj au ah) ++ [(25, aF 56), (26, aF 64), (426, .bool true), (429, .bool false), (431, .bool (((aj : Nat) : Int) == 65535))]) [jl fb dat abi aH big aU aJ aG, jk s b o n c] (by kernel_rfl) ?_
 clear HF HM; intro a w HF HM
 rw [show (((aj : Nat) : Int) == 65535) = false from beq_eq_false_iff_ne.2 (by omega)] at HF
 refine aT HF HM rfl 2 [] ((gQ b o n c s fb big ak aj au ah) ++ [(25, aF 56), (26, aF 64), (433, .bool false)]) [jl fb dat abi aH big aU aJ aG, jk s b o n c] (by kernel_rfl) ?_
 clear HF HM; intro a w HF HM
 refine aA ?_
 refine aY HF rfl ?_
 refine wp_skip ?_
 repeat (first | refine aK ?_ | refine aP ?_)
 replace HF := HF.sub ((gQ b o n c s fb big ak aj au ah) ++ [(25, aF 56), (26, aF 64)]) (by kernel_rfl)
 replace HF := HF.sub ((gQ b o n c s fb big ak aj au ah) ++ [(26, aF 64)]) (by kernel_rfl)
 exact K a w HF HM

end Go.Proofs.YtdgehpocmfjbiaaDoor
namespace Go.Proofs.YtdgehpocmfjbiaaDoor
open Go.RowKit

section
variable {P : Program} {N : Nat} {G : List Nat} {w0 w : World} {a : Act} {ops : Array Oper}
/-- make([]T, 0, n) -/
theorem qo {Q : Exit → Act → World → Prop} {rest : List Oper} {o : Oper} {S : Slots} {L : List (Nat × Obj)} (HF : Fr N a S) (HM : Mm G w0 w L) (hgd : o.guard = none) (l c : Operand) (t : TypeId)
  (ho : o.op = .makeSlice t l c) (hd : okD N o.dst = true) (e : TypeId) (z : Value) (bytes : Nat) (ht : P.underlying t = some (.slice e)) (hi : (P.info? e).map (fun i => (i.zero, i.size, i.bytes)) = some (some z, 1, bytes))
  (kl kc : IntKind) (n : Nat) (hl : ev S l = some (.int kl 0)) (hc : ev S c = some (.int kc (n : Int))) (hb : bytes * n ≤ 281474976710656) (h63 : n ≤ maxLen)
  (hK : ∀ a' w' g cur, w.heap.size ≤ g → cur.size = n → Mm G w0 w' ((g, .cells cur e (0, 0)) :: L) → Fr N a' (uP S o.dst (aC g 0 n)) → wpList P ops Q rest a' w') : wpList P ops Q (o :: rest) a w := by
 obtain ⟨i0, hi0, hz0, hz1, hz2⟩ := info_parts hi
 refine wpList_make_own w hgd l c t ho w.heap.size e i0 z 1 ht hi0 hz0 hz1 kl kc n n (HF.ev hl) (HF.ev hc) rfl (by rw [hz2]; exact hb) h63 (Nat.le_refl _) ?_
 intro w' hown hgrow
 have hbel : Below w.heap.size w w' := (Below.refl _ _).grown hgrow (Nat.le_refl _) (by simp)
 rcases hown.2 with ⟨h, _⟩ | ⟨g, cap, cur, hv, hg, hh, hmc, hcm, hcs, htk⟩
 ·cases h
 ·injection hv with h1 h2 h3
  injection h1 with h1
  injection h1 with h1
  subst h1 h3
  exact hK _ w' _ cur (Nat.le_refl _) (by omega) (HM.push hbel hg hh) (HF.put _ _ (kY hd))
/-- append of one value within the capacity -/
theorem sD {Q : Exit → Act → World → Prop} {rest : List Oper} {o : Oper} {S : Slots} {L : List (Nat × Obj)} (HF : Fr N a S) (HM : Mm G w0 w L) (hgd : o.guard = none) (s x : Operand) (t : TypeId)
  (ho : o.op = .call { callee := .builtin .append, args := #[s, x], argTypes := #[t, t] }) (hd : okD N o.dst = true) (e : TypeId) (z : Value) (bytes : Nat) (ht : P.underlying t = some (.slice e)) (hi : (P.info? e).map (fun i => (i.zero, i.size, i.bytes)) = some (some z, 1, bytes))
  (i j g b k n : Nat) (cur : Array Value) (v : Value) (tx : TypeId) (hL : L[i]? = some (g, .cells cur e (0, 0))) (hcs : cur.size = n) (hk : k < n) (hnm : n ≤ maxLen) (hs : ev S s = some (aC g k n))
  (hx : ev S x = some (aC b 1 1)) (hb : L[j]? = some (b, .cells #[v] tx (0, 0))) (h1 : v.oneCell' = true)
  (hK : ∀ a' w' cur', cur'.size = n → cur'.toList.take (k + 1) = cur.toList.take k ++ [v] → Mm G w0 w' (L.set i (g, .cells cur' e (0, 0))) → Fr N a' (uP S o.dst (aC g (k + 1) n)) → wpList P ops Q rest a' w') : wpList P ops Q (o :: rest) a w := by
 obtain ⟨i0, hi0, hz0, hz1, hz2⟩ := info_parts hi
 have hown : w.ownsRow 0 e 1 (aC g k n) k (cur.toList.take k) :=
  ⟨by simp; omega, .inr ⟨g, n, cur, rfl, Nat.zero_le _, HM.get hL, by omega, hnm, by omega, by rw [Nat.mul_one]⟩⟩
 refine wpList_append_fits w hgd s x t ho 0 e i0 1 ht hi0 hz1 g k n (cur.toList.take k) (HF.ev hs) hown ⟨b, 0, none⟩ 1 1 [v] (HF.ev hx) rfl ?_ (by simpa using h1) (by omega) ?_
 ·intro m u hu
  cases m with
  | zero =>
   simp only [List.getElem?_cons_zero, Option.some.injEq] at hu
   subst hu
   have := cell_of_row w b 0 _ tx (0, 0) (HM.get hb)
   simpa [Addr.add] using this
  | succ m => simp at hu
 ·intro w' hown' hgrow
  rcases hown'.2 with ⟨h, _⟩ | ⟨g', cap, cur', hv, hg, hh, hmc, hcm, hcs', htk⟩
  ·cases h
  ·injection hv with h1 h2 h3
   injection h1 with h1
   injection h1 with h1
   subst h1 h3
   exact hK _ w' cur' (by omega) (by rw [Nat.mul_one] at htk; exact htk) (HM.put hL hh (Keep.Qq hgrow)) (HF.put _ _ (kY hd))
end
theorem F8 {P : Program} {w : World} {ρ : Operand → Value} {o : Oper} {T U : TypeId} {x y : Operand} {k : IntKind} {u v : Int} (ho : o.op = .binOp .quo T x y U) (hx : ρ x = .int k u) (hy : ρ y = .int k v) (hv : v ≠ 0) : (execOp ρ o).run P w = .ok (.value (.int k (k.wrap (u.tdiv v)))) w := by
 unfold execOp
 simp only [ho, hx, hy]
 simp [eqGuard, binOp_quo, Op.intDiv, hv]

theorem Ah : (Tryd.prog.info? 136).map (fun i => (i.zero, i.size, i.bytes)) = some (some (.pointer none), 1, 8) := by kernel_rfl
theorem CV : (Tryd.prog.info? 133).map (fun i => (i.zero, i.size, i.bytes)) = some (some (.pointer none), 1, 8) := by kernel_rfl
theorem Gn (n : Nat) (h0 : 0 < n) (h1 : n < 200) : 1000000 ≤ (18446744073709551615 : Int).tdiv (n : Int) ∧ (18446744073709551615 : Int).tdiv (n : Int) ≤ 18446744073709551615 := by
 rw [Int.tdiv_eq_ediv_of_nonneg (by omega)]
 constructor
 ·exact Int.le_ediv_of_mul_le (by omega) (by omega)
 ·exact Int.ediv_le_self _ (by omega)

abbrev jU := fun (b : Nat) (o : Nat) (n : Nat) (c : Nat) (s : Nat) (fb : Nat) (big : Bool) (ak : Nat) (au : Nat) (ah : Nat) => ([(0, .iface 178 (.slice (some ⟨b, o, none⟩) n c)), (4, aB s), (8, aB fb), (9, (aS big)), (10, ay ak), (11, aF 32), (12, aF 0), (13, ay au), (14, aF 40), (15, ay ah), (16, ay (ah - 1)), (26, aF 40)] : Slots)
theorem Nl (l : List UInt8) (b o n c : Nat) (hl : n = l.length) (hnc : n ≤ c) (big : Bool) (abi aH aU aJ aG ak aj au ah : Nat) (dat : Int) (b1 : aU < 65536) (b2 : aJ < 65536) (b3 : aG ≤ 18446744073709551615) (b4 : ak < 4611686018427387904) (b5 : au < 4611686018427387904) (b6 : aj < 200) (b7 : ah < 200) (c1 : 0 < au) (c2 : 0 < ah) (c4 : ak < n) (c5 : ak + (0 * 32) ≤ n) {Q : Exit → Act → World → Prop} (w0 : World) (hbl : b < w0.heap.size) (hr : Row w0 (some ⟨b, o, none⟩) (l.map Bv)) (a : Act) (w : World) (s fb : Nat) (HF : Fr 1287 a (jU b o n c s fb big ak au ah)) (HM : Mm [] w0 w [(fb, .cells #[aQ 1, .int .u8 dat, aQ 1, aX abi, aX aH, (aS big), bF aU, bF aJ, aI aG, aN, aN, aN, aN, aN] 131 (0, 0)), (s, .cells #[.iface 178 (.slice (some ⟨b, o, none⟩) n c), aF 0, aF 0, aF 9223372036854775807, aF 9223372036854775807] 246 (0, 0))])
  (K : ∀ a w pg cur pd, cur.size = 0 → Fr 1287 a ((jU b o n c s fb big ak au ah) ++ [(36, aC pd (0 * 32) (0 * 32))]) → Mm [] w0 w [(pd, .cells (((l.drop ak).take (0 * 32)).map Bv).toArray 5 (0, 0)), (pg, .cells cur 136 (0, 0)), (fb, .cells #[aQ 1, .int .u8 dat, aQ 1, aX abi, aX aH, (aS big), bF aU, bF aJ, aI aG, aN, aC pg 0 0, aN, aN, aN] 131 (0, 0)), (s, .cells #[.iface 178 (.slice (some ⟨b, o, none⟩) n c), aF 0, aF 0, aF 9223372036854775807, aF 9223372036854775807] 246 (0, 0))] → (spine Tryd.f78 35).wp Tryd.prog Q a w) : (spine Tryd.f78 29).wp Tryd.prog Q a w := by
 refine wp_seq (wp_region_lit ?_)
 refine aT HF HM rfl 2 [] ((jU b o n c s fb big ak au ah) ++ [(547, bH 0)]) [(fb, .cells #[aQ 1, .int .u8 dat, aQ 1, aX abi, aX aH, (aS big), bF aU, bF aJ, aI aG, aN, aN, aN, aN, aN] 131 (0, 0)), (s, .cells #[.iface 178 (.slice (some ⟨b, o, none⟩) n c), aF 0, aF 0, aF 9223372036854775807, aF 9223372036854775807] 246 (0, 0))] (by kernel_rfl) ?_
 clear HF HM; intro a w HF HM
 refine bf HF (by kernel_rfl) 98 #[bH 8, aI 0] (by kernel_rfl) (fun w => by kernel_rfl) (Calls.mono (zx 0 (by omega) w) ?_)
 rintro _ w1 ⟨rfl, hq⟩
 replace HM : Mm [] w0 w1 [(fb, .cells #[aQ 1, .int .u8 dat, aQ 1, aX abi, aX aH, (aS big), bF aU, bF aJ, aI aG, aN, aN, aN, aN, aN] 131 (0, 0)), (s, .cells #[.iface 178 (.slice (some ⟨b, o, none⟩) n c), aF 0, aF 0, aF 9223372036854775807, aF 9223372036854775807] 246 (0, 0))] := by first | (rw [hq]; exact HM) | (rw [← hq]; exact HM)
 clear hq
 refine ⟨_, rfl, ?_⟩; clear HF; intro a HF; replace HF := HF.sub ((jU b o n c s fb big ak au ah) ++ [(547, bH 0), (548, ay 0)]) (by kernel_rfl)
 refine aT HF HM rfl 1 [] ((jU b o n c s fb big ak au ah) ++ [(35, ay 0)]) [(fb, .cells #[aQ 1, .int .u8 dat, aQ 1, aX abi, aX aH, (aS big), bF aU, bF aJ, aI aG, aN, aN, aN, aN, aN] 131 (0, 0)), (s, .cells #[.iface 178 (.slice (some ⟨b, o, none⟩) n c), aF 0, aF 0, aF 9223372036854775807, aF 9223372036854775807] 246 (0, 0))] (by kernel_rfl) ?_
 clear HF HM; intro a w HF HM
 refine aA ?_
 refine wp_seq ?_
 refine wp_seq (wp_region_lit ?_)
 refine aT HF HM rfl 2 [] ((jU b o n c s fb big ak au ah) ++ [(35, ay 0), (550, .bool (decide (((0 : Nat) : Int) < 0)))]) [(fb, .cells #[aQ 1, .int .u8 dat, aQ 1, aX abi, aX aH, (aS big), bF aU, bF aJ, aI aG, aN, aN, aN, aN, aN] 131 (0, 0)), (s, .cells #[.iface 178 (.slice (some ⟨b, o, none⟩) n c), aF 0, aF 0, aF 9223372036854775807, aF 9223372036854775807] 246 (0, 0))] (by kernel_rfl) ?_
 clear HF HM; intro a w HF HM
 rw [show decide (((0 : Nat) : Int) < 0) = false from cZ (by omega)] at HF
 refine aA ?_
 refine aY HF rfl ?_
 refine wp_skip ?_
 repeat (first | refine aK ?_ | refine aP ?_)
 replace HF := HF.sub ((jU b o n c s fb big ak au ah) ++ [(35, ay 0)]) (by kernel_rfl)
 refine wp_seq ?_
 refine wp_seq (wp_region_lit ?_)
 refine aT HF HM rfl 10 [] ((jU b o n c s fb big ak au ah) ++ [(35, ay 0), (565, .bool false)]) [(fb, .cells #[aQ 1, .int .u8 dat, aQ 1, aX abi, aX aH, (aS big), bF aU, bF aJ, aI aG, aN, aN, aN, aN, aN] 131 (0, 0)), (s, .cells #[.iface 178 (.slice (some ⟨b, o, none⟩) n c), aF 0, aF 0, aF 9223372036854775807, aF 9223372036854775807] 246 (0, 0))] (by kernel_rfl) ?_
 clear HF HM; intro a w HF HM
 refine aA ?_
 refine aY HF rfl ?_
 refine wp_skip ?_
 repeat (first | refine aK ?_ | refine aP ?_)
 replace HF := HF.sub ((jU b o n c s fb big ak au ah) ++ [(35, ay 0)]) (by kernel_rfl)
 refine wp_seq (wp_region_lit ?_)
 refine aT HF HM rfl 2 [] ((jU b o n c s fb big ak au ah) ++ [(35, ay 0), (571, aB fb), (572, ay 0)]) [(fb, .cells #[aQ 1, .int .u8 dat, aQ 1, aX abi, aX aH, (aS big), bF aU, bF aJ, aI aG, aN, aN, aN, aN, aN] 131 (0, 0)), (s, .cells #[.iface 178 (.slice (some ⟨b, o, none⟩) n c), aF 0, aF 0, aF 9223372036854775807, aF 9223372036854775807] 246 (0, 0))] (by kernel_rfl) ?_
 clear HF HM; intro a w HF HM
 refine qo HF HM rfl _ _ 127 rfl rfl 136 (.pointer none) 8 Tryd.underlying127 Ah .i64 .i64 0 rfl rfl (by omega) (by unfold maxLen; omega) ?_
 intro a2 w2 pg cur hgw hcs bT HF2; have hg0 : w0.heap.size ≤ pg := Nat.le_trans HM.size hgw; clear HF HM hgw; have HM := bT; have HF := HF2; clear bT HF2
 replace HF := HF.sub ((jU b o n c s fb big ak au ah) ++ [(35, ay 0), (571, aB fb), (573, aC pg 0 0)]) (by kernel_rfl)
 refine aT HF HM rfl 3 [[1]] ((jU b o n c s fb big ak au ah) ++ [(35, ay 0)]) [(pg, .cells cur 136 (0, 0)), (fb, .cells #[aQ 1, .int .u8 dat, aQ 1, aX abi, aX aH, (aS big), bF aU, bF aJ, aI aG, aN, aC pg 0 0, aN, aN, aN] 131 (0, 0)), (s, .cells #[.iface 178 (.slice (some ⟨b, o, none⟩) n c), aF 0, aF 0, aF 9223372036854775807, aF 9223372036854775807] 246 (0, 0))] (by kernel_rfl) ?_
 clear HF HM; intro a w HF HM
 refine aA ?_
 have hbs : b ≠ s := fun e => absurd hbl (Nat.not_lt_of_le (e ▸ HM.ge (i := 2) rfl))
 have hsz : w0.heap.size ≤ w.heap.size := HM.size
 refine wp_seq (wp_region_lit ?_)
 refine aT HF HM rfl 8 [] ((jU b o n c s fb big ak au ah) ++ [(35, ay 0), (578, .iface 144 (aB s)), (583, bH 0), (584, ay ak)]) [(pg, .cells cur 136 (0, 0)), (fb, .cells #[aQ 1, .int .u8 dat, aQ 1, aX abi, aX aH, (aS big), bF aU, bF aJ, aI aG, aN, aC pg 0 0, aN, aN, aN] 131 (0, 0)), (s, .cells #[.iface 178 (.slice (some ⟨b, o, none⟩) n c), aF 0, aF 0, aF 9223372036854775807, aF 9223372036854775807] 246 (0, 0))] (by kernel_rfl) ?_
 clear HF HM; intro a w HF HM
 refine bf HF (by kernel_rfl) 99 #[.iface 144 (aB s), aI (0 * 32), ay ak] (by kernel_rfl) (fun w => by kernel_rfl) (Calls.mono (pG l b o n c hl hnc s (0 * 32) 0 ak 0 9223372036854775807 9223372036854775807 (by omega) (by omega) (by omega) (by omega) (by omega) (by omega) w (HM.row hr (by intro b' o' s' _; simp)) (Nat.lt_of_lt_of_le hbl HM.size) hbs (HM.get (i := 2) rfl)) ?_)
 rintro _ w3 ⟨pd, rfl, hb, hge, hgn⟩
 replace HM : Mm [] w0 w3 [(pd, .cells (((l.drop (0 + ak)).take (0 * 32)).map Bv).toArray 5 (0, 0)), (pg, .cells cur 136 (0, 0)), (fb, .cells #[aQ 1, .int .u8 dat, aQ 1, aX abi, aX aH, (aS big), bF aU, bF aJ, aI aG, aN, aC pg 0 0, aN, aN, aN] 131 (0, 0)), (s, .cells #[.iface 178 (.slice (some ⟨b, o, none⟩) n c), aF 0, aF 0, aF 9223372036854775807, aF 9223372036854775807] 246 (0, 0))] := HM.push hb hge hgn
 clear hb hge hgn
 refine ⟨_, rfl, ?_⟩; clear HF; intro a HF; replace HF := HF.sub ((jU b o n c s fb big ak au ah) ++ [(35, ay 0), (578, .iface 144 (aB s)), (583, bH 0), (584, ay ak), (585, .tuple #[aC pd (0 * 32) (0 * 32), .nilIface])]) (by kernel_rfl)
 refine aT HF HM rfl 5 [] ((jU b o n c s fb big ak au ah) ++ [(35, ay 0), (36, aC pd (0 * 32) (0 * 32)), (37, .nilIface)]) [(pd, .cells (((l.drop (0 + ak)).take (0 * 32)).map Bv).toArray 5 (0, 0)), (pg, .cells cur 136 (0, 0)), (fb, .cells #[aQ 1, .int .u8 dat, aQ 1, aX abi, aX aH, (aS big), bF aU, bF aJ, aI aG, aN, aC pg 0 0, aN, aN, aN] 131 (0, 0)), (s, .cells #[.iface 178 (.slice (some ⟨b, o, none⟩) n c), aF 0, aF 0, aF 9223372036854775807, aF 9223372036854775807] 246 (0, 0))] (by kernel_rfl) ?_
 clear HF HM; intro a w HF HM
 refine aA ?_
 refine wp_seq ?_
 refine wp_seq (wp_region_lit ?_)
 refine aT HF HM rfl 2 [] ((jU b o n c s fb big ak au ah) ++ [(35, ay 0), (36, aC pd (0 * 32) (0 * 32)), (37, .nilIface), (589, .bool false)]) [(pd, .cells (((l.drop (0 + ak)).take (0 * 32)).map Bv).toArray 5 (0, 0)), (pg, .cells cur 136 (0, 0)), (fb, .cells #[aQ 1, .int .u8 dat, aQ 1, aX abi, aX aH, (aS big), bF aU, bF aJ, aI aG, aN, aC pg 0 0, aN, aN, aN] 131 (0, 0)), (s, .cells #[.iface 178 (.slice (some ⟨b, o, none⟩) n c), aF 0, aF 0, aF 9223372036854775807, aF 9223372036854775807] 246 (0, 0))] (by kernel_rfl) ?_
 clear HF HM; intro a w HF HM
 refine aA ?_
 refine aY HF rfl ?_
 refine wp_skip ?_
 repeat (first | refine aK ?_ | refine aP ?_)
 replace HF := HF.sub ((jU b o n c s fb big ak au ah) ++ [(36, aC pd (0 * 32) (0 * 32))]) (by kernel_rfl)
 replace HF := HF.sub ((jU b o n c s fb big ak au ah) ++ [(36, aC pd (0 * 32) (0 * 32))]) (by kernel_rfl)
 rw [Nat.zero_add] at HM
 exact K a w pg cur pd hcs HF HM

abbrev iP := fun (b : Nat) (o : Nat) (n : Nat) (c : Nat) (s : Nat) (fb : Nat) (big : Bool) (ak : Nat) (aj : Nat) (au : Nat) (ah : Nat) => ([(0, .iface 178 (.slice (some ⟨b, o, none⟩) n c)), (4, aB s), (8, aB fb), (9, (aS big)), (10, ay ak), (11, aF 32), (12, ay aj), (13, ay au), (14, aF 40), (15, ay ah), (16, ay (ah - 1)), (26, aF 40)] : Slots)
theorem Nk (l : List UInt8) (b o n c : Nat) (hl : n = l.length) (hnc : n ≤ c) (big : Bool) (abi aH aU aJ aG ak aj au ah : Nat) (dat : Int) (b1 : aU < 65536) (b2 : aJ < 65536) (b3 : aG ≤ 18446744073709551615) (b4 : ak < 4611686018427387904) (b5 : au < 4611686018427387904) (b6 : aj < 200) (b7 : ah < 200) (c1 : 0 < au) (c2 : 0 < ah) (c3 : 0 < aj) (c4 : ak < n) (c5 : ak + (aj * 32) ≤ n) {Q : Exit → Act → World → Prop} (w0 : World) (hbl : b < w0.heap.size) (hr : Row w0 (some ⟨b, o, none⟩) (l.map Bv)) (a : Act) (w : World) (s fb : Nat) (HF : Fr 1287 a (iP b o n c s fb big ak aj au ah)) (HM : Mm [] w0 w [(fb, .cells #[aQ 1, .int .u8 dat, aQ 1, aX abi, aX aH, (aS big), bF aU, bF aJ, aI aG, aN, aN, aN, aN, aN] 131 (0, 0)), (s, .cells #[.iface 178 (.slice (some ⟨b, o, none⟩) n c), aF 0, aF 0, aF 9223372036854775807, aF 9223372036854775807] 246 (0, 0))])
  (K : ∀ a w pg cur pd, cur.size = aj → Fr 1287 a ((iP b o n c s fb big ak aj au ah) ++ [(36, aC pd (aj * 32) (aj * 32))]) → Mm [] w0 w [(pd, .cells (((l.drop ak).take (aj * 32)).map Bv).toArray 5 (0, 0)), (pg, .cells cur 136 (0, 0)), (fb, .cells #[aQ 1, .int .u8 dat, aQ 1, aX abi, aX aH, (aS big), bF aU, bF aJ, aI aG, aN, aC pg 0 aj, aN, aN, aN] 131 (0, 0)), (s, .cells #[.iface 178 (.slice (some ⟨b, o, none⟩) n c), aF 0, aF 0, aF 9223372036854775807, aF 9223372036854775807] 246 (0, 0))] → (spine Tryd.f78 35).wp Tryd.prog Q a w) : (spine Tryd.f78 29).wp Tryd.prog Q a w := by
 refine wp_seq (wp_region_lit ?_)
 refine aT HF HM rfl 2 [] ((iP b o n c s fb big ak aj au ah) ++ [(547, bH (IntKind.u64.wrap ((aj : Nat) : Int)))]) [(fb, .cells #[aQ 1, .int .u8 dat, aQ 1, aX abi, aX aH, (aS big), bF aU, bF aJ, aI aG, aN, aN, aN, aN, aN] 131 (0, 0)), (s, .cells #[.iface 178 (.slice (some ⟨b, o, none⟩) n c), aF 0, aF 0, aF 9223372036854775807, aF 9223372036854775807] 246 (0, 0))] (by kernel_rfl) ?_
 clear HF HM; intro a w HF HM
 rw [show IntKind.u64.wrap ((aj : Nat) : Int) = ((aj : Nat) : Int) from IntWalk.u64_in _ (by omega)] at HF
 refine bf HF (by kernel_rfl) 98 #[bH 8, aI aj] (by kernel_rfl) (fun w => by kernel_rfl) (Calls.mono (zx aj (by omega) w) ?_)
 rintro _ w1 ⟨rfl, hq⟩
 replace HM : Mm [] w0 w1 [(fb, .cells #[aQ 1, .int .u8 dat, aQ 1, aX abi, aX aH, (aS big), bF aU, bF aJ, aI aG, aN, aN, aN, aN, aN] 131 (0, 0)), (s, .cells #[.iface 178 (.slice (some ⟨b, o, none⟩) n c), aF 0, aF 0, aF 9223372036854775807, aF 9223372036854775807] 246 (0, 0))] := by first | (rw [hq]; exact HM) | (rw [← hq]; exact HM)
 clear hq
 refine ⟨_, rfl, ?_⟩; clear HF; intro a HF; replace HF := HF.sub ((iP b o n c s fb big ak aj au ah) ++ [(547, aI aj), (548, ay aj)]) (by kernel_rfl)
 refine aT HF HM rfl 1 [] ((iP b o n c s fb big ak aj au ah) ++ [(35, ay aj)]) [(fb, .cells #[aQ 1, .int .u8 dat, aQ 1, aX abi, aX aH, (aS big), bF aU, bF aJ, aI aG, aN, aN, aN, aN, aN] 131 (0, 0)), (s, .cells #[.iface 178 (.slice (some ⟨b, o, none⟩) n c), aF 0, aF 0, aF 9223372036854775807, aF 9223372036854775807] 246 (0, 0))] (by kernel_rfl) ?_
 clear HF HM; intro a w HF HM
 refine aA ?_
 refine wp_seq ?_
 refine wp_seq (wp_region_lit ?_)
 refine aT HF HM rfl 2 [] ((iP b o n c s fb big ak aj au ah) ++ [(35, ay aj), (550, .bool (decide (((aj : Nat) : Int) < 0)))]) [(fb, .cells #[aQ 1, .int .u8 dat, aQ 1, aX abi, aX aH, (aS big), bF aU, bF aJ, aI aG, aN, aN, aN, aN, aN] 131 (0, 0)), (s, .cells #[.iface 178 (.slice (some ⟨b, o, none⟩) n c), aF 0, aF 0, aF 9223372036854775807, aF 9223372036854775807] 246 (0, 0))] (by kernel_rfl) ?_
 clear HF HM; intro a w HF HM
 rw [show decide (((aj : Nat) : Int) < 0) = false from cZ (by omega)] at HF
 refine aA ?_
 refine aY HF rfl ?_
 refine wp_skip ?_
 repeat (first | refine aK ?_ | refine aP ?_)
 replace HF := HF.sub ((iP b o n c s fb big ak aj au ah) ++ [(35, ay aj)]) (by kernel_rfl)
 refine wp_seq ?_
 refine wp_seq (wp_region_lit ?_)
 refine aT HF HM rfl 2 [] ((iP b o n c s fb big ak aj au ah) ++ [(35, ay aj), (557, .bool (decide (0 < ((aj : Nat) : Int))))]) [(fb, .cells #[aQ 1, .int .u8 dat, aQ 1, aX abi, aX aH, (aS big), bF aU, bF aJ, aI aG, aN, aN, aN, aN, aN] 131 (0, 0)), (s, .cells #[.iface 178 (.slice (some ⟨b, o, none⟩) n c), aF 0, aF 0, aF 9223372036854775807, aF 9223372036854775807] 246 (0, 0))] (by kernel_rfl) ?_
 clear HF HM; intro a w HF HM
 rw [show decide (0 < ((aj : Nat) : Int)) = true from dK (by omega)] at HF
 refine aT HF HM rfl 3 [] ((iP b o n c s fb big ak aj au ah) ++ [(35, ay aj), (557, .bool true), (558, .bool true), (560, bH (IntKind.u64.wrap ((aj : Nat) : Int)))]) [(fb, .cells #[aQ 1, .int .u8 dat, aQ 1, aX abi, aX aH, (aS big), bF aU, bF aJ, aI aG, aN, aN, aN, aN, aN] 131 (0, 0)), (s, .cells #[.iface 178 (.slice (some ⟨b, o, none⟩) n c), aF 0, aF 0, aF 9223372036854775807, aF 9223372036854775807] 246 (0, 0))] (by kernel_rfl) ?_
 clear HF HM; intro a w HF HM
 rw [show IntKind.u64.wrap ((aj : Nat) : Int) = ((aj : Nat) : Int) from IntWalk.u64_in _ (by omega)] at HF
 refine dG HF (by kernel_rfl) (bH (IntKind.u64.wrap ((18446744073709551615 : Int).tdiv ((aj : Nat) : Int)))) (by kernel_rfl) (F8 rfl rfl rfl (by omega)) ?_
 clear HF; intro a HF; replace HF := HF.sub [(0, .iface 178 (.slice (some ⟨b, o, none⟩) n c)), (4, aB s), (8, aB fb), (9, (aS big)), (10, ay ak), (11, aF 32), (12, ay aj), (13, ay au), (14, aF 40), (15, ay ah), (16, ay (ah - 1)), (26, aF 40), (35, ay aj), (557, .bool true), (558, .bool true), (560, aI aj), (561, bH (IntKind.u64.wrap ((18446744073709551615 : Int).tdiv ((aj : Nat) : Int))))] (by kernel_rfl)
 have hq := Gn aj c3 b6
 rw [IntWalk.u64_in ((18446744073709551615 : Int).tdiv ((aj : Nat) : Int)) (by omega)] at HF
 refine aT HF HM rfl 3 [] ((iP b o n c s fb big ak aj au ah) ++ [(35, ay aj), (557, .bool true), (558, .bool true), (564, .bool (decide (((18446744073709551615 : Int).tdiv ((aj : Nat) : Int)) < 32)))]) [(fb, .cells #[aQ 1, .int .u8 dat, aQ 1, aX abi, aX aH, (aS big), bF aU, bF aJ, aI aG, aN, aN, aN, aN, aN] 131 (0, 0)), (s, .cells #[.iface 178 (.slice (some ⟨b, o, none⟩) n c), aF 0, aF 0, aF 9223372036854775807, aF 9223372036854775807] 246 (0, 0))] (by kernel_rfl) ?_
 clear HF HM; intro a w HF HM
 rw [show decide (((18446744073709551615 : Int).tdiv ((aj : Nat) : Int)) < 32) = false from cZ (by omega)] at HF
 refine aT HF HM rfl 1 [] ((iP b o n c s fb big ak aj au ah) ++ [(35, ay aj), (565, .bool false)]) [(fb, .cells #[aQ 1, .int .u8 dat, aQ 1, aX abi, aX aH, (aS big), bF aU, bF aJ, aI aG, aN, aN, aN, aN, aN] 131 (0, 0)), (s, .cells #[.iface 178 (.slice (some ⟨b, o, none⟩) n c), aF 0, aF 0, aF 9223372036854775807, aF 9223372036854775807] 246 (0, 0))] (by kernel_rfl) ?_
 clear HF HM; intro a w HF HM
 refine aA ?_
 refine aY HF rfl ?_
 refine wp_skip ?_
 repeat (first | refine aK ?_ | refine aP ?_)
 replace HF := HF.sub ((iP b o n c s fb big ak aj au ah) ++ [(35, ay aj)]) (by kernel_rfl)
 refine wp_seq (wp_region_lit ?_)
 refine aT HF HM rfl 2 [] ((iP b o n c s fb big ak aj au ah) ++ [(35, ay aj), (571, aB fb), (572, ay aj)]) [(fb, .cells #[aQ 1, .int .u8 dat, aQ 1, aX abi, aX aH, (aS big), bF aU, bF aJ, aI aG, aN, aN, aN, aN, aN] 131 (0, 0)), (s, .cells #[.iface 178 (.slice (some ⟨b, o, none⟩) n c), aF 0, aF 0, aF 9223372036854775807, aF 9223372036854775807] 246 (0, 0))] (by kernel_rfl) ?_
 clear HF HM; intro a w HF HM
 refine qo HF HM rfl _ _ 127 rfl rfl 136 (.pointer none) 8 Tryd.underlying127 Ah .i64 .i64 aj rfl rfl (by omega) (by unfold maxLen; omega) ?_
 intro a2 w2 pg cur hgw hcs bT HF2; have hg0 : w0.heap.size ≤ pg := Nat.le_trans HM.size hgw; clear HF HM hgw; have HM := bT; have HF := HF2; clear bT HF2
 replace HF := HF.sub ((iP b o n c s fb big ak aj au ah) ++ [(35, ay aj), (571, aB fb), (573, aC pg 0 aj)]) (by kernel_rfl)
 refine aT HF HM rfl 3 [[1]] ((iP b o n c s fb big ak aj au ah) ++ [(35, ay aj)]) [(pg, .cells cur 136 (0, 0)), (fb, .cells #[aQ 1, .int .u8 dat, aQ 1, aX abi, aX aH, (aS big), bF aU, bF aJ, aI aG, aN, aC pg 0 aj, aN, aN, aN] 131 (0, 0)), (s, .cells #[.iface 178 (.slice (some ⟨b, o, none⟩) n c), aF 0, aF 0, aF 9223372036854775807, aF 9223372036854775807] 246 (0, 0))] (by kernel_rfl) ?_
 clear HF HM; intro a w HF HM
 refine aA ?_
 have hbs : b ≠ s := fun e => absurd hbl (Nat.not_lt_of_le (e ▸ HM.ge (i := 2) rfl))
 have hsz : w0.heap.size ≤ w.heap.size := HM.size
 refine wp_seq (wp_region_lit ?_)
 refine aT HF HM rfl 4 [] ((iP b o n c s fb big ak aj au ah) ++ [(35, ay aj), (578, .iface 144 (aB s)), (580, bH (IntKind.u64.wrap ((aj : Nat) : Int)))]) [(pg, .cells cur 136 (0, 0)), (fb, .cells #[aQ 1, .int .u8 dat, aQ 1, aX abi, aX aH, (aS big), bF aU, bF aJ, aI aG, aN, aC pg 0 aj, aN, aN, aN] 131 (0, 0)), (s, .cells #[.iface 178 (.slice (some ⟨b, o, none⟩) n c), aF 0, aF 0, aF 9223372036854775807, aF 9223372036854775807] 246 (0, 0))] (by kernel_rfl) ?_
 clear HF HM; intro a w HF HM
 rw [show IntKind.u64.wrap ((aj : Nat) : Int) = ((aj : Nat) : Int) from IntWalk.u64_in _ (by omega)] at HF
 refine aT HF HM rfl 3 [] ((iP b o n c s fb big ak aj au ah) ++ [(35, ay aj), (578, .iface 144 (aB s)), (583, bH (IntKind.u64.wrap (((aj : Nat) : Int) * 32)))]) [(pg, .cells cur 136 (0, 0)), (fb, .cells #[aQ 1, .int .u8 dat, aQ 1, aX abi, aX aH, (aS big), bF aU, bF aJ, aI aG, aN, aC pg 0 aj, aN, aN, aN] 131 (0, 0)), (s, .cells #[.iface 178 (.slice (some ⟨b, o, none⟩) n c), aF 0, aF 0, aF 9223372036854775807, aF 9223372036854775807] 246 (0, 0))] (by kernel_rfl) ?_
 clear HF HM; intro a w HF HM
 rw [show IntKind.u64.wrap (((aj : Nat) : Int) * 32) = (((aj * 32) : Nat) : Int) from (IntWalk.u64_in _ (by omega)).trans (by omega)] at HF
 refine aT HF HM rfl 1 [] ((iP b o n c s fb big ak aj au ah) ++ [(35, ay aj), (578, .iface 144 (aB s)), (583, aI (aj * 32)), (584, ay ak)]) [(pg, .cells cur 136 (0, 0)), (fb, .cells #[aQ 1, .int .u8 dat, aQ 1, aX abi, aX aH, (aS big), bF aU, bF aJ, aI aG, aN, aC pg 0 aj, aN, aN, aN] 131 (0, 0)), (s, .cells #[.iface 178 (.slice (some ⟨b, o, none⟩) n c), aF 0, aF 0, aF 9223372036854775807, aF 9223372036854775807] 246 (0, 0))] (by kernel_rfl) ?_
 clear HF HM; intro a w HF HM
 refine bf HF (by kernel_rfl) 99 #[.iface 144 (aB s), aI (aj * 32), ay ak] (by kernel_rfl) (fun w => by kernel_rfl) (Calls.mono (pG l b o n c hl hnc s (aj * 32) 0 ak 0 9223372036854775807 9223372036854775807 (by omega) (by omega) (by omega) (by omega) (by omega) (by omega) w (HM.row hr (by intro b' o' s' _; simp)) (Nat.lt_of_lt_of_le hbl HM.size) hbs (HM.get (i := 2) rfl)) ?_)
 rintro _ w3 ⟨pd, rfl, hb, hge, hgn⟩
 replace HM : Mm [] w0 w3 [(pd, .cells (((l.drop (0 + ak)).take (aj * 32)).map Bv).toArray 5 (0, 0)), (pg, .cells cur 136 (0, 0)), (fb, .cells #[aQ 1, .int .u8 dat, aQ 1, aX abi, aX aH, (aS big), bF aU, bF aJ, aI aG, aN, aC pg 0 aj, aN, aN, aN] 131 (0, 0)), (s, .cells #[.iface 178 (.slice (some ⟨b, o, none⟩) n c), aF 0, aF 0, aF 9223372036854775807, aF 9223372036854775807] 246 (0, 0))] := HM.push hb hge hgn
 clear hb hge hgn
 refine ⟨_, rfl, ?_⟩; clear HF; intro a HF; replace HF := HF.sub ((iP b o n c s fb big ak aj au ah) ++ [(35, ay aj), (578, .iface 144 (aB s)), (583, aI (aj * 32)), (584, ay ak), (585, .tuple #[aC pd (aj * 32) (aj * 32), .nilIface])]) (by kernel_rfl)
 refine aT HF HM rfl 5 [] ((iP b o n c s fb big ak aj au ah) ++ [(35, ay aj), (36, aC pd (aj * 32) (aj * 32)), (37, .nilIface)]) [(pd, .cells (((l.drop (0 + ak)).take (aj * 32)).map Bv).toArray 5 (0, 0)), (pg, .cells cur 136 (0, 0)), (fb, .cells #[aQ 1, .int .u8 dat, aQ 1, aX abi, aX aH, (aS big), bF aU, bF aJ, aI aG, aN, aC pg 0 aj, aN, aN, aN] 131 (0, 0)), (s, .cells #[.iface 178 (.slice (some ⟨b, o, none⟩) n c), aF 0, aF 0, aF 9223372036854775807, aF 9223372036854775807] 246 (0, 0))] (by kernel_rfl) ?_
 clear HF HM; intro a w HF HM
 refine aA ?_
 refine wp_seq ?_
 refine wp_seq (wp_region_lit ?_)
 refine aT HF HM rfl 2 [] ((iP b o n c s fb big ak aj au ah) ++ [(35, ay aj), (36, aC pd (aj * 32) (aj * 32)), (37, .nilIface), (589, .bool false)]) [(pd, .cells (((l.drop (0 + ak)).take (aj * 32)).map Bv).toArray 5 (0, 0)), (pg, .cells cur 136 (0, 0)), (fb, .cells #[aQ 1, .int .u8 dat, aQ 1, aX abi, aX aH, (aS big), bF aU, bF aJ, aI aG, aN, aC pg 0 aj, aN, aN, aN] 131 (0, 0)), (s, .cells #[.iface 178 (.slice (some ⟨b, o, none⟩) n c), aF 0, aF 0, aF 9223372036854775807, aF 9223372036854775807] 246 (0, 0))] (by kernel_rfl) ?_
 clear HF HM; intro a w HF HM
 refine aA ?_
 refine aY HF rfl ?_
 refine wp_skip ?_
 repeat (first | refine aK ?_ | refine aP ?_)
 replace HF := HF.sub ((iP b o n c s fb big ak aj au ah) ++ [(36, aC pd (aj * 32) (aj * 32))]) (by kernel_rfl)
 replace HF := HF.sub ((iP b o n c s fb big ak aj au ah) ++ [(36, aC pd (aj * 32) (aj * 32))]) (by kernel_rfl)
 rw [Nat.zero_add] at HM
 exact K a w pg cur pd hcs HF HM

abbrev jT := fun (b : Nat) (o : Nat) (n : Nat) (c : Nat) (s : Nat) (fb : Nat) (big : Bool) (ak : Nat) (au : Nat) (ah : Nat) => ([(0, .iface 178 (.slice (some ⟨b, o, none⟩) n c)), (4, aB s), (8, aB fb), (9, (aS big)), (10, ay ak), (11, aF 56), (12, aF 0), (13, ay au), (14, aF 64), (15, ay ah), (16, ay (ah - 1)), (26, aF 64)] : Slots)
theorem Nj (l : List UInt8) (b o n c : Nat) (hl : n = l.length) (hnc : n ≤ c) (big : Bool) (abi aH aU aJ aG ak aj au ah : Nat) (dat : Int) (b1 : aU < 65536) (b2 : aJ < 65536) (b3 : aG ≤ 18446744073709551615) (b4 : ak < 4611686018427387904) (b5 : au < 4611686018427387904) (b6 : aj < 200) (b7 : ah < 200) (c1 : 0 < au) (c2 : 0 < ah) (c4 : ak < n) (c5 : ak + (0 * 56) ≤ n) {Q : Exit → Act → World → Prop} (w0 : World) (hbl : b < w0.heap.size) (hr : Row w0 (some ⟨b, o, none⟩) (l.map Bv)) (a : Act) (w : World) (s fb : Nat) (HF : Fr 1287 a (jT b o n c s fb big ak au ah)) (HM : Mm [] w0 w [(fb, .cells #[aQ 2, .int .u8 dat, aQ 1, aX abi, aX aH, (aS big), bF aU, bF aJ, aI aG, aN, aN, aN, aN, aN] 131 (0, 0)), (s, .cells #[.iface 178 (.slice (some ⟨b, o, none⟩) n c), aF 0, aF 0, aF 9223372036854775807, aF 9223372036854775807] 246 (0, 0))])
  (K : ∀ a w pg cur pd, cur.size = 0 → Fr 1287 a ((jT b o n c s fb big ak au ah) ++ [(36, aC pd (0 * 56) (0 * 56))]) → Mm [] w0 w [(pd, .cells (((l.drop ak).take (0 * 56)).map Bv).toArray 5 (0, 0)), (pg, .cells cur 136 (0, 0)), (fb, .cells #[aQ 2, .int .u8 dat, aQ 1, aX abi, aX aH, (aS big), bF aU, bF aJ, aI aG, aN, aC pg 0 0, aN, aN, aN] 131 (0, 0)), (s, .cells #[.iface 178 (.slice (some ⟨b, o, none⟩) n c), aF 0, aF 0, aF 9223372036854775807, aF 9223372036854775807] 246 (0, 0))] → (spine Tryd.f78 35).wp Tryd.prog Q a w) : (spine Tryd.f78 29).wp Tryd.prog Q a w := by
 refine wp_seq (wp_region_lit ?_)
 refine aT HF HM rfl 2 [] ((jT b o n c s fb big ak au ah) ++ [(547, bH 0)]) [(fb, .cells #[aQ 2, .int .u8 dat, aQ 1, aX abi, aX aH, (aS big), bF aU, bF aJ, aI aG, aN, aN, aN, aN, aN] 131 (0, 0)), (s, .cells #[.iface 178 (.slice (some ⟨b, o, none⟩) n c), aF 0, aF 0, aF 9223372036854775807, aF 9223372036854775807] 246 (0, 0))] (by kernel_rfl) ?_
 clear HF HM; intro a w HF HM
 refine bf HF (by kernel_rfl) 98 #[bH 8, aI 0] (by kernel_rfl) (fun w => by kernel_rfl) (Calls.mono (zx 0 (by omega) w) ?_)
 rintro _ w1 ⟨rfl, hq⟩
 replace HM : Mm [] w0 w1 [(fb, .cells #[aQ 2, .int .u8 dat, aQ 1, aX abi, aX aH, (aS big), bF aU, bF aJ, aI aG, aN, aN, aN, aN, aN] 131 (0, 0)), (s, .cells #[.iface 178 (.slice (some ⟨b, o, none⟩) n c), aF 0, aF 0, aF 9223372036854775807, aF 9223372036854775807] 246 (0, 0))] := by first | (rw [hq]; exact HM) | (rw [← hq]; exact HM)
 clear hq
 refine ⟨_, rfl, ?_⟩; clear HF; intro a HF; replace HF := HF.sub ((jT b o n c s fb big ak au ah) ++ [(547, bH 0), (548, ay 0)]) (by kernel_rfl)
 refine aT HF HM rfl 1 [] ((jT b o n c s fb big ak au ah) ++ [(35, ay 0)]) [(fb, .cells #[aQ 2, .int .u8 dat, aQ 1, aX abi, aX aH, (aS big), bF aU, bF aJ, aI aG, aN, aN, aN, aN, aN] 131 (0, 0)), (s, .cells #[.iface 178 (.slice (some ⟨b, o, none⟩) n c), aF 0, aF 0, aF 9223372036854775807, aF 9223372036854775807] 246 (0, 0))] (by kernel_rfl) ?_
 clear HF HM; intro a w HF HM
 refine aA ?_
 refine wp_seq ?_
 refine wp_seq (wp_region_lit ?_)
 refine aT HF HM rfl 2 [] ((jT b o n c s fb big ak au ah) ++ [(35, ay 0), (550, .bool (decide (((0 : Nat) : Int) < 0)))]) [(fb, .cells #[aQ 2, .int .u8 dat, aQ 1, aX abi, aX aH, (aS big), bF aU, bF aJ, aI aG, aN, aN, aN, aN, aN] 131 (0, 0)), (s, .cells #[.iface 178 (.slice (some ⟨b, o, none⟩) n c), aF 0, aF 0, aF 9223372036854775807, aF 9223372036854775807] 246 (0, 0))] (by kernel_rfl) ?_
 clear HF HM; intro a w HF HM
 rw [show decide (((0 : Nat) : Int) < 0) = false from cZ (by omega)] at HF
 refine aA ?_
 refine aY HF rfl ?_
 refine wp_skip ?_
 repeat (first | refine aK ?_ | refine aP ?_)
 replace HF := HF.sub ((jT b o n c s fb big ak au ah) ++ [(35, ay 0)]) (by kernel_rfl)
 refine wp_seq ?_
 refine wp_seq (wp_region_lit ?_)
 refine aT HF HM rfl 10 [] ((jT b o n c s fb big ak au ah) ++ [(35, ay 0), (565, .bool false)]) [(fb, .cells #[aQ 2, .int .u8 dat, aQ 1, aX abi, aX aH, (aS big), bF aU, bF aJ, aI aG, aN, aN, aN, aN, aN] 131 (0, 0)), (s, .cells #[.iface 178 (.slice (some ⟨b, o, none⟩) n c), aF 0, aF 0, aF 9223372036854775807, aF 9223372036854775807] 246 (0, 0))] (by kernel_rfl) ?_
 clear HF HM; intro a w HF HM
 refine aA ?_
 refine aY HF rfl ?_
 refine wp_skip ?_
 repeat (first | refine aK ?_ | refine aP ?_)
 replace HF := HF.sub ((jT b o n c s fb big ak au ah) ++ [(35, ay 0)]) (by kernel_rfl)
 refine wp_seq (wp_region_lit ?_)
 refine aT HF HM rfl 2 [] ((jT b o n c s fb big ak au ah) ++ [(35, ay 0), (571, aB fb), (572, ay 0)]) [(fb, .cells #[aQ 2, .int .u8 dat, aQ 1, aX abi, aX aH, (aS big), bF aU, bF aJ, aI aG, aN, aN, aN, aN, aN] 131 (0, 0)), (s, .cells #[.iface 178 (.slice (some ⟨b, o, none⟩) n c), aF 0, aF 0, aF 9223372036854775807, aF 9223372036854775807] 246 (0, 0))] (by kernel_rfl) ?_
 clear HF HM; intro a w HF HM
 refine qo HF HM rfl _ _ 127 rfl rfl 136 (.pointer none) 8 Tryd.underlying127 Ah .i64 .i64 0 rfl rfl (by omega) (by unfold maxLen; omega) ?_
 intro a2 w2 pg cur hgw hcs bT HF2; have hg0 : w0.heap.size ≤ pg := Nat.le_trans HM.size hgw; clear HF HM hgw; have HM := bT; have HF := HF2; clear bT HF2
 replace HF := HF.sub ((jT b o n c s fb big ak au ah) ++ [(35, ay 0), (571, aB fb), (573, aC pg 0 0)]) (by kernel_rfl)
 refine aT HF HM rfl 3 [[1]] ((jT b o n c s fb big ak au ah) ++ [(35, ay 0)]) [(pg, .cells cur 136 (0, 0)), (fb, .cells #[aQ 2, .int .u8 dat, aQ 1, aX abi, aX aH, (aS big), bF aU, bF aJ, aI aG, aN, aC pg 0 0, aN, aN, aN] 131 (0, 0)), (s, .cells #[.iface 178 (.slice (some ⟨b, o, none⟩) n c), aF 0, aF 0, aF 9223372036854775807, aF 9223372036854775807] 246 (0, 0))] (by kernel_rfl) ?_
 clear HF HM; intro a w HF HM
 refine aA ?_
 have hbs : b ≠ s := fun e => absurd hbl (Nat.not_lt_of_le (e ▸ HM.ge (i := 2) rfl))
 have hsz : w0.heap.size ≤ w.heap.size := HM.size
 refine wp_seq (wp_region_lit ?_)
 refine aT HF HM rfl 8 [] ((jT b o n c s fb big ak au ah) ++ [(35, ay 0), (578, .iface 144 (aB s)), (583, bH 0), (584, ay ak)]) [(pg, .cells cur 136 (0, 0)), (fb, .cells #[aQ 2, .int .u8 dat, aQ 1, aX abi, aX aH, (aS big), bF aU, bF aJ, aI aG, aN, aC pg 0 0, aN, aN, aN] 131 (0, 0)), (s, .cells #[.iface 178 (.slice (some ⟨b, o, none⟩) n c), aF 0, aF 0, aF 9223372036854775807, aF 9223372036854775807] 246 (0, 0))] (by kernel_rfl) ?_
 clear HF HM; intro a w HF HM
 refine bf HF (by kernel_rfl) 99 #[.iface 144 (aB s), aI (0 * 56), ay ak] (by kernel_rfl) (fun w => by kernel_rfl) (Calls.mono (pG l b o n c hl hnc s (0 * 56) 0 ak 0 9223372036854775807 9223372036854775807 (by omega) (by omega) (by omega) (by omega) (by omega) (by omega) w (HM.row hr (by intro b' o' s' _; simp)) (Nat.lt_of_lt_of_le hbl HM.size) hbs (HM.get (i := 2) rfl)) ?_)
 rintro _ w3 ⟨pd, rfl, hb, hge, hgn⟩
 replace HM : Mm [] w0 w3 [(pd, .cells (((l.drop (0 + ak)).take (0 * 56)).map Bv).toArray 5 (0, 0)), (pg, .cells cur 136 (0, 0)), (fb, .cells #[aQ 2, .int .u8 dat, aQ 1, aX abi, aX aH, (aS big), bF aU, bF aJ, aI aG, aN, aC pg 0 0, aN, aN, aN] 131 (0, 0)), (s, .cells #[.iface 178 (.slice (some ⟨b, o, none⟩) n c), aF 0, aF 0, aF 9223372036854775807, aF 9223372036854775807] 246 (0, 0))] := HM.push hb hge hgn
 clear hb hge hgn
 refine ⟨_, rfl, ?_⟩; clear HF; intro a HF; replace HF := HF.sub ((jT b o n c s fb big ak au ah) ++ [(35, ay 0), (578, .iface 144 (aB s)), (583, bH 0), (584, ay ak), (585, .tuple #[aC pd (0 * 56) (0 * 56), .nilIface])]) (by kernel_rfl)
 refine aT HF HM rfl 5 [] ((jT b o n c s fb big ak au ah) ++ [(35, ay 0), (36, aC pd (0 * 56) (0 * 56)), (37, .nilIface)]) [(pd, .cells (((l.drop (0 + ak)).take (0 * 56)).map Bv).toArray 5 (0, 0)), (pg, .cells cur 136 (0, 0)), (fb, .cells #[aQ 2, .int .u8 dat, aQ 1, aX abi, aX aH, (aS big), bF aU, bF aJ, aI aG, aN, aC pg 0 0, aN, aN, aN] 131 (0, 0)), (s, .cells #[.iface 178 (.slice (some ⟨b, o, none⟩) n c), aF 0, aF 0, aF 9223372036854775807, aF 9223372036854775807] 246 (0, 0))] (by kernel_rfl) ?_
 clear HF HM; intro a w HF HM
 refine aA ?_
 refine wp_seq ?_
 refine wp_seq (wp_region_lit ?_)
 refine aT HF HM rfl 2 [] ((jT b o n c s fb big ak au ah) ++ [(35, ay 0), (36, aC pd (0 * 56) (0 * 56)), (37, .nilIface), (589, .bool false)]) [(pd, .cells (((l.drop (0 + ak)).take (0 * 56)).map Bv).toArray 5 (0, 0)), (pg, .cells cur 136 (0, 0)), (fb, .cells #[aQ 2, .int .u8 dat, aQ 1, aX abi, aX aH, (aS big), bF aU, bF aJ, aI aG, aN, aC pg 0 0, aN, aN, aN] 131 (0, 0)), (s, .cells #[.iface 178 (.slice (some ⟨b, o, none⟩) n c), aF 0, aF 0, aF 9223372036854775807, aF 9223372036854775807] 246 (0, 0))] (by kernel_rfl) ?_
 clear HF HM; intro a w HF HM
 refine aA ?_
 refine aY HF rfl ?_
 refine wp_skip ?_
 repeat (first | refine aK ?_ | refine aP ?_)
 replace HF := HF.sub ((jT b o n c s fb big ak au ah) ++ [(36, aC pd (0 * 56) (0 * 56))]) (by kernel_rfl)
 replace HF := HF.sub ((jT b o n c s fb big ak au ah) ++ [(36, aC pd (0 * 56) (0 * 56))]) (by kernel_rfl)
 rw [Nat.zero_add] at HM
 exact K a w pg cur pd hcs HF HM

abbrev iO := fun (b : Nat) (o : Nat) (n : Nat) (c : Nat) (s : Nat) (fb : Nat) (big : Bool) (ak : Nat) (aj : Nat) (au : Nat) (ah : Nat) => ([(0, .iface 178 (.slice (some ⟨b, o, none⟩) n c)), (4, aB s), (8, aB fb), (9, (aS big)), (10, ay ak), (11, aF 56), (12, ay aj), (13, ay au), (14, aF 64), (15, ay ah), (16, ay (ah - 1)), (26, aF 64)] : Slots)
theorem Nh (l : List UInt8) (b o n c : Nat) (hl : n = l.length) (hnc : n ≤ c) (big : Bool) (abi aH aU aJ aG ak aj au ah : Nat) (dat : Int) (b1 : aU < 65536) (b2 : aJ < 65536) (b3 : aG ≤ 18446744073709551615) (b4 : ak < 4611686018427387904) (b5 : au < 4611686018427387904) (b6 : aj < 200) (b7 : ah < 200) (c1 : 0 < au) (c2 : 0 < ah) (c3 : 0 < aj) (c4 : ak < n) (c5 : ak + (aj * 56) ≤ n) {Q : Exit → Act → World → Prop} (w0 : World) (hbl : b < w0.heap.size) (hr : Row w0 (some ⟨b, o, none⟩) (l.map Bv)) (a : Act) (w : World) (s fb : Nat) (HF : Fr 1287 a (iO b o n c s fb big ak aj au ah)) (HM : Mm [] w0 w [(fb, .cells #[aQ 2, .int .u8 dat, aQ 1, aX abi, aX aH, (aS big), bF aU, bF aJ, aI aG, aN, aN, aN, aN, aN] 131 (0, 0)), (s, .cells #[.iface 178 (.slice (some ⟨b, o, none⟩) n c), aF 0, aF 0, aF 9223372036854775807, aF 9223372036854775807] 246 (0, 0))])
  (K : ∀ a w pg cur pd, cur.size = aj → Fr 1287 a ((iO b o n c s fb big ak aj au ah) ++ [(36, aC pd (aj * 56) (aj * 56))]) → Mm [] w0 w [(pd, .cells (((l.drop ak).take (aj * 56)).map Bv).toArray 5 (0, 0)), (pg, .cells cur 136 (0, 0)), (fb, .cells #[aQ 2, .int .u8 dat, aQ 1, aX abi, aX aH, (aS big), bF aU, bF aJ, aI aG, aN, aC pg 0 aj, aN, aN, aN] 131 (0, 0)), (s, .cells #[.iface 178 (.slice (some ⟨b, o, none⟩) n c), aF 0, aF 0, aF 9223372036854775807, aF 9223372036854775807] 246 (0, 0))] → (spine Tryd.f78 35).wp Tryd.prog Q a w) : (spine Tryd.f78 29).wp Tryd.prog Q a w := by
 refine wp_seq (wp_region_lit ?_)
 refine aT HF HM rfl 2 [] ((iO b o n c s fb big ak aj au ah) ++ [(547, bH (IntKind.u64.wrap ((aj : Nat) : Int)))]) [(fb, .cells #[aQ 2, .int .u8 dat, aQ 1, aX abi, aX aH, (aS big), bF aU, bF aJ, aI aG, aN, aN, aN, aN, aN] 131 (0, 0)), (s, .cells #[.iface 178 (.slice (some ⟨b, o, none⟩) n c), aF 0, aF 0, aF 9223372036854775807, aF 9223372036854775807] 246 (0, 0))] (by kernel_rfl) ?_
 clear HF HM; intro a w HF HM
 rw [show IntKind.u64.wrap ((aj : Nat) : Int) = ((aj : Nat) : Int) from IntWalk.u64_in _ (by omega)] at HF
 refine bf HF (by kernel_rfl) 98 #[bH 8, aI aj] (by kernel_rfl) (fun w => by kernel_rfl) (Calls.mono (zx aj (by omega) w) ?_)
 rintro _ w1 ⟨rfl, hq⟩
 replace HM : Mm [] w0 w1 [(fb, .cells #[aQ 2, .int .u8 dat, aQ 1, aX abi, aX aH, (aS big), bF aU, bF aJ, aI aG, aN, aN, aN, aN, aN] 131 (0, 0)), (s, .cells #[.iface 178 (.slice (some ⟨b, o, none⟩) n c), aF 0, aF 0, aF 9223372036854775807, aF 9223372036854775807] 246 (0, 0))] := by first | (rw [hq]; exact HM) | (rw [← hq]; exact HM)
 clear hq
 refine ⟨_, rfl, ?_⟩; clear HF; intro a HF; replace HF := HF.sub ((iO b o n c s fb big ak aj au ah) ++ [(547, aI aj), (548, ay aj)]) (by kernel_rfl)
 refine aT HF HM rfl 1 [] ((iO b o n c s fb big ak aj au ah) ++ [(35, ay aj)]) [(fb, .cells #[aQ 2, .int .u8 dat, aQ 1, aX abi, aX aH, (aS big), bF aU, bF aJ, aI aG, aN, aN, aN, aN, aN] 131 (0, 0)), (s, .cells #[.iface 178 (.slice (some ⟨b, o, none⟩) n c), aF 0, aF 0, aF 9223372036854775807, aF 9223372036854775807] 246 (0, 0))] (by kernel_rfl) ?_
 clear HF HM; intro a w HF HM
 refine aA ?_
 refine wp_seq ?_
 refine wp_seq (wp_region_lit ?_)
 refine aT HF HM rfl 2 [] ((iO b o n c s fb big ak aj au ah) ++ [(35, ay aj), (550, .bool (decide (((aj : Nat) : Int) < 0)))]) [(fb, .cells #[aQ 2, .int .u8 dat, aQ 1, aX abi, aX aH, (aS big), bF aU, bF aJ, aI aG, aN, aN, aN, aN, aN] 131 (0, 0)), (s, .cells #[.iface 178 (.slice (some ⟨b, o, none⟩) n c), aF 0, aF 0, aF 9223372036854775807, aF 9223372036854775807] 246 (0, 0))] (by kernel_rfl) ?_
 clear HF HM; intro a w HF HM
 rw [show decide (((aj : Nat) : Int) < 0) = false from cZ (by omega)] at HF
 refine aA ?_
 refine aY HF rfl ?_
 refine wp_skip ?_
 repeat (first | refine aK ?_ | refine aP ?_)
 replace HF := HF.sub ((iO b o n c s fb big ak aj au ah) ++ [(35, ay aj)]) (by kernel_rfl)
 refine wp_seq ?_
 refine wp_seq (wp_region_lit ?_)
 refine aT HF HM rfl 2 [] ((iO b o n c s fb big ak aj au ah) ++ [(35, ay aj), (557, .bool (decide (0 < ((aj : Nat) : Int))))]) [(fb, .cells #[aQ 2, .int .u8 dat, aQ 1, aX abi, aX aH, (aS big), bF aU, bF aJ, aI aG, aN, aN, aN, aN, aN] 131 (0, 0)), (s, .cells #[.iface 178 (.slice (some ⟨b, o, none⟩) n c), aF 0, aF 0, aF 9223372036854775807, aF 9223372036854775807] 246 (0, 0))] (by kernel_rfl) ?_
 clear HF HM; intro a w HF HM
 rw [show decide (0 < ((aj : Nat) : Int)) = true from dK (by omega)] at HF
 refine aT HF HM rfl 3 [] ((iO b o n c s fb big ak aj au ah) ++ [(35, ay aj), (557, .bool true), (558, .bool true), (560, bH (IntKind.u64.wrap ((aj : Nat) : Int)))]) [(fb, .cells #[aQ 2, .int .u8 dat, aQ 1, aX abi, aX aH, (aS big), bF aU, bF aJ, aI aG, aN, aN, aN, aN, aN] 131 (0, 0)), (s, .cells #[.iface 178 (.slice (some ⟨b, o, none⟩) n c), aF 0, aF 0, aF 9223372036854775807, aF 9223372036854775807] 246 (0, 0))] (by kernel_rfl) ?_
 clear HF HM; intro a w HF HM
 rw [show IntKind.u64.wrap ((aj : Nat) : Int) = ((aj : Nat) : Int) from IntWalk.u64_in _ (by omega)] at HF
 refine dG HF (by kernel_rfl) (bH (IntKind.u64.wrap ((18446744073709551615 : Int).tdiv ((aj : Nat) : Int)))) (by kernel_rfl) (F8 rfl rfl rfl (by omega)) ?_
 clear HF; intro a HF; replace HF := HF.sub [(0, .iface 178 (.slice (some ⟨b, o, none⟩) n c)), (4, aB s), (8, aB fb), (9, (aS big)), (10, ay ak), (11, aF 56), (12, ay aj), (13, ay au), (14, aF 64), (15, ay ah), (16, ay (ah - 1)), (26, aF 64), (35, ay aj), (557, .bool true), (558, .bool true), (560, aI aj), (561, bH (IntKind.u64.wrap ((18446744073709551615 : Int).tdiv ((aj : Nat) : Int))))] (by kernel_rfl)
 have hq := Gn aj c3 b6
 rw [IntWalk.u64_in ((18446744073709551615 : Int).tdiv ((aj : Nat) : Int)) (by omega)] at HF
 refine aT HF HM rfl 3 [] ((iO b o n c s fb big ak aj au ah) ++ [(35, ay aj), (557, .bool true), (558, .bool true), (564, .bool (decide (((18446744073709551615 : Int).tdiv ((aj : Nat) : Int)) < 56)))]) [(fb, .cells #[aQ 2, .int .u8 dat, aQ 1, aX abi, aX aH, (aS big), bF aU, bF aJ, aI aG, aN, aN, aN, aN, aN] 131 (0, 0)), (s, .cells #[.iface 178 (.slice (some ⟨b, o, none⟩) n c), aF 0, aF 0, aF 9223372036854775807, aF 9223372036854775807] 246 (0, 0))] (by kernel_rfl) ?_
 clear HF HM; intro a w HF HM
 rw [show decide (((18446744073709551615 : Int).tdiv ((aj : Nat) : Int)) < 56) = false from cZ (by omega)] at HF
 refine aT HF HM rfl 1 [] ((iO b o n c s fb big ak aj au ah) ++ [(35, ay aj), (565, .bool false)]) [(fb, .cells #[aQ 2, .int .u8 dat, aQ 1, aX abi, aX aH, (aS big), bF aU, bF aJ, aI aG, aN, aN, aN, aN, aN] 131 (0, 0)), (s, .cells #[.iface 178 (.slice (some ⟨b, o, none⟩) n c), aF 0, aF 0, aF 9223372036854775807, aF 9223372036854775807] 246 (0, 0))] (by kernel_rfl) ?_
 clear HF HM; intro a w HF HM
 refine aA ?_
 refine aY HF rfl ?_
 refine wp_skip ?_
 repeat (first | refine aK ?_ | refine aP ?_)
 replace HF := HF.sub ((iO b o n c s fb big ak aj au ah) ++ [(35, ay aj)]) (by kernel_rfl)
 refine wp_seq (wp_region_lit ?_)
 refine aT HF HM rfl 2 [] ((iO b o n c s fb big ak aj au ah) ++ [(35, ay aj), (571, aB fb), (572, ay aj)]) [(fb, .cells #[aQ 2, .int .u8 dat, aQ 1, aX abi, aX aH, (aS big), bF aU, bF aJ, aI aG, aN, aN, aN, aN, aN] 131 (0, 0)), (s, .cells #[.iface 178 (.slice (some ⟨b, o, none⟩) n c), aF 0, aF 0, aF 9223372036854775807, aF 9223372036854775807] 246 (0, 0))] (by kernel_rfl) ?_
 clear HF HM; intro a w HF HM
 refine qo HF HM rfl _ _ 127 rfl rfl 136 (.pointer none) 8 Tryd.underlying127 Ah .i64 .i64 aj rfl rfl (by omega) (by unfold maxLen; omega) ?_
 intro a2 w2 pg cur hgw hcs bT HF2; have hg0 : w0.heap.size ≤ pg := Nat.le_trans HM.size hgw; clear HF HM hgw; have HM := bT; have HF := HF2; clear bT HF2
 replace HF := HF.sub ((iO b o n c s fb big ak aj au ah) ++ [(35, ay aj), (571, aB fb), (573, aC pg 0 aj)]) (by kernel_rfl)
 refine aT HF HM rfl 3 [[1]] ((iO b o n c s fb big ak aj au ah) ++ [(35, ay aj)]) [(pg, .cells cur 136 (0, 0)), (fb, .cells #[aQ 2, .int .u8 dat, aQ 1, aX abi, aX aH, (aS big), bF aU, bF aJ, aI aG, aN, aC pg 0 aj, aN, aN, aN] 131 (0, 0)), (s, .cells #[.iface 178 (.slice (some ⟨b, o, none⟩) n c), aF 0, aF 0, aF 9223372036854775807, aF 9223372036854775807] 246 (0, 0))] (by kernel_rfl) ?_
 clear HF HM; intro a w HF HM
 refine aA ?_
 have hbs : b ≠ s := fun e => absurd hbl (Nat.not_lt_of_le (e ▸ HM.ge (i := 2) rfl))
 have hsz : w0.heap.size ≤ w.heap.size := HM.size
 refine wp_seq (wp_region_lit ?_)
 refine aT HF HM rfl 4 [] ((iO b o n c s fb big ak aj au ah) ++ [(35, ay aj), (578, .iface 144 (aB s)), (580, bH (IntKind.u64.wrap ((aj : Nat) : Int)))]) [(pg, .cells cur 136 (0, 0)), (fb, .cells #[aQ 2, .int .u8 dat, aQ 1, aX abi, aX aH, (aS big), bF aU, bF aJ, aI aG, aN, aC pg 0 aj, aN, aN, aN] 131 (0, 0)), (s, .cells #[.iface 178 (.slice (some ⟨b, o, none⟩) n c), aF 0, aF 0, aF 9223372036854775807, aF 9223372036854775807] 246 (0, 0))] (by kernel_rfl) ?_
 clear HF HM; intro a w HF HM
 rw [show IntKind.u64.wrap ((aj : Nat) : Int) = ((aj : Nat) : Int) from IntWalk.u64_in _ (by omega)] at HF
 refine aT HF HM rfl 3 [] ((iO b o n c s fb big ak aj au ah) ++ [(35, ay aj), (578, .iface 144 (aB s)), (583, bH (IntKind.u64.wrap (((aj : Nat) : Int) * 56)))]) [(pg, .cells cur 136 (0, 0)), (fb, .cells #[aQ 2, .int .u8 dat, aQ 1, aX abi, aX aH, (aS big), bF aU, bF aJ, aI aG, aN, aC pg 0 aj, aN, aN, aN] 131 (0, 0)), (s, .cells #[.iface 178 (.slice (some ⟨b, o, none⟩) n c), aF 0, aF 0, aF 9223372036854775807, aF 9223372036854775807] 246 (0, 0))] (by kernel_rfl) ?_
 clear HF HM; intro a w HF HM
 rw [show IntKind.u64.wrap (((aj : Nat) : Int) * 56) = (((aj * 56) : Nat) : Int) from (IntWalk.u64_in _ (by omega)).trans (by omega)] at HF
 refine aT HF HM rfl 1 [] ((iO b o n c s fb big ak aj au ah) ++ [(35, ay aj), (578, .iface 144 (aB s)), (583, aI (aj * 56)), (584, ay ak)]) [(pg, .cells cur 136 (0, 0)), (fb, .cells #[aQ 2, .int .u8 dat, aQ 1, aX abi, aX aH, (aS big), bF aU, bF aJ, aI aG, aN, aC pg 0 aj, aN, aN, aN] 131 (0, 0)), (s, .cells #[.iface 178 (.slice (some ⟨b, o, none⟩) n c), aF 0, aF 0, aF 9223372036854775807, aF 9223372036854775807] 246 (0, 0))] (by kernel_rfl) ?_
 clear HF HM; intro a w HF HM
 refine bf HF (by kernel_rfl) 99 #[.iface 144 (aB s), aI (aj * 56), ay ak] (by kernel_rfl) (fun w => by kernel_rfl) (Calls.mono (pG l b o n c hl hnc s (aj * 56) 0 ak 0 9223372036854775807 9223372036854775807 (by omega) (by omega) (by omega) (by omega) (by omega) (by omega) w (HM.row hr (by intro b' o' s' _; simp)) (Nat.lt_of_lt_of_le hbl HM.size) hbs (HM.get (i := 2) rfl)) ?_)
 rintro _ w3 ⟨pd, rfl, hb, hge, hgn⟩
 replace HM : Mm [] w0 w3 [(pd, .cells (((l.drop (0 + ak)).take (aj * 56)).map Bv).toArray 5 (0, 0)), (pg, .cells cur 136 (0, 0)), (fb, .cells #[aQ 2, .int .u8 dat, aQ 1, aX abi, aX aH, (aS big), bF aU, bF aJ, aI aG, aN, aC pg 0 aj, aN, aN, aN] 131 (0, 0)), (s, .cells #[.iface 178 (.slice (some ⟨b, o, none⟩) n c), aF 0, aF 0, aF 9223372036854775807, aF 9223372036854775807] 246 (0, 0))] := HM.push hb hge hgn
 clear hb hge hgn
 refine ⟨_, rfl, ?_⟩; clear HF; intro a HF; replace HF := HF.sub ((iO b o n c s fb big ak aj au ah) ++ [(35, ay aj), (578, .iface 144 (aB s)), (583, aI (aj * 56)), (584, ay ak), (585, .tuple #[aC pd (aj * 56) (aj * 56), .nilIface])]) (by kernel_rfl)
 refine aT HF HM rfl 5 [] ((iO b o n c s fb big ak aj au ah) ++ [(35, ay aj), (36, aC pd (aj * 56) (aj * 56)), (37, .nilIface)]) [(pd, .cells (((l.drop (0 + ak)).take (aj * 56)).map Bv).toArray 5 (0, 0)), (pg, .cells cur 136 (0, 0)), (fb, .cells #[aQ 2, .int .u8 dat, aQ 1, aX abi, aX aH, (aS big), bF aU, bF aJ, aI aG, aN, aC pg 0 aj, aN, aN, aN] 131 (0, 0)), (s, .cells #[.iface 178 (.slice (some ⟨b, o, none⟩) n c), aF 0, aF 0, aF 9223372036854775807, aF 9223372036854775807] 246 (0, 0))] (by kernel_rfl) ?_
 clear HF HM; intro a w HF HM
 refine aA ?_
 refine wp_seq ?_
 refine wp_seq (wp_region_lit ?_)
 refine aT HF HM rfl 2 [] ((iO b o n c s fb big ak aj au ah) ++ [(35, ay aj), (36, aC pd (aj * 56) (aj * 56)), (37, .nilIface), (589, .bool false)]) [(pd, .cells (((l.drop (0 + ak)).take (aj * 56)).map Bv).toArray 5 (0, 0)), (pg, .cells cur 136 (0, 0)), (fb, .cells #[aQ 2, .int .u8 dat, aQ 1, aX abi, aX aH, (aS big), bF aU, bF aJ, aI aG, aN, aC pg 0 aj, aN, aN, aN] 131 (0, 0)), (s, .cells #[.iface 178 (.slice (some ⟨b, o, none⟩) n c), aF 0, aF 0, aF 9223372036854775807, aF 9223372036854775807] 246 (0, 0))] (by kernel_rfl) ?_
 clear HF HM; intro a w HF HM
 refine aA ?_
 refine aY HF rfl ?_
 refine wp_skip ?_
 repeat (first | refine aK ?_ | refine aP ?_)
 replace HF := HF.sub ((iO b o n c s fb big ak aj au ah) ++ [(36, aC pd (aj * 56) (aj * 56))]) (by kernel_rfl)
 replace HF := HF.sub ((iO b o n c s fb big ak aj au ah) ++ [(36, aC pd (aj * 56) (aj * 56))]) (by kernel_rfl)
 rw [Nat.zero_add] at HM
 exact K a w pg cur pd hcs HF HM

end Go.Proofs.YtdgehpocmfjbiaaDoor
