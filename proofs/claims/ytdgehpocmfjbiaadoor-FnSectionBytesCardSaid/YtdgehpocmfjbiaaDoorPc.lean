/- elf.NewFile: the ident and the header. · elf.NewFile: the fields of the header, and the checks on them. · elf.NewFile: the table of program headers is read. -/
import Derived.Test.YtdgehpocmfjbiaaDoorPb
import Derived.OwnWalk
set_option linter.unusedVariables false
set_option linter.unusedSimpArgs false
namespace Go.Proofs.YtdgehpocmfjbiaaDoor
open Go.RowKit

def tl1 : Code → Code
  | .seq _ c => c
  | c => c
def tlN : Nat → Code → Code
  | 0, c => c
  | k + 1, c => tl1 (tlN k c)
/-- a function's code from the k-th piece of its spine on -/
def spine (f : Func) (k : Nat) : Code := tlN k (f.body.getD .skip)
theorem num_take (big : Bool) (l : List UInt8) (n off k : Nat) (h : off + k ≤ n) : num big (l.take n) off k = num big l off k := by
  unfold num
  rw [List.drop_take, List.take_take, Nat.min_eq_left (by omega)]

abbrev nf_A_tl_B0 := fun s (b : Nat) (o : Nat) (n : Nat) (c : Nat) => ((s, .cells #[.iface 178 (.slice (some ⟨b, o, none⟩) n c), iI_ 0, iI_ 0, iI_ 9223372036854775807, iI_ 9223372036854775807] 246 (0, 0)) : Nat × Obj)
abbrev nf_A_tl_S1 := fun (b : Nat) (o : Nat) (n : Nat) (c : Nat) => ([(0, .iface 178 (.slice (some ⟨b, o, none⟩) n c)), (2, .pointer none), (3, .nilIface)] : Slots)
abbrev nf_A_tl_B2 := fun z4 (abi : Nat) (abiv : Nat) => ((z4, .cells #[iB_ 127, iB_ 69, iB_ 76, iB_ 70, iB_ 1, iB_ 1, iB_ 1, u8_ abi, u8_ abiv, iB_ 0, iB_ 0, iB_ 0, iB_ 0, iB_ 0, iB_ 0, iB_ 0] 205 (0, 0)) : Nat × Obj)
abbrev nf_A_tl_B3 := fun z7 => ((z7, .cells #[iB_ 1, iB_ 0, iB_ 0, iB_ 0, iB_ 0, iB_ 0, .int .u16 0, .int .u16 0, iL_ 0, nl_, nl_, nl_, nl_, nl_] 131 (0, 0)) : Nat × Obj)
abbrev nf_A_tl_B4 := fun z7 => ((z7, .cells #[iB_ 1, iB_ 1, iB_ 0, iB_ 0, iB_ 0, iB_ 0, .int .u16 0, .int .u16 0, iL_ 0, nl_, nl_, nl_, nl_, nl_] 131 (0, 0)) : Nat × Obj)
abbrev nf_A_tl_B5 := fun z7 (abi : Nat) (abiv : Nat) => ((z7, .cells #[iB_ 1, iB_ 1, iB_ 1, u8_ abi, u8_ abiv, (boV false), .int .u16 0, .int .u16 0, iL_ 0, nl_, nl_, nl_, nl_, nl_] 131 (0, 0)) : Nat × Obj)
set_option maxRecDepth 100000 in
set_option maxHeartbeats 1000000 in
theorem nf_A_tl (l : List UInt8) (b o n c : Nat) (hl : n = l.length) (hnc : n ≤ c) (hn : 16 ≤ n) (abi abiv : Nat) (hid : (((l.drop 0).take 16).map Bv).toArray = #[iB_ 127, iB_ 69, iB_ 76, iB_ 70, iB_ 1, iB_ 1, iB_ 1, u8_ abi, u8_ abiv, iB_ 0, iB_ 0, iB_ 0, iB_ 0, iB_ 0, iB_ 0, iB_ 0]) {Q : Exit → Act → World → Prop} (w0 : World) (hbl : b < w0.heap.size) (hr : Row w0 (some ⟨b, o, none⟩) (l.map Bv)) (a : Act) (w : World) (HF : Fr 1287 a [(0, .iface 178 (.slice (some ⟨b, o, none⟩) n c))]) (HM : Mm [] w0 w [])
    (K : ∀ a w s fb, Fr 1287 a [(0, .iface 178 (.slice (some ⟨b, o, none⟩) n c)), (4, pt_ s), (8, pt_ fb), (9, (boV false))] → Mm [] w0 w [(fb, .cells #[iB_ 1, iB_ 1, iB_ 1, u8_ abi, u8_ abiv, (boV false), .int .u16 0, .int .u16 0, iL_ 0, nl_, nl_, nl_, nl_, nl_] 131 (0, 0)), nf_A_tl_B0 s b o n c] → (spine Tryd.f78 20).wp Tryd.prog Q a w) : (spine Tryd.f78 0).wp Tryd.prog Q a w := by
  refine reg_sym HF HM rfl [] (nf_A_tl_S1 b o n c) [] (by kernel_rfl) ?_
  clear HF HM; intro a w HF HM
  refine wp_seq (wp_region_lit ?_)
  refine wp_sym HF HM rfl 1 [] ((nf_A_tl_S1 b o n c) ++ [(57, .iface 178 (.slice (some ⟨b, o, none⟩) n c))]) [] (by kernel_rfl) ?_
  clear HF HM; intro a w HF HM
  refine wp_call HF (by kernel_rfl) 92 #[.iface 178 (.slice (some ⟨b, o, none⟩) n c), iI_ 0, iI_ 9223372036854775807] (by kernel_rfl) (fun w => by kernel_rfl) (Calls.mono (newSR_any 178 (.slice (some ⟨b, o, none⟩) n c) 0 9223372036854775807 (by omega) (by omega) (by omega) w) ?_)
  rintro _ w1 ⟨s, rfl, hb, hge, hgn⟩
  replace HM : Mm [] w0 w1 [nf_A_tl_B0 s b o n c] := HM.push hb hge hgn
  clear hb hge hgn
  refine ⟨_, rfl, ?_⟩; clear HF; intro a HF; replace HF := HF.sub ((nf_A_tl_S1 b o n c) ++ [(57, .iface 178 (.slice (some ⟨b, o, none⟩) n c)), (58, pt_ s)]) (by kernel_rfl)
  refine wp_sym HF HM rfl 1 [] ((nf_A_tl_S1 b o n c) ++ [(4, pt_ s)]) [nf_A_tl_B0 s b o n c] (by kernel_rfl) ?_
  clear HF HM; intro a w HF HM
  refine nil_then ?_
  obtain ⟨z4, hz4⟩ : ∃ z, w.heap.size = z := ⟨_, rfl⟩
  refine reg_sym HF HM hz4 [] ((nf_A_tl_S1 b o n c) ++ [(4, pt_ s), (5, pt_ z4)]) [(z4, .cells #[iB_ 0, iB_ 0, iB_ 0, iB_ 0, iB_ 0, iB_ 0, iB_ 0, iB_ 0, iB_ 0, iB_ 0, iB_ 0, iB_ 0, iB_ 0, iB_ 0, iB_ 0, iB_ 0] 205 (0, 0)), nf_A_tl_B0 s b o n c] (by kernel_rfl) ?_
  clear HF HM hz4; intro a w HF HM
  refine wp_seq ?_
  refine reg_plan HM (by kernel_rfl) [nf_A_tl_B0 s b o n c] [(0, false), (1, false), (2, false), (3, false), (4, false), (5, true), (6, false), (7, false), (8, false), (9, false), (10, false)] (by kernel_rfl) ?_
  clear HM; intro w2 HM
  refine plan_sym HF (HM.told [1] rfl) 5 [] ((nf_A_tl_S1 b o n c) ++ [(4, pt_ s), (5, pt_ z4), (60, .iface 178 (.slice (some ⟨b, o, none⟩) n c)), (61, sl_ z4 16 16), (64, .iface 178 (.slice (some ⟨b, o, none⟩) n c))]) (by kernel_rfl) ?_
  clear HF; intro a HF
  refine plan_force rfl ?_
  have hbi : b ≠ z4 := fun e => absurd hbl (Nat.not_lt_of_le (e ▸ HM.ge (i := 0) rfl))
  refine wp_call HF (by kernel_rfl) 127 #[.slice (some ⟨b, o, none⟩) n c, sl_ z4 16 16, i6_ 0] (by kernel_rfl) (fun w => by kernel_rfl) (Calls.mono (readAt_full l b o n c hl hnc z4 #[iB_ 0, iB_ 0, iB_ 0, iB_ 0, iB_ 0, iB_ 0, iB_ 0, iB_ 0, iB_ 0, iB_ 0, iB_ 0, iB_ 0, iB_ 0, iB_ 0, iB_ 0, iB_ 0] 205 16 16 rfl 0 (by omega) (by omega) w2 (HM.row hr (by intro b' o' s' _; simp)) hbi (HM.get (i := 0) rfl)) ?_)
  rintro _ w3 ⟨rfl, hkp, hgn⟩
  rw [hid] at hgn
  replace HM : Mm [] w0 w3 [nf_A_tl_B2 z4 abi abiv, nf_A_tl_B0 s b o n c] := HM.put (i := 0) rfl hgn hkp
  clear hkp hgn
  refine ⟨_, rfl, ?_⟩; clear HF; intro a HF; replace HF := HF.sub ((nf_A_tl_S1 b o n c) ++ [(4, pt_ s), (5, pt_ z4), (60, .iface 178 (.slice (some ⟨b, o, none⟩) n c)), (61, sl_ z4 16 16), (64, .iface 178 (.slice (some ⟨b, o, none⟩) n c)), (65, .tuple #[i6_ 16, .nilIface])]) (by kernel_rfl)
  refine only_end (HM.told [1] rfl) ?_
  refine plan_sym HF (HM.told [1] rfl) 5 [] ((nf_A_tl_S1 b o n c) ++ [(4, pt_ s), (5, pt_ z4), (7, .nilIface)]) (by kernel_rfl) ?_
  clear HF; intro a HF
  refine plan_end ?_
  refine then_norm ?_
  refine wp_seq (wp_region_lit ?_)
  refine wp_sym HF HM rfl 2 [] ((nf_A_tl_S1 b o n c) ++ [(4, pt_ s), (5, pt_ z4), (7, .nilIface), (69, .bool false)]) [nf_A_tl_B2 z4 abi abiv, nf_A_tl_B0 s b o n c] (by kernel_rfl) ?_
  clear HF HM; intro a w HF HM
  refine nil_then ?_
  refine wp_condF HF rfl ?_
  refine wp_skip ?_
  repeat (first | refine then_norm ?_ | refine inb_norm ?_)
  replace HF := HF.sub ((nf_A_tl_S1 b o n c) ++ [(4, pt_ s), (5, pt_ z4)]) (by kernel_rfl)
  refine wp_seq ?_
  refine wp_seq (wp_region_lit ?_)
  refine wp_sym HF HM rfl 18 [[1], [1], [1], [1]] ((nf_A_tl_S1 b o n c) ++ [(4, pt_ s), (5, pt_ z4), (91, .bool false)]) [nf_A_tl_B2 z4 abi abiv, nf_A_tl_B0 s b o n c] (by kernel_rfl) ?_
  clear HF HM; intro a w HF HM
  refine nil_then ?_
  refine wp_condF HF rfl ?_
  refine wp_skip ?_
  repeat (first | refine then_norm ?_ | refine inb_norm ?_)
  replace HF := HF.sub ((nf_A_tl_S1 b o n c) ++ [(4, pt_ s), (5, pt_ z4)]) (by kernel_rfl)
  obtain ⟨z7, hz7⟩ : ∃ z, w.heap.size = z := ⟨_, rfl⟩
  refine reg_sym HF HM hz7 [] ((nf_A_tl_S1 b o n c) ++ [(4, pt_ s), (5, pt_ z4), (8, pt_ z7)]) [(z7, .cells #[iB_ 0, iB_ 0, iB_ 0, iB_ 0, iB_ 0, iB_ 0, .int .u16 0, .int .u16 0, iL_ 0, nl_, nl_, nl_, nl_, nl_] 131 (0, 0)), nf_A_tl_B2 z4 abi abiv, nf_A_tl_B0 s b o n c] (by kernel_rfl) ?_
  clear HF HM hz7; intro a w HF HM
  refine reg_sym HF HM rfl [[1], [2]] ((nf_A_tl_S1 b o n c) ++ [(4, pt_ s), (5, pt_ z4), (8, pt_ z7)]) [nf_A_tl_B3 z7, nf_A_tl_B2 z4 abi abiv, nf_A_tl_B0 s b o n c] (by kernel_rfl) ?_
  clear HF HM; intro a w HF HM
  refine wp_seq ?_
  refine reg_sym HF HM rfl [[2]] ((nf_A_tl_S1 b o n c) ++ [(4, pt_ s), (5, pt_ z4), (8, pt_ z7), (108, iB_ 1)]) [nf_A_tl_B3 z7, nf_A_tl_B2 z4 abi abiv, nf_A_tl_B0 s b o n c] (by kernel_rfl) ?_
  clear HF HM; intro a w HF HM
  refine wp_block ?_
  refine reg_sym HF HM rfl [] ((nf_A_tl_S1 b o n c) ++ [(4, pt_ s), (5, pt_ z4), (8, pt_ z7), (108, iB_ 1), (118, .bool true)]) [nf_A_tl_B3 z7, nf_A_tl_B2 z4 abi abiv, nf_A_tl_B0 s b o n c] (by kernel_rfl) ?_
  clear HF HM; intro a w HF HM
  refine wp_condT HF rfl ?_
  refine wp_skip ?_
  repeat (first | refine then_norm ?_ | refine inb_norm ?_)
  replace HF := HF.sub ((nf_A_tl_S1 b o n c) ++ [(4, pt_ s), (5, pt_ z4), (8, pt_ z7)]) (by kernel_rfl)
  refine reg_sym HF HM rfl [[1], [2]] ((nf_A_tl_S1 b o n c) ++ [(4, pt_ s), (5, pt_ z4), (8, pt_ z7)]) [nf_A_tl_B4 z7, nf_A_tl_B2 z4 abi abiv, nf_A_tl_B0 s b o n c] (by kernel_rfl) ?_
  clear HF HM; intro a w HF HM
  refine reg_sym HF HM rfl [] ((nf_A_tl_S1 b o n c) ++ [(4, pt_ s), (5, pt_ z4), (8, pt_ z7), (9, iB_ 0)]) [nf_A_tl_B4 z7, nf_A_tl_B2 z4 abi abiv, nf_A_tl_B0 s b o n c] (by kernel_rfl) ?_
  clear HF HM; intro a w HF HM
  refine wp_seq ?_
  refine reg_sym HF HM rfl [[2]] ((nf_A_tl_S1 b o n c) ++ [(4, pt_ s), (5, pt_ z4), (8, pt_ z7), (9, iB_ 0), (132, iB_ 1)]) [nf_A_tl_B4 z7, nf_A_tl_B2 z4 abi abiv, nf_A_tl_B0 s b o n c] (by kernel_rfl) ?_
  clear HF HM; intro a w HF HM
  refine wp_block ?_
  refine reg_sym HF HM rfl [] ((nf_A_tl_S1 b o n c) ++ [(4, pt_ s), (5, pt_ z4), (8, pt_ z7), (9, iB_ 0), (132, iB_ 1), (142, .bool true)]) [nf_A_tl_B4 z7, nf_A_tl_B2 z4 abi abiv, nf_A_tl_B0 s b o n c] (by kernel_rfl) ?_
  clear HF HM; intro a w HF HM
  refine wp_condT HF rfl ?_
  refine reg_sym1 HF HM rfl [] ((nf_A_tl_S1 b o n c) ++ [(4, pt_ s), (5, pt_ z4), (8, pt_ z7), (9, (boV false))]) [nf_A_tl_B4 z7, nf_A_tl_B2 z4 abi abiv, nf_A_tl_B0 s b o n c] (by kernel_rfl) ?_
  clear HF HM; intro a w HF HM
  repeat (first | refine then_norm ?_ | refine inb_norm ?_)
  refine reg_sym HF HM rfl [[2]] ((nf_A_tl_S1 b o n c) ++ [(4, pt_ s), (5, pt_ z4), (8, pt_ z7), (9, (boV false))]) [(z7, .cells #[iB_ 1, iB_ 1, iB_ 0, iB_ 0, iB_ 0, (boV false), .int .u16 0, .int .u16 0, iL_ 0, nl_, nl_, nl_, nl_, nl_] 131 (0, 0)), nf_A_tl_B2 z4 abi abiv, nf_A_tl_B0 s b o n c] (by kernel_rfl) ?_
  clear HF HM; intro a w HF HM
  refine reg_sym HF HM rfl [[1], [2]] ((nf_A_tl_S1 b o n c) ++ [(4, pt_ s), (5, pt_ z4), (8, pt_ z7), (9, (boV false))]) [(z7, .cells #[iB_ 1, iB_ 1, iB_ 1, iB_ 0, iB_ 0, (boV false), .int .u16 0, .int .u16 0, iL_ 0, nl_, nl_, nl_, nl_, nl_] 131 (0, 0)), nf_A_tl_B2 z4 abi abiv, nf_A_tl_B0 s b o n c] (by kernel_rfl) ?_
  clear HF HM; intro a w HF HM
  refine wp_seq ?_
  refine reg_sym HF HM rfl [[2]] ((nf_A_tl_S1 b o n c) ++ [(4, pt_ s), (5, pt_ z4), (8, pt_ z7), (9, (boV false)), (162, .bool false)]) [(z7, .cells #[iB_ 1, iB_ 1, iB_ 1, iB_ 0, iB_ 0, (boV false), .int .u16 0, .int .u16 0, iL_ 0, nl_, nl_, nl_, nl_, nl_] 131 (0, 0)), nf_A_tl_B2 z4 abi abiv, nf_A_tl_B0 s b o n c] (by kernel_rfl) ?_
  clear HF HM; intro a w HF HM
  refine wp_condF HF rfl ?_
  refine wp_skip ?_
  repeat (first | refine then_norm ?_ | refine inb_norm ?_)
  replace HF := HF.sub ((nf_A_tl_S1 b o n c) ++ [(4, pt_ s), (5, pt_ z4), (8, pt_ z7), (9, (boV false))]) (by kernel_rfl)
  refine reg_sym HF HM rfl [[1], [2]] ((nf_A_tl_S1 b o n c) ++ [(4, pt_ s), (5, pt_ z4), (8, pt_ z7), (9, (boV false))]) [(z7, .cells #[iB_ 1, iB_ 1, iB_ 1, u8_ abi, iB_ 0, (boV false), .int .u16 0, .int .u16 0, iL_ 0, nl_, nl_, nl_, nl_, nl_] 131 (0, 0)), nf_A_tl_B2 z4 abi abiv, nf_A_tl_B0 s b o n c] (by kernel_rfl) ?_
  clear HF HM; intro a w HF HM
  refine reg_sym HF HM rfl [[1], [2]] ((nf_A_tl_S1 b o n c) ++ [(4, pt_ s), (8, pt_ z7), (9, (boV false))]) [nf_A_tl_B5 z7 abi abiv, nf_A_tl_B2 z4 abi abiv, nf_A_tl_B0 s b o n c] (by kernel_rfl) ?_
  clear HF HM; intro a w HF HM
  refine reg_sym HF HM rfl [] ((nf_A_tl_S1 b o n c) ++ [(4, pt_ s), (8, pt_ z7), (9, (boV false)), (10, iI_ 0)]) [nf_A_tl_B5 z7 abi abiv, nf_A_tl_B2 z4 abi abiv, nf_A_tl_B0 s b o n c] (by kernel_rfl) ?_
  clear HF HM; intro a w HF HM
  refine reg_sym HF HM rfl [] ((nf_A_tl_S1 b o n c) ++ [(4, pt_ s), (8, pt_ z7), (9, (boV false)), (10, iI_ 0), (11, iI_ 0), (12, iI_ 0)]) [nf_A_tl_B5 z7 abi abiv, nf_A_tl_B2 z4 abi abiv, nf_A_tl_B0 s b o n c] (by kernel_rfl) ?_
  clear HF HM; intro a w HF HM
  refine reg_sym HF HM rfl [] ((nf_A_tl_S1 b o n c) ++ [(4, pt_ s), (8, pt_ z7), (9, (boV false)), (10, iI_ 0), (11, iI_ 0), (12, iI_ 0), (13, iI_ 0)]) [nf_A_tl_B5 z7 abi abiv, nf_A_tl_B2 z4 abi abiv, nf_A_tl_B0 s b o n c] (by kernel_rfl) ?_
  clear HF HM; intro a w HF HM
  refine reg_sym HF HM rfl [] ((nf_A_tl_S1 b o n c) ++ [(4, pt_ s), (8, pt_ z7), (9, (boV false)), (10, iI_ 0), (11, iI_ 0), (12, iI_ 0), (13, iI_ 0), (14, iI_ 0), (15, iI_ 0), (16, iI_ 0)]) [nf_A_tl_B5 z7 abi abiv, nf_A_tl_B2 z4 abi abiv, nf_A_tl_B0 s b o n c] (by kernel_rfl) ?_
  clear HF HM; intro a w HF HM
  replace HF := HF.sub [(0, .iface 178 (.slice (some ⟨b, o, none⟩) n c)), (4, pt_ s), (8, pt_ z7), (9, (boV false))] (by kernel_rfl)
  exact K a w s z7 HF (HM.sub (List.Sublist.cons_cons _ (List.Sublist.cons _ (List.Sublist.refl _))))

abbrev nf_A_tb_B0 := fun s (b : Nat) (o : Nat) (n : Nat) (c : Nat) => ((s, .cells #[.iface 178 (.slice (some ⟨b, o, none⟩) n c), iI_ 0, iI_ 0, iI_ 9223372036854775807, iI_ 9223372036854775807] 246 (0, 0)) : Nat × Obj)
abbrev nf_A_tb_S1 := fun (b : Nat) (o : Nat) (n : Nat) (c : Nat) => ([(0, .iface 178 (.slice (some ⟨b, o, none⟩) n c)), (2, .pointer none), (3, .nilIface)] : Slots)
abbrev nf_A_tb_B2 := fun z4 (abi : Nat) (abiv : Nat) => ((z4, .cells #[iB_ 127, iB_ 69, iB_ 76, iB_ 70, iB_ 1, iB_ 2, iB_ 1, u8_ abi, u8_ abiv, iB_ 0, iB_ 0, iB_ 0, iB_ 0, iB_ 0, iB_ 0, iB_ 0] 205 (0, 0)) : Nat × Obj)
abbrev nf_A_tb_B3 := fun z7 => ((z7, .cells #[iB_ 1, iB_ 0, iB_ 0, iB_ 0, iB_ 0, iB_ 0, .int .u16 0, .int .u16 0, iL_ 0, nl_, nl_, nl_, nl_, nl_] 131 (0, 0)) : Nat × Obj)
abbrev nf_A_tb_B4 := fun z7 => ((z7, .cells #[iB_ 1, iB_ 2, iB_ 0, iB_ 0, iB_ 0, iB_ 0, .int .u16 0, .int .u16 0, iL_ 0, nl_, nl_, nl_, nl_, nl_] 131 (0, 0)) : Nat × Obj)
abbrev nf_A_tb_B5 := fun z7 (abi : Nat) (abiv : Nat) => ((z7, .cells #[iB_ 1, iB_ 2, iB_ 1, u8_ abi, u8_ abiv, (boV true), .int .u16 0, .int .u16 0, iL_ 0, nl_, nl_, nl_, nl_, nl_] 131 (0, 0)) : Nat × Obj)
set_option maxRecDepth 100000 in
set_option maxHeartbeats 1000000 in
theorem nf_A_tb (l : List UInt8) (b o n c : Nat) (hl : n = l.length) (hnc : n ≤ c) (hn : 16 ≤ n) (abi abiv : Nat) (hid : (((l.drop 0).take 16).map Bv).toArray = #[iB_ 127, iB_ 69, iB_ 76, iB_ 70, iB_ 1, iB_ 2, iB_ 1, u8_ abi, u8_ abiv, iB_ 0, iB_ 0, iB_ 0, iB_ 0, iB_ 0, iB_ 0, iB_ 0]) {Q : Exit → Act → World → Prop} (w0 : World) (hbl : b < w0.heap.size) (hr : Row w0 (some ⟨b, o, none⟩) (l.map Bv)) (a : Act) (w : World) (HF : Fr 1287 a [(0, .iface 178 (.slice (some ⟨b, o, none⟩) n c))]) (HM : Mm [] w0 w [])
    (K : ∀ a w s fb, Fr 1287 a [(0, .iface 178 (.slice (some ⟨b, o, none⟩) n c)), (4, pt_ s), (8, pt_ fb), (9, (boV true))] → Mm [] w0 w [(fb, .cells #[iB_ 1, iB_ 2, iB_ 1, u8_ abi, u8_ abiv, (boV true), .int .u16 0, .int .u16 0, iL_ 0, nl_, nl_, nl_, nl_, nl_] 131 (0, 0)), nf_A_tb_B0 s b o n c] → (spine Tryd.f78 20).wp Tryd.prog Q a w) : (spine Tryd.f78 0).wp Tryd.prog Q a w := by
  refine reg_sym HF HM rfl [] (nf_A_tb_S1 b o n c) [] (by kernel_rfl) ?_
  clear HF HM; intro a w HF HM
  refine wp_seq (wp_region_lit ?_)
  refine wp_sym HF HM rfl 1 [] ((nf_A_tb_S1 b o n c) ++ [(57, .iface 178 (.slice (some ⟨b, o, none⟩) n c))]) [] (by kernel_rfl) ?_
  clear HF HM; intro a w HF HM
  refine wp_call HF (by kernel_rfl) 92 #[.iface 178 (.slice (some ⟨b, o, none⟩) n c), iI_ 0, iI_ 9223372036854775807] (by kernel_rfl) (fun w => by kernel_rfl) (Calls.mono (newSR_any 178 (.slice (some ⟨b, o, none⟩) n c) 0 9223372036854775807 (by omega) (by omega) (by omega) w) ?_)
  rintro _ w1 ⟨s, rfl, hb, hge, hgn⟩
  replace HM : Mm [] w0 w1 [nf_A_tb_B0 s b o n c] := HM.push hb hge hgn
  clear hb hge hgn
  refine ⟨_, rfl, ?_⟩; clear HF; intro a HF; replace HF := HF.sub ((nf_A_tb_S1 b o n c) ++ [(57, .iface 178 (.slice (some ⟨b, o, none⟩) n c)), (58, pt_ s)]) (by kernel_rfl)
  refine wp_sym HF HM rfl 1 [] ((nf_A_tb_S1 b o n c) ++ [(4, pt_ s)]) [nf_A_tb_B0 s b o n c] (by kernel_rfl) ?_
  clear HF HM; intro a w HF HM
  refine nil_then ?_
  obtain ⟨z4, hz4⟩ : ∃ z, w.heap.size = z := ⟨_, rfl⟩
  refine reg_sym HF HM hz4 [] ((nf_A_tb_S1 b o n c) ++ [(4, pt_ s), (5, pt_ z4)]) [(z4, .cells #[iB_ 0, iB_ 0, iB_ 0, iB_ 0, iB_ 0, iB_ 0, iB_ 0, iB_ 0, iB_ 0, iB_ 0, iB_ 0, iB_ 0, iB_ 0, iB_ 0, iB_ 0, iB_ 0] 205 (0, 0)), nf_A_tb_B0 s b o n c] (by kernel_rfl) ?_
  clear HF HM hz4; intro a w HF HM
  refine wp_seq ?_
  refine reg_plan HM (by kernel_rfl) [nf_A_tb_B0 s b o n c] [(0, false), (1, false), (2, false), (3, false), (4, false), (5, true), (6, false), (7, false), (8, false), (9, false), (10, false)] (by kernel_rfl) ?_
  clear HM; intro w2 HM
  refine plan_sym HF (HM.told [1] rfl) 5 [] ((nf_A_tb_S1 b o n c) ++ [(4, pt_ s), (5, pt_ z4), (60, .iface 178 (.slice (some ⟨b, o, none⟩) n c)), (61, sl_ z4 16 16), (64, .iface 178 (.slice (some ⟨b, o, none⟩) n c))]) (by kernel_rfl) ?_
  clear HF; intro a HF
  refine plan_force rfl ?_
  have hbi : b ≠ z4 := fun e => absurd hbl (Nat.not_lt_of_le (e ▸ HM.ge (i := 0) rfl))
  refine wp_call HF (by kernel_rfl) 127 #[.slice (some ⟨b, o, none⟩) n c, sl_ z4 16 16, i6_ 0] (by kernel_rfl) (fun w => by kernel_rfl) (Calls.mono (readAt_full l b o n c hl hnc z4 #[iB_ 0, iB_ 0, iB_ 0, iB_ 0, iB_ 0, iB_ 0, iB_ 0, iB_ 0, iB_ 0, iB_ 0, iB_ 0, iB_ 0, iB_ 0, iB_ 0, iB_ 0, iB_ 0] 205 16 16 rfl 0 (by omega) (by omega) w2 (HM.row hr (by intro b' o' s' _; simp)) hbi (HM.get (i := 0) rfl)) ?_)
  rintro _ w3 ⟨rfl, hkp, hgn⟩
  rw [hid] at hgn
  replace HM : Mm [] w0 w3 [nf_A_tb_B2 z4 abi abiv, nf_A_tb_B0 s b o n c] := HM.put (i := 0) rfl hgn hkp
  clear hkp hgn
  refine ⟨_, rfl, ?_⟩; clear HF; intro a HF; replace HF := HF.sub ((nf_A_tb_S1 b o n c) ++ [(4, pt_ s), (5, pt_ z4), (60, .iface 178 (.slice (some ⟨b, o, none⟩) n c)), (61, sl_ z4 16 16), (64, .iface 178 (.slice (some ⟨b, o, none⟩) n c)), (65, .tuple #[i6_ 16, .nilIface])]) (by kernel_rfl)
  refine only_end (HM.told [1] rfl) ?_
  refine plan_sym HF (HM.told [1] rfl) 5 [] ((nf_A_tb_S1 b o n c) ++ [(4, pt_ s), (5, pt_ z4), (7, .nilIface)]) (by kernel_rfl) ?_
  clear HF; intro a HF
  refine plan_end ?_
  refine then_norm ?_
  refine wp_seq (wp_region_lit ?_)
  refine wp_sym HF HM rfl 2 [] ((nf_A_tb_S1 b o n c) ++ [(4, pt_ s), (5, pt_ z4), (7, .nilIface), (69, .bool false)]) [nf_A_tb_B2 z4 abi abiv, nf_A_tb_B0 s b o n c] (by kernel_rfl) ?_
  clear HF HM; intro a w HF HM
  refine nil_then ?_
  refine wp_condF HF rfl ?_
  refine wp_skip ?_
  repeat (first | refine then_norm ?_ | refine inb_norm ?_)
  replace HF := HF.sub ((nf_A_tb_S1 b o n c) ++ [(4, pt_ s), (5, pt_ z4)]) (by kernel_rfl)
  refine wp_seq ?_
  refine wp_seq (wp_region_lit ?_)
  refine wp_sym HF HM rfl 18 [[1], [1], [1], [1]] ((nf_A_tb_S1 b o n c) ++ [(4, pt_ s), (5, pt_ z4), (91, .bool false)]) [nf_A_tb_B2 z4 abi abiv, nf_A_tb_B0 s b o n c] (by kernel_rfl) ?_
  clear HF HM; intro a w HF HM
  refine nil_then ?_
  refine wp_condF HF rfl ?_
  refine wp_skip ?_
  repeat (first | refine then_norm ?_ | refine inb_norm ?_)
  replace HF := HF.sub ((nf_A_tb_S1 b o n c) ++ [(4, pt_ s), (5, pt_ z4)]) (by kernel_rfl)
  obtain ⟨z7, hz7⟩ : ∃ z, w.heap.size = z := ⟨_, rfl⟩
  refine reg_sym HF HM hz7 [] ((nf_A_tb_S1 b o n c) ++ [(4, pt_ s), (5, pt_ z4), (8, pt_ z7)]) [(z7, .cells #[iB_ 0, iB_ 0, iB_ 0, iB_ 0, iB_ 0, iB_ 0, .int .u16 0, .int .u16 0, iL_ 0, nl_, nl_, nl_, nl_, nl_] 131 (0, 0)), nf_A_tb_B2 z4 abi abiv, nf_A_tb_B0 s b o n c] (by kernel_rfl) ?_
  clear HF HM hz7; intro a w HF HM
  refine reg_sym HF HM rfl [[1], [2]] ((nf_A_tb_S1 b o n c) ++ [(4, pt_ s), (5, pt_ z4), (8, pt_ z7)]) [nf_A_tb_B3 z7, nf_A_tb_B2 z4 abi abiv, nf_A_tb_B0 s b o n c] (by kernel_rfl) ?_
  clear HF HM; intro a w HF HM
  refine wp_seq ?_
  refine reg_sym HF HM rfl [[2]] ((nf_A_tb_S1 b o n c) ++ [(4, pt_ s), (5, pt_ z4), (8, pt_ z7), (108, iB_ 1)]) [nf_A_tb_B3 z7, nf_A_tb_B2 z4 abi abiv, nf_A_tb_B0 s b o n c] (by kernel_rfl) ?_
  clear HF HM; intro a w HF HM
  refine wp_block ?_
  refine reg_sym HF HM rfl [] ((nf_A_tb_S1 b o n c) ++ [(4, pt_ s), (5, pt_ z4), (8, pt_ z7), (108, iB_ 1), (118, .bool true)]) [nf_A_tb_B3 z7, nf_A_tb_B2 z4 abi abiv, nf_A_tb_B0 s b o n c] (by kernel_rfl) ?_
  clear HF HM; intro a w HF HM
  refine wp_condT HF rfl ?_
  refine wp_skip ?_
  repeat (first | refine then_norm ?_ | refine inb_norm ?_)
  replace HF := HF.sub ((nf_A_tb_S1 b o n c) ++ [(4, pt_ s), (5, pt_ z4), (8, pt_ z7)]) (by kernel_rfl)
  refine reg_sym HF HM rfl [[1], [2]] ((nf_A_tb_S1 b o n c) ++ [(4, pt_ s), (5, pt_ z4), (8, pt_ z7)]) [nf_A_tb_B4 z7, nf_A_tb_B2 z4 abi abiv, nf_A_tb_B0 s b o n c] (by kernel_rfl) ?_
  clear HF HM; intro a w HF HM
  refine reg_sym HF HM rfl [] ((nf_A_tb_S1 b o n c) ++ [(4, pt_ s), (5, pt_ z4), (8, pt_ z7), (9, iB_ 0)]) [nf_A_tb_B4 z7, nf_A_tb_B2 z4 abi abiv, nf_A_tb_B0 s b o n c] (by kernel_rfl) ?_
  clear HF HM; intro a w HF HM
  refine wp_seq ?_
  refine reg_sym HF HM rfl [[2]] ((nf_A_tb_S1 b o n c) ++ [(4, pt_ s), (5, pt_ z4), (8, pt_ z7), (9, iB_ 0), (132, iB_ 2)]) [nf_A_tb_B4 z7, nf_A_tb_B2 z4 abi abiv, nf_A_tb_B0 s b o n c] (by kernel_rfl) ?_
  clear HF HM; intro a w HF HM
  refine wp_block ?_
  refine reg_sym HF HM rfl [] ((nf_A_tb_S1 b o n c) ++ [(4, pt_ s), (5, pt_ z4), (8, pt_ z7), (9, iB_ 0), (132, iB_ 2), (142, .bool false)]) [nf_A_tb_B4 z7, nf_A_tb_B2 z4 abi abiv, nf_A_tb_B0 s b o n c] (by kernel_rfl) ?_
  clear HF HM; intro a w HF HM
  refine wp_condF HF rfl ?_
  refine reg_sym HF HM rfl [] ((nf_A_tb_S1 b o n c) ++ [(4, pt_ s), (5, pt_ z4), (8, pt_ z7), (9, iB_ 0), (132, iB_ 2), (144, .bool true)]) [nf_A_tb_B4 z7, nf_A_tb_B2 z4 abi abiv, nf_A_tb_B0 s b o n c] (by kernel_rfl) ?_
  clear HF HM; intro a w HF HM
  refine wp_condT HF rfl ?_
  refine reg_sym1 HF HM rfl [] ((nf_A_tb_S1 b o n c) ++ [(4, pt_ s), (5, pt_ z4), (8, pt_ z7), (9, (boV true))]) [nf_A_tb_B4 z7, nf_A_tb_B2 z4 abi abiv, nf_A_tb_B0 s b o n c] (by kernel_rfl) ?_
  clear HF HM; intro a w HF HM
  repeat (first | refine then_norm ?_ | refine inb_norm ?_)
  refine reg_sym HF HM rfl [[2]] ((nf_A_tb_S1 b o n c) ++ [(4, pt_ s), (5, pt_ z4), (8, pt_ z7), (9, (boV true))]) [(z7, .cells #[iB_ 1, iB_ 2, iB_ 0, iB_ 0, iB_ 0, (boV true), .int .u16 0, .int .u16 0, iL_ 0, nl_, nl_, nl_, nl_, nl_] 131 (0, 0)), nf_A_tb_B2 z4 abi abiv, nf_A_tb_B0 s b o n c] (by kernel_rfl) ?_
  clear HF HM; intro a w HF HM
  refine reg_sym HF HM rfl [[1], [2]] ((nf_A_tb_S1 b o n c) ++ [(4, pt_ s), (5, pt_ z4), (8, pt_ z7), (9, (boV true))]) [(z7, .cells #[iB_ 1, iB_ 2, iB_ 1, iB_ 0, iB_ 0, (boV true), .int .u16 0, .int .u16 0, iL_ 0, nl_, nl_, nl_, nl_, nl_] 131 (0, 0)), nf_A_tb_B2 z4 abi abiv, nf_A_tb_B0 s b o n c] (by kernel_rfl) ?_
  clear HF HM; intro a w HF HM
  refine wp_seq ?_
  refine reg_sym HF HM rfl [[2]] ((nf_A_tb_S1 b o n c) ++ [(4, pt_ s), (5, pt_ z4), (8, pt_ z7), (9, (boV true)), (162, .bool false)]) [(z7, .cells #[iB_ 1, iB_ 2, iB_ 1, iB_ 0, iB_ 0, (boV true), .int .u16 0, .int .u16 0, iL_ 0, nl_, nl_, nl_, nl_, nl_] 131 (0, 0)), nf_A_tb_B2 z4 abi abiv, nf_A_tb_B0 s b o n c] (by kernel_rfl) ?_
  clear HF HM; intro a w HF HM
  refine wp_condF HF rfl ?_
  refine wp_skip ?_
  repeat (first | refine then_norm ?_ | refine inb_norm ?_)
  replace HF := HF.sub ((nf_A_tb_S1 b o n c) ++ [(4, pt_ s), (5, pt_ z4), (8, pt_ z7), (9, (boV true))]) (by kernel_rfl)
  refine reg_sym HF HM rfl [[1], [2]] ((nf_A_tb_S1 b o n c) ++ [(4, pt_ s), (5, pt_ z4), (8, pt_ z7), (9, (boV true))]) [(z7, .cells #[iB_ 1, iB_ 2, iB_ 1, u8_ abi, iB_ 0, (boV true), .int .u16 0, .int .u16 0, iL_ 0, nl_, nl_, nl_, nl_, nl_] 131 (0, 0)), nf_A_tb_B2 z4 abi abiv, nf_A_tb_B0 s b o n c] (by kernel_rfl) ?_
  clear HF HM; intro a w HF HM
  refine reg_sym HF HM rfl [[1], [2]] ((nf_A_tb_S1 b o n c) ++ [(4, pt_ s), (8, pt_ z7), (9, (boV true))]) [nf_A_tb_B5 z7 abi abiv, nf_A_tb_B2 z4 abi abiv, nf_A_tb_B0 s b o n c] (by kernel_rfl) ?_
  clear HF HM; intro a w HF HM
  refine reg_sym HF HM rfl [] ((nf_A_tb_S1 b o n c) ++ [(4, pt_ s), (8, pt_ z7), (9, (boV true)), (10, iI_ 0)]) [nf_A_tb_B5 z7 abi abiv, nf_A_tb_B2 z4 abi abiv, nf_A_tb_B0 s b o n c] (by kernel_rfl) ?_
  clear HF HM; intro a w HF HM
  refine reg_sym HF HM rfl [] ((nf_A_tb_S1 b o n c) ++ [(4, pt_ s), (8, pt_ z7), (9, (boV true)), (10, iI_ 0), (11, iI_ 0), (12, iI_ 0)]) [nf_A_tb_B5 z7 abi abiv, nf_A_tb_B2 z4 abi abiv, nf_A_tb_B0 s b o n c] (by kernel_rfl) ?_
  clear HF HM; intro a w HF HM
  refine reg_sym HF HM rfl [] ((nf_A_tb_S1 b o n c) ++ [(4, pt_ s), (8, pt_ z7), (9, (boV true)), (10, iI_ 0), (11, iI_ 0), (12, iI_ 0), (13, iI_ 0)]) [nf_A_tb_B5 z7 abi abiv, nf_A_tb_B2 z4 abi abiv, nf_A_tb_B0 s b o n c] (by kernel_rfl) ?_
  clear HF HM; intro a w HF HM
  refine reg_sym HF HM rfl [] ((nf_A_tb_S1 b o n c) ++ [(4, pt_ s), (8, pt_ z7), (9, (boV true)), (10, iI_ 0), (11, iI_ 0), (12, iI_ 0), (13, iI_ 0), (14, iI_ 0), (15, iI_ 0), (16, iI_ 0)]) [nf_A_tb_B5 z7 abi abiv, nf_A_tb_B2 z4 abi abiv, nf_A_tb_B0 s b o n c] (by kernel_rfl) ?_
  clear HF HM; intro a w HF HM
  replace HF := HF.sub [(0, .iface 178 (.slice (some ⟨b, o, none⟩) n c)), (4, pt_ s), (8, pt_ z7), (9, (boV true))] (by kernel_rfl)
  exact K a w s z7 HF (HM.sub (List.Sublist.cons_cons _ (List.Sublist.cons _ (List.Sublist.refl _))))

abbrev nf_A_wl_B0 := fun s (b : Nat) (o : Nat) (n : Nat) (c : Nat) => ((s, .cells #[.iface 178 (.slice (some ⟨b, o, none⟩) n c), iI_ 0, iI_ 0, iI_ 9223372036854775807, iI_ 9223372036854775807] 246 (0, 0)) : Nat × Obj)
abbrev nf_A_wl_S1 := fun (b : Nat) (o : Nat) (n : Nat) (c : Nat) => ([(0, .iface 178 (.slice (some ⟨b, o, none⟩) n c)), (2, .pointer none), (3, .nilIface)] : Slots)
abbrev nf_A_wl_B2 := fun z4 (abi : Nat) (abiv : Nat) => ((z4, .cells #[iB_ 127, iB_ 69, iB_ 76, iB_ 70, iB_ 2, iB_ 1, iB_ 1, u8_ abi, u8_ abiv, iB_ 0, iB_ 0, iB_ 0, iB_ 0, iB_ 0, iB_ 0, iB_ 0] 205 (0, 0)) : Nat × Obj)
abbrev nf_A_wl_B3 := fun z7 => ((z7, .cells #[iB_ 2, iB_ 0, iB_ 0, iB_ 0, iB_ 0, iB_ 0, .int .u16 0, .int .u16 0, iL_ 0, nl_, nl_, nl_, nl_, nl_] 131 (0, 0)) : Nat × Obj)
abbrev nf_A_wl_B4 := fun z7 => ((z7, .cells #[iB_ 2, iB_ 1, iB_ 0, iB_ 0, iB_ 0, iB_ 0, .int .u16 0, .int .u16 0, iL_ 0, nl_, nl_, nl_, nl_, nl_] 131 (0, 0)) : Nat × Obj)
abbrev nf_A_wl_B5 := fun z7 (abi : Nat) (abiv : Nat) => ((z7, .cells #[iB_ 2, iB_ 1, iB_ 1, u8_ abi, u8_ abiv, (boV false), .int .u16 0, .int .u16 0, iL_ 0, nl_, nl_, nl_, nl_, nl_] 131 (0, 0)) : Nat × Obj)
set_option maxRecDepth 100000 in
set_option maxHeartbeats 1000000 in
theorem nf_A_wl (l : List UInt8) (b o n c : Nat) (hl : n = l.length) (hnc : n ≤ c) (hn : 16 ≤ n) (abi abiv : Nat) (hid : (((l.drop 0).take 16).map Bv).toArray = #[iB_ 127, iB_ 69, iB_ 76, iB_ 70, iB_ 2, iB_ 1, iB_ 1, u8_ abi, u8_ abiv, iB_ 0, iB_ 0, iB_ 0, iB_ 0, iB_ 0, iB_ 0, iB_ 0]) {Q : Exit → Act → World → Prop} (w0 : World) (hbl : b < w0.heap.size) (hr : Row w0 (some ⟨b, o, none⟩) (l.map Bv)) (a : Act) (w : World) (HF : Fr 1287 a [(0, .iface 178 (.slice (some ⟨b, o, none⟩) n c))]) (HM : Mm [] w0 w [])
    (K : ∀ a w s fb, Fr 1287 a [(0, .iface 178 (.slice (some ⟨b, o, none⟩) n c)), (4, pt_ s), (8, pt_ fb), (9, (boV false))] → Mm [] w0 w [(fb, .cells #[iB_ 2, iB_ 1, iB_ 1, u8_ abi, u8_ abiv, (boV false), .int .u16 0, .int .u16 0, iL_ 0, nl_, nl_, nl_, nl_, nl_] 131 (0, 0)), nf_A_wl_B0 s b o n c] → (spine Tryd.f78 20).wp Tryd.prog Q a w) : (spine Tryd.f78 0).wp Tryd.prog Q a w := by
  refine reg_sym HF HM rfl [] (nf_A_wl_S1 b o n c) [] (by kernel_rfl) ?_
  clear HF HM; intro a w HF HM
  refine wp_seq (wp_region_lit ?_)
  refine wp_sym HF HM rfl 1 [] ((nf_A_wl_S1 b o n c) ++ [(57, .iface 178 (.slice (some ⟨b, o, none⟩) n c))]) [] (by kernel_rfl) ?_
  clear HF HM; intro a w HF HM
  refine wp_call HF (by kernel_rfl) 92 #[.iface 178 (.slice (some ⟨b, o, none⟩) n c), iI_ 0, iI_ 9223372036854775807] (by kernel_rfl) (fun w => by kernel_rfl) (Calls.mono (newSR_any 178 (.slice (some ⟨b, o, none⟩) n c) 0 9223372036854775807 (by omega) (by omega) (by omega) w) ?_)
  rintro _ w1 ⟨s, rfl, hb, hge, hgn⟩
  replace HM : Mm [] w0 w1 [nf_A_wl_B0 s b o n c] := HM.push hb hge hgn
  clear hb hge hgn
  refine ⟨_, rfl, ?_⟩; clear HF; intro a HF; replace HF := HF.sub ((nf_A_wl_S1 b o n c) ++ [(57, .iface 178 (.slice (some ⟨b, o, none⟩) n c)), (58, pt_ s)]) (by kernel_rfl)
  refine wp_sym HF HM rfl 1 [] ((nf_A_wl_S1 b o n c) ++ [(4, pt_ s)]) [nf_A_wl_B0 s b o n c] (by kernel_rfl) ?_
  clear HF HM; intro a w HF HM
  refine nil_then ?_
  obtain ⟨z4, hz4⟩ : ∃ z, w.heap.size = z := ⟨_, rfl⟩
  refine reg_sym HF HM hz4 [] ((nf_A_wl_S1 b o n c) ++ [(4, pt_ s), (5, pt_ z4)]) [(z4, .cells #[iB_ 0, iB_ 0, iB_ 0, iB_ 0, iB_ 0, iB_ 0, iB_ 0, iB_ 0, iB_ 0, iB_ 0, iB_ 0, iB_ 0, iB_ 0, iB_ 0, iB_ 0, iB_ 0] 205 (0, 0)), nf_A_wl_B0 s b o n c] (by kernel_rfl) ?_
  clear HF HM hz4; intro a w HF HM
  refine wp_seq ?_
  refine reg_plan HM (by kernel_rfl) [nf_A_wl_B0 s b o n c] [(0, false), (1, false), (2, false), (3, false), (4, false), (5, true), (6, false), (7, false), (8, false), (9, false), (10, false)] (by kernel_rfl) ?_
  clear HM; intro w2 HM
  refine plan_sym HF (HM.told [1] rfl) 5 [] ((nf_A_wl_S1 b o n c) ++ [(4, pt_ s), (5, pt_ z4), (60, .iface 178 (.slice (some ⟨b, o, none⟩) n c)), (61, sl_ z4 16 16), (64, .iface 178 (.slice (some ⟨b, o, none⟩) n c))]) (by kernel_rfl) ?_
  clear HF; intro a HF
  refine plan_force rfl ?_
  have hbi : b ≠ z4 := fun e => absurd hbl (Nat.not_lt_of_le (e ▸ HM.ge (i := 0) rfl))
  refine wp_call HF (by kernel_rfl) 127 #[.slice (some ⟨b, o, none⟩) n c, sl_ z4 16 16, i6_ 0] (by kernel_rfl) (fun w => by kernel_rfl) (Calls.mono (readAt_full l b o n c hl hnc z4 #[iB_ 0, iB_ 0, iB_ 0, iB_ 0, iB_ 0, iB_ 0, iB_ 0, iB_ 0, iB_ 0, iB_ 0, iB_ 0, iB_ 0, iB_ 0, iB_ 0, iB_ 0, iB_ 0] 205 16 16 rfl 0 (by omega) (by omega) w2 (HM.row hr (by intro b' o' s' _; simp)) hbi (HM.get (i := 0) rfl)) ?_)
  rintro _ w3 ⟨rfl, hkp, hgn⟩
  rw [hid] at hgn
  replace HM : Mm [] w0 w3 [nf_A_wl_B2 z4 abi abiv, nf_A_wl_B0 s b o n c] := HM.put (i := 0) rfl hgn hkp
  clear hkp hgn
  refine ⟨_, rfl, ?_⟩; clear HF; intro a HF; replace HF := HF.sub ((nf_A_wl_S1 b o n c) ++ [(4, pt_ s), (5, pt_ z4), (60, .iface 178 (.slice (some ⟨b, o, none⟩) n c)), (61, sl_ z4 16 16), (64, .iface 178 (.slice (some ⟨b, o, none⟩) n c)), (65, .tuple #[i6_ 16, .nilIface])]) (by kernel_rfl)
  refine only_end (HM.told [1] rfl) ?_
  refine plan_sym HF (HM.told [1] rfl) 5 [] ((nf_A_wl_S1 b o n c) ++ [(4, pt_ s), (5, pt_ z4), (7, .nilIface)]) (by kernel_rfl) ?_
  clear HF; intro a HF
  refine plan_end ?_
  refine then_norm ?_
  refine wp_seq (wp_region_lit ?_)
  refine wp_sym HF HM rfl 2 [] ((nf_A_wl_S1 b o n c) ++ [(4, pt_ s), (5, pt_ z4), (7, .nilIface), (69, .bool false)]) [nf_A_wl_B2 z4 abi abiv, nf_A_wl_B0 s b o n c] (by kernel_rfl) ?_
  clear HF HM; intro a w HF HM
  refine nil_then ?_
  refine wp_condF HF rfl ?_
  refine wp_skip ?_
  repeat (first | refine then_norm ?_ | refine inb_norm ?_)
  replace HF := HF.sub ((nf_A_wl_S1 b o n c) ++ [(4, pt_ s), (5, pt_ z4)]) (by kernel_rfl)
  refine wp_seq ?_
  refine wp_seq (wp_region_lit ?_)
  refine wp_sym HF HM rfl 18 [[1], [1], [1], [1]] ((nf_A_wl_S1 b o n c) ++ [(4, pt_ s), (5, pt_ z4), (91, .bool false)]) [nf_A_wl_B2 z4 abi abiv, nf_A_wl_B0 s b o n c] (by kernel_rfl) ?_
  clear HF HM; intro a w HF HM
  refine nil_then ?_
  refine wp_condF HF rfl ?_
  refine wp_skip ?_
  repeat (first | refine then_norm ?_ | refine inb_norm ?_)
  replace HF := HF.sub ((nf_A_wl_S1 b o n c) ++ [(4, pt_ s), (5, pt_ z4)]) (by kernel_rfl)
  obtain ⟨z7, hz7⟩ : ∃ z, w.heap.size = z := ⟨_, rfl⟩
  refine reg_sym HF HM hz7 [] ((nf_A_wl_S1 b o n c) ++ [(4, pt_ s), (5, pt_ z4), (8, pt_ z7)]) [(z7, .cells #[iB_ 0, iB_ 0, iB_ 0, iB_ 0, iB_ 0, iB_ 0, .int .u16 0, .int .u16 0, iL_ 0, nl_, nl_, nl_, nl_, nl_] 131 (0, 0)), nf_A_wl_B2 z4 abi abiv, nf_A_wl_B0 s b o n c] (by kernel_rfl) ?_
  clear HF HM hz7; intro a w HF HM
  refine reg_sym HF HM rfl [[1], [2]] ((nf_A_wl_S1 b o n c) ++ [(4, pt_ s), (5, pt_ z4), (8, pt_ z7)]) [nf_A_wl_B3 z7, nf_A_wl_B2 z4 abi abiv, nf_A_wl_B0 s b o n c] (by kernel_rfl) ?_
  clear HF HM; intro a w HF HM
  refine wp_seq ?_
  refine reg_sym HF HM rfl [[2]] ((nf_A_wl_S1 b o n c) ++ [(4, pt_ s), (5, pt_ z4), (8, pt_ z7), (108, iB_ 2)]) [nf_A_wl_B3 z7, nf_A_wl_B2 z4 abi abiv, nf_A_wl_B0 s b o n c] (by kernel_rfl) ?_
  clear HF HM; intro a w HF HM
  refine wp_block ?_
  refine reg_sym HF HM rfl [] ((nf_A_wl_S1 b o n c) ++ [(4, pt_ s), (5, pt_ z4), (8, pt_ z7), (108, iB_ 2), (118, .bool false)]) [nf_A_wl_B3 z7, nf_A_wl_B2 z4 abi abiv, nf_A_wl_B0 s b o n c] (by kernel_rfl) ?_
  clear HF HM; intro a w HF HM
  refine wp_condF HF rfl ?_
  refine reg_sym HF HM rfl [] ((nf_A_wl_S1 b o n c) ++ [(4, pt_ s), (5, pt_ z4), (8, pt_ z7), (108, iB_ 2), (120, .bool true)]) [nf_A_wl_B3 z7, nf_A_wl_B2 z4 abi abiv, nf_A_wl_B0 s b o n c] (by kernel_rfl) ?_
  clear HF HM; intro a w HF HM
  refine wp_condT HF rfl ?_
  refine wp_skip ?_
  repeat (first | refine then_norm ?_ | refine inb_norm ?_)
  replace HF := HF.sub ((nf_A_wl_S1 b o n c) ++ [(4, pt_ s), (5, pt_ z4), (8, pt_ z7)]) (by kernel_rfl)
  refine reg_sym HF HM rfl [[1], [2]] ((nf_A_wl_S1 b o n c) ++ [(4, pt_ s), (5, pt_ z4), (8, pt_ z7)]) [nf_A_wl_B4 z7, nf_A_wl_B2 z4 abi abiv, nf_A_wl_B0 s b o n c] (by kernel_rfl) ?_
  clear HF HM; intro a w HF HM
  refine reg_sym HF HM rfl [] ((nf_A_wl_S1 b o n c) ++ [(4, pt_ s), (5, pt_ z4), (8, pt_ z7), (9, iB_ 0)]) [nf_A_wl_B4 z7, nf_A_wl_B2 z4 abi abiv, nf_A_wl_B0 s b o n c] (by kernel_rfl) ?_
  clear HF HM; intro a w HF HM
  refine wp_seq ?_
  refine reg_sym HF HM rfl [[2]] ((nf_A_wl_S1 b o n c) ++ [(4, pt_ s), (5, pt_ z4), (8, pt_ z7), (9, iB_ 0), (132, iB_ 1)]) [nf_A_wl_B4 z7, nf_A_wl_B2 z4 abi abiv, nf_A_wl_B0 s b o n c] (by kernel_rfl) ?_
  clear HF HM; intro a w HF HM
  refine wp_block ?_
  refine reg_sym HF HM rfl [] ((nf_A_wl_S1 b o n c) ++ [(4, pt_ s), (5, pt_ z4), (8, pt_ z7), (9, iB_ 0), (132, iB_ 1), (142, .bool true)]) [nf_A_wl_B4 z7, nf_A_wl_B2 z4 abi abiv, nf_A_wl_B0 s b o n c] (by kernel_rfl) ?_
  clear HF HM; intro a w HF HM
  refine wp_condT HF rfl ?_
  refine reg_sym1 HF HM rfl [] ((nf_A_wl_S1 b o n c) ++ [(4, pt_ s), (5, pt_ z4), (8, pt_ z7), (9, (boV false))]) [nf_A_wl_B4 z7, nf_A_wl_B2 z4 abi abiv, nf_A_wl_B0 s b o n c] (by kernel_rfl) ?_
  clear HF HM; intro a w HF HM
  repeat (first | refine then_norm ?_ | refine inb_norm ?_)
  refine reg_sym HF HM rfl [[2]] ((nf_A_wl_S1 b o n c) ++ [(4, pt_ s), (5, pt_ z4), (8, pt_ z7), (9, (boV false))]) [(z7, .cells #[iB_ 2, iB_ 1, iB_ 0, iB_ 0, iB_ 0, (boV false), .int .u16 0, .int .u16 0, iL_ 0, nl_, nl_, nl_, nl_, nl_] 131 (0, 0)), nf_A_wl_B2 z4 abi abiv, nf_A_wl_B0 s b o n c] (by kernel_rfl) ?_
  clear HF HM; intro a w HF HM
  refine reg_sym HF HM rfl [[1], [2]] ((nf_A_wl_S1 b o n c) ++ [(4, pt_ s), (5, pt_ z4), (8, pt_ z7), (9, (boV false))]) [(z7, .cells #[iB_ 2, iB_ 1, iB_ 1, iB_ 0, iB_ 0, (boV false), .int .u16 0, .int .u16 0, iL_ 0, nl_, nl_, nl_, nl_, nl_] 131 (0, 0)), nf_A_wl_B2 z4 abi abiv, nf_A_wl_B0 s b o n c] (by kernel_rfl) ?_
  clear HF HM; intro a w HF HM
  refine wp_seq ?_
  refine reg_sym HF HM rfl [[2]] ((nf_A_wl_S1 b o n c) ++ [(4, pt_ s), (5, pt_ z4), (8, pt_ z7), (9, (boV false)), (162, .bool false)]) [(z7, .cells #[iB_ 2, iB_ 1, iB_ 1, iB_ 0, iB_ 0, (boV false), .int .u16 0, .int .u16 0, iL_ 0, nl_, nl_, nl_, nl_, nl_] 131 (0, 0)), nf_A_wl_B2 z4 abi abiv, nf_A_wl_B0 s b o n c] (by kernel_rfl) ?_
  clear HF HM; intro a w HF HM
  refine wp_condF HF rfl ?_
  refine wp_skip ?_
  repeat (first | refine then_norm ?_ | refine inb_norm ?_)
  replace HF := HF.sub ((nf_A_wl_S1 b o n c) ++ [(4, pt_ s), (5, pt_ z4), (8, pt_ z7), (9, (boV false))]) (by kernel_rfl)
  refine reg_sym HF HM rfl [[1], [2]] ((nf_A_wl_S1 b o n c) ++ [(4, pt_ s), (5, pt_ z4), (8, pt_ z7), (9, (boV false))]) [(z7, .cells #[iB_ 2, iB_ 1, iB_ 1, u8_ abi, iB_ 0, (boV false), .int .u16 0, .int .u16 0, iL_ 0, nl_, nl_, nl_, nl_, nl_] 131 (0, 0)), nf_A_wl_B2 z4 abi abiv, nf_A_wl_B0 s b o n c] (by kernel_rfl) ?_
  clear HF HM; intro a w HF HM
  refine reg_sym HF HM rfl [[1], [2]] ((nf_A_wl_S1 b o n c) ++ [(4, pt_ s), (8, pt_ z7), (9, (boV false))]) [nf_A_wl_B5 z7 abi abiv, nf_A_wl_B2 z4 abi abiv, nf_A_wl_B0 s b o n c] (by kernel_rfl) ?_
  clear HF HM; intro a w HF HM
  refine reg_sym HF HM rfl [] ((nf_A_wl_S1 b o n c) ++ [(4, pt_ s), (8, pt_ z7), (9, (boV false)), (10, iI_ 0)]) [nf_A_wl_B5 z7 abi abiv, nf_A_wl_B2 z4 abi abiv, nf_A_wl_B0 s b o n c] (by kernel_rfl) ?_
  clear HF HM; intro a w HF HM
  refine reg_sym HF HM rfl [] ((nf_A_wl_S1 b o n c) ++ [(4, pt_ s), (8, pt_ z7), (9, (boV false)), (10, iI_ 0), (11, iI_ 0), (12, iI_ 0)]) [nf_A_wl_B5 z7 abi abiv, nf_A_wl_B2 z4 abi abiv, nf_A_wl_B0 s b o n c] (by kernel_rfl) ?_
  clear HF HM; intro a w HF HM
  refine reg_sym HF HM rfl [] ((nf_A_wl_S1 b o n c) ++ [(4, pt_ s), (8, pt_ z7), (9, (boV false)), (10, iI_ 0), (11, iI_ 0), (12, iI_ 0), (13, iI_ 0)]) [nf_A_wl_B5 z7 abi abiv, nf_A_wl_B2 z4 abi abiv, nf_A_wl_B0 s b o n c] (by kernel_rfl) ?_
  clear HF HM; intro a w HF HM
  refine reg_sym HF HM rfl [] ((nf_A_wl_S1 b o n c) ++ [(4, pt_ s), (8, pt_ z7), (9, (boV false)), (10, iI_ 0), (11, iI_ 0), (12, iI_ 0), (13, iI_ 0), (14, iI_ 0), (15, iI_ 0), (16, iI_ 0)]) [nf_A_wl_B5 z7 abi abiv, nf_A_wl_B2 z4 abi abiv, nf_A_wl_B0 s b o n c] (by kernel_rfl) ?_
  clear HF HM; intro a w HF HM
  replace HF := HF.sub [(0, .iface 178 (.slice (some ⟨b, o, none⟩) n c)), (4, pt_ s), (8, pt_ z7), (9, (boV false))] (by kernel_rfl)
  exact K a w s z7 HF (HM.sub (List.Sublist.cons_cons _ (List.Sublist.cons _ (List.Sublist.refl _))))

abbrev nf_A_wb_B0 := fun s (b : Nat) (o : Nat) (n : Nat) (c : Nat) => ((s, .cells #[.iface 178 (.slice (some ⟨b, o, none⟩) n c), iI_ 0, iI_ 0, iI_ 9223372036854775807, iI_ 9223372036854775807] 246 (0, 0)) : Nat × Obj)
abbrev nf_A_wb_S1 := fun (b : Nat) (o : Nat) (n : Nat) (c : Nat) => ([(0, .iface 178 (.slice (some ⟨b, o, none⟩) n c)), (2, .pointer none), (3, .nilIface)] : Slots)
abbrev nf_A_wb_B2 := fun z4 (abi : Nat) (abiv : Nat) => ((z4, .cells #[iB_ 127, iB_ 69, iB_ 76, iB_ 70, iB_ 2, iB_ 2, iB_ 1, u8_ abi, u8_ abiv, iB_ 0, iB_ 0, iB_ 0, iB_ 0, iB_ 0, iB_ 0, iB_ 0] 205 (0, 0)) : Nat × Obj)
abbrev nf_A_wb_B3 := fun z7 => ((z7, .cells #[iB_ 2, iB_ 0, iB_ 0, iB_ 0, iB_ 0, iB_ 0, .int .u16 0, .int .u16 0, iL_ 0, nl_, nl_, nl_, nl_, nl_] 131 (0, 0)) : Nat × Obj)
abbrev nf_A_wb_B4 := fun z7 => ((z7, .cells #[iB_ 2, iB_ 2, iB_ 0, iB_ 0, iB_ 0, iB_ 0, .int .u16 0, .int .u16 0, iL_ 0, nl_, nl_, nl_, nl_, nl_] 131 (0, 0)) : Nat × Obj)
abbrev nf_A_wb_B5 := fun z7 (abi : Nat) (abiv : Nat) => ((z7, .cells #[iB_ 2, iB_ 2, iB_ 1, u8_ abi, u8_ abiv, (boV true), .int .u16 0, .int .u16 0, iL_ 0, nl_, nl_, nl_, nl_, nl_] 131 (0, 0)) : Nat × Obj)
set_option maxRecDepth 100000 in
set_option maxHeartbeats 1000000 in
theorem nf_A_wb (l : List UInt8) (b o n c : Nat) (hl : n = l.length) (hnc : n ≤ c) (hn : 16 ≤ n) (abi abiv : Nat) (hid : (((l.drop 0).take 16).map Bv).toArray = #[iB_ 127, iB_ 69, iB_ 76, iB_ 70, iB_ 2, iB_ 2, iB_ 1, u8_ abi, u8_ abiv, iB_ 0, iB_ 0, iB_ 0, iB_ 0, iB_ 0, iB_ 0, iB_ 0]) {Q : Exit → Act → World → Prop} (w0 : World) (hbl : b < w0.heap.size) (hr : Row w0 (some ⟨b, o, none⟩) (l.map Bv)) (a : Act) (w : World) (HF : Fr 1287 a [(0, .iface 178 (.slice (some ⟨b, o, none⟩) n c))]) (HM : Mm [] w0 w [])
    (K : ∀ a w s fb, Fr 1287 a [(0, .iface 178 (.slice (some ⟨b, o, none⟩) n c)), (4, pt_ s), (8, pt_ fb), (9, (boV true))] → Mm [] w0 w [(fb, .cells #[iB_ 2, iB_ 2, iB_ 1, u8_ abi, u8_ abiv, (boV true), .int .u16 0, .int .u16 0, iL_ 0, nl_, nl_, nl_, nl_, nl_] 131 (0, 0)), nf_A_wb_B0 s b o n c] → (spine Tryd.f78 20).wp Tryd.prog Q a w) : (spine Tryd.f78 0).wp Tryd.prog Q a w := by
  refine reg_sym HF HM rfl [] (nf_A_wb_S1 b o n c) [] (by kernel_rfl) ?_
  clear HF HM; intro a w HF HM
  refine wp_seq (wp_region_lit ?_)
  refine wp_sym HF HM rfl 1 [] ((nf_A_wb_S1 b o n c) ++ [(57, .iface 178 (.slice (some ⟨b, o, none⟩) n c))]) [] (by kernel_rfl) ?_
  clear HF HM; intro a w HF HM
  refine wp_call HF (by kernel_rfl) 92 #[.iface 178 (.slice (some ⟨b, o, none⟩) n c), iI_ 0, iI_ 9223372036854775807] (by kernel_rfl) (fun w => by kernel_rfl) (Calls.mono (newSR_any 178 (.slice (some ⟨b, o, none⟩) n c) 0 9223372036854775807 (by omega) (by omega) (by omega) w) ?_)
  rintro _ w1 ⟨s, rfl, hb, hge, hgn⟩
  replace HM : Mm [] w0 w1 [nf_A_wb_B0 s b o n c] := HM.push hb hge hgn
  clear hb hge hgn
  refine ⟨_, rfl, ?_⟩; clear HF; intro a HF; replace HF := HF.sub ((nf_A_wb_S1 b o n c) ++ [(57, .iface 178 (.slice (some ⟨b, o, none⟩) n c)), (58, pt_ s)]) (by kernel_rfl)
  refine wp_sym HF HM rfl 1 [] ((nf_A_wb_S1 b o n c) ++ [(4, pt_ s)]) [nf_A_wb_B0 s b o n c] (by kernel_rfl) ?_
  clear HF HM; intro a w HF HM
  refine nil_then ?_
  obtain ⟨z4, hz4⟩ : ∃ z, w.heap.size = z := ⟨_, rfl⟩
  refine reg_sym HF HM hz4 [] ((nf_A_wb_S1 b o n c) ++ [(4, pt_ s), (5, pt_ z4)]) [(z4, .cells #[iB_ 0, iB_ 0, iB_ 0, iB_ 0, iB_ 0, iB_ 0, iB_ 0, iB_ 0, iB_ 0, iB_ 0, iB_ 0, iB_ 0, iB_ 0, iB_ 0, iB_ 0, iB_ 0] 205 (0, 0)), nf_A_wb_B0 s b o n c] (by kernel_rfl) ?_
  clear HF HM hz4; intro a w HF HM
  refine wp_seq ?_
  refine reg_plan HM (by kernel_rfl) [nf_A_wb_B0 s b o n c] [(0, false), (1, false), (2, false), (3, false), (4, false), (5, true), (6, false), (7, false), (8, false), (9, false), (10, false)] (by kernel_rfl) ?_
  clear HM; intro w2 HM
  refine plan_sym HF (HM.told [1] rfl) 5 [] ((nf_A_wb_S1 b o n c) ++ [(4, pt_ s), (5, pt_ z4), (60, .iface 178 (.slice (some ⟨b, o, none⟩) n c)), (61, sl_ z4 16 16), (64, .iface 178 (.slice (some ⟨b, o, none⟩) n c))]) (by kernel_rfl) ?_
  clear HF; intro a HF
  refine plan_force rfl ?_
  have hbi : b ≠ z4 := fun e => absurd hbl (Nat.not_lt_of_le (e ▸ HM.ge (i := 0) rfl))
  refine wp_call HF (by kernel_rfl) 127 #[.slice (some ⟨b, o, none⟩) n c, sl_ z4 16 16, i6_ 0] (by kernel_rfl) (fun w => by kernel_rfl) (Calls.mono (readAt_full l b o n c hl hnc z4 #[iB_ 0, iB_ 0, iB_ 0, iB_ 0, iB_ 0, iB_ 0, iB_ 0, iB_ 0, iB_ 0, iB_ 0, iB_ 0, iB_ 0, iB_ 0, iB_ 0, iB_ 0, iB_ 0] 205 16 16 rfl 0 (by omega) (by omega) w2 (HM.row hr (by intro b' o' s' _; simp)) hbi (HM.get (i := 0) rfl)) ?_)
  rintro _ w3 ⟨rfl, hkp, hgn⟩
  rw [hid] at hgn
  replace HM : Mm [] w0 w3 [nf_A_wb_B2 z4 abi abiv, nf_A_wb_B0 s b o n c] := HM.put (i := 0) rfl hgn hkp
  clear hkp hgn
  refine ⟨_, rfl, ?_⟩; clear HF; intro a HF; replace HF := HF.sub ((nf_A_wb_S1 b o n c) ++ [(4, pt_ s), (5, pt_ z4), (60, .iface 178 (.slice (some ⟨b, o, none⟩) n c)), (61, sl_ z4 16 16), (64, .iface 178 (.slice (some ⟨b, o, none⟩) n c)), (65, .tuple #[i6_ 16, .nilIface])]) (by kernel_rfl)
  refine only_end (HM.told [1] rfl) ?_
  refine plan_sym HF (HM.told [1] rfl) 5 [] ((nf_A_wb_S1 b o n c) ++ [(4, pt_ s), (5, pt_ z4), (7, .nilIface)]) (by kernel_rfl) ?_
  clear HF; intro a HF
  refine plan_end ?_
  refine then_norm ?_
  refine wp_seq (wp_region_lit ?_)
  refine wp_sym HF HM rfl 2 [] ((nf_A_wb_S1 b o n c) ++ [(4, pt_ s), (5, pt_ z4), (7, .nilIface), (69, .bool false)]) [nf_A_wb_B2 z4 abi abiv, nf_A_wb_B0 s b o n c] (by kernel_rfl) ?_
  clear HF HM; intro a w HF HM
  refine nil_then ?_
  refine wp_condF HF rfl ?_
  refine wp_skip ?_
  repeat (first | refine then_norm ?_ | refine inb_norm ?_)
  replace HF := HF.sub ((nf_A_wb_S1 b o n c) ++ [(4, pt_ s), (5, pt_ z4)]) (by kernel_rfl)
  refine wp_seq ?_
  refine wp_seq (wp_region_lit ?_)
  refine wp_sym HF HM rfl 18 [[1], [1], [1], [1]] ((nf_A_wb_S1 b o n c) ++ [(4, pt_ s), (5, pt_ z4), (91, .bool false)]) [nf_A_wb_B2 z4 abi abiv, nf_A_wb_B0 s b o n c] (by kernel_rfl) ?_
  clear HF HM; intro a w HF HM
  refine nil_then ?_
  refine wp_condF HF rfl ?_
  refine wp_skip ?_
  repeat (first | refine then_norm ?_ | refine inb_norm ?_)
  replace HF := HF.sub ((nf_A_wb_S1 b o n c) ++ [(4, pt_ s), (5, pt_ z4)]) (by kernel_rfl)
  obtain ⟨z7, hz7⟩ : ∃ z, w.heap.size = z := ⟨_, rfl⟩
  refine reg_sym HF HM hz7 [] ((nf_A_wb_S1 b o n c) ++ [(4, pt_ s), (5, pt_ z4), (8, pt_ z7)]) [(z7, .cells #[iB_ 0, iB_ 0, iB_ 0, iB_ 0, iB_ 0, iB_ 0, .int .u16 0, .int .u16 0, iL_ 0, nl_, nl_, nl_, nl_, nl_] 131 (0, 0)), nf_A_wb_B2 z4 abi abiv, nf_A_wb_B0 s b o n c] (by kernel_rfl) ?_
  clear HF HM hz7; intro a w HF HM
  refine reg_sym HF HM rfl [[1], [2]] ((nf_A_wb_S1 b o n c) ++ [(4, pt_ s), (5, pt_ z4), (8, pt_ z7)]) [nf_A_wb_B3 z7, nf_A_wb_B2 z4 abi abiv, nf_A_wb_B0 s b o n c] (by kernel_rfl) ?_
  clear HF HM; intro a w HF HM
  refine wp_seq ?_
  refine reg_sym HF HM rfl [[2]] ((nf_A_wb_S1 b o n c) ++ [(4, pt_ s), (5, pt_ z4), (8, pt_ z7), (108, iB_ 2)]) [nf_A_wb_B3 z7, nf_A_wb_B2 z4 abi abiv, nf_A_wb_B0 s b o n c] (by kernel_rfl) ?_
  clear HF HM; intro a w HF HM
  refine wp_block ?_
  refine reg_sym HF HM rfl [] ((nf_A_wb_S1 b o n c) ++ [(4, pt_ s), (5, pt_ z4), (8, pt_ z7), (108, iB_ 2), (118, .bool false)]) [nf_A_wb_B3 z7, nf_A_wb_B2 z4 abi abiv, nf_A_wb_B0 s b o n c] (by kernel_rfl) ?_
  clear HF HM; intro a w HF HM
  refine wp_condF HF rfl ?_
  refine reg_sym HF HM rfl [] ((nf_A_wb_S1 b o n c) ++ [(4, pt_ s), (5, pt_ z4), (8, pt_ z7), (108, iB_ 2), (120, .bool true)]) [nf_A_wb_B3 z7, nf_A_wb_B2 z4 abi abiv, nf_A_wb_B0 s b o n c] (by kernel_rfl) ?_
  clear HF HM; intro a w HF HM
  refine wp_condT HF rfl ?_
  refine wp_skip ?_
  repeat (first | refine then_norm ?_ | refine inb_norm ?_)
  replace HF := HF.sub ((nf_A_wb_S1 b o n c) ++ [(4, pt_ s), (5, pt_ z4), (8, pt_ z7)]) (by kernel_rfl)
  refine reg_sym HF HM rfl [[1], [2]] ((nf_A_wb_S1 b o n c) ++ [(4, pt_ s), (5, pt_ z4), (8, pt_ z7)]) [nf_A_wb_B4 z7, nf_A_wb_B2 z4 abi abiv, nf_A_wb_B0 s b o n c] (by kernel_rfl) ?_
  clear HF HM; intro a w HF HM
  refine reg_sym HF HM rfl [] ((nf_A_wb_S1 b o n c) ++ [(4, pt_ s), (5, pt_ z4), (8, pt_ z7), (9, iB_ 0)]) [nf_A_wb_B4 z7, nf_A_wb_B2 z4 abi abiv, nf_A_wb_B0 s b o n c] (by kernel_rfl) ?_
  clear HF HM; intro a w HF HM
  refine wp_seq ?_
  refine reg_sym HF HM rfl [[2]] ((nf_A_wb_S1 b o n c) ++ [(4, pt_ s), (5, pt_ z4), (8, pt_ z7), (9, iB_ 0), (132, iB_ 2)]) [nf_A_wb_B4 z7, nf_A_wb_B2 z4 abi abiv, nf_A_wb_B0 s b o n c] (by kernel_rfl) ?_
  clear HF HM; intro a w HF HM
  refine wp_block ?_
  refine reg_sym HF HM rfl [] ((nf_A_wb_S1 b o n c) ++ [(4, pt_ s), (5, pt_ z4), (8, pt_ z7), (9, iB_ 0), (132, iB_ 2), (142, .bool false)]) [nf_A_wb_B4 z7, nf_A_wb_B2 z4 abi abiv, nf_A_wb_B0 s b o n c] (by kernel_rfl) ?_
  clear HF HM; intro a w HF HM
  refine wp_condF HF rfl ?_
  refine reg_sym HF HM rfl [] ((nf_A_wb_S1 b o n c) ++ [(4, pt_ s), (5, pt_ z4), (8, pt_ z7), (9, iB_ 0), (132, iB_ 2), (144, .bool true)]) [nf_A_wb_B4 z7, nf_A_wb_B2 z4 abi abiv, nf_A_wb_B0 s b o n c] (by kernel_rfl) ?_
  clear HF HM; intro a w HF HM
  refine wp_condT HF rfl ?_
  refine reg_sym1 HF HM rfl [] ((nf_A_wb_S1 b o n c) ++ [(4, pt_ s), (5, pt_ z4), (8, pt_ z7), (9, (boV true))]) [nf_A_wb_B4 z7, nf_A_wb_B2 z4 abi abiv, nf_A_wb_B0 s b o n c] (by kernel_rfl) ?_
  clear HF HM; intro a w HF HM
  repeat (first | refine then_norm ?_ | refine inb_norm ?_)
  refine reg_sym HF HM rfl [[2]] ((nf_A_wb_S1 b o n c) ++ [(4, pt_ s), (5, pt_ z4), (8, pt_ z7), (9, (boV true))]) [(z7, .cells #[iB_ 2, iB_ 2, iB_ 0, iB_ 0, iB_ 0, (boV true), .int .u16 0, .int .u16 0, iL_ 0, nl_, nl_, nl_, nl_, nl_] 131 (0, 0)), nf_A_wb_B2 z4 abi abiv, nf_A_wb_B0 s b o n c] (by kernel_rfl) ?_
  clear HF HM; intro a w HF HM
  refine reg_sym HF HM rfl [[1], [2]] ((nf_A_wb_S1 b o n c) ++ [(4, pt_ s), (5, pt_ z4), (8, pt_ z7), (9, (boV true))]) [(z7, .cells #[iB_ 2, iB_ 2, iB_ 1, iB_ 0, iB_ 0, (boV true), .int .u16 0, .int .u16 0, iL_ 0, nl_, nl_, nl_, nl_, nl_] 131 (0, 0)), nf_A_wb_B2 z4 abi abiv, nf_A_wb_B0 s b o n c] (by kernel_rfl) ?_
  clear HF HM; intro a w HF HM
  refine wp_seq ?_
  refine reg_sym HF HM rfl [[2]] ((nf_A_wb_S1 b o n c) ++ [(4, pt_ s), (5, pt_ z4), (8, pt_ z7), (9, (boV true)), (162, .bool false)]) [(z7, .cells #[iB_ 2, iB_ 2, iB_ 1, iB_ 0, iB_ 0, (boV true), .int .u16 0, .int .u16 0, iL_ 0, nl_, nl_, nl_, nl_, nl_] 131 (0, 0)), nf_A_wb_B2 z4 abi abiv, nf_A_wb_B0 s b o n c] (by kernel_rfl) ?_
  clear HF HM; intro a w HF HM
  refine wp_condF HF rfl ?_
  refine wp_skip ?_
  repeat (first | refine then_norm ?_ | refine inb_norm ?_)
  replace HF := HF.sub ((nf_A_wb_S1 b o n c) ++ [(4, pt_ s), (5, pt_ z4), (8, pt_ z7), (9, (boV true))]) (by kernel_rfl)
  refine reg_sym HF HM rfl [[1], [2]] ((nf_A_wb_S1 b o n c) ++ [(4, pt_ s), (5, pt_ z4), (8, pt_ z7), (9, (boV true))]) [(z7, .cells #[iB_ 2, iB_ 2, iB_ 1, u8_ abi, iB_ 0, (boV true), .int .u16 0, .int .u16 0, iL_ 0, nl_, nl_, nl_, nl_, nl_] 131 (0, 0)), nf_A_wb_B2 z4 abi abiv, nf_A_wb_B0 s b o n c] (by kernel_rfl) ?_
  clear HF HM; intro a w HF HM
  refine reg_sym HF HM rfl [[1], [2]] ((nf_A_wb_S1 b o n c) ++ [(4, pt_ s), (8, pt_ z7), (9, (boV true))]) [nf_A_wb_B5 z7 abi abiv, nf_A_wb_B2 z4 abi abiv, nf_A_wb_B0 s b o n c] (by kernel_rfl) ?_
  clear HF HM; intro a w HF HM
  refine reg_sym HF HM rfl [] ((nf_A_wb_S1 b o n c) ++ [(4, pt_ s), (8, pt_ z7), (9, (boV true)), (10, iI_ 0)]) [nf_A_wb_B5 z7 abi abiv, nf_A_wb_B2 z4 abi abiv, nf_A_wb_B0 s b o n c] (by kernel_rfl) ?_
  clear HF HM; intro a w HF HM
  refine reg_sym HF HM rfl [] ((nf_A_wb_S1 b o n c) ++ [(4, pt_ s), (8, pt_ z7), (9, (boV true)), (10, iI_ 0), (11, iI_ 0), (12, iI_ 0)]) [nf_A_wb_B5 z7 abi abiv, nf_A_wb_B2 z4 abi abiv, nf_A_wb_B0 s b o n c] (by kernel_rfl) ?_
  clear HF HM; intro a w HF HM
  refine reg_sym HF HM rfl [] ((nf_A_wb_S1 b o n c) ++ [(4, pt_ s), (8, pt_ z7), (9, (boV true)), (10, iI_ 0), (11, iI_ 0), (12, iI_ 0), (13, iI_ 0)]) [nf_A_wb_B5 z7 abi abiv, nf_A_wb_B2 z4 abi abiv, nf_A_wb_B0 s b o n c] (by kernel_rfl) ?_
  clear HF HM; intro a w HF HM
  refine reg_sym HF HM rfl [] ((nf_A_wb_S1 b o n c) ++ [(4, pt_ s), (8, pt_ z7), (9, (boV true)), (10, iI_ 0), (11, iI_ 0), (12, iI_ 0), (13, iI_ 0), (14, iI_ 0), (15, iI_ 0), (16, iI_ 0)]) [nf_A_wb_B5 z7 abi abiv, nf_A_wb_B2 z4 abi abiv, nf_A_wb_B0 s b o n c] (by kernel_rfl) ?_
  clear HF HM; intro a w HF HM
  replace HF := HF.sub [(0, .iface 178 (.slice (some ⟨b, o, none⟩) n c)), (4, pt_ s), (8, pt_ z7), (9, (boV true))] (by kernel_rfl)
  exact K a w s z7 HF (HM.sub (List.Sublist.cons_cons _ (List.Sublist.cons _ (List.Sublist.refl _))))

end Go.Proofs.YtdgehpocmfjbiaaDoor
namespace Go.Proofs.YtdgehpocmfjbiaaDoor
open Go.RowKit

theorem row_of_block {w : World} {g : Nat} {X : List UInt8} {t : TypeId} (hg : w.heap[g]? = some (.cells (X.map Bv).toArray t (0, 0))) : Row w (some ⟨g, 0, none⟩) (X.map Bv) :=
  Row.of_cells fun j hj => by
    rw [cell_of_row w g (0 + j) _ t (0, 0) hg, Nat.zero_add]
    have : j < X.length := by simpa using hj
    simp [this]
theorem u16_at {w : World} {g : Nat} {X : List UInt8} {t : TypeId} (hg : w.heap[g]? = some (.cells (X.map Bv).toArray t (0, 0))) (big : Bool) (k m : Nat) (hm : m + k = X.length) (hk : k + 2 ≤ X.length) (v : Int) (hv : ((num big X k 2 : Nat) : Int) = v) :
    Calls Tryd.prog 94 #[boV big, .slice (some ⟨g, k, none⟩) m m] w fun e w' => e = .returned (.int .u16 v) ∧ ∃ i, w' = w.drewN i := by
  have hr := (row_of_block hg).drop_at k
  rw [← List.map_drop, Nat.zero_add] at hr
  rw [← hv]
  exact uint16_any big (X.drop k) _ m m (by omega) (by simp; omega) w hr
theorem u32_at {w : World} {g : Nat} {X : List UInt8} {t : TypeId} (hg : w.heap[g]? = some (.cells (X.map Bv).toArray t (0, 0))) (hX : X.length ≤ maxLen) (big : Bool) (k m : Nat) (hm : m + k = X.length) (hk : k + 4 ≤ X.length) (v : Int) (hv : ((num big X k 4 : Nat) : Int) = v) :
    Calls Tryd.prog 87 #[boV big, .slice (some ⟨g, k, none⟩) m m] w fun e w' => e = .returned (.int .u32 v) ∧ ∃ i, w' = w.drewN i := by
  have hr := (row_of_block hg).drop_at k
  rw [← List.map_drop, Nat.zero_add] at hr
  rw [← hv]
  exact uint32_any big (X.drop k) _ m m (by omega) (by simp; omega) (Nat.le_refl _) (by omega) w hr
theorem u64_at {w : World} {g : Nat} {X : List UInt8} {t : TypeId} (hg : w.heap[g]? = some (.cells (X.map Bv).toArray t (0, 0))) (hX : X.length ≤ maxLen) (big : Bool) (k m : Nat) (hm : m + k = X.length) (hk : k + 8 ≤ X.length) (v : Int) (hv : ((num big X k 8 : Nat) : Int) = v) :
    Calls Tryd.prog 88 #[boV big, .slice (some ⟨g, k, none⟩) m m] w fun e w' => e = .returned (.int .u64 v) ∧ ∃ i, w' = w.drewN i := by
  have hr := (row_of_block hg).drop_at k
  rw [← List.map_drop, Nat.zero_add] at hr
  rw [← hv]
  exact uint64_any big (X.drop k) _ m m (by omega) (by simp; omega) (Nat.le_refl _) (by omega) w hr

abbrev nf_B_t_B0 := fun (fb : Nat) (dat : Int) (abi : Nat) (abiv : Nat) (big : Bool) => ((fb, .cells #[iB_ 1, .int .u8 dat, iB_ 1, u8_ abi, u8_ abiv, (boV big), .int .u16 0, .int .u16 0, iL_ 0, nl_, nl_, nl_, nl_, nl_] 131 (0, 0)) : Nat × Obj)
abbrev nf_B_t_B1 := fun (s : Nat) (b : Nat) (o : Nat) (n : Nat) (c : Nat) => ((s, .cells #[.iface 178 (.slice (some ⟨b, o, none⟩) n c), iI_ 0, iI_ 0, iI_ 9223372036854775807, iI_ 9223372036854775807] 246 (0, 0)) : Nat × Obj)
abbrev nf_B_t_S2 := fun (b : Nat) (o : Nat) (n : Nat) (c : Nat) (s : Nat) (fb : Nat) (big : Bool) => ([(0, .iface 178 (.slice (some ⟨b, o, none⟩) n c)), (4, pt_ s), (8, pt_ fb), (9, (boV big))] : Slots)
abbrev nf_B_t_B3 := fun (fb : Nat) (dat : Int) (abi : Nat) (abiv : Nat) (big : Bool) (tyN : Nat) (machN : Nat) (entryN : Nat) => ((fb, .cells #[iB_ 1, .int .u8 dat, iB_ 1, u8_ abi, u8_ abiv, (boV big), u2_ tyN, u2_ machN, u6_ entryN, nl_, nl_, nl_, nl_, nl_] 131 (0, 0)) : Nat × Obj)
abbrev nf_B_t_B4 := fun (fb : Nat) (dat : Int) (abi : Nat) (abiv : Nat) (big : Bool) (tyN : Nat) => ((fb, .cells #[iB_ 1, .int .u8 dat, iB_ 1, u8_ abi, u8_ abiv, (boV big), u2_ tyN, .int .u16 0, iL_ 0, nl_, nl_, nl_, nl_, nl_] 131 (0, 0)) : Nat × Obj)
abbrev nf_B_t_B5 := fun (fb : Nat) (dat : Int) (abi : Nat) (abiv : Nat) (big : Bool) (tyN : Nat) (machN : Nat) => ((fb, .cells #[iB_ 1, .int .u8 dat, iB_ 1, u8_ abi, u8_ abiv, (boV big), u2_ tyN, u2_ machN, iL_ 0, nl_, nl_, nl_, nl_, nl_] 131 (0, 0)) : Nat × Obj)
abbrev nf_B_t_S6 := fun (b : Nat) (o : Nat) (n : Nat) (c : Nat) (s : Nat) (fb : Nat) (big : Bool) g (phoffN : Nat) => ((nf_B_t_S2 b o n c s fb big) ++ [(17, sl_ g 52 52), (10, i6_ phoffN)] : Slots)
abbrev nf_B_t_S7 := fun (b : Nat) (o : Nat) (n : Nat) (c : Nat) (s : Nat) (fb : Nat) (big : Bool) g (phoffN : Nat) (phnumN : Nat) (shoffN : Nat) => ((nf_B_t_S6 b o n c s fb big g phoffN) ++ [(11, iI_ 32), (12, i6_ phnumN), (13, i6_ shoffN)] : Slots)
set_option maxRecDepth 100000 in
set_option maxHeartbeats 1000000 in
theorem nf_B_t (l : List UInt8) (b o n c : Nat) (hl : n = l.length) (hnc : n ≤ c) (hn : 52 ≤ n) (big : Bool) (abi abiv tyN machN entryN phoffN phnumN shoffN shnumN : Nat) (dat : Int) (H : HeadOk l false big abi abiv tyN machN entryN phoffN phnumN shoffN shnumN) (b1 : tyN < 65536) (b2 : machN < 65536) (b3 : entryN ≤ 18446744073709551615) (b4 : phoffN < 4611686018427387904) (b5 : shoffN < 4611686018427387904) (b6 : phnumN < 200) (b7 : shnumN < 200) {Q : Exit → Act → World → Prop} (w0 : World) (hbl : b < w0.heap.size) (hr : Row w0 (some ⟨b, o, none⟩) (l.map Bv)) (a : Act) (w : World) (s fb : Nat) (HF : Fr 1287 a (nf_B_t_S2 b o n c s fb big)) (HM : Mm [] w0 w [nf_B_t_B0 fb dat abi abiv big, nf_B_t_B1 s b o n c])
    (K : ∀ a w, Fr 1287 a ((nf_B_t_S2 b o n c s fb big) ++ [(10, i6_ phoffN), (11, iI_ 32), (12, i6_ phnumN), (13, i6_ shoffN), (14, iI_ 40), (15, i6_ shnumN), (16, i6_ (shnumN - 1))]) → Mm [] w0 w [nf_B_t_B3 fb dat abi abiv big tyN machN entryN, nf_B_t_B1 s b o n c] → (spine Tryd.f78 21).wp Tryd.prog Q a w) : (spine Tryd.f78 20).wp Tryd.prog Q a w := by
  obtain ⟨X, hX⟩ : ∃ X, (l.drop (0 + 0)).take 52 = X := ⟨_, rfl⟩
  have hXl : X.length = 52 := by rw [← hX]; simp; omega
  have hnum : ∀ k s, k + s ≤ 52 → num big X k s = num big l k s := fun k s h => by rw [← hX, Nat.zero_add, List.drop_zero, num_take _ _ _ _ _ h]
  have He : num big l 24 4 = entryN := H.entry
  have Hp : num big l 28 4 = phoffN := H.phoff
  have Hs : num big l 32 4 = shoffN := H.shoff
  have Hpe : num big l 42 2 = 32 := H.phent
  have Hpn : num big l 44 2 = phnumN := H.phnum
  have Hse : num big l 46 2 = 40 := H.shent
  have Hsn : num big l 48 2 = shnumN := H.shnum
  have Hst : num big l 50 2 = shnumN - 1 := H.shstr
  refine wp_seq ?_
  refine reg_sym HF HM rfl [[1]] ((nf_B_t_S2 b o n c s fb big) ++ [(188, iB_ 1)]) [nf_B_t_B0 fb dat abi abiv big, nf_B_t_B1 s b o n c] (by kernel_rfl) ?_
  clear HF HM; intro a w HF HM
  refine wp_block ?_
  refine reg_sym HF HM rfl [] ((nf_B_t_S2 b o n c s fb big) ++ [(188, iB_ 1), (189, .bool true)]) [nf_B_t_B0 fb dat abi abiv big, nf_B_t_B1 s b o n c] (by kernel_rfl) ?_
  clear HF HM; intro a w HF HM
  refine wp_condT HF rfl ?_
  replace HF := HF.sub (nf_B_t_S2 b o n c s fb big) (by kernel_rfl)
  refine wp_seq (wp_region_lit ?_)
  refine wp_make HF HM rfl _ _ 33 rfl rfl 5 (iB_ 0) 1 Tryd.underlying33 info_u8' rfl .i64 .i64 52 rfl rfl (by omega) (by omega) ?_
  intro a2 w1 g hgw hbel HM2 HF2; have hg0 : w0.heap.size ≤ g := Nat.le_trans HM.size hgw; clear HF HM hbel hgw; have HM := HM2; have HF := HF2; clear HM2 HF2
  replace HF := HF.sub ((nf_B_t_S2 b o n c s fb big) ++ [(191, sl_ g 52 52)]) (by kernel_rfl)
  refine wp_sym HF HM rfl 1 [] ((nf_B_t_S2 b o n c s fb big) ++ [(17, sl_ g 52 52)]) [(g, .cells (madeCells #[iB_ 0] 52) 5 (0, 0)), nf_B_t_B0 fb dat abi abiv big, nf_B_t_B1 s b o n c] (by kernel_rfl) ?_
  clear HF HM; intro a w HF HM
  refine nil_then ?_
  have hbg : b ≠ g := by omega
  have hbs : b ≠ s := fun e => absurd hbl (Nat.not_lt_of_le (e ▸ HM.ge (i := 2) rfl))
  refine wp_seq ?_
  refine wp_seq (wp_region_lit ?_)
  refine wp_sym HF HM rfl 2 [] ((nf_B_t_S2 b o n c s fb big) ++ [(17, sl_ g 52 52), (193, pt_ s), (194, sl_ g 52 52)]) [(g, .cells (madeCells #[iB_ 0] 52) 5 (0, 0)), nf_B_t_B0 fb dat abi abiv big, nf_B_t_B1 s b o n c] (by kernel_rfl) ?_
  clear HF HM; intro a w HF HM
  refine wp_call HF (by kernel_rfl) 93 #[pt_ s, sl_ g 52 52, i6_ 0] (by kernel_rfl) (fun w => by kernel_rfl) (Calls.mono (srAt_full l b o n c hl hnc g s _ 5 52 52 (madeCells_size' _ _) 0 0 0 9223372036854775807 9223372036854775807 (by omega) (by omega) (by omega) (by omega) (by omega) w (HM.row hr (by intro b' o' s' _; simp)) hbg hbs (HM.ne (i := 2) (j := 0) rfl rfl (by decide)) (HM.get (i := 2) rfl) (HM.get (i := 0) rfl)) ?_)
  rintro _ w2 ⟨rfl, hkp, hsn, hgn⟩
  rw [hX] at hgn
  replace HM : Mm [] w0 w2 [(g, .cells (X.map Bv).toArray 5 (0, 0)), nf_B_t_B0 fb dat abi abiv big, nf_B_t_B1 s b o n c] := HM.put2 (i := 2) (j := 0) rfl rfl (by decide) hsn hgn hkp
  clear hkp hsn hgn
  refine ⟨_, rfl, ?_⟩; clear HF; intro a HF; replace HF := HF.sub ((nf_B_t_S2 b o n c s fb big) ++ [(17, sl_ g 52 52), (193, pt_ s), (194, sl_ g 52 52), (195, .tuple #[i6_ 52, .nilIface])]) (by kernel_rfl)
  refine wp_sym HF HM rfl 5 [] ((nf_B_t_S2 b o n c s fb big) ++ [(17, sl_ g 52 52), (19, .nilIface)]) [(g, .cells (X.map Bv).toArray 5 (0, 0)), nf_B_t_B0 fb dat abi abiv big, nf_B_t_B1 s b o n c] (by kernel_rfl) ?_
  clear HF HM; intro a w HF HM
  refine nil_then ?_
  refine wp_seq (wp_region_lit ?_)
  refine wp_sym HF HM rfl 2 [] ((nf_B_t_S2 b o n c s fb big) ++ [(17, sl_ g 52 52), (19, .nilIface), (199, .bool false)]) [(g, .cells (X.map Bv).toArray 5 (0, 0)), nf_B_t_B0 fb dat abi abiv big, nf_B_t_B1 s b o n c] (by kernel_rfl) ?_
  clear HF HM; intro a w HF HM
  refine nil_then ?_
  refine wp_condF HF rfl ?_
  refine wp_skip ?_
  repeat (first | refine then_norm ?_ | refine inb_norm ?_)
  replace HF := HF.sub ((nf_B_t_S2 b o n c s fb big) ++ [(17, sl_ g 52 52)]) (by kernel_rfl)
  refine wp_seq (wp_region_lit ?_)
  refine wp_sym HF HM rfl 4 [] ((nf_B_t_S2 b o n c s fb big) ++ [(17, sl_ g 52 52), (201, pt_ fb), (202, (boV big)), (204, .slice (some ⟨g, 16, none⟩) 36 36)]) [(g, .cells (X.map Bv).toArray 5 (0, 0)), nf_B_t_B0 fb dat abi abiv big, nf_B_t_B1 s b o n c] (by kernel_rfl) ?_
  clear HF HM; intro a w HF HM
  refine wp_call HF (by kernel_rfl) 94 #[(boV big), .slice (some ⟨g, 16, none⟩) 36 36] (by kernel_rfl) (fun w => by kernel_rfl) (Calls.mono (u16_at (HM.get (i := 0) rfl) big 16 36 (by omega) (by omega) ((tyN : Nat) : Int) (by rw [hnum 16 2 (by omega), H.ty])) ?_)
  rintro _ w3 ⟨rfl, dk_, hq⟩
  replace HM : Mm [] w0 w3 [(g, .cells (X.map Bv).toArray 5 (0, 0)), nf_B_t_B0 fb dat abi abiv big, nf_B_t_B1 s b o n c] := by rw [hq]; exact HM.drewN _
  clear hq
  refine ⟨_, rfl, ?_⟩; clear HF; intro a HF; replace HF := HF.sub ((nf_B_t_S2 b o n c s fb big) ++ [(17, sl_ g 52 52), (201, pt_ fb), (202, (boV big)), (204, .slice (some ⟨g, 16, none⟩) 36 36), (205, u2_ tyN)]) (by kernel_rfl)
  replace HF := HF.sub ((nf_B_t_S2 b o n c s fb big) ++ [(17, sl_ g 52 52), (201, pt_ fb), (205, u2_ tyN)]) (by kernel_rfl)
  refine wp_sym HF HM rfl 4 [[1]] ((nf_B_t_S2 b o n c s fb big) ++ [(17, sl_ g 52 52)]) [(g, .cells (X.map Bv).toArray 5 (0, 0)), nf_B_t_B4 fb dat abi abiv big tyN, nf_B_t_B1 s b o n c] (by kernel_rfl) ?_
  clear HF HM; intro a w HF HM
  refine nil_then ?_
  refine wp_seq (wp_region_lit ?_)
  refine wp_sym HF HM rfl 4 [] ((nf_B_t_S2 b o n c s fb big) ++ [(17, sl_ g 52 52), (209, pt_ fb), (210, (boV big)), (212, .slice (some ⟨g, 18, none⟩) 34 34)]) [(g, .cells (X.map Bv).toArray 5 (0, 0)), nf_B_t_B4 fb dat abi abiv big tyN, nf_B_t_B1 s b o n c] (by kernel_rfl) ?_
  clear HF HM; intro a w HF HM
  refine wp_call HF (by kernel_rfl) 94 #[(boV big), .slice (some ⟨g, 18, none⟩) 34 34] (by kernel_rfl) (fun w => by kernel_rfl) (Calls.mono (u16_at (HM.get (i := 0) rfl) big 18 34 (by omega) (by omega) ((machN : Nat) : Int) (by rw [hnum 18 2 (by omega), H.machine])) ?_)
  rintro _ w4 ⟨rfl, dk_, hq⟩
  replace HM : Mm [] w0 w4 [(g, .cells (X.map Bv).toArray 5 (0, 0)), nf_B_t_B4 fb dat abi abiv big tyN, nf_B_t_B1 s b o n c] := by rw [hq]; exact HM.drewN _
  clear hq
  refine ⟨_, rfl, ?_⟩; clear HF; intro a HF; replace HF := HF.sub ((nf_B_t_S2 b o n c s fb big) ++ [(17, sl_ g 52 52), (209, pt_ fb), (210, (boV big)), (212, .slice (some ⟨g, 18, none⟩) 34 34), (213, u2_ machN)]) (by kernel_rfl)
  replace HF := HF.sub ((nf_B_t_S2 b o n c s fb big) ++ [(17, sl_ g 52 52), (209, pt_ fb), (213, u2_ machN)]) (by kernel_rfl)
  refine wp_sym HF HM rfl 4 [[1]] ((nf_B_t_S2 b o n c s fb big) ++ [(17, sl_ g 52 52)]) [(g, .cells (X.map Bv).toArray 5 (0, 0)), nf_B_t_B5 fb dat abi abiv big tyN machN, nf_B_t_B1 s b o n c] (by kernel_rfl) ?_
  clear HF HM; intro a w HF HM
  refine nil_then ?_
  refine wp_seq (wp_region_lit ?_)
  refine wp_sym HF HM rfl 4 [] ((nf_B_t_S2 b o n c s fb big) ++ [(17, sl_ g 52 52), (217, pt_ fb), (218, (boV big)), (220, .slice (some ⟨g, 24, none⟩) 28 28)]) [(g, .cells (X.map Bv).toArray 5 (0, 0)), nf_B_t_B5 fb dat abi abiv big tyN machN, nf_B_t_B1 s b o n c] (by kernel_rfl) ?_
  clear HF HM; intro a w HF HM
  refine wp_call HF (by kernel_rfl) 87 #[(boV big), .slice (some ⟨g, 24, none⟩) 28 28] (by kernel_rfl) (fun w => by kernel_rfl) (Calls.mono (u32_at (HM.get (i := 0) rfl) (by unfold maxLen; omega) big 24 28 (by omega) (by omega) ((entryN : Nat) : Int) (by rw [hnum 24 4 (by omega), He])) ?_)
  rintro _ w5 ⟨rfl, dk_, hq⟩
  replace HM : Mm [] w0 w5 [(g, .cells (X.map Bv).toArray 5 (0, 0)), nf_B_t_B5 fb dat abi abiv big tyN machN, nf_B_t_B1 s b o n c] := by rw [hq]; exact HM.drewN _
  clear hq
  refine ⟨_, rfl, ?_⟩; clear HF; intro a HF; replace HF := HF.sub ((nf_B_t_S2 b o n c s fb big) ++ [(17, sl_ g 52 52), (217, pt_ fb), (218, (boV big)), (220, .slice (some ⟨g, 24, none⟩) 28 28), (221, u3_ entryN)]) (by kernel_rfl)
  replace HF := HF.sub ((nf_B_t_S2 b o n c s fb big) ++ [(17, sl_ g 52 52), (217, pt_ fb), (221, u3_ entryN)]) (by kernel_rfl)
  refine wp_sym HF HM rfl 1 [] ((nf_B_t_S2 b o n c s fb big) ++ [(17, sl_ g 52 52), (217, pt_ fb), (222, iL_ (IntKind.u64.wrap ((entryN : Nat) : Int)))]) [(g, .cells (X.map Bv).toArray 5 (0, 0)), nf_B_t_B5 fb dat abi abiv big tyN machN, nf_B_t_B1 s b o n c] (by kernel_rfl) ?_
  clear HF HM; intro a w HF HM
  rw [show IntKind.u64.wrap ((entryN : Nat) : Int) = ((entryN : Nat) : Int) from IntWalk.u64_in _ (by omega)] at HF
  refine wp_sym HF HM rfl 4 [[1]] ((nf_B_t_S2 b o n c s fb big) ++ [(17, sl_ g 52 52)]) [(g, .cells (X.map Bv).toArray 5 (0, 0)), nf_B_t_B3 fb dat abi abiv big tyN machN entryN, nf_B_t_B1 s b o n c] (by kernel_rfl) ?_
  clear HF HM; intro a w HF HM
  refine nil_then ?_
  refine wp_seq ?_
  refine wp_seq (wp_region_lit ?_)
  refine wp_sym HF HM rfl 3 [] ((nf_B_t_S2 b o n c s fb big) ++ [(17, sl_ g 52 52), (226, (boV big)), (228, .slice (some ⟨g, 20, none⟩) 32 32)]) [(g, .cells (X.map Bv).toArray 5 (0, 0)), nf_B_t_B3 fb dat abi abiv big tyN machN entryN, nf_B_t_B1 s b o n c] (by kernel_rfl) ?_
  clear HF HM; intro a w HF HM
  refine wp_call HF (by kernel_rfl) 87 #[(boV big), .slice (some ⟨g, 20, none⟩) 32 32] (by kernel_rfl) (fun w => by kernel_rfl) (Calls.mono (u32_at (HM.get (i := 0) rfl) (by unfold maxLen; omega) big 20 32 (by omega) (by omega) ((1 : Nat) : Int) (by rw [hnum 20 4 (by omega), H.ver])) ?_)
  rintro _ w6 ⟨rfl, dk_, hq⟩
  replace HM : Mm [] w0 w6 [(g, .cells (X.map Bv).toArray 5 (0, 0)), nf_B_t_B3 fb dat abi abiv big tyN machN entryN, nf_B_t_B1 s b o n c] := by rw [hq]; exact HM.drewN _
  clear hq
  refine ⟨_, rfl, ?_⟩; clear HF; intro a HF; replace HF := HF.sub ((nf_B_t_S2 b o n c s fb big) ++ [(17, sl_ g 52 52), (226, (boV big)), (228, .slice (some ⟨g, 20, none⟩) 32 32), (229, u3_ 1)]) (by kernel_rfl)
  replace HF := HF.sub ((nf_B_t_S2 b o n c s fb big) ++ [(17, sl_ g 52 52), (229, u3_ 1)]) (by kernel_rfl)
  refine wp_sym HF HM rfl 2 [] ((nf_B_t_S2 b o n c s fb big) ++ [(17, sl_ g 52 52), (20, iB_ 1)]) [(g, .cells (X.map Bv).toArray 5 (0, 0)), nf_B_t_B3 fb dat abi abiv big tyN machN entryN, nf_B_t_B1 s b o n c] (by kernel_rfl) ?_
  clear HF HM; intro a w HF HM
  refine nil_then ?_
  refine wp_seq (wp_region_lit ?_)
  refine wp_sym HF HM rfl 7 [[1]] ((nf_B_t_S2 b o n c s fb big) ++ [(17, sl_ g 52 52), (237, .bool false)]) [(g, .cells (X.map Bv).toArray 5 (0, 0)), nf_B_t_B3 fb dat abi abiv big tyN machN entryN, nf_B_t_B1 s b o n c] (by kernel_rfl) ?_
  clear HF HM; intro a w HF HM
  refine nil_then ?_
  refine wp_condF HF rfl ?_
  refine wp_skip ?_
  repeat (first | refine then_norm ?_ | refine inb_norm ?_)
  replace HF := HF.sub ((nf_B_t_S2 b o n c s fb big) ++ [(17, sl_ g 52 52)]) (by kernel_rfl)
  refine wp_seq (wp_region_lit ?_)
  refine wp_sym HF HM rfl 3 [] ((nf_B_t_S2 b o n c s fb big) ++ [(17, sl_ g 52 52), (243, (boV big)), (245, .slice (some ⟨g, 28, none⟩) 24 24)]) [(g, .cells (X.map Bv).toArray 5 (0, 0)), nf_B_t_B3 fb dat abi abiv big tyN machN entryN, nf_B_t_B1 s b o n c] (by kernel_rfl) ?_
  clear HF HM; intro a w HF HM
  refine wp_call HF (by kernel_rfl) 87 #[(boV big), .slice (some ⟨g, 28, none⟩) 24 24] (by kernel_rfl) (fun w => by kernel_rfl) (Calls.mono (u32_at (HM.get (i := 0) rfl) (by unfold maxLen; omega) big 28 24 (by omega) (by omega) ((phoffN : Nat) : Int) (by rw [hnum 28 4 (by omega), Hp])) ?_)
  rintro _ w7 ⟨rfl, dk_, hq⟩
  replace HM : Mm [] w0 w7 [(g, .cells (X.map Bv).toArray 5 (0, 0)), nf_B_t_B3 fb dat abi abiv big tyN machN entryN, nf_B_t_B1 s b o n c] := by rw [hq]; exact HM.drewN _
  clear hq
  refine ⟨_, rfl, ?_⟩; clear HF; intro a HF; replace HF := HF.sub ((nf_B_t_S2 b o n c s fb big) ++ [(17, sl_ g 52 52), (243, (boV big)), (245, .slice (some ⟨g, 28, none⟩) 24 24), (246, u3_ phoffN)]) (by kernel_rfl)
  replace HF := HF.sub ((nf_B_t_S2 b o n c s fb big) ++ [(17, sl_ g 52 52), (246, u3_ phoffN)]) (by kernel_rfl)
  refine wp_sym HF HM rfl 1 [] ((nf_B_t_S2 b o n c s fb big) ++ [(17, sl_ g 52 52), (247, iI_ (IntKind.i64.wrap ((phoffN : Nat) : Int)))]) [(g, .cells (X.map Bv).toArray 5 (0, 0)), nf_B_t_B3 fb dat abi abiv big tyN machN entryN, nf_B_t_B1 s b o n c] (by kernel_rfl) ?_
  clear HF HM; intro a w HF HM
  rw [show IntKind.i64.wrap ((phoffN : Nat) : Int) = ((phoffN : Nat) : Int) from IntWalk.i64_in _ (by omega)] at HF
  refine wp_sym HF HM rfl 1 [] (nf_B_t_S6 b o n c s fb big g phoffN) [(g, .cells (X.map Bv).toArray 5 (0, 0)), nf_B_t_B3 fb dat abi abiv big tyN machN entryN, nf_B_t_B1 s b o n c] (by kernel_rfl) ?_
  clear HF HM; intro a w HF HM
  refine nil_then ?_
  refine wp_seq (wp_region_lit ?_)
  refine wp_sym HF HM rfl 3 [] ((nf_B_t_S6 b o n c s fb big g phoffN) ++ [(248, (boV big)), (250, .slice (some ⟨g, 42, none⟩) 10 10)]) [(g, .cells (X.map Bv).toArray 5 (0, 0)), nf_B_t_B3 fb dat abi abiv big tyN machN entryN, nf_B_t_B1 s b o n c] (by kernel_rfl) ?_
  clear HF HM; intro a w HF HM
  refine wp_call HF (by kernel_rfl) 94 #[(boV big), .slice (some ⟨g, 42, none⟩) 10 10] (by kernel_rfl) (fun w => by kernel_rfl) (Calls.mono (u16_at (HM.get (i := 0) rfl) big 42 10 (by omega) (by omega) ((32 : Nat) : Int) (by rw [hnum 42 2 (by omega), Hpe])) ?_)
  rintro _ w8 ⟨rfl, dk_, hq⟩
  replace HM : Mm [] w0 w8 [(g, .cells (X.map Bv).toArray 5 (0, 0)), nf_B_t_B3 fb dat abi abiv big tyN machN entryN, nf_B_t_B1 s b o n c] := by rw [hq]; exact HM.drewN _
  clear hq
  refine ⟨_, rfl, ?_⟩; clear HF; intro a HF; replace HF := HF.sub ((nf_B_t_S6 b o n c s fb big g phoffN) ++ [(248, (boV big)), (250, .slice (some ⟨g, 42, none⟩) 10 10), (251, u2_ 32)]) (by kernel_rfl)
  replace HF := HF.sub ((nf_B_t_S6 b o n c s fb big g phoffN) ++ [(251, u2_ 32)]) (by kernel_rfl)
  refine wp_sym HF HM rfl 2 [] ((nf_B_t_S6 b o n c s fb big g phoffN) ++ [(11, iI_ 32)]) [(g, .cells (X.map Bv).toArray 5 (0, 0)), nf_B_t_B3 fb dat abi abiv big tyN machN entryN, nf_B_t_B1 s b o n c] (by kernel_rfl) ?_
  clear HF HM; intro a w HF HM
  refine nil_then ?_
  refine wp_seq (wp_region_lit ?_)
  refine wp_sym HF HM rfl 3 [] ((nf_B_t_S6 b o n c s fb big g phoffN) ++ [(11, iI_ 32), (253, (boV big)), (255, .slice (some ⟨g, 44, none⟩) 8 8)]) [(g, .cells (X.map Bv).toArray 5 (0, 0)), nf_B_t_B3 fb dat abi abiv big tyN machN entryN, nf_B_t_B1 s b o n c] (by kernel_rfl) ?_
  clear HF HM; intro a w HF HM
  refine wp_call HF (by kernel_rfl) 94 #[(boV big), .slice (some ⟨g, 44, none⟩) 8 8] (by kernel_rfl) (fun w => by kernel_rfl) (Calls.mono (u16_at (HM.get (i := 0) rfl) big 44 8 (by omega) (by omega) ((phnumN : Nat) : Int) (by rw [hnum 44 2 (by omega), Hpn])) ?_)
  rintro _ w9 ⟨rfl, dk_, hq⟩
  replace HM : Mm [] w0 w9 [(g, .cells (X.map Bv).toArray 5 (0, 0)), nf_B_t_B3 fb dat abi abiv big tyN machN entryN, nf_B_t_B1 s b o n c] := by rw [hq]; exact HM.drewN _
  clear hq
  refine ⟨_, rfl, ?_⟩; clear HF; intro a HF; replace HF := HF.sub ((nf_B_t_S6 b o n c s fb big g phoffN) ++ [(11, iI_ 32), (253, (boV big)), (255, .slice (some ⟨g, 44, none⟩) 8 8), (256, u2_ phnumN)]) (by kernel_rfl)
  replace HF := HF.sub ((nf_B_t_S6 b o n c s fb big g phoffN) ++ [(11, iI_ 32), (256, u2_ phnumN)]) (by kernel_rfl)
  refine wp_sym HF HM rfl 1 [] ((nf_B_t_S6 b o n c s fb big g phoffN) ++ [(11, iI_ 32), (257, iI_ (IntKind.i64.wrap ((phnumN : Nat) : Int)))]) [(g, .cells (X.map Bv).toArray 5 (0, 0)), nf_B_t_B3 fb dat abi abiv big tyN machN entryN, nf_B_t_B1 s b o n c] (by kernel_rfl) ?_
  clear HF HM; intro a w HF HM
  rw [show IntKind.i64.wrap ((phnumN : Nat) : Int) = ((phnumN : Nat) : Int) from IntWalk.i64_in _ (by omega)] at HF
  refine wp_sym HF HM rfl 1 [] ((nf_B_t_S6 b o n c s fb big g phoffN) ++ [(11, iI_ 32), (12, i6_ phnumN)]) [(g, .cells (X.map Bv).toArray 5 (0, 0)), nf_B_t_B3 fb dat abi abiv big tyN machN entryN, nf_B_t_B1 s b o n c] (by kernel_rfl) ?_
  clear HF HM; intro a w HF HM
  refine nil_then ?_
  refine wp_seq (wp_region_lit ?_)
  refine wp_sym HF HM rfl 3 [] ((nf_B_t_S6 b o n c s fb big g phoffN) ++ [(11, iI_ 32), (12, i6_ phnumN), (258, (boV big)), (260, .slice (some ⟨g, 32, none⟩) 20 20)]) [(g, .cells (X.map Bv).toArray 5 (0, 0)), nf_B_t_B3 fb dat abi abiv big tyN machN entryN, nf_B_t_B1 s b o n c] (by kernel_rfl) ?_
  clear HF HM; intro a w HF HM
  refine wp_call HF (by kernel_rfl) 87 #[(boV big), .slice (some ⟨g, 32, none⟩) 20 20] (by kernel_rfl) (fun w => by kernel_rfl) (Calls.mono (u32_at (HM.get (i := 0) rfl) (by unfold maxLen; omega) big 32 20 (by omega) (by omega) ((shoffN : Nat) : Int) (by rw [hnum 32 4 (by omega), Hs])) ?_)
  rintro _ w10 ⟨rfl, dk_, hq⟩
  replace HM : Mm [] w0 w10 [(g, .cells (X.map Bv).toArray 5 (0, 0)), nf_B_t_B3 fb dat abi abiv big tyN machN entryN, nf_B_t_B1 s b o n c] := by rw [hq]; exact HM.drewN _
  clear hq
  refine ⟨_, rfl, ?_⟩; clear HF; intro a HF; replace HF := HF.sub ((nf_B_t_S6 b o n c s fb big g phoffN) ++ [(11, iI_ 32), (12, i6_ phnumN), (258, (boV big)), (260, .slice (some ⟨g, 32, none⟩) 20 20), (261, u3_ shoffN)]) (by kernel_rfl)
  replace HF := HF.sub ((nf_B_t_S6 b o n c s fb big g phoffN) ++ [(11, iI_ 32), (12, i6_ phnumN), (261, u3_ shoffN)]) (by kernel_rfl)
  refine wp_sym HF HM rfl 1 [] ((nf_B_t_S6 b o n c s fb big g phoffN) ++ [(11, iI_ 32), (12, i6_ phnumN), (262, iI_ (IntKind.i64.wrap ((shoffN : Nat) : Int)))]) [(g, .cells (X.map Bv).toArray 5 (0, 0)), nf_B_t_B3 fb dat abi abiv big tyN machN entryN, nf_B_t_B1 s b o n c] (by kernel_rfl) ?_
  clear HF HM; intro a w HF HM
  rw [show IntKind.i64.wrap ((shoffN : Nat) : Int) = ((shoffN : Nat) : Int) from IntWalk.i64_in _ (by omega)] at HF
  refine wp_sym HF HM rfl 1 [] (nf_B_t_S7 b o n c s fb big g phoffN phnumN shoffN) [(g, .cells (X.map Bv).toArray 5 (0, 0)), nf_B_t_B3 fb dat abi abiv big tyN machN entryN, nf_B_t_B1 s b o n c] (by kernel_rfl) ?_
  clear HF HM; intro a w HF HM
  refine nil_then ?_
  refine wp_seq (wp_region_lit ?_)
  refine wp_sym HF HM rfl 3 [] ((nf_B_t_S7 b o n c s fb big g phoffN phnumN shoffN) ++ [(263, (boV big)), (265, .slice (some ⟨g, 46, none⟩) 6 6)]) [(g, .cells (X.map Bv).toArray 5 (0, 0)), nf_B_t_B3 fb dat abi abiv big tyN machN entryN, nf_B_t_B1 s b o n c] (by kernel_rfl) ?_
  clear HF HM; intro a w HF HM
  refine wp_call HF (by kernel_rfl) 94 #[(boV big), .slice (some ⟨g, 46, none⟩) 6 6] (by kernel_rfl) (fun w => by kernel_rfl) (Calls.mono (u16_at (HM.get (i := 0) rfl) big 46 6 (by omega) (by omega) ((40 : Nat) : Int) (by rw [hnum 46 2 (by omega), Hse])) ?_)
  rintro _ w11 ⟨rfl, dk_, hq⟩
  replace HM : Mm [] w0 w11 [(g, .cells (X.map Bv).toArray 5 (0, 0)), nf_B_t_B3 fb dat abi abiv big tyN machN entryN, nf_B_t_B1 s b o n c] := by rw [hq]; exact HM.drewN _
  clear hq
  refine ⟨_, rfl, ?_⟩; clear HF; intro a HF; replace HF := HF.sub ((nf_B_t_S7 b o n c s fb big g phoffN phnumN shoffN) ++ [(263, (boV big)), (265, .slice (some ⟨g, 46, none⟩) 6 6), (266, u2_ 40)]) (by kernel_rfl)
  replace HF := HF.sub ((nf_B_t_S7 b o n c s fb big g phoffN phnumN shoffN) ++ [(266, u2_ 40)]) (by kernel_rfl)
  refine wp_sym HF HM rfl 2 [] ((nf_B_t_S7 b o n c s fb big g phoffN phnumN shoffN) ++ [(14, iI_ 40)]) [(g, .cells (X.map Bv).toArray 5 (0, 0)), nf_B_t_B3 fb dat abi abiv big tyN machN entryN, nf_B_t_B1 s b o n c] (by kernel_rfl) ?_
  clear HF HM; intro a w HF HM
  refine nil_then ?_
  refine wp_seq (wp_region_lit ?_)
  refine wp_sym HF HM rfl 3 [] ((nf_B_t_S7 b o n c s fb big g phoffN phnumN shoffN) ++ [(14, iI_ 40), (268, (boV big)), (270, .slice (some ⟨g, 48, none⟩) 4 4)]) [(g, .cells (X.map Bv).toArray 5 (0, 0)), nf_B_t_B3 fb dat abi abiv big tyN machN entryN, nf_B_t_B1 s b o n c] (by kernel_rfl) ?_
  clear HF HM; intro a w HF HM
  refine wp_call HF (by kernel_rfl) 94 #[(boV big), .slice (some ⟨g, 48, none⟩) 4 4] (by kernel_rfl) (fun w => by kernel_rfl) (Calls.mono (u16_at (HM.get (i := 0) rfl) big 48 4 (by omega) (by omega) ((shnumN : Nat) : Int) (by rw [hnum 48 2 (by omega), Hsn])) ?_)
  rintro _ w12 ⟨rfl, dk_, hq⟩
  replace HM : Mm [] w0 w12 [(g, .cells (X.map Bv).toArray 5 (0, 0)), nf_B_t_B3 fb dat abi abiv big tyN machN entryN, nf_B_t_B1 s b o n c] := by rw [hq]; exact HM.drewN _
  clear hq
  refine ⟨_, rfl, ?_⟩; clear HF; intro a HF; replace HF := HF.sub ((nf_B_t_S7 b o n c s fb big g phoffN phnumN shoffN) ++ [(14, iI_ 40), (268, (boV big)), (270, .slice (some ⟨g, 48, none⟩) 4 4), (271, u2_ shnumN)]) (by kernel_rfl)
  replace HF := HF.sub ((nf_B_t_S7 b o n c s fb big g phoffN phnumN shoffN) ++ [(14, iI_ 40), (271, u2_ shnumN)]) (by kernel_rfl)
  refine wp_sym HF HM rfl 1 [] ((nf_B_t_S7 b o n c s fb big g phoffN phnumN shoffN) ++ [(14, iI_ 40), (272, iI_ (IntKind.i64.wrap ((shnumN : Nat) : Int)))]) [(g, .cells (X.map Bv).toArray 5 (0, 0)), nf_B_t_B3 fb dat abi abiv big tyN machN entryN, nf_B_t_B1 s b o n c] (by kernel_rfl) ?_
  clear HF HM; intro a w HF HM
  rw [show IntKind.i64.wrap ((shnumN : Nat) : Int) = ((shnumN : Nat) : Int) from IntWalk.i64_in _ (by omega)] at HF
  refine wp_sym HF HM rfl 1 [] ((nf_B_t_S7 b o n c s fb big g phoffN phnumN shoffN) ++ [(14, iI_ 40), (15, i6_ shnumN)]) [(g, .cells (X.map Bv).toArray 5 (0, 0)), nf_B_t_B3 fb dat abi abiv big tyN machN entryN, nf_B_t_B1 s b o n c] (by kernel_rfl) ?_
  clear HF HM; intro a w HF HM
  refine nil_then ?_
  refine wp_region_lit ?_
  refine wp_sym HF HM rfl 3 [] ((nf_B_t_S7 b o n c s fb big g phoffN phnumN shoffN) ++ [(14, iI_ 40), (15, i6_ shnumN), (273, (boV big)), (275, .slice (some ⟨g, 50, none⟩) 2 2)]) [(g, .cells (X.map Bv).toArray 5 (0, 0)), nf_B_t_B3 fb dat abi abiv big tyN machN entryN, nf_B_t_B1 s b o n c] (by kernel_rfl) ?_
  clear HF HM; intro a w HF HM
  refine wp_call HF (by kernel_rfl) 94 #[(boV big), .slice (some ⟨g, 50, none⟩) 2 2] (by kernel_rfl) (fun w => by kernel_rfl) (Calls.mono (u16_at (HM.get (i := 0) rfl) big 50 2 (by omega) (by omega) (((shnumN - 1) : Nat) : Int) (by rw [hnum 50 2 (by omega), Hst])) ?_)
  rintro _ w13 ⟨rfl, dk_, hq⟩
  replace HM : Mm [] w0 w13 [(g, .cells (X.map Bv).toArray 5 (0, 0)), nf_B_t_B3 fb dat abi abiv big tyN machN entryN, nf_B_t_B1 s b o n c] := by rw [hq]; exact HM.drewN _
  clear hq
  refine ⟨_, rfl, ?_⟩; clear HF; intro a HF; replace HF := HF.sub ((nf_B_t_S7 b o n c s fb big g phoffN phnumN shoffN) ++ [(14, iI_ 40), (15, i6_ shnumN), (273, (boV big)), (275, .slice (some ⟨g, 50, none⟩) 2 2), (276, u2_ (shnumN - 1))]) (by kernel_rfl)
  replace HF := HF.sub ((nf_B_t_S7 b o n c s fb big g phoffN phnumN shoffN) ++ [(14, iI_ 40), (15, i6_ shnumN), (276, u2_ (shnumN - 1))]) (by kernel_rfl)
  refine wp_sym HF HM rfl 1 [] ((nf_B_t_S7 b o n c s fb big g phoffN phnumN shoffN) ++ [(14, iI_ 40), (15, i6_ shnumN), (277, iI_ (IntKind.i64.wrap (((shnumN - 1) : Nat) : Int)))]) [(g, .cells (X.map Bv).toArray 5 (0, 0)), nf_B_t_B3 fb dat abi abiv big tyN machN entryN, nf_B_t_B1 s b o n c] (by kernel_rfl) ?_
  clear HF HM; intro a w HF HM
  rw [show IntKind.i64.wrap (((shnumN - 1) : Nat) : Int) = (((shnumN - 1) : Nat) : Int) from IntWalk.i64_in _ (by omega)] at HF
  refine wp_sym HF HM rfl 1 [] ((nf_B_t_S7 b o n c s fb big g phoffN phnumN shoffN) ++ [(14, iI_ 40), (15, i6_ shnumN), (16, i6_ (shnumN - 1))]) [(g, .cells (X.map Bv).toArray 5 (0, 0)), nf_B_t_B3 fb dat abi abiv big tyN machN entryN, nf_B_t_B1 s b o n c] (by kernel_rfl) ?_
  clear HF HM; intro a w HF HM
  refine wpList_nil ?_
  repeat (first | refine then_norm ?_ | refine inb_norm ?_)
  replace HF := HF.sub ((nf_B_t_S2 b o n c s fb big) ++ [(10, i6_ phoffN), (11, iI_ 32), (12, i6_ phnumN), (13, i6_ shoffN), (14, iI_ 40), (15, i6_ shnumN), (16, i6_ (shnumN - 1))]) (by kernel_rfl)
  exact K a w HF (HM.sub (List.Sublist.cons _ (List.Sublist.refl _)))

abbrev nf_B_w_B0 := fun (fb : Nat) (dat : Int) (abi : Nat) (abiv : Nat) (big : Bool) => ((fb, .cells #[iB_ 2, .int .u8 dat, iB_ 1, u8_ abi, u8_ abiv, (boV big), .int .u16 0, .int .u16 0, iL_ 0, nl_, nl_, nl_, nl_, nl_] 131 (0, 0)) : Nat × Obj)
abbrev nf_B_w_B1 := fun (s : Nat) (b : Nat) (o : Nat) (n : Nat) (c : Nat) => ((s, .cells #[.iface 178 (.slice (some ⟨b, o, none⟩) n c), iI_ 0, iI_ 0, iI_ 9223372036854775807, iI_ 9223372036854775807] 246 (0, 0)) : Nat × Obj)
abbrev nf_B_w_S2 := fun (b : Nat) (o : Nat) (n : Nat) (c : Nat) (s : Nat) (fb : Nat) (big : Bool) => ([(0, .iface 178 (.slice (some ⟨b, o, none⟩) n c)), (4, pt_ s), (8, pt_ fb), (9, (boV big))] : Slots)
abbrev nf_B_w_B3 := fun (fb : Nat) (dat : Int) (abi : Nat) (abiv : Nat) (big : Bool) (tyN : Nat) (machN : Nat) (entryN : Nat) => ((fb, .cells #[iB_ 2, .int .u8 dat, iB_ 1, u8_ abi, u8_ abiv, (boV big), u2_ tyN, u2_ machN, u6_ entryN, nl_, nl_, nl_, nl_, nl_] 131 (0, 0)) : Nat × Obj)
abbrev nf_B_w_B4 := fun (fb : Nat) (dat : Int) (abi : Nat) (abiv : Nat) (big : Bool) (tyN : Nat) => ((fb, .cells #[iB_ 2, .int .u8 dat, iB_ 1, u8_ abi, u8_ abiv, (boV big), u2_ tyN, .int .u16 0, iL_ 0, nl_, nl_, nl_, nl_, nl_] 131 (0, 0)) : Nat × Obj)
abbrev nf_B_w_B5 := fun (fb : Nat) (dat : Int) (abi : Nat) (abiv : Nat) (big : Bool) (tyN : Nat) (machN : Nat) => ((fb, .cells #[iB_ 2, .int .u8 dat, iB_ 1, u8_ abi, u8_ abiv, (boV big), u2_ tyN, u2_ machN, iL_ 0, nl_, nl_, nl_, nl_, nl_] 131 (0, 0)) : Nat × Obj)
abbrev nf_B_w_S6 := fun (b : Nat) (o : Nat) (n : Nat) (c : Nat) (s : Nat) (fb : Nat) (big : Bool) g (phoffN : Nat) => ((nf_B_w_S2 b o n c s fb big) ++ [(21, sl_ g 64 64), (10, i6_ phoffN)] : Slots)
abbrev nf_B_w_S7 := fun (b : Nat) (o : Nat) (n : Nat) (c : Nat) (s : Nat) (fb : Nat) (big : Bool) g (phoffN : Nat) (phnumN : Nat) (shoffN : Nat) => ((nf_B_w_S6 b o n c s fb big g phoffN) ++ [(11, iI_ 56), (12, i6_ phnumN), (13, i6_ shoffN)] : Slots)
set_option maxRecDepth 100000 in
set_option maxHeartbeats 1000000 in
theorem nf_B_w (l : List UInt8) (b o n c : Nat) (hl : n = l.length) (hnc : n ≤ c) (hn : 64 ≤ n) (big : Bool) (abi abiv tyN machN entryN phoffN phnumN shoffN shnumN : Nat) (dat : Int) (H : HeadOk l true big abi abiv tyN machN entryN phoffN phnumN shoffN shnumN) (b1 : tyN < 65536) (b2 : machN < 65536) (b3 : entryN ≤ 18446744073709551615) (b4 : phoffN < 4611686018427387904) (b5 : shoffN < 4611686018427387904) (b6 : phnumN < 200) (b7 : shnumN < 200) {Q : Exit → Act → World → Prop} (w0 : World) (hbl : b < w0.heap.size) (hr : Row w0 (some ⟨b, o, none⟩) (l.map Bv)) (a : Act) (w : World) (s fb : Nat) (HF : Fr 1287 a (nf_B_w_S2 b o n c s fb big)) (HM : Mm [] w0 w [nf_B_w_B0 fb dat abi abiv big, nf_B_w_B1 s b o n c])
    (K : ∀ a w, Fr 1287 a ((nf_B_w_S2 b o n c s fb big) ++ [(10, i6_ phoffN), (11, iI_ 56), (12, i6_ phnumN), (13, i6_ shoffN), (14, iI_ 64), (15, i6_ shnumN), (16, i6_ (shnumN - 1))]) → Mm [] w0 w [nf_B_w_B3 fb dat abi abiv big tyN machN entryN, nf_B_w_B1 s b o n c] → (spine Tryd.f78 21).wp Tryd.prog Q a w) : (spine Tryd.f78 20).wp Tryd.prog Q a w := by
  obtain ⟨X, hX⟩ : ∃ X, (l.drop (0 + 0)).take 64 = X := ⟨_, rfl⟩
  have hXl : X.length = 64 := by rw [← hX]; simp; omega
  have hnum : ∀ k s, k + s ≤ 64 → num big X k s = num big l k s := fun k s h => by rw [← hX, Nat.zero_add, List.drop_zero, num_take _ _ _ _ _ h]
  have He : num big l 24 8 = entryN := H.entry
  have Hp : num big l 32 8 = phoffN := H.phoff
  have Hs : num big l 40 8 = shoffN := H.shoff
  have Hpe : num big l 54 2 = 56 := H.phent
  have Hpn : num big l 56 2 = phnumN := H.phnum
  have Hse : num big l 58 2 = 64 := H.shent
  have Hsn : num big l 60 2 = shnumN := H.shnum
  have Hst : num big l 62 2 = shnumN - 1 := H.shstr
  refine wp_seq ?_
  refine reg_sym HF HM rfl [[1]] ((nf_B_w_S2 b o n c s fb big) ++ [(188, iB_ 2)]) [nf_B_w_B0 fb dat abi abiv big, nf_B_w_B1 s b o n c] (by kernel_rfl) ?_
  clear HF HM; intro a w HF HM
  refine wp_block ?_
  refine reg_sym HF HM rfl [] ((nf_B_w_S2 b o n c s fb big) ++ [(188, iB_ 2), (189, .bool false)]) [nf_B_w_B0 fb dat abi abiv big, nf_B_w_B1 s b o n c] (by kernel_rfl) ?_
  clear HF HM; intro a w HF HM
  refine wp_condF HF rfl ?_
  refine reg_sym HF HM rfl [] ((nf_B_w_S2 b o n c s fb big) ++ [(188, iB_ 2), (278, .bool true)]) [nf_B_w_B0 fb dat abi abiv big, nf_B_w_B1 s b o n c] (by kernel_rfl) ?_
  clear HF HM; intro a w HF HM
  refine wp_condT HF rfl ?_
  replace HF := HF.sub (nf_B_w_S2 b o n c s fb big) (by kernel_rfl)
  refine wp_seq (wp_region_lit ?_)
  refine wp_make HF HM rfl _ _ 33 rfl rfl 5 (iB_ 0) 1 Tryd.underlying33 info_u8' rfl .i64 .i64 64 rfl rfl (by omega) (by omega) ?_
  intro a2 w1 g hgw hbel HM2 HF2; have hg0 : w0.heap.size ≤ g := Nat.le_trans HM.size hgw; clear HF HM hbel hgw; have HM := HM2; have HF := HF2; clear HM2 HF2
  replace HF := HF.sub ((nf_B_w_S2 b o n c s fb big) ++ [(280, sl_ g 64 64)]) (by kernel_rfl)
  refine wp_sym HF HM rfl 1 [] ((nf_B_w_S2 b o n c s fb big) ++ [(21, sl_ g 64 64)]) [(g, .cells (madeCells #[iB_ 0] 64) 5 (0, 0)), nf_B_w_B0 fb dat abi abiv big, nf_B_w_B1 s b o n c] (by kernel_rfl) ?_
  clear HF HM; intro a w HF HM
  refine nil_then ?_
  have hbg : b ≠ g := by omega
  have hbs : b ≠ s := fun e => absurd hbl (Nat.not_lt_of_le (e ▸ HM.ge (i := 2) rfl))
  refine wp_seq ?_
  refine wp_seq (wp_region_lit ?_)
  refine wp_sym HF HM rfl 2 [] ((nf_B_w_S2 b o n c s fb big) ++ [(21, sl_ g 64 64), (282, pt_ s), (283, sl_ g 64 64)]) [(g, .cells (madeCells #[iB_ 0] 64) 5 (0, 0)), nf_B_w_B0 fb dat abi abiv big, nf_B_w_B1 s b o n c] (by kernel_rfl) ?_
  clear HF HM; intro a w HF HM
  refine wp_call HF (by kernel_rfl) 93 #[pt_ s, sl_ g 64 64, i6_ 0] (by kernel_rfl) (fun w => by kernel_rfl) (Calls.mono (srAt_full l b o n c hl hnc g s _ 5 64 64 (madeCells_size' _ _) 0 0 0 9223372036854775807 9223372036854775807 (by omega) (by omega) (by omega) (by omega) (by omega) w (HM.row hr (by intro b' o' s' _; simp)) hbg hbs (HM.ne (i := 2) (j := 0) rfl rfl (by decide)) (HM.get (i := 2) rfl) (HM.get (i := 0) rfl)) ?_)
  rintro _ w2 ⟨rfl, hkp, hsn, hgn⟩
  rw [hX] at hgn
  replace HM : Mm [] w0 w2 [(g, .cells (X.map Bv).toArray 5 (0, 0)), nf_B_w_B0 fb dat abi abiv big, nf_B_w_B1 s b o n c] := HM.put2 (i := 2) (j := 0) rfl rfl (by decide) hsn hgn hkp
  clear hkp hsn hgn
  refine ⟨_, rfl, ?_⟩; clear HF; intro a HF; replace HF := HF.sub ((nf_B_w_S2 b o n c s fb big) ++ [(21, sl_ g 64 64), (282, pt_ s), (283, sl_ g 64 64), (284, .tuple #[i6_ 64, .nilIface])]) (by kernel_rfl)
  refine wp_sym HF HM rfl 5 [] ((nf_B_w_S2 b o n c s fb big) ++ [(21, sl_ g 64 64), (23, .nilIface)]) [(g, .cells (X.map Bv).toArray 5 (0, 0)), nf_B_w_B0 fb dat abi abiv big, nf_B_w_B1 s b o n c] (by kernel_rfl) ?_
  clear HF HM; intro a w HF HM
  refine nil_then ?_
  refine wp_seq (wp_region_lit ?_)
  refine wp_sym HF HM rfl 2 [] ((nf_B_w_S2 b o n c s fb big) ++ [(21, sl_ g 64 64), (23, .nilIface), (288, .bool false)]) [(g, .cells (X.map Bv).toArray 5 (0, 0)), nf_B_w_B0 fb dat abi abiv big, nf_B_w_B1 s b o n c] (by kernel_rfl) ?_
  clear HF HM; intro a w HF HM
  refine nil_then ?_
  refine wp_condF HF rfl ?_
  refine wp_skip ?_
  repeat (first | refine then_norm ?_ | refine inb_norm ?_)
  replace HF := HF.sub ((nf_B_w_S2 b o n c s fb big) ++ [(21, sl_ g 64 64)]) (by kernel_rfl)
  refine wp_seq (wp_region_lit ?_)
  refine wp_sym HF HM rfl 4 [] ((nf_B_w_S2 b o n c s fb big) ++ [(21, sl_ g 64 64), (290, pt_ fb), (291, (boV big)), (293, .slice (some ⟨g, 16, none⟩) 48 48)]) [(g, .cells (X.map Bv).toArray 5 (0, 0)), nf_B_w_B0 fb dat abi abiv big, nf_B_w_B1 s b o n c] (by kernel_rfl) ?_
  clear HF HM; intro a w HF HM
  refine wp_call HF (by kernel_rfl) 94 #[(boV big), .slice (some ⟨g, 16, none⟩) 48 48] (by kernel_rfl) (fun w => by kernel_rfl) (Calls.mono (u16_at (HM.get (i := 0) rfl) big 16 48 (by omega) (by omega) ((tyN : Nat) : Int) (by rw [hnum 16 2 (by omega), H.ty])) ?_)
  rintro _ w3 ⟨rfl, dk_, hq⟩
  replace HM : Mm [] w0 w3 [(g, .cells (X.map Bv).toArray 5 (0, 0)), nf_B_w_B0 fb dat abi abiv big, nf_B_w_B1 s b o n c] := by rw [hq]; exact HM.drewN _
  clear hq
  refine ⟨_, rfl, ?_⟩; clear HF; intro a HF; replace HF := HF.sub ((nf_B_w_S2 b o n c s fb big) ++ [(21, sl_ g 64 64), (290, pt_ fb), (291, (boV big)), (293, .slice (some ⟨g, 16, none⟩) 48 48), (294, u2_ tyN)]) (by kernel_rfl)
  replace HF := HF.sub ((nf_B_w_S2 b o n c s fb big) ++ [(21, sl_ g 64 64), (290, pt_ fb), (294, u2_ tyN)]) (by kernel_rfl)
  refine wp_sym HF HM rfl 4 [[1]] ((nf_B_w_S2 b o n c s fb big) ++ [(21, sl_ g 64 64)]) [(g, .cells (X.map Bv).toArray 5 (0, 0)), nf_B_w_B4 fb dat abi abiv big tyN, nf_B_w_B1 s b o n c] (by kernel_rfl) ?_
  clear HF HM; intro a w HF HM
  refine nil_then ?_
  refine wp_seq (wp_region_lit ?_)
  refine wp_sym HF HM rfl 4 [] ((nf_B_w_S2 b o n c s fb big) ++ [(21, sl_ g 64 64), (298, pt_ fb), (299, (boV big)), (301, .slice (some ⟨g, 18, none⟩) 46 46)]) [(g, .cells (X.map Bv).toArray 5 (0, 0)), nf_B_w_B4 fb dat abi abiv big tyN, nf_B_w_B1 s b o n c] (by kernel_rfl) ?_
  clear HF HM; intro a w HF HM
  refine wp_call HF (by kernel_rfl) 94 #[(boV big), .slice (some ⟨g, 18, none⟩) 46 46] (by kernel_rfl) (fun w => by kernel_rfl) (Calls.mono (u16_at (HM.get (i := 0) rfl) big 18 46 (by omega) (by omega) ((machN : Nat) : Int) (by rw [hnum 18 2 (by omega), H.machine])) ?_)
  rintro _ w4 ⟨rfl, dk_, hq⟩
  replace HM : Mm [] w0 w4 [(g, .cells (X.map Bv).toArray 5 (0, 0)), nf_B_w_B4 fb dat abi abiv big tyN, nf_B_w_B1 s b o n c] := by rw [hq]; exact HM.drewN _
  clear hq
  refine ⟨_, rfl, ?_⟩; clear HF; intro a HF; replace HF := HF.sub ((nf_B_w_S2 b o n c s fb big) ++ [(21, sl_ g 64 64), (298, pt_ fb), (299, (boV big)), (301, .slice (some ⟨g, 18, none⟩) 46 46), (302, u2_ machN)]) (by kernel_rfl)
  replace HF := HF.sub ((nf_B_w_S2 b o n c s fb big) ++ [(21, sl_ g 64 64), (298, pt_ fb), (302, u2_ machN)]) (by kernel_rfl)
  refine wp_sym HF HM rfl 4 [[1]] ((nf_B_w_S2 b o n c s fb big) ++ [(21, sl_ g 64 64)]) [(g, .cells (X.map Bv).toArray 5 (0, 0)), nf_B_w_B5 fb dat abi abiv big tyN machN, nf_B_w_B1 s b o n c] (by kernel_rfl) ?_
  clear HF HM; intro a w HF HM
  refine nil_then ?_
  refine wp_seq (wp_region_lit ?_)
  refine wp_sym HF HM rfl 4 [] ((nf_B_w_S2 b o n c s fb big) ++ [(21, sl_ g 64 64), (306, pt_ fb), (307, (boV big)), (309, .slice (some ⟨g, 24, none⟩) 40 40)]) [(g, .cells (X.map Bv).toArray 5 (0, 0)), nf_B_w_B5 fb dat abi abiv big tyN machN, nf_B_w_B1 s b o n c] (by kernel_rfl) ?_
  clear HF HM; intro a w HF HM
  refine wp_call HF (by kernel_rfl) 88 #[(boV big), .slice (some ⟨g, 24, none⟩) 40 40] (by kernel_rfl) (fun w => by kernel_rfl) (Calls.mono (u64_at (HM.get (i := 0) rfl) (by unfold maxLen; omega) big 24 40 (by omega) (by omega) ((entryN : Nat) : Int) (by rw [hnum 24 8 (by omega), He])) ?_)
  rintro _ w5 ⟨rfl, dk_, hq⟩
  replace HM : Mm [] w0 w5 [(g, .cells (X.map Bv).toArray 5 (0, 0)), nf_B_w_B5 fb dat abi abiv big tyN machN, nf_B_w_B1 s b o n c] := by rw [hq]; exact HM.drewN _
  clear hq
  refine ⟨_, rfl, ?_⟩; clear HF; intro a HF; replace HF := HF.sub ((nf_B_w_S2 b o n c s fb big) ++ [(21, sl_ g 64 64), (306, pt_ fb), (307, (boV big)), (309, .slice (some ⟨g, 24, none⟩) 40 40), (310, u6_ entryN)]) (by kernel_rfl)
  replace HF := HF.sub ((nf_B_w_S2 b o n c s fb big) ++ [(21, sl_ g 64 64), (306, pt_ fb), (310, u6_ entryN)]) (by kernel_rfl)
  refine wp_sym HF HM rfl 4 [[1]] ((nf_B_w_S2 b o n c s fb big) ++ [(21, sl_ g 64 64)]) [(g, .cells (X.map Bv).toArray 5 (0, 0)), nf_B_w_B3 fb dat abi abiv big tyN machN entryN, nf_B_w_B1 s b o n c] (by kernel_rfl) ?_
  clear HF HM; intro a w HF HM
  refine nil_then ?_
  refine wp_seq ?_
  refine wp_seq (wp_region_lit ?_)
  refine wp_sym HF HM rfl 3 [] ((nf_B_w_S2 b o n c s fb big) ++ [(21, sl_ g 64 64), (314, (boV big)), (316, .slice (some ⟨g, 20, none⟩) 44 44)]) [(g, .cells (X.map Bv).toArray 5 (0, 0)), nf_B_w_B3 fb dat abi abiv big tyN machN entryN, nf_B_w_B1 s b o n c] (by kernel_rfl) ?_
  clear HF HM; intro a w HF HM
  refine wp_call HF (by kernel_rfl) 87 #[(boV big), .slice (some ⟨g, 20, none⟩) 44 44] (by kernel_rfl) (fun w => by kernel_rfl) (Calls.mono (u32_at (HM.get (i := 0) rfl) (by unfold maxLen; omega) big 20 44 (by omega) (by omega) ((1 : Nat) : Int) (by rw [hnum 20 4 (by omega), H.ver])) ?_)
  rintro _ w6 ⟨rfl, dk_, hq⟩
  replace HM : Mm [] w0 w6 [(g, .cells (X.map Bv).toArray 5 (0, 0)), nf_B_w_B3 fb dat abi abiv big tyN machN entryN, nf_B_w_B1 s b o n c] := by rw [hq]; exact HM.drewN _
  clear hq
  refine ⟨_, rfl, ?_⟩; clear HF; intro a HF; replace HF := HF.sub ((nf_B_w_S2 b o n c s fb big) ++ [(21, sl_ g 64 64), (314, (boV big)), (316, .slice (some ⟨g, 20, none⟩) 44 44), (317, u3_ 1)]) (by kernel_rfl)
  replace HF := HF.sub ((nf_B_w_S2 b o n c s fb big) ++ [(21, sl_ g 64 64), (317, u3_ 1)]) (by kernel_rfl)
  refine wp_sym HF HM rfl 2 [] ((nf_B_w_S2 b o n c s fb big) ++ [(21, sl_ g 64 64), (24, iB_ 1)]) [(g, .cells (X.map Bv).toArray 5 (0, 0)), nf_B_w_B3 fb dat abi abiv big tyN machN entryN, nf_B_w_B1 s b o n c] (by kernel_rfl) ?_
  clear HF HM; intro a w HF HM
  refine nil_then ?_
  refine wp_seq (wp_region_lit ?_)
  refine wp_sym HF HM rfl 7 [[1]] ((nf_B_w_S2 b o n c s fb big) ++ [(21, sl_ g 64 64), (325, .bool false)]) [(g, .cells (X.map Bv).toArray 5 (0, 0)), nf_B_w_B3 fb dat abi abiv big tyN machN entryN, nf_B_w_B1 s b o n c] (by kernel_rfl) ?_
  clear HF HM; intro a w HF HM
  refine nil_then ?_
  refine wp_condF HF rfl ?_
  refine wp_skip ?_
  repeat (first | refine then_norm ?_ | refine inb_norm ?_)
  replace HF := HF.sub ((nf_B_w_S2 b o n c s fb big) ++ [(21, sl_ g 64 64)]) (by kernel_rfl)
  refine wp_seq (wp_region_lit ?_)
  refine wp_sym HF HM rfl 3 [] ((nf_B_w_S2 b o n c s fb big) ++ [(21, sl_ g 64 64), (331, (boV big)), (333, .slice (some ⟨g, 32, none⟩) 32 32)]) [(g, .cells (X.map Bv).toArray 5 (0, 0)), nf_B_w_B3 fb dat abi abiv big tyN machN entryN, nf_B_w_B1 s b o n c] (by kernel_rfl) ?_
  clear HF HM; intro a w HF HM
  refine wp_call HF (by kernel_rfl) 88 #[(boV big), .slice (some ⟨g, 32, none⟩) 32 32] (by kernel_rfl) (fun w => by kernel_rfl) (Calls.mono (u64_at (HM.get (i := 0) rfl) (by unfold maxLen; omega) big 32 32 (by omega) (by omega) ((phoffN : Nat) : Int) (by rw [hnum 32 8 (by omega), Hp])) ?_)
  rintro _ w7 ⟨rfl, dk_, hq⟩
  replace HM : Mm [] w0 w7 [(g, .cells (X.map Bv).toArray 5 (0, 0)), nf_B_w_B3 fb dat abi abiv big tyN machN entryN, nf_B_w_B1 s b o n c] := by rw [hq]; exact HM.drewN _
  clear hq
  refine ⟨_, rfl, ?_⟩; clear HF; intro a HF; replace HF := HF.sub ((nf_B_w_S2 b o n c s fb big) ++ [(21, sl_ g 64 64), (331, (boV big)), (333, .slice (some ⟨g, 32, none⟩) 32 32), (334, u6_ phoffN)]) (by kernel_rfl)
  replace HF := HF.sub ((nf_B_w_S2 b o n c s fb big) ++ [(21, sl_ g 64 64), (334, u6_ phoffN)]) (by kernel_rfl)
  refine wp_sym HF HM rfl 1 [] ((nf_B_w_S2 b o n c s fb big) ++ [(21, sl_ g 64 64), (335, iI_ (IntKind.i64.wrap ((phoffN : Nat) : Int)))]) [(g, .cells (X.map Bv).toArray 5 (0, 0)), nf_B_w_B3 fb dat abi abiv big tyN machN entryN, nf_B_w_B1 s b o n c] (by kernel_rfl) ?_
  clear HF HM; intro a w HF HM
  rw [show IntKind.i64.wrap ((phoffN : Nat) : Int) = ((phoffN : Nat) : Int) from IntWalk.i64_in _ (by omega)] at HF
  refine wp_sym HF HM rfl 1 [] (nf_B_w_S6 b o n c s fb big g phoffN) [(g, .cells (X.map Bv).toArray 5 (0, 0)), nf_B_w_B3 fb dat abi abiv big tyN machN entryN, nf_B_w_B1 s b o n c] (by kernel_rfl) ?_
  clear HF HM; intro a w HF HM
  refine nil_then ?_
  refine wp_seq (wp_region_lit ?_)
  refine wp_sym HF HM rfl 3 [] ((nf_B_w_S6 b o n c s fb big g phoffN) ++ [(336, (boV big)), (338, .slice (some ⟨g, 54, none⟩) 10 10)]) [(g, .cells (X.map Bv).toArray 5 (0, 0)), nf_B_w_B3 fb dat abi abiv big tyN machN entryN, nf_B_w_B1 s b o n c] (by kernel_rfl) ?_
  clear HF HM; intro a w HF HM
  refine wp_call HF (by kernel_rfl) 94 #[(boV big), .slice (some ⟨g, 54, none⟩) 10 10] (by kernel_rfl) (fun w => by kernel_rfl) (Calls.mono (u16_at (HM.get (i := 0) rfl) big 54 10 (by omega) (by omega) ((56 : Nat) : Int) (by rw [hnum 54 2 (by omega), Hpe])) ?_)
  rintro _ w8 ⟨rfl, dk_, hq⟩
  replace HM : Mm [] w0 w8 [(g, .cells (X.map Bv).toArray 5 (0, 0)), nf_B_w_B3 fb dat abi abiv big tyN machN entryN, nf_B_w_B1 s b o n c] := by rw [hq]; exact HM.drewN _
  clear hq
  refine ⟨_, rfl, ?_⟩; clear HF; intro a HF; replace HF := HF.sub ((nf_B_w_S6 b o n c s fb big g phoffN) ++ [(336, (boV big)), (338, .slice (some ⟨g, 54, none⟩) 10 10), (339, u2_ 56)]) (by kernel_rfl)
  replace HF := HF.sub ((nf_B_w_S6 b o n c s fb big g phoffN) ++ [(339, u2_ 56)]) (by kernel_rfl)
  refine wp_sym HF HM rfl 2 [] ((nf_B_w_S6 b o n c s fb big g phoffN) ++ [(11, iI_ 56)]) [(g, .cells (X.map Bv).toArray 5 (0, 0)), nf_B_w_B3 fb dat abi abiv big tyN machN entryN, nf_B_w_B1 s b o n c] (by kernel_rfl) ?_
  clear HF HM; intro a w HF HM
  refine nil_then ?_
  refine wp_seq (wp_region_lit ?_)
  refine wp_sym HF HM rfl 3 [] ((nf_B_w_S6 b o n c s fb big g phoffN) ++ [(11, iI_ 56), (341, (boV big)), (343, .slice (some ⟨g, 56, none⟩) 8 8)]) [(g, .cells (X.map Bv).toArray 5 (0, 0)), nf_B_w_B3 fb dat abi abiv big tyN machN entryN, nf_B_w_B1 s b o n c] (by kernel_rfl) ?_
  clear HF HM; intro a w HF HM
  refine wp_call HF (by kernel_rfl) 94 #[(boV big), .slice (some ⟨g, 56, none⟩) 8 8] (by kernel_rfl) (fun w => by kernel_rfl) (Calls.mono (u16_at (HM.get (i := 0) rfl) big 56 8 (by omega) (by omega) ((phnumN : Nat) : Int) (by rw [hnum 56 2 (by omega), Hpn])) ?_)
  rintro _ w9 ⟨rfl, dk_, hq⟩
  replace HM : Mm [] w0 w9 [(g, .cells (X.map Bv).toArray 5 (0, 0)), nf_B_w_B3 fb dat abi abiv big tyN machN entryN, nf_B_w_B1 s b o n c] := by rw [hq]; exact HM.drewN _
  clear hq
  refine ⟨_, rfl, ?_⟩; clear HF; intro a HF; replace HF := HF.sub ((nf_B_w_S6 b o n c s fb big g phoffN) ++ [(11, iI_ 56), (341, (boV big)), (343, .slice (some ⟨g, 56, none⟩) 8 8), (344, u2_ phnumN)]) (by kernel_rfl)
  replace HF := HF.sub ((nf_B_w_S6 b o n c s fb big g phoffN) ++ [(11, iI_ 56), (344, u2_ phnumN)]) (by kernel_rfl)
  refine wp_sym HF HM rfl 1 [] ((nf_B_w_S6 b o n c s fb big g phoffN) ++ [(11, iI_ 56), (345, iI_ (IntKind.i64.wrap ((phnumN : Nat) : Int)))]) [(g, .cells (X.map Bv).toArray 5 (0, 0)), nf_B_w_B3 fb dat abi abiv big tyN machN entryN, nf_B_w_B1 s b o n c] (by kernel_rfl) ?_
  clear HF HM; intro a w HF HM
  rw [show IntKind.i64.wrap ((phnumN : Nat) : Int) = ((phnumN : Nat) : Int) from IntWalk.i64_in _ (by omega)] at HF
  refine wp_sym HF HM rfl 1 [] ((nf_B_w_S6 b o n c s fb big g phoffN) ++ [(11, iI_ 56), (12, i6_ phnumN)]) [(g, .cells (X.map Bv).toArray 5 (0, 0)), nf_B_w_B3 fb dat abi abiv big tyN machN entryN, nf_B_w_B1 s b o n c] (by kernel_rfl) ?_
  clear HF HM; intro a w HF HM
  refine nil_then ?_
  refine wp_seq (wp_region_lit ?_)
  refine wp_sym HF HM rfl 3 [] ((nf_B_w_S6 b o n c s fb big g phoffN) ++ [(11, iI_ 56), (12, i6_ phnumN), (346, (boV big)), (348, .slice (some ⟨g, 40, none⟩) 24 24)]) [(g, .cells (X.map Bv).toArray 5 (0, 0)), nf_B_w_B3 fb dat abi abiv big tyN machN entryN, nf_B_w_B1 s b o n c] (by kernel_rfl) ?_
  clear HF HM; intro a w HF HM
  refine wp_call HF (by kernel_rfl) 88 #[(boV big), .slice (some ⟨g, 40, none⟩) 24 24] (by kernel_rfl) (fun w => by kernel_rfl) (Calls.mono (u64_at (HM.get (i := 0) rfl) (by unfold maxLen; omega) big 40 24 (by omega) (by omega) ((shoffN : Nat) : Int) (by rw [hnum 40 8 (by omega), Hs])) ?_)
  rintro _ w10 ⟨rfl, dk_, hq⟩
  replace HM : Mm [] w0 w10 [(g, .cells (X.map Bv).toArray 5 (0, 0)), nf_B_w_B3 fb dat abi abiv big tyN machN entryN, nf_B_w_B1 s b o n c] := by rw [hq]; exact HM.drewN _
  clear hq
  refine ⟨_, rfl, ?_⟩; clear HF; intro a HF; replace HF := HF.sub ((nf_B_w_S6 b o n c s fb big g phoffN) ++ [(11, iI_ 56), (12, i6_ phnumN), (346, (boV big)), (348, .slice (some ⟨g, 40, none⟩) 24 24), (349, u6_ shoffN)]) (by kernel_rfl)
  replace HF := HF.sub ((nf_B_w_S6 b o n c s fb big g phoffN) ++ [(11, iI_ 56), (12, i6_ phnumN), (349, u6_ shoffN)]) (by kernel_rfl)
  refine wp_sym HF HM rfl 1 [] ((nf_B_w_S6 b o n c s fb big g phoffN) ++ [(11, iI_ 56), (12, i6_ phnumN), (350, iI_ (IntKind.i64.wrap ((shoffN : Nat) : Int)))]) [(g, .cells (X.map Bv).toArray 5 (0, 0)), nf_B_w_B3 fb dat abi abiv big tyN machN entryN, nf_B_w_B1 s b o n c] (by kernel_rfl) ?_
  clear HF HM; intro a w HF HM
  rw [show IntKind.i64.wrap ((shoffN : Nat) : Int) = ((shoffN : Nat) : Int) from IntWalk.i64_in _ (by omega)] at HF
  refine wp_sym HF HM rfl 1 [] (nf_B_w_S7 b o n c s fb big g phoffN phnumN shoffN) [(g, .cells (X.map Bv).toArray 5 (0, 0)), nf_B_w_B3 fb dat abi abiv big tyN machN entryN, nf_B_w_B1 s b o n c] (by kernel_rfl) ?_
  clear HF HM; intro a w HF HM
  refine nil_then ?_
  refine wp_seq (wp_region_lit ?_)
  refine wp_sym HF HM rfl 3 [] ((nf_B_w_S7 b o n c s fb big g phoffN phnumN shoffN) ++ [(351, (boV big)), (353, .slice (some ⟨g, 58, none⟩) 6 6)]) [(g, .cells (X.map Bv).toArray 5 (0, 0)), nf_B_w_B3 fb dat abi abiv big tyN machN entryN, nf_B_w_B1 s b o n c] (by kernel_rfl) ?_
  clear HF HM; intro a w HF HM
  refine wp_call HF (by kernel_rfl) 94 #[(boV big), .slice (some ⟨g, 58, none⟩) 6 6] (by kernel_rfl) (fun w => by kernel_rfl) (Calls.mono (u16_at (HM.get (i := 0) rfl) big 58 6 (by omega) (by omega) ((64 : Nat) : Int) (by rw [hnum 58 2 (by omega), Hse])) ?_)
  rintro _ w11 ⟨rfl, dk_, hq⟩
  replace HM : Mm [] w0 w11 [(g, .cells (X.map Bv).toArray 5 (0, 0)), nf_B_w_B3 fb dat abi abiv big tyN machN entryN, nf_B_w_B1 s b o n c] := by rw [hq]; exact HM.drewN _
  clear hq
  refine ⟨_, rfl, ?_⟩; clear HF; intro a HF; replace HF := HF.sub ((nf_B_w_S7 b o n c s fb big g phoffN phnumN shoffN) ++ [(351, (boV big)), (353, .slice (some ⟨g, 58, none⟩) 6 6), (354, u2_ 64)]) (by kernel_rfl)
  replace HF := HF.sub ((nf_B_w_S7 b o n c s fb big g phoffN phnumN shoffN) ++ [(354, u2_ 64)]) (by kernel_rfl)
  refine wp_sym HF HM rfl 2 [] ((nf_B_w_S7 b o n c s fb big g phoffN phnumN shoffN) ++ [(14, iI_ 64)]) [(g, .cells (X.map Bv).toArray 5 (0, 0)), nf_B_w_B3 fb dat abi abiv big tyN machN entryN, nf_B_w_B1 s b o n c] (by kernel_rfl) ?_
  clear HF HM; intro a w HF HM
  refine nil_then ?_
  refine wp_seq (wp_region_lit ?_)
  refine wp_sym HF HM rfl 3 [] ((nf_B_w_S7 b o n c s fb big g phoffN phnumN shoffN) ++ [(14, iI_ 64), (356, (boV big)), (358, .slice (some ⟨g, 60, none⟩) 4 4)]) [(g, .cells (X.map Bv).toArray 5 (0, 0)), nf_B_w_B3 fb dat abi abiv big tyN machN entryN, nf_B_w_B1 s b o n c] (by kernel_rfl) ?_
  clear HF HM; intro a w HF HM
  refine wp_call HF (by kernel_rfl) 94 #[(boV big), .slice (some ⟨g, 60, none⟩) 4 4] (by kernel_rfl) (fun w => by kernel_rfl) (Calls.mono (u16_at (HM.get (i := 0) rfl) big 60 4 (by omega) (by omega) ((shnumN : Nat) : Int) (by rw [hnum 60 2 (by omega), Hsn])) ?_)
  rintro _ w12 ⟨rfl, dk_, hq⟩
  replace HM : Mm [] w0 w12 [(g, .cells (X.map Bv).toArray 5 (0, 0)), nf_B_w_B3 fb dat abi abiv big tyN machN entryN, nf_B_w_B1 s b o n c] := by rw [hq]; exact HM.drewN _
  clear hq
  refine ⟨_, rfl, ?_⟩; clear HF; intro a HF; replace HF := HF.sub ((nf_B_w_S7 b o n c s fb big g phoffN phnumN shoffN) ++ [(14, iI_ 64), (356, (boV big)), (358, .slice (some ⟨g, 60, none⟩) 4 4), (359, u2_ shnumN)]) (by kernel_rfl)
  replace HF := HF.sub ((nf_B_w_S7 b o n c s fb big g phoffN phnumN shoffN) ++ [(14, iI_ 64), (359, u2_ shnumN)]) (by kernel_rfl)
  refine wp_sym HF HM rfl 1 [] ((nf_B_w_S7 b o n c s fb big g phoffN phnumN shoffN) ++ [(14, iI_ 64), (360, iI_ (IntKind.i64.wrap ((shnumN : Nat) : Int)))]) [(g, .cells (X.map Bv).toArray 5 (0, 0)), nf_B_w_B3 fb dat abi abiv big tyN machN entryN, nf_B_w_B1 s b o n c] (by kernel_rfl) ?_
  clear HF HM; intro a w HF HM
  rw [show IntKind.i64.wrap ((shnumN : Nat) : Int) = ((shnumN : Nat) : Int) from IntWalk.i64_in _ (by omega)] at HF
  refine wp_sym HF HM rfl 1 [] ((nf_B_w_S7 b o n c s fb big g phoffN phnumN shoffN) ++ [(14, iI_ 64), (15, i6_ shnumN)]) [(g, .cells (X.map Bv).toArray 5 (0, 0)), nf_B_w_B3 fb dat abi abiv big tyN machN entryN, nf_B_w_B1 s b o n c] (by kernel_rfl) ?_
  clear HF HM; intro a w HF HM
  refine nil_then ?_
  refine wp_region_lit ?_
  refine wp_sym HF HM rfl 3 [] ((nf_B_w_S7 b o n c s fb big g phoffN phnumN shoffN) ++ [(14, iI_ 64), (15, i6_ shnumN), (361, (boV big)), (363, .slice (some ⟨g, 62, none⟩) 2 2)]) [(g, .cells (X.map Bv).toArray 5 (0, 0)), nf_B_w_B3 fb dat abi abiv big tyN machN entryN, nf_B_w_B1 s b o n c] (by kernel_rfl) ?_
  clear HF HM; intro a w HF HM
  refine wp_call HF (by kernel_rfl) 94 #[(boV big), .slice (some ⟨g, 62, none⟩) 2 2] (by kernel_rfl) (fun w => by kernel_rfl) (Calls.mono (u16_at (HM.get (i := 0) rfl) big 62 2 (by omega) (by omega) (((shnumN - 1) : Nat) : Int) (by rw [hnum 62 2 (by omega), Hst])) ?_)
  rintro _ w13 ⟨rfl, dk_, hq⟩
  replace HM : Mm [] w0 w13 [(g, .cells (X.map Bv).toArray 5 (0, 0)), nf_B_w_B3 fb dat abi abiv big tyN machN entryN, nf_B_w_B1 s b o n c] := by rw [hq]; exact HM.drewN _
  clear hq
  refine ⟨_, rfl, ?_⟩; clear HF; intro a HF; replace HF := HF.sub ((nf_B_w_S7 b o n c s fb big g phoffN phnumN shoffN) ++ [(14, iI_ 64), (15, i6_ shnumN), (361, (boV big)), (363, .slice (some ⟨g, 62, none⟩) 2 2), (364, u2_ (shnumN - 1))]) (by kernel_rfl)
  replace HF := HF.sub ((nf_B_w_S7 b o n c s fb big g phoffN phnumN shoffN) ++ [(14, iI_ 64), (15, i6_ shnumN), (364, u2_ (shnumN - 1))]) (by kernel_rfl)
  refine wp_sym HF HM rfl 1 [] ((nf_B_w_S7 b o n c s fb big g phoffN phnumN shoffN) ++ [(14, iI_ 64), (15, i6_ shnumN), (365, iI_ (IntKind.i64.wrap (((shnumN - 1) : Nat) : Int)))]) [(g, .cells (X.map Bv).toArray 5 (0, 0)), nf_B_w_B3 fb dat abi abiv big tyN machN entryN, nf_B_w_B1 s b o n c] (by kernel_rfl) ?_
  clear HF HM; intro a w HF HM
  rw [show IntKind.i64.wrap (((shnumN - 1) : Nat) : Int) = (((shnumN - 1) : Nat) : Int) from IntWalk.i64_in _ (by omega)] at HF
  refine wp_sym HF HM rfl 1 [] ((nf_B_w_S7 b o n c s fb big g phoffN phnumN shoffN) ++ [(14, iI_ 64), (15, i6_ shnumN), (16, i6_ (shnumN - 1))]) [(g, .cells (X.map Bv).toArray 5 (0, 0)), nf_B_w_B3 fb dat abi abiv big tyN machN entryN, nf_B_w_B1 s b o n c] (by kernel_rfl) ?_
  clear HF HM; intro a w HF HM
  refine wpList_nil ?_
  repeat (first | refine then_norm ?_ | refine inb_norm ?_)
  replace HF := HF.sub ((nf_B_w_S2 b o n c s fb big) ++ [(10, i6_ phoffN), (11, iI_ 56), (12, i6_ phnumN), (13, i6_ shoffN), (14, iI_ 64), (15, i6_ shnumN), (16, i6_ (shnumN - 1))]) (by kernel_rfl)
  exact K a w HF (HM.sub (List.Sublist.cons _ (List.Sublist.refl _)))

abbrev nf_C_t0_B0 := fun (fb : Nat) (dat : Int) (abi : Nat) (abiv : Nat) (big : Bool) (tyN : Nat) (machN : Nat) (entryN : Nat) => ((fb, .cells #[iB_ 1, .int .u8 dat, iB_ 1, u8_ abi, u8_ abiv, (boV big), u2_ tyN, u2_ machN, u6_ entryN, nl_, nl_, nl_, nl_, nl_] 131 (0, 0)) : Nat × Obj)
abbrev nf_C_t0_B1 := fun (s : Nat) (b : Nat) (o : Nat) (n : Nat) (c : Nat) => ((s, .cells #[.iface 178 (.slice (some ⟨b, o, none⟩) n c), iI_ 0, iI_ 0, iI_ 9223372036854775807, iI_ 9223372036854775807] 246 (0, 0)) : Nat × Obj)
abbrev nf_C_t0_S2 := fun (b : Nat) (o : Nat) (n : Nat) (c : Nat) (s : Nat) (fb : Nat) (big : Bool) (phoffN : Nat) (shoffN : Nat) (shnumN : Nat) => ([(0, .iface 178 (.slice (some ⟨b, o, none⟩) n c)), (4, pt_ s), (8, pt_ fb), (9, (boV big)), (10, i6_ phoffN), (11, iI_ 32), (12, iI_ 0), (13, i6_ shoffN), (14, iI_ 40), (15, i6_ shnumN), (16, i6_ (shnumN - 1))] : Slots)
set_option maxRecDepth 100000 in
set_option maxHeartbeats 1000000 in
theorem nf_C_t0 (l : List UInt8) (b o n c : Nat) (hl : n = l.length) (hnc : n ≤ c) (big : Bool) (abi abiv tyN machN entryN phoffN phnumN shoffN shnumN : Nat) (dat : Int) (b1 : tyN < 65536) (b2 : machN < 65536) (b3 : entryN ≤ 18446744073709551615) (b4 : phoffN < 4611686018427387904) (b5 : shoffN < 4611686018427387904) (b6 : phnumN < 200) (b7 : shnumN < 200) (c1 : 0 < shoffN) (c2 : 0 < shnumN) {Q : Exit → Act → World → Prop} (w0 : World) (a : Act) (w : World) (s fb : Nat) (HF : Fr 1287 a (nf_C_t0_S2 b o n c s fb big phoffN shoffN shnumN)) (HM : Mm [] w0 w [nf_C_t0_B0 fb dat abi abiv big tyN machN entryN, nf_C_t0_B1 s b o n c])
    (K : ∀ a w, Fr 1287 a ((nf_C_t0_S2 b o n c s fb big phoffN shoffN shnumN) ++ [(26, iI_ 40)]) → Mm [] w0 w [nf_C_t0_B0 fb dat abi abiv big tyN machN entryN, nf_C_t0_B1 s b o n c] → (spine Tryd.f78 29).wp Tryd.prog Q a w) : (spine Tryd.f78 21).wp Tryd.prog Q a w := by
  refine wp_seq ?_
  refine wp_seq (wp_region_lit ?_)
  refine wp_sym HF HM rfl 2 [] ((nf_C_t0_S2 b o n c s fb big phoffN shoffN shnumN) ++ [(367, .bool (decide (((shoffN : Nat) : Int) < 0)))]) [nf_C_t0_B0 fb dat abi abiv big tyN machN entryN, nf_C_t0_B1 s b o n c] (by kernel_rfl) ?_
  clear HF HM; intro a w HF HM
  rw [show decide (((shoffN : Nat) : Int) < 0) = false from dec_f (by omega)] at HF
  refine nil_then ?_
  refine wp_condF HF rfl ?_
  refine wp_skip ?_
  repeat (first | refine then_norm ?_ | refine inb_norm ?_)
  replace HF := HF.sub (nf_C_t0_S2 b o n c s fb big phoffN shoffN shnumN) (by kernel_rfl)
  refine wp_seq ?_
  refine wp_seq (wp_region_lit ?_)
  refine wp_sym HF HM rfl 2 [] ((nf_C_t0_S2 b o n c s fb big phoffN shoffN shnumN) ++ [(374, .bool (decide (((phoffN : Nat) : Int) < 0)))]) [nf_C_t0_B0 fb dat abi abiv big tyN machN entryN, nf_C_t0_B1 s b o n c] (by kernel_rfl) ?_
  clear HF HM; intro a w HF HM
  rw [show decide (((phoffN : Nat) : Int) < 0) = false from dec_f (by omega)] at HF
  refine nil_then ?_
  refine wp_condF HF rfl ?_
  refine wp_skip ?_
  repeat (first | refine then_norm ?_ | refine inb_norm ?_)
  replace HF := HF.sub (nf_C_t0_S2 b o n c s fb big phoffN shoffN shnumN) (by kernel_rfl)
  refine wp_seq ?_
  refine wp_seq (wp_region_lit ?_)
  refine wp_sym HF HM rfl 2 [] ((nf_C_t0_S2 b o n c s fb big phoffN shoffN shnumN) ++ [(381, .bool (((shoffN : Nat) : Int) == 0))]) [nf_C_t0_B0 fb dat abi abiv big tyN machN entryN, nf_C_t0_B1 s b o n c] (by kernel_rfl) ?_
  clear HF HM; intro a w HF HM
  rw [show (((shoffN : Nat) : Int) == 0) = false from beq_eq_false_iff_ne.2 (by omega)] at HF
  refine wp_sym HF HM rfl 4 [] ((nf_C_t0_S2 b o n c s fb big phoffN shoffN shnumN) ++ [(385, .bool false)]) [nf_C_t0_B0 fb dat abi abiv big tyN machN entryN, nf_C_t0_B1 s b o n c] (by kernel_rfl) ?_
  clear HF HM; intro a w HF HM
  refine nil_then ?_
  refine wp_condF HF rfl ?_
  refine wp_skip ?_
  repeat (first | refine then_norm ?_ | refine inb_norm ?_)
  replace HF := HF.sub (nf_C_t0_S2 b o n c s fb big phoffN shoffN shnumN) (by kernel_rfl)
  refine wp_seq ?_
  refine wp_seq (wp_region_lit ?_)
  refine wp_sym HF HM rfl 2 [] ((nf_C_t0_S2 b o n c s fb big phoffN shoffN shnumN) ++ [(392, .bool (decide (0 < ((shnumN : Nat) : Int))))]) [nf_C_t0_B0 fb dat abi abiv big tyN machN entryN, nf_C_t0_B1 s b o n c] (by kernel_rfl) ?_
  clear HF HM; intro a w HF HM
  rw [show decide (0 < ((shnumN : Nat) : Int)) = true from dec_t (by omega)] at HF
  refine wp_sym HF HM rfl 4 [] ((nf_C_t0_S2 b o n c s fb big phoffN shoffN shnumN) ++ [(393, .bool true), (396, .bool (decide (((shnumN : Nat) : Int) ≤ (((shnumN - 1) : Nat) : Int))))]) [nf_C_t0_B0 fb dat abi abiv big tyN machN entryN, nf_C_t0_B1 s b o n c] (by kernel_rfl) ?_
  clear HF HM; intro a w HF HM
  rw [show decide (((shnumN : Nat) : Int) ≤ (((shnumN - 1) : Nat) : Int)) = false from dec_f (by omega)] at HF
  refine wp_sym HF HM rfl 1 [] ((nf_C_t0_S2 b o n c s fb big phoffN shoffN shnumN) ++ [(397, .bool false)]) [nf_C_t0_B0 fb dat abi abiv big tyN machN entryN, nf_C_t0_B1 s b o n c] (by kernel_rfl) ?_
  clear HF HM; intro a w HF HM
  refine nil_then ?_
  refine wp_condF HF rfl ?_
  refine wp_skip ?_
  repeat (first | refine then_norm ?_ | refine inb_norm ?_)
  replace HF := HF.sub (nf_C_t0_S2 b o n c s fb big phoffN shoffN shnumN) (by kernel_rfl)
  refine reg_sym HF HM rfl [] ((nf_C_t0_S2 b o n c s fb big phoffN shoffN shnumN) ++ [(25, iI_ 0), (26, iI_ 0)]) [nf_C_t0_B0 fb dat abi abiv big tyN machN entryN, nf_C_t0_B1 s b o n c] (by kernel_rfl) ?_
  clear HF HM; intro a w HF HM
  refine wp_seq ?_
  refine reg_sym HF HM rfl [[1]] ((nf_C_t0_S2 b o n c s fb big phoffN shoffN shnumN) ++ [(25, iI_ 0), (26, iI_ 0), (407, iB_ 1)]) [nf_C_t0_B0 fb dat abi abiv big tyN machN entryN, nf_C_t0_B1 s b o n c] (by kernel_rfl) ?_
  clear HF HM; intro a w HF HM
  refine wp_block ?_
  refine reg_sym HF HM rfl [] ((nf_C_t0_S2 b o n c s fb big phoffN shoffN shnumN) ++ [(25, iI_ 0), (26, iI_ 0), (407, iB_ 1), (408, .bool true)]) [nf_C_t0_B0 fb dat abi abiv big tyN machN entryN, nf_C_t0_B1 s b o n c] (by kernel_rfl) ?_
  clear HF HM; intro a w HF HM
  refine wp_condT HF rfl ?_
  refine reg_sym HF HM rfl [] ((nf_C_t0_S2 b o n c s fb big phoffN shoffN shnumN) ++ [(26, iI_ 0), (25, iI_ 32)]) [nf_C_t0_B0 fb dat abi abiv big tyN machN entryN, nf_C_t0_B1 s b o n c] (by kernel_rfl) ?_
  clear HF HM; intro a w HF HM
  refine reg_sym1 HF HM rfl [] ((nf_C_t0_S2 b o n c s fb big phoffN shoffN shnumN) ++ [(25, iI_ 32), (26, iI_ 40)]) [nf_C_t0_B0 fb dat abi abiv big tyN machN entryN, nf_C_t0_B1 s b o n c] (by kernel_rfl) ?_
  clear HF HM; intro a w HF HM
  repeat (first | refine then_norm ?_ | refine inb_norm ?_)
  refine wp_seq ?_
  refine wp_seq (wp_region_lit ?_)
  refine wp_sym HF HM rfl 7 [] ((nf_C_t0_S2 b o n c s fb big phoffN shoffN shnumN) ++ [(25, iI_ 32), (26, iI_ 40), (418, .bool false)]) [nf_C_t0_B0 fb dat abi abiv big tyN machN entryN, nf_C_t0_B1 s b o n c] (by kernel_rfl) ?_
  clear HF HM; intro a w HF HM
  refine nil_then ?_
  refine wp_condF HF rfl ?_
  refine wp_skip ?_
  repeat (first | refine then_norm ?_ | refine inb_norm ?_)
  replace HF := HF.sub ((nf_C_t0_S2 b o n c s fb big phoffN shoffN shnumN) ++ [(25, iI_ 32), (26, iI_ 40)]) (by kernel_rfl)
  refine wp_seq ?_
  refine wp_seq (wp_region_lit ?_)
  refine wp_sym HF HM rfl 2 [] ((nf_C_t0_S2 b o n c s fb big phoffN shoffN shnumN) ++ [(25, iI_ 32), (26, iI_ 40), (425, .bool (decide (0 < ((shoffN : Nat) : Int))))]) [nf_C_t0_B0 fb dat abi abiv big tyN machN entryN, nf_C_t0_B1 s b o n c] (by kernel_rfl) ?_
  clear HF HM; intro a w HF HM
  rw [show decide (0 < ((shoffN : Nat) : Int)) = true from dec_t (by omega)] at HF
  refine wp_sym HF HM rfl 3 [] ((nf_C_t0_S2 b o n c s fb big phoffN shoffN shnumN) ++ [(25, iI_ 32), (26, iI_ 40), (426, .bool true), (428, .bool (((shnumN : Nat) : Int) == 0))]) [nf_C_t0_B0 fb dat abi abiv big tyN machN entryN, nf_C_t0_B1 s b o n c] (by kernel_rfl) ?_
  clear HF HM; intro a w HF HM
  rw [show (((shnumN : Nat) : Int) == 0) = false from beq_eq_false_iff_ne.2 (by omega)] at HF
  refine wp_sym HF HM rfl 5 [] ((nf_C_t0_S2 b o n c s fb big phoffN shoffN shnumN) ++ [(25, iI_ 32), (26, iI_ 40), (433, .bool false)]) [nf_C_t0_B0 fb dat abi abiv big tyN machN entryN, nf_C_t0_B1 s b o n c] (by kernel_rfl) ?_
  clear HF HM; intro a w HF HM
  refine nil_then ?_
  refine wp_condF HF rfl ?_
  refine wp_skip ?_
  repeat (first | refine then_norm ?_ | refine inb_norm ?_)
  replace HF := HF.sub ((nf_C_t0_S2 b o n c s fb big phoffN shoffN shnumN) ++ [(25, iI_ 32), (26, iI_ 40)]) (by kernel_rfl)
  replace HF := HF.sub ((nf_C_t0_S2 b o n c s fb big phoffN shoffN shnumN) ++ [(26, iI_ 40)]) (by kernel_rfl)
  exact K a w HF HM

abbrev nf_C_t1_B0 := fun (fb : Nat) (dat : Int) (abi : Nat) (abiv : Nat) (big : Bool) (tyN : Nat) (machN : Nat) (entryN : Nat) => ((fb, .cells #[iB_ 1, .int .u8 dat, iB_ 1, u8_ abi, u8_ abiv, (boV big), u2_ tyN, u2_ machN, u6_ entryN, nl_, nl_, nl_, nl_, nl_] 131 (0, 0)) : Nat × Obj)
abbrev nf_C_t1_B1 := fun (s : Nat) (b : Nat) (o : Nat) (n : Nat) (c : Nat) => ((s, .cells #[.iface 178 (.slice (some ⟨b, o, none⟩) n c), iI_ 0, iI_ 0, iI_ 9223372036854775807, iI_ 9223372036854775807] 246 (0, 0)) : Nat × Obj)
abbrev nf_C_t1_S2 := fun (b : Nat) (o : Nat) (n : Nat) (c : Nat) (s : Nat) (fb : Nat) (big : Bool) (phoffN : Nat) (phnumN : Nat) (shoffN : Nat) (shnumN : Nat) => ([(0, .iface 178 (.slice (some ⟨b, o, none⟩) n c)), (4, pt_ s), (8, pt_ fb), (9, (boV big)), (10, i6_ phoffN), (11, iI_ 32), (12, i6_ phnumN), (13, i6_ shoffN), (14, iI_ 40), (15, i6_ shnumN), (16, i6_ (shnumN - 1))] : Slots)
set_option maxRecDepth 100000 in
set_option maxHeartbeats 1000000 in
theorem nf_C_t1 (l : List UInt8) (b o n c : Nat) (hl : n = l.length) (hnc : n ≤ c) (big : Bool) (abi abiv tyN machN entryN phoffN phnumN shoffN shnumN : Nat) (dat : Int) (b1 : tyN < 65536) (b2 : machN < 65536) (b3 : entryN ≤ 18446744073709551615) (b4 : phoffN < 4611686018427387904) (b5 : shoffN < 4611686018427387904) (b6 : phnumN < 200) (b7 : shnumN < 200) (c1 : 0 < shoffN) (c2 : 0 < shnumN) (c3 : 0 < phnumN) {Q : Exit → Act → World → Prop} (w0 : World) (a : Act) (w : World) (s fb : Nat) (HF : Fr 1287 a (nf_C_t1_S2 b o n c s fb big phoffN phnumN shoffN shnumN)) (HM : Mm [] w0 w [nf_C_t1_B0 fb dat abi abiv big tyN machN entryN, nf_C_t1_B1 s b o n c])
    (K : ∀ a w, Fr 1287 a ((nf_C_t1_S2 b o n c s fb big phoffN phnumN shoffN shnumN) ++ [(26, iI_ 40)]) → Mm [] w0 w [nf_C_t1_B0 fb dat abi abiv big tyN machN entryN, nf_C_t1_B1 s b o n c] → (spine Tryd.f78 29).wp Tryd.prog Q a w) : (spine Tryd.f78 21).wp Tryd.prog Q a w := by
  refine wp_seq ?_
  refine wp_seq (wp_region_lit ?_)
  refine wp_sym HF HM rfl 2 [] ((nf_C_t1_S2 b o n c s fb big phoffN phnumN shoffN shnumN) ++ [(367, .bool (decide (((shoffN : Nat) : Int) < 0)))]) [nf_C_t1_B0 fb dat abi abiv big tyN machN entryN, nf_C_t1_B1 s b o n c] (by kernel_rfl) ?_
  clear HF HM; intro a w HF HM
  rw [show decide (((shoffN : Nat) : Int) < 0) = false from dec_f (by omega)] at HF
  refine nil_then ?_
  refine wp_condF HF rfl ?_
  refine wp_skip ?_
  repeat (first | refine then_norm ?_ | refine inb_norm ?_)
  replace HF := HF.sub (nf_C_t1_S2 b o n c s fb big phoffN phnumN shoffN shnumN) (by kernel_rfl)
  refine wp_seq ?_
  refine wp_seq (wp_region_lit ?_)
  refine wp_sym HF HM rfl 2 [] ((nf_C_t1_S2 b o n c s fb big phoffN phnumN shoffN shnumN) ++ [(374, .bool (decide (((phoffN : Nat) : Int) < 0)))]) [nf_C_t1_B0 fb dat abi abiv big tyN machN entryN, nf_C_t1_B1 s b o n c] (by kernel_rfl) ?_
  clear HF HM; intro a w HF HM
  rw [show decide (((phoffN : Nat) : Int) < 0) = false from dec_f (by omega)] at HF
  refine nil_then ?_
  refine wp_condF HF rfl ?_
  refine wp_skip ?_
  repeat (first | refine then_norm ?_ | refine inb_norm ?_)
  replace HF := HF.sub (nf_C_t1_S2 b o n c s fb big phoffN phnumN shoffN shnumN) (by kernel_rfl)
  refine wp_seq ?_
  refine wp_seq (wp_region_lit ?_)
  refine wp_sym HF HM rfl 2 [] ((nf_C_t1_S2 b o n c s fb big phoffN phnumN shoffN shnumN) ++ [(381, .bool (((shoffN : Nat) : Int) == 0))]) [nf_C_t1_B0 fb dat abi abiv big tyN machN entryN, nf_C_t1_B1 s b o n c] (by kernel_rfl) ?_
  clear HF HM; intro a w HF HM
  rw [show (((shoffN : Nat) : Int) == 0) = false from beq_eq_false_iff_ne.2 (by omega)] at HF
  refine wp_sym HF HM rfl 4 [] ((nf_C_t1_S2 b o n c s fb big phoffN phnumN shoffN shnumN) ++ [(385, .bool false)]) [nf_C_t1_B0 fb dat abi abiv big tyN machN entryN, nf_C_t1_B1 s b o n c] (by kernel_rfl) ?_
  clear HF HM; intro a w HF HM
  refine nil_then ?_
  refine wp_condF HF rfl ?_
  refine wp_skip ?_
  repeat (first | refine then_norm ?_ | refine inb_norm ?_)
  replace HF := HF.sub (nf_C_t1_S2 b o n c s fb big phoffN phnumN shoffN shnumN) (by kernel_rfl)
  refine wp_seq ?_
  refine wp_seq (wp_region_lit ?_)
  refine wp_sym HF HM rfl 2 [] ((nf_C_t1_S2 b o n c s fb big phoffN phnumN shoffN shnumN) ++ [(392, .bool (decide (0 < ((shnumN : Nat) : Int))))]) [nf_C_t1_B0 fb dat abi abiv big tyN machN entryN, nf_C_t1_B1 s b o n c] (by kernel_rfl) ?_
  clear HF HM; intro a w HF HM
  rw [show decide (0 < ((shnumN : Nat) : Int)) = true from dec_t (by omega)] at HF
  refine wp_sym HF HM rfl 4 [] ((nf_C_t1_S2 b o n c s fb big phoffN phnumN shoffN shnumN) ++ [(393, .bool true), (396, .bool (decide (((shnumN : Nat) : Int) ≤ (((shnumN - 1) : Nat) : Int))))]) [nf_C_t1_B0 fb dat abi abiv big tyN machN entryN, nf_C_t1_B1 s b o n c] (by kernel_rfl) ?_
  clear HF HM; intro a w HF HM
  rw [show decide (((shnumN : Nat) : Int) ≤ (((shnumN - 1) : Nat) : Int)) = false from dec_f (by omega)] at HF
  refine wp_sym HF HM rfl 1 [] ((nf_C_t1_S2 b o n c s fb big phoffN phnumN shoffN shnumN) ++ [(397, .bool false)]) [nf_C_t1_B0 fb dat abi abiv big tyN machN entryN, nf_C_t1_B1 s b o n c] (by kernel_rfl) ?_
  clear HF HM; intro a w HF HM
  refine nil_then ?_
  refine wp_condF HF rfl ?_
  refine wp_skip ?_
  repeat (first | refine then_norm ?_ | refine inb_norm ?_)
  replace HF := HF.sub (nf_C_t1_S2 b o n c s fb big phoffN phnumN shoffN shnumN) (by kernel_rfl)
  refine reg_sym HF HM rfl [] ((nf_C_t1_S2 b o n c s fb big phoffN phnumN shoffN shnumN) ++ [(25, iI_ 0), (26, iI_ 0)]) [nf_C_t1_B0 fb dat abi abiv big tyN machN entryN, nf_C_t1_B1 s b o n c] (by kernel_rfl) ?_
  clear HF HM; intro a w HF HM
  refine wp_seq ?_
  refine reg_sym HF HM rfl [[1]] ((nf_C_t1_S2 b o n c s fb big phoffN phnumN shoffN shnumN) ++ [(25, iI_ 0), (26, iI_ 0), (407, iB_ 1)]) [nf_C_t1_B0 fb dat abi abiv big tyN machN entryN, nf_C_t1_B1 s b o n c] (by kernel_rfl) ?_
  clear HF HM; intro a w HF HM
  refine wp_block ?_
  refine reg_sym HF HM rfl [] ((nf_C_t1_S2 b o n c s fb big phoffN phnumN shoffN shnumN) ++ [(25, iI_ 0), (26, iI_ 0), (407, iB_ 1), (408, .bool true)]) [nf_C_t1_B0 fb dat abi abiv big tyN machN entryN, nf_C_t1_B1 s b o n c] (by kernel_rfl) ?_
  clear HF HM; intro a w HF HM
  refine wp_condT HF rfl ?_
  refine reg_sym HF HM rfl [] ((nf_C_t1_S2 b o n c s fb big phoffN phnumN shoffN shnumN) ++ [(26, iI_ 0), (25, iI_ 32)]) [nf_C_t1_B0 fb dat abi abiv big tyN machN entryN, nf_C_t1_B1 s b o n c] (by kernel_rfl) ?_
  clear HF HM; intro a w HF HM
  refine reg_sym1 HF HM rfl [] ((nf_C_t1_S2 b o n c s fb big phoffN phnumN shoffN shnumN) ++ [(25, iI_ 32), (26, iI_ 40)]) [nf_C_t1_B0 fb dat abi abiv big tyN machN entryN, nf_C_t1_B1 s b o n c] (by kernel_rfl) ?_
  clear HF HM; intro a w HF HM
  repeat (first | refine then_norm ?_ | refine inb_norm ?_)
  refine wp_seq ?_
  refine wp_seq (wp_region_lit ?_)
  refine wp_sym HF HM rfl 2 [] ((nf_C_t1_S2 b o n c s fb big phoffN phnumN shoffN shnumN) ++ [(25, iI_ 32), (26, iI_ 40), (413, .bool (decide (0 < ((phnumN : Nat) : Int))))]) [nf_C_t1_B0 fb dat abi abiv big tyN machN entryN, nf_C_t1_B1 s b o n c] (by kernel_rfl) ?_
  clear HF HM; intro a w HF HM
  rw [show decide (0 < ((phnumN : Nat) : Int)) = true from dec_t (by omega)] at HF
  refine wp_sym HF HM rfl 5 [] ((nf_C_t1_S2 b o n c s fb big phoffN phnumN shoffN shnumN) ++ [(25, iI_ 32), (26, iI_ 40), (418, .bool false)]) [nf_C_t1_B0 fb dat abi abiv big tyN machN entryN, nf_C_t1_B1 s b o n c] (by kernel_rfl) ?_
  clear HF HM; intro a w HF HM
  refine nil_then ?_
  refine wp_condF HF rfl ?_
  refine wp_skip ?_
  repeat (first | refine then_norm ?_ | refine inb_norm ?_)
  replace HF := HF.sub ((nf_C_t1_S2 b o n c s fb big phoffN phnumN shoffN shnumN) ++ [(25, iI_ 32), (26, iI_ 40)]) (by kernel_rfl)
  refine wp_seq ?_
  refine wp_seq (wp_region_lit ?_)
  refine wp_sym HF HM rfl 2 [] ((nf_C_t1_S2 b o n c s fb big phoffN phnumN shoffN shnumN) ++ [(25, iI_ 32), (26, iI_ 40), (425, .bool (decide (0 < ((shoffN : Nat) : Int))))]) [nf_C_t1_B0 fb dat abi abiv big tyN machN entryN, nf_C_t1_B1 s b o n c] (by kernel_rfl) ?_
  clear HF HM; intro a w HF HM
  rw [show decide (0 < ((shoffN : Nat) : Int)) = true from dec_t (by omega)] at HF
  refine wp_sym HF HM rfl 3 [] ((nf_C_t1_S2 b o n c s fb big phoffN phnumN shoffN shnumN) ++ [(25, iI_ 32), (26, iI_ 40), (426, .bool true), (428, .bool (((shnumN : Nat) : Int) == 0))]) [nf_C_t1_B0 fb dat abi abiv big tyN machN entryN, nf_C_t1_B1 s b o n c] (by kernel_rfl) ?_
  clear HF HM; intro a w HF HM
  rw [show (((shnumN : Nat) : Int) == 0) = false from beq_eq_false_iff_ne.2 (by omega)] at HF
  refine wp_sym HF HM rfl 3 [] ((nf_C_t1_S2 b o n c s fb big phoffN phnumN shoffN shnumN) ++ [(25, iI_ 32), (26, iI_ 40), (426, .bool true), (429, .bool false), (431, .bool (((phnumN : Nat) : Int) == 65535))]) [nf_C_t1_B0 fb dat abi abiv big tyN machN entryN, nf_C_t1_B1 s b o n c] (by kernel_rfl) ?_
  clear HF HM; intro a w HF HM
  rw [show (((phnumN : Nat) : Int) == 65535) = false from beq_eq_false_iff_ne.2 (by omega)] at HF
  refine wp_sym HF HM rfl 2 [] ((nf_C_t1_S2 b o n c s fb big phoffN phnumN shoffN shnumN) ++ [(25, iI_ 32), (26, iI_ 40), (433, .bool false)]) [nf_C_t1_B0 fb dat abi abiv big tyN machN entryN, nf_C_t1_B1 s b o n c] (by kernel_rfl) ?_
  clear HF HM; intro a w HF HM
  refine nil_then ?_
  refine wp_condF HF rfl ?_
  refine wp_skip ?_
  repeat (first | refine then_norm ?_ | refine inb_norm ?_)
  replace HF := HF.sub ((nf_C_t1_S2 b o n c s fb big phoffN phnumN shoffN shnumN) ++ [(25, iI_ 32), (26, iI_ 40)]) (by kernel_rfl)
  replace HF := HF.sub ((nf_C_t1_S2 b o n c s fb big phoffN phnumN shoffN shnumN) ++ [(26, iI_ 40)]) (by kernel_rfl)
  exact K a w HF HM

abbrev nf_C_w0_B0 := fun (fb : Nat) (dat : Int) (abi : Nat) (abiv : Nat) (big : Bool) (tyN : Nat) (machN : Nat) (entryN : Nat) => ((fb, .cells #[iB_ 2, .int .u8 dat, iB_ 1, u8_ abi, u8_ abiv, (boV big), u2_ tyN, u2_ machN, u6_ entryN, nl_, nl_, nl_, nl_, nl_] 131 (0, 0)) : Nat × Obj)
abbrev nf_C_w0_B1 := fun (s : Nat) (b : Nat) (o : Nat) (n : Nat) (c : Nat) => ((s, .cells #[.iface 178 (.slice (some ⟨b, o, none⟩) n c), iI_ 0, iI_ 0, iI_ 9223372036854775807, iI_ 9223372036854775807] 246 (0, 0)) : Nat × Obj)
abbrev nf_C_w0_S2 := fun (b : Nat) (o : Nat) (n : Nat) (c : Nat) (s : Nat) (fb : Nat) (big : Bool) (phoffN : Nat) (shoffN : Nat) (shnumN : Nat) => ([(0, .iface 178 (.slice (some ⟨b, o, none⟩) n c)), (4, pt_ s), (8, pt_ fb), (9, (boV big)), (10, i6_ phoffN), (11, iI_ 56), (12, iI_ 0), (13, i6_ shoffN), (14, iI_ 64), (15, i6_ shnumN), (16, i6_ (shnumN - 1))] : Slots)
set_option maxRecDepth 100000 in
set_option maxHeartbeats 1000000 in
theorem nf_C_w0 (l : List UInt8) (b o n c : Nat) (hl : n = l.length) (hnc : n ≤ c) (big : Bool) (abi abiv tyN machN entryN phoffN phnumN shoffN shnumN : Nat) (dat : Int) (b1 : tyN < 65536) (b2 : machN < 65536) (b3 : entryN ≤ 18446744073709551615) (b4 : phoffN < 4611686018427387904) (b5 : shoffN < 4611686018427387904) (b6 : phnumN < 200) (b7 : shnumN < 200) (c1 : 0 < shoffN) (c2 : 0 < shnumN) {Q : Exit → Act → World → Prop} (w0 : World) (a : Act) (w : World) (s fb : Nat) (HF : Fr 1287 a (nf_C_w0_S2 b o n c s fb big phoffN shoffN shnumN)) (HM : Mm [] w0 w [nf_C_w0_B0 fb dat abi abiv big tyN machN entryN, nf_C_w0_B1 s b o n c])
    (K : ∀ a w, Fr 1287 a ((nf_C_w0_S2 b o n c s fb big phoffN shoffN shnumN) ++ [(26, iI_ 64)]) → Mm [] w0 w [nf_C_w0_B0 fb dat abi abiv big tyN machN entryN, nf_C_w0_B1 s b o n c] → (spine Tryd.f78 29).wp Tryd.prog Q a w) : (spine Tryd.f78 21).wp Tryd.prog Q a w := by
  refine wp_seq ?_
  refine wp_seq (wp_region_lit ?_)
  refine wp_sym HF HM rfl 2 [] ((nf_C_w0_S2 b o n c s fb big phoffN shoffN shnumN) ++ [(367, .bool (decide (((shoffN : Nat) : Int) < 0)))]) [nf_C_w0_B0 fb dat abi abiv big tyN machN entryN, nf_C_w0_B1 s b o n c] (by kernel_rfl) ?_
  clear HF HM; intro a w HF HM
  rw [show decide (((shoffN : Nat) : Int) < 0) = false from dec_f (by omega)] at HF
  refine nil_then ?_
  refine wp_condF HF rfl ?_
  refine wp_skip ?_
  repeat (first | refine then_norm ?_ | refine inb_norm ?_)
  replace HF := HF.sub (nf_C_w0_S2 b o n c s fb big phoffN shoffN shnumN) (by kernel_rfl)
  refine wp_seq ?_
  refine wp_seq (wp_region_lit ?_)
  refine wp_sym HF HM rfl 2 [] ((nf_C_w0_S2 b o n c s fb big phoffN shoffN shnumN) ++ [(374, .bool (decide (((phoffN : Nat) : Int) < 0)))]) [nf_C_w0_B0 fb dat abi abiv big tyN machN entryN, nf_C_w0_B1 s b o n c] (by kernel_rfl) ?_
  clear HF HM; intro a w HF HM
  rw [show decide (((phoffN : Nat) : Int) < 0) = false from dec_f (by omega)] at HF
  refine nil_then ?_
  refine wp_condF HF rfl ?_
  refine wp_skip ?_
  repeat (first | refine then_norm ?_ | refine inb_norm ?_)
  replace HF := HF.sub (nf_C_w0_S2 b o n c s fb big phoffN shoffN shnumN) (by kernel_rfl)
  refine wp_seq ?_
  refine wp_seq (wp_region_lit ?_)
  refine wp_sym HF HM rfl 2 [] ((nf_C_w0_S2 b o n c s fb big phoffN shoffN shnumN) ++ [(381, .bool (((shoffN : Nat) : Int) == 0))]) [nf_C_w0_B0 fb dat abi abiv big tyN machN entryN, nf_C_w0_B1 s b o n c] (by kernel_rfl) ?_
  clear HF HM; intro a w HF HM
  rw [show (((shoffN : Nat) : Int) == 0) = false from beq_eq_false_iff_ne.2 (by omega)] at HF
  refine wp_sym HF HM rfl 4 [] ((nf_C_w0_S2 b o n c s fb big phoffN shoffN shnumN) ++ [(385, .bool false)]) [nf_C_w0_B0 fb dat abi abiv big tyN machN entryN, nf_C_w0_B1 s b o n c] (by kernel_rfl) ?_
  clear HF HM; intro a w HF HM
  refine nil_then ?_
  refine wp_condF HF rfl ?_
  refine wp_skip ?_
  repeat (first | refine then_norm ?_ | refine inb_norm ?_)
  replace HF := HF.sub (nf_C_w0_S2 b o n c s fb big phoffN shoffN shnumN) (by kernel_rfl)
  refine wp_seq ?_
  refine wp_seq (wp_region_lit ?_)
  refine wp_sym HF HM rfl 2 [] ((nf_C_w0_S2 b o n c s fb big phoffN shoffN shnumN) ++ [(392, .bool (decide (0 < ((shnumN : Nat) : Int))))]) [nf_C_w0_B0 fb dat abi abiv big tyN machN entryN, nf_C_w0_B1 s b o n c] (by kernel_rfl) ?_
  clear HF HM; intro a w HF HM
  rw [show decide (0 < ((shnumN : Nat) : Int)) = true from dec_t (by omega)] at HF
  refine wp_sym HF HM rfl 4 [] ((nf_C_w0_S2 b o n c s fb big phoffN shoffN shnumN) ++ [(393, .bool true), (396, .bool (decide (((shnumN : Nat) : Int) ≤ (((shnumN - 1) : Nat) : Int))))]) [nf_C_w0_B0 fb dat abi abiv big tyN machN entryN, nf_C_w0_B1 s b o n c] (by kernel_rfl) ?_
  clear HF HM; intro a w HF HM
  rw [show decide (((shnumN : Nat) : Int) ≤ (((shnumN - 1) : Nat) : Int)) = false from dec_f (by omega)] at HF
  refine wp_sym HF HM rfl 1 [] ((nf_C_w0_S2 b o n c s fb big phoffN shoffN shnumN) ++ [(397, .bool false)]) [nf_C_w0_B0 fb dat abi abiv big tyN machN entryN, nf_C_w0_B1 s b o n c] (by kernel_rfl) ?_
  clear HF HM; intro a w HF HM
  refine nil_then ?_
  refine wp_condF HF rfl ?_
  refine wp_skip ?_
  repeat (first | refine then_norm ?_ | refine inb_norm ?_)
  replace HF := HF.sub (nf_C_w0_S2 b o n c s fb big phoffN shoffN shnumN) (by kernel_rfl)
  refine reg_sym HF HM rfl [] ((nf_C_w0_S2 b o n c s fb big phoffN shoffN shnumN) ++ [(25, iI_ 0), (26, iI_ 0)]) [nf_C_w0_B0 fb dat abi abiv big tyN machN entryN, nf_C_w0_B1 s b o n c] (by kernel_rfl) ?_
  clear HF HM; intro a w HF HM
  refine wp_seq ?_
  refine reg_sym HF HM rfl [[1]] ((nf_C_w0_S2 b o n c s fb big phoffN shoffN shnumN) ++ [(25, iI_ 0), (26, iI_ 0), (407, iB_ 2)]) [nf_C_w0_B0 fb dat abi abiv big tyN machN entryN, nf_C_w0_B1 s b o n c] (by kernel_rfl) ?_
  clear HF HM; intro a w HF HM
  refine wp_block ?_
  refine reg_sym HF HM rfl [] ((nf_C_w0_S2 b o n c s fb big phoffN shoffN shnumN) ++ [(25, iI_ 0), (26, iI_ 0), (407, iB_ 2), (408, .bool false)]) [nf_C_w0_B0 fb dat abi abiv big tyN machN entryN, nf_C_w0_B1 s b o n c] (by kernel_rfl) ?_
  clear HF HM; intro a w HF HM
  refine wp_condF HF rfl ?_
  refine reg_sym HF HM rfl [] ((nf_C_w0_S2 b o n c s fb big phoffN shoffN shnumN) ++ [(25, iI_ 0), (26, iI_ 0), (407, iB_ 2), (410, .bool true)]) [nf_C_w0_B0 fb dat abi abiv big tyN machN entryN, nf_C_w0_B1 s b o n c] (by kernel_rfl) ?_
  clear HF HM; intro a w HF HM
  refine wp_condT HF rfl ?_
  refine reg_sym HF HM rfl [] ((nf_C_w0_S2 b o n c s fb big phoffN shoffN shnumN) ++ [(26, iI_ 0), (25, iI_ 56)]) [nf_C_w0_B0 fb dat abi abiv big tyN machN entryN, nf_C_w0_B1 s b o n c] (by kernel_rfl) ?_
  clear HF HM; intro a w HF HM
  refine reg_sym1 HF HM rfl [] ((nf_C_w0_S2 b o n c s fb big phoffN shoffN shnumN) ++ [(25, iI_ 56), (26, iI_ 64)]) [nf_C_w0_B0 fb dat abi abiv big tyN machN entryN, nf_C_w0_B1 s b o n c] (by kernel_rfl) ?_
  clear HF HM; intro a w HF HM
  repeat (first | refine then_norm ?_ | refine inb_norm ?_)
  refine wp_seq ?_
  refine wp_seq (wp_region_lit ?_)
  refine wp_sym HF HM rfl 7 [] ((nf_C_w0_S2 b o n c s fb big phoffN shoffN shnumN) ++ [(25, iI_ 56), (26, iI_ 64), (418, .bool false)]) [nf_C_w0_B0 fb dat abi abiv big tyN machN entryN, nf_C_w0_B1 s b o n c] (by kernel_rfl) ?_
  clear HF HM; intro a w HF HM
  refine nil_then ?_
  refine wp_condF HF rfl ?_
  refine wp_skip ?_
  repeat (first | refine then_norm ?_ | refine inb_norm ?_)
  replace HF := HF.sub ((nf_C_w0_S2 b o n c s fb big phoffN shoffN shnumN) ++ [(25, iI_ 56), (26, iI_ 64)]) (by kernel_rfl)
  refine wp_seq ?_
  refine wp_seq (wp_region_lit ?_)
  refine wp_sym HF HM rfl 2 [] ((nf_C_w0_S2 b o n c s fb big phoffN shoffN shnumN) ++ [(25, iI_ 56), (26, iI_ 64), (425, .bool (decide (0 < ((shoffN : Nat) : Int))))]) [nf_C_w0_B0 fb dat abi abiv big tyN machN entryN, nf_C_w0_B1 s b o n c] (by kernel_rfl) ?_
  clear HF HM; intro a w HF HM
  rw [show decide (0 < ((shoffN : Nat) : Int)) = true from dec_t (by omega)] at HF
  refine wp_sym HF HM rfl 3 [] ((nf_C_w0_S2 b o n c s fb big phoffN shoffN shnumN) ++ [(25, iI_ 56), (26, iI_ 64), (426, .bool true), (428, .bool (((shnumN : Nat) : Int) == 0))]) [nf_C_w0_B0 fb dat abi abiv big tyN machN entryN, nf_C_w0_B1 s b o n c] (by kernel_rfl) ?_
  clear HF HM; intro a w HF HM
  rw [show (((shnumN : Nat) : Int) == 0) = false from beq_eq_false_iff_ne.2 (by omega)] at HF
  refine wp_sym HF HM rfl 5 [] ((nf_C_w0_S2 b o n c s fb big phoffN shoffN shnumN) ++ [(25, iI_ 56), (26, iI_ 64), (433, .bool false)]) [nf_C_w0_B0 fb dat abi abiv big tyN machN entryN, nf_C_w0_B1 s b o n c] (by kernel_rfl) ?_
  clear HF HM; intro a w HF HM
  refine nil_then ?_
  refine wp_condF HF rfl ?_
  refine wp_skip ?_
  repeat (first | refine then_norm ?_ | refine inb_norm ?_)
  replace HF := HF.sub ((nf_C_w0_S2 b o n c s fb big phoffN shoffN shnumN) ++ [(25, iI_ 56), (26, iI_ 64)]) (by kernel_rfl)
  replace HF := HF.sub ((nf_C_w0_S2 b o n c s fb big phoffN shoffN shnumN) ++ [(26, iI_ 64)]) (by kernel_rfl)
  exact K a w HF HM

abbrev nf_C_w1_B0 := fun (fb : Nat) (dat : Int) (abi : Nat) (abiv : Nat) (big : Bool) (tyN : Nat) (machN : Nat) (entryN : Nat) => ((fb, .cells #[iB_ 2, .int .u8 dat, iB_ 1, u8_ abi, u8_ abiv, (boV big), u2_ tyN, u2_ machN, u6_ entryN, nl_, nl_, nl_, nl_, nl_] 131 (0, 0)) : Nat × Obj)
abbrev nf_C_w1_B1 := fun (s : Nat) (b : Nat) (o : Nat) (n : Nat) (c : Nat) => ((s, .cells #[.iface 178 (.slice (some ⟨b, o, none⟩) n c), iI_ 0, iI_ 0, iI_ 9223372036854775807, iI_ 9223372036854775807] 246 (0, 0)) : Nat × Obj)
abbrev nf_C_w1_S2 := fun (b : Nat) (o : Nat) (n : Nat) (c : Nat) (s : Nat) (fb : Nat) (big : Bool) (phoffN : Nat) (phnumN : Nat) (shoffN : Nat) (shnumN : Nat) => ([(0, .iface 178 (.slice (some ⟨b, o, none⟩) n c)), (4, pt_ s), (8, pt_ fb), (9, (boV big)), (10, i6_ phoffN), (11, iI_ 56), (12, i6_ phnumN), (13, i6_ shoffN), (14, iI_ 64), (15, i6_ shnumN), (16, i6_ (shnumN - 1))] : Slots)
set_option maxRecDepth 100000 in
set_option maxHeartbeats 1000000 in
theorem nf_C_w1 (l : List UInt8) (b o n c : Nat) (hl : n = l.length) (hnc : n ≤ c) (big : Bool) (abi abiv tyN machN entryN phoffN phnumN shoffN shnumN : Nat) (dat : Int) (b1 : tyN < 65536) (b2 : machN < 65536) (b3 : entryN ≤ 18446744073709551615) (b4 : phoffN < 4611686018427387904) (b5 : shoffN < 4611686018427387904) (b6 : phnumN < 200) (b7 : shnumN < 200) (c1 : 0 < shoffN) (c2 : 0 < shnumN) (c3 : 0 < phnumN) {Q : Exit → Act → World → Prop} (w0 : World) (a : Act) (w : World) (s fb : Nat) (HF : Fr 1287 a (nf_C_w1_S2 b o n c s fb big phoffN phnumN shoffN shnumN)) (HM : Mm [] w0 w [nf_C_w1_B0 fb dat abi abiv big tyN machN entryN, nf_C_w1_B1 s b o n c])
    (K : ∀ a w, Fr 1287 a ((nf_C_w1_S2 b o n c s fb big phoffN phnumN shoffN shnumN) ++ [(26, iI_ 64)]) → Mm [] w0 w [nf_C_w1_B0 fb dat abi abiv big tyN machN entryN, nf_C_w1_B1 s b o n c] → (spine Tryd.f78 29).wp Tryd.prog Q a w) : (spine Tryd.f78 21).wp Tryd.prog Q a w := by
  refine wp_seq ?_
  refine wp_seq (wp_region_lit ?_)
  refine wp_sym HF HM rfl 2 [] ((nf_C_w1_S2 b o n c s fb big phoffN phnumN shoffN shnumN) ++ [(367, .bool (decide (((shoffN : Nat) : Int) < 0)))]) [nf_C_w1_B0 fb dat abi abiv big tyN machN entryN, nf_C_w1_B1 s b o n c] (by kernel_rfl) ?_
  clear HF HM; intro a w HF HM
  rw [show decide (((shoffN : Nat) : Int) < 0) = false from dec_f (by omega)] at HF
  refine nil_then ?_
  refine wp_condF HF rfl ?_
  refine wp_skip ?_
  repeat (first | refine then_norm ?_ | refine inb_norm ?_)
  replace HF := HF.sub (nf_C_w1_S2 b o n c s fb big phoffN phnumN shoffN shnumN) (by kernel_rfl)
  refine wp_seq ?_
  refine wp_seq (wp_region_lit ?_)
  refine wp_sym HF HM rfl 2 [] ((nf_C_w1_S2 b o n c s fb big phoffN phnumN shoffN shnumN) ++ [(374, .bool (decide (((phoffN : Nat) : Int) < 0)))]) [nf_C_w1_B0 fb dat abi abiv big tyN machN entryN, nf_C_w1_B1 s b o n c] (by kernel_rfl) ?_
  clear HF HM; intro a w HF HM
  rw [show decide (((phoffN : Nat) : Int) < 0) = false from dec_f (by omega)] at HF
  refine nil_then ?_
  refine wp_condF HF rfl ?_
  refine wp_skip ?_
  repeat (first | refine then_norm ?_ | refine inb_norm ?_)
  replace HF := HF.sub (nf_C_w1_S2 b o n c s fb big phoffN phnumN shoffN shnumN) (by kernel_rfl)
  refine wp_seq ?_
  refine wp_seq (wp_region_lit ?_)
  refine wp_sym HF HM rfl 2 [] ((nf_C_w1_S2 b o n c s fb big phoffN phnumN shoffN shnumN) ++ [(381, .bool (((shoffN : Nat) : Int) == 0))]) [nf_C_w1_B0 fb dat abi abiv big tyN machN entryN, nf_C_w1_B1 s b o n c] (by kernel_rfl) ?_
  clear HF HM; intro a w HF HM
  rw [show (((shoffN : Nat) : Int) == 0) = false from beq_eq_false_iff_ne.2 (by omega)] at HF
  refine wp_sym HF HM rfl 4 [] ((nf_C_w1_S2 b o n c s fb big phoffN phnumN shoffN shnumN) ++ [(385, .bool false)]) [nf_C_w1_B0 fb dat abi abiv big tyN machN entryN, nf_C_w1_B1 s b o n c] (by kernel_rfl) ?_
  clear HF HM; intro a w HF HM
  refine nil_then ?_
  refine wp_condF HF rfl ?_
  refine wp_skip ?_
  repeat (first | refine then_norm ?_ | refine inb_norm ?_)
  replace HF := HF.sub (nf_C_w1_S2 b o n c s fb big phoffN phnumN shoffN shnumN) (by kernel_rfl)
  refine wp_seq ?_
  refine wp_seq (wp_region_lit ?_)
  refine wp_sym HF HM rfl 2 [] ((nf_C_w1_S2 b o n c s fb big phoffN phnumN shoffN shnumN) ++ [(392, .bool (decide (0 < ((shnumN : Nat) : Int))))]) [nf_C_w1_B0 fb dat abi abiv big tyN machN entryN, nf_C_w1_B1 s b o n c] (by kernel_rfl) ?_
  clear HF HM; intro a w HF HM
  rw [show decide (0 < ((shnumN : Nat) : Int)) = true from dec_t (by omega)] at HF
  refine wp_sym HF HM rfl 4 [] ((nf_C_w1_S2 b o n c s fb big phoffN phnumN shoffN shnumN) ++ [(393, .bool true), (396, .bool (decide (((shnumN : Nat) : Int) ≤ (((shnumN - 1) : Nat) : Int))))]) [nf_C_w1_B0 fb dat abi abiv big tyN machN entryN, nf_C_w1_B1 s b o n c] (by kernel_rfl) ?_
  clear HF HM; intro a w HF HM
  rw [show decide (((shnumN : Nat) : Int) ≤ (((shnumN - 1) : Nat) : Int)) = false from dec_f (by omega)] at HF
  refine wp_sym HF HM rfl 1 [] ((nf_C_w1_S2 b o n c s fb big phoffN phnumN shoffN shnumN) ++ [(397, .bool false)]) [nf_C_w1_B0 fb dat abi abiv big tyN machN entryN, nf_C_w1_B1 s b o n c] (by kernel_rfl) ?_
  clear HF HM; intro a w HF HM
  refine nil_then ?_
  refine wp_condF HF rfl ?_
  refine wp_skip ?_
  repeat (first | refine then_norm ?_ | refine inb_norm ?_)
  replace HF := HF.sub (nf_C_w1_S2 b o n c s fb big phoffN phnumN shoffN shnumN) (by kernel_rfl)
  refine reg_sym HF HM rfl [] ((nf_C_w1_S2 b o n c s fb big phoffN phnumN shoffN shnumN) ++ [(25, iI_ 0), (26, iI_ 0)]) [nf_C_w1_B0 fb dat abi abiv big tyN machN entryN, nf_C_w1_B1 s b o n c] (by kernel_rfl) ?_
  clear HF HM; intro a w HF HM
  refine wp_seq ?_
  refine reg_sym HF HM rfl [[1]] ((nf_C_w1_S2 b o n c s fb big phoffN phnumN shoffN shnumN) ++ [(25, iI_ 0), (26, iI_ 0), (407, iB_ 2)]) [nf_C_w1_B0 fb dat abi abiv big tyN machN entryN, nf_C_w1_B1 s b o n c] (by kernel_rfl) ?_
  clear HF HM; intro a w HF HM
  refine wp_block ?_
  refine reg_sym HF HM rfl [] ((nf_C_w1_S2 b o n c s fb big phoffN phnumN shoffN shnumN) ++ [(25, iI_ 0), (26, iI_ 0), (407, iB_ 2), (408, .bool false)]) [nf_C_w1_B0 fb dat abi abiv big tyN machN entryN, nf_C_w1_B1 s b o n c] (by kernel_rfl) ?_
  clear HF HM; intro a w HF HM
  refine wp_condF HF rfl ?_
  refine reg_sym HF HM rfl [] ((nf_C_w1_S2 b o n c s fb big phoffN phnumN shoffN shnumN) ++ [(25, iI_ 0), (26, iI_ 0), (407, iB_ 2), (410, .bool true)]) [nf_C_w1_B0 fb dat abi abiv big tyN machN entryN, nf_C_w1_B1 s b o n c] (by kernel_rfl) ?_
  clear HF HM; intro a w HF HM
  refine wp_condT HF rfl ?_
  refine reg_sym HF HM rfl [] ((nf_C_w1_S2 b o n c s fb big phoffN phnumN shoffN shnumN) ++ [(26, iI_ 0), (25, iI_ 56)]) [nf_C_w1_B0 fb dat abi abiv big tyN machN entryN, nf_C_w1_B1 s b o n c] (by kernel_rfl) ?_
  clear HF HM; intro a w HF HM
  refine reg_sym1 HF HM rfl [] ((nf_C_w1_S2 b o n c s fb big phoffN phnumN shoffN shnumN) ++ [(25, iI_ 56), (26, iI_ 64)]) [nf_C_w1_B0 fb dat abi abiv big tyN machN entryN, nf_C_w1_B1 s b o n c] (by kernel_rfl) ?_
  clear HF HM; intro a w HF HM
  repeat (first | refine then_norm ?_ | refine inb_norm ?_)
  refine wp_seq ?_
  refine wp_seq (wp_region_lit ?_)
  refine wp_sym HF HM rfl 2 [] ((nf_C_w1_S2 b o n c s fb big phoffN phnumN shoffN shnumN) ++ [(25, iI_ 56), (26, iI_ 64), (413, .bool (decide (0 < ((phnumN : Nat) : Int))))]) [nf_C_w1_B0 fb dat abi abiv big tyN machN entryN, nf_C_w1_B1 s b o n c] (by kernel_rfl) ?_
  clear HF HM; intro a w HF HM
  rw [show decide (0 < ((phnumN : Nat) : Int)) = true from dec_t (by omega)] at HF
  refine wp_sym HF HM rfl 5 [] ((nf_C_w1_S2 b o n c s fb big phoffN phnumN shoffN shnumN) ++ [(25, iI_ 56), (26, iI_ 64), (418, .bool false)]) [nf_C_w1_B0 fb dat abi abiv big tyN machN entryN, nf_C_w1_B1 s b o n c] (by kernel_rfl) ?_
  clear HF HM; intro a w HF HM
  refine nil_then ?_
  refine wp_condF HF rfl ?_
  refine wp_skip ?_
  repeat (first | refine then_norm ?_ | refine inb_norm ?_)
  replace HF := HF.sub ((nf_C_w1_S2 b o n c s fb big phoffN phnumN shoffN shnumN) ++ [(25, iI_ 56), (26, iI_ 64)]) (by kernel_rfl)
  refine wp_seq ?_
  refine wp_seq (wp_region_lit ?_)
  refine wp_sym HF HM rfl 2 [] ((nf_C_w1_S2 b o n c s fb big phoffN phnumN shoffN shnumN) ++ [(25, iI_ 56), (26, iI_ 64), (425, .bool (decide (0 < ((shoffN : Nat) : Int))))]) [nf_C_w1_B0 fb dat abi abiv big tyN machN entryN, nf_C_w1_B1 s b o n c] (by kernel_rfl) ?_
  clear HF HM; intro a w HF HM
  rw [show decide (0 < ((shoffN : Nat) : Int)) = true from dec_t (by omega)] at HF
  refine wp_sym HF HM rfl 3 [] ((nf_C_w1_S2 b o n c s fb big phoffN phnumN shoffN shnumN) ++ [(25, iI_ 56), (26, iI_ 64), (426, .bool true), (428, .bool (((shnumN : Nat) : Int) == 0))]) [nf_C_w1_B0 fb dat abi abiv big tyN machN entryN, nf_C_w1_B1 s b o n c] (by kernel_rfl) ?_
  clear HF HM; intro a w HF HM
  rw [show (((shnumN : Nat) : Int) == 0) = false from beq_eq_false_iff_ne.2 (by omega)] at HF
  refine wp_sym HF HM rfl 3 [] ((nf_C_w1_S2 b o n c s fb big phoffN phnumN shoffN shnumN) ++ [(25, iI_ 56), (26, iI_ 64), (426, .bool true), (429, .bool false), (431, .bool (((phnumN : Nat) : Int) == 65535))]) [nf_C_w1_B0 fb dat abi abiv big tyN machN entryN, nf_C_w1_B1 s b o n c] (by kernel_rfl) ?_
  clear HF HM; intro a w HF HM
  rw [show (((phnumN : Nat) : Int) == 65535) = false from beq_eq_false_iff_ne.2 (by omega)] at HF
  refine wp_sym HF HM rfl 2 [] ((nf_C_w1_S2 b o n c s fb big phoffN phnumN shoffN shnumN) ++ [(25, iI_ 56), (26, iI_ 64), (433, .bool false)]) [nf_C_w1_B0 fb dat abi abiv big tyN machN entryN, nf_C_w1_B1 s b o n c] (by kernel_rfl) ?_
  clear HF HM; intro a w HF HM
  refine nil_then ?_
  refine wp_condF HF rfl ?_
  refine wp_skip ?_
  repeat (first | refine then_norm ?_ | refine inb_norm ?_)
  replace HF := HF.sub ((nf_C_w1_S2 b o n c s fb big phoffN phnumN shoffN shnumN) ++ [(25, iI_ 56), (26, iI_ 64)]) (by kernel_rfl)
  replace HF := HF.sub ((nf_C_w1_S2 b o n c s fb big phoffN phnumN shoffN shnumN) ++ [(26, iI_ 64)]) (by kernel_rfl)
  exact K a w HF HM

end Go.Proofs.YtdgehpocmfjbiaaDoor
namespace Go.Proofs.YtdgehpocmfjbiaaDoor
open Go.RowKit

section
variable {P : Program} {N : Nat} {G : List Nat} {w0 w : World} {a : Act} {ops : Array Oper}
/-- make([]T, 0, n) -/
theorem wp_make_cap {Q : Exit → Act → World → Prop} {rest : List Oper} {o : Oper} {S : Slots} {L : List (Nat × Obj)} (HF : Fr N a S) (HM : Mm G w0 w L) (hgd : o.guard = none) (l c : Operand) (t : TypeId)
    (ho : o.op = .makeSlice t l c) (hd : okD N o.dst = true) (e : TypeId) (z : Value) (bytes : Nat) (ht : P.underlying t = some (.slice e)) (hi : (P.info? e).map (fun i => (i.zero, i.size, i.bytes)) = some (some z, 1, bytes))
    (kl kc : IntKind) (n : Nat) (hl : ev S l = some (.int kl 0)) (hc : ev S c = some (.int kc (n : Int))) (hb : bytes * n ≤ 281474976710656) (h63 : n ≤ maxLen)
    (hK : ∀ a' w' g cur, w.heap.size ≤ g → cur.size = n → Mm G w0 w' ((g, .cells cur e (0, 0)) :: L) → Fr N a' (putS S o.dst (sl_ g 0 n)) → wpList P ops Q rest a' w') : wpList P ops Q (o :: rest) a w := by
  obtain ⟨i0, hi0, hz0, hz1, hz2⟩ := info_parts hi
  refine wpList_make_own w hgd l c t ho w.heap.size e i0 z 1 ht hi0 hz0 hz1 kl kc n n (HF.ev hl) (HF.ev hc) rfl (by rw [hz2]; exact hb) h63 (Nat.le_refl _) ?_
  intro w' hown hgrow
  have hbel : Below w.heap.size w w' := (Below.refl _ _).grown hgrow (Nat.le_refl _) (by simp)
  rcases hown.2 with ⟨h, _⟩ | ⟨g, cap, cur, hv, hg, hh, hmc, hcm, hcs, htk⟩
  · cases h
  · injection hv with h1 h2 h3
    injection h1 with h1
    injection h1 with h1
    subst h1 h3
    exact hK _ w' _ cur (Nat.le_refl _) (by omega) (HM.push hbel hg hh) (HF.put _ _ (okD_spec hd))
/-- append of one value within the capacity -/
theorem wp_append_in {Q : Exit → Act → World → Prop} {rest : List Oper} {o : Oper} {S : Slots} {L : List (Nat × Obj)} (HF : Fr N a S) (HM : Mm G w0 w L) (hgd : o.guard = none) (s x : Operand) (t : TypeId)
    (ho : o.op = .call { callee := .builtin .append, args := #[s, x], argTypes := #[t, t] }) (hd : okD N o.dst = true) (e : TypeId) (z : Value) (bytes : Nat) (ht : P.underlying t = some (.slice e)) (hi : (P.info? e).map (fun i => (i.zero, i.size, i.bytes)) = some (some z, 1, bytes))
    (i j g b k n : Nat) (cur : Array Value) (v : Value) (tx : TypeId) (hL : L[i]? = some (g, .cells cur e (0, 0))) (hcs : cur.size = n) (hk : k < n) (hnm : n ≤ maxLen) (hs : ev S s = some (sl_ g k n))
    (hx : ev S x = some (sl_ b 1 1)) (hb : L[j]? = some (b, .cells #[v] tx (0, 0))) (h1 : v.oneCell' = true)
    (hK : ∀ a' w' cur', cur'.size = n → cur'.toList.take (k + 1) = cur.toList.take k ++ [v] → Mm G w0 w' (L.set i (g, .cells cur' e (0, 0))) → Fr N a' (putS S o.dst (sl_ g (k + 1) n)) → wpList P ops Q rest a' w') : wpList P ops Q (o :: rest) a w := by
  obtain ⟨i0, hi0, hz0, hz1, hz2⟩ := info_parts hi
  have hown : w.ownsRow 0 e 1 (sl_ g k n) k (cur.toList.take k) :=
    ⟨by simp; omega, .inr ⟨g, n, cur, rfl, Nat.zero_le _, HM.get hL, by omega, hnm, by omega, by rw [Nat.mul_one]⟩⟩
  refine wpList_append_fits w hgd s x t ho 0 e i0 1 ht hi0 hz1 g k n (cur.toList.take k) (HF.ev hs) hown ⟨b, 0, none⟩ 1 1 [v] (HF.ev hx) rfl ?_ (by simpa using h1) (by omega) ?_
  · intro m u hu
    cases m with
    | zero =>
      simp only [List.getElem?_cons_zero, Option.some.injEq] at hu
      subst hu
      have := cell_of_row w b 0 _ tx (0, 0) (HM.get hb)
      simpa [Addr.add] using this
    | succ m => simp at hu
  · intro w' hown' hgrow
    rcases hown'.2 with ⟨h, _⟩ | ⟨g', cap, cur', hv, hg, hh, hmc, hcm, hcs', htk⟩
    · cases h
    · injection hv with h1 h2 h3
      injection h1 with h1
      injection h1 with h1
      subst h1 h3
      exact hK _ w' cur' (by omega) (by rw [Nat.mul_one] at htk; exact htk) (HM.put hL hh (Keep.of_grown hgrow)) (HF.put _ _ (okD_spec hd))
end
theorem run_quo {P : Program} {w : World} {ρ : Operand → Value} {o : Oper} {T U : TypeId} {x y : Operand} {k : IntKind} {u v : Int} (ho : o.op = .binOp .quo T x y U) (hx : ρ x = .int k u) (hy : ρ y = .int k v) (hv : v ≠ 0) : (execOp ρ o).run P w = .ok (.value (.int k (k.wrap (u.tdiv v)))) w := by
  unfold execOp
  simp only [ho, hx, hy]
  simp [eqGuard, binOp_quo, Op.intDiv, hv]

theorem info_pp : (Tryd.prog.info? 136).map (fun i => (i.zero, i.size, i.bytes)) = some (some (.pointer none), 1, 8) := by kernel_rfl
theorem info_ss : (Tryd.prog.info? 133).map (fun i => (i.zero, i.size, i.bytes)) = some (some (.pointer none), 1, 8) := by kernel_rfl
theorem big_quo (n : Nat) (h0 : 0 < n) (h1 : n < 200) : 1000000 ≤ (18446744073709551615 : Int).tdiv (n : Int) ∧ (18446744073709551615 : Int).tdiv (n : Int) ≤ 18446744073709551615 := by
  rw [Int.tdiv_eq_ediv_of_nonneg (by omega)]
  constructor
  · exact Int.le_ediv_of_mul_le (by omega) (by omega)
  · exact Int.ediv_le_self _ (by omega)

abbrev nf_D_t0_S0 := fun (b : Nat) (o : Nat) (n : Nat) (c : Nat) (s : Nat) (fb : Nat) (big : Bool) (phoffN : Nat) (shoffN : Nat) (shnumN : Nat) => ([(0, .iface 178 (.slice (some ⟨b, o, none⟩) n c)), (4, pt_ s), (8, pt_ fb), (9, (boV big)), (10, i6_ phoffN), (11, iI_ 32), (12, iI_ 0), (13, i6_ shoffN), (14, iI_ 40), (15, i6_ shnumN), (16, i6_ (shnumN - 1)), (26, iI_ 40)] : Slots)
set_option maxRecDepth 100000 in
set_option maxHeartbeats 1000000 in
theorem nf_D_t0 (l : List UInt8) (b o n c : Nat) (hl : n = l.length) (hnc : n ≤ c) (big : Bool) (abi abiv tyN machN entryN phoffN phnumN shoffN shnumN : Nat) (dat : Int) (b1 : tyN < 65536) (b2 : machN < 65536) (b3 : entryN ≤ 18446744073709551615) (b4 : phoffN < 4611686018427387904) (b5 : shoffN < 4611686018427387904) (b6 : phnumN < 200) (b7 : shnumN < 200) (c1 : 0 < shoffN) (c2 : 0 < shnumN) (c4 : phoffN < n) (c5 : phoffN + (0 * 32) ≤ n) {Q : Exit → Act → World → Prop} (w0 : World) (hbl : b < w0.heap.size) (hr : Row w0 (some ⟨b, o, none⟩) (l.map Bv)) (a : Act) (w : World) (s fb : Nat) (HF : Fr 1287 a (nf_D_t0_S0 b o n c s fb big phoffN shoffN shnumN)) (HM : Mm [] w0 w [(fb, .cells #[iB_ 1, .int .u8 dat, iB_ 1, u8_ abi, u8_ abiv, (boV big), u2_ tyN, u2_ machN, u6_ entryN, nl_, nl_, nl_, nl_, nl_] 131 (0, 0)), (s, .cells #[.iface 178 (.slice (some ⟨b, o, none⟩) n c), iI_ 0, iI_ 0, iI_ 9223372036854775807, iI_ 9223372036854775807] 246 (0, 0))])
    (K : ∀ a w pg cur pd, cur.size = 0 → Fr 1287 a ((nf_D_t0_S0 b o n c s fb big phoffN shoffN shnumN) ++ [(36, sl_ pd (0 * 32) (0 * 32))]) → Mm [] w0 w [(pd, .cells (((l.drop phoffN).take (0 * 32)).map Bv).toArray 5 (0, 0)), (pg, .cells cur 136 (0, 0)), (fb, .cells #[iB_ 1, .int .u8 dat, iB_ 1, u8_ abi, u8_ abiv, (boV big), u2_ tyN, u2_ machN, u6_ entryN, nl_, sl_ pg 0 0, nl_, nl_, nl_] 131 (0, 0)), (s, .cells #[.iface 178 (.slice (some ⟨b, o, none⟩) n c), iI_ 0, iI_ 0, iI_ 9223372036854775807, iI_ 9223372036854775807] 246 (0, 0))] → (spine Tryd.f78 35).wp Tryd.prog Q a w) : (spine Tryd.f78 29).wp Tryd.prog Q a w := by
  refine wp_seq (wp_region_lit ?_)
  refine wp_sym HF HM rfl 2 [] ((nf_D_t0_S0 b o n c s fb big phoffN shoffN shnumN) ++ [(547, iL_ 0)]) [(fb, .cells #[iB_ 1, .int .u8 dat, iB_ 1, u8_ abi, u8_ abiv, (boV big), u2_ tyN, u2_ machN, u6_ entryN, nl_, nl_, nl_, nl_, nl_] 131 (0, 0)), (s, .cells #[.iface 178 (.slice (some ⟨b, o, none⟩) n c), iI_ 0, iI_ 0, iI_ 9223372036854775807, iI_ 9223372036854775807] 246 (0, 0))] (by kernel_rfl) ?_
  clear HF HM; intro a w HF HM
  refine wp_call HF (by kernel_rfl) 98 #[iL_ 8, u6_ 0] (by kernel_rfl) (fun w => by kernel_rfl) (Calls.mono (sliceCap_8 0 (by omega) w) ?_)
  rintro _ w1 ⟨rfl, hq⟩
  replace HM : Mm [] w0 w1 [(fb, .cells #[iB_ 1, .int .u8 dat, iB_ 1, u8_ abi, u8_ abiv, (boV big), u2_ tyN, u2_ machN, u6_ entryN, nl_, nl_, nl_, nl_, nl_] 131 (0, 0)), (s, .cells #[.iface 178 (.slice (some ⟨b, o, none⟩) n c), iI_ 0, iI_ 0, iI_ 9223372036854775807, iI_ 9223372036854775807] 246 (0, 0))] := by first | (rw [hq]; exact HM) | (rw [← hq]; exact HM)
  clear hq
  refine ⟨_, rfl, ?_⟩; clear HF; intro a HF; replace HF := HF.sub ((nf_D_t0_S0 b o n c s fb big phoffN shoffN shnumN) ++ [(547, iL_ 0), (548, i6_ 0)]) (by kernel_rfl)
  refine wp_sym HF HM rfl 1 [] ((nf_D_t0_S0 b o n c s fb big phoffN shoffN shnumN) ++ [(35, i6_ 0)]) [(fb, .cells #[iB_ 1, .int .u8 dat, iB_ 1, u8_ abi, u8_ abiv, (boV big), u2_ tyN, u2_ machN, u6_ entryN, nl_, nl_, nl_, nl_, nl_] 131 (0, 0)), (s, .cells #[.iface 178 (.slice (some ⟨b, o, none⟩) n c), iI_ 0, iI_ 0, iI_ 9223372036854775807, iI_ 9223372036854775807] 246 (0, 0))] (by kernel_rfl) ?_
  clear HF HM; intro a w HF HM
  refine nil_then ?_
  refine wp_seq ?_
  refine wp_seq (wp_region_lit ?_)
  refine wp_sym HF HM rfl 2 [] ((nf_D_t0_S0 b o n c s fb big phoffN shoffN shnumN) ++ [(35, i6_ 0), (550, .bool (decide (((0 : Nat) : Int) < 0)))]) [(fb, .cells #[iB_ 1, .int .u8 dat, iB_ 1, u8_ abi, u8_ abiv, (boV big), u2_ tyN, u2_ machN, u6_ entryN, nl_, nl_, nl_, nl_, nl_] 131 (0, 0)), (s, .cells #[.iface 178 (.slice (some ⟨b, o, none⟩) n c), iI_ 0, iI_ 0, iI_ 9223372036854775807, iI_ 9223372036854775807] 246 (0, 0))] (by kernel_rfl) ?_
  clear HF HM; intro a w HF HM
  rw [show decide (((0 : Nat) : Int) < 0) = false from dec_f (by omega)] at HF
  refine nil_then ?_
  refine wp_condF HF rfl ?_
  refine wp_skip ?_
  repeat (first | refine then_norm ?_ | refine inb_norm ?_)
  replace HF := HF.sub ((nf_D_t0_S0 b o n c s fb big phoffN shoffN shnumN) ++ [(35, i6_ 0)]) (by kernel_rfl)
  refine wp_seq ?_
  refine wp_seq (wp_region_lit ?_)
  refine wp_sym HF HM rfl 10 [] ((nf_D_t0_S0 b o n c s fb big phoffN shoffN shnumN) ++ [(35, i6_ 0), (565, .bool false)]) [(fb, .cells #[iB_ 1, .int .u8 dat, iB_ 1, u8_ abi, u8_ abiv, (boV big), u2_ tyN, u2_ machN, u6_ entryN, nl_, nl_, nl_, nl_, nl_] 131 (0, 0)), (s, .cells #[.iface 178 (.slice (some ⟨b, o, none⟩) n c), iI_ 0, iI_ 0, iI_ 9223372036854775807, iI_ 9223372036854775807] 246 (0, 0))] (by kernel_rfl) ?_
  clear HF HM; intro a w HF HM
  refine nil_then ?_
  refine wp_condF HF rfl ?_
  refine wp_skip ?_
  repeat (first | refine then_norm ?_ | refine inb_norm ?_)
  replace HF := HF.sub ((nf_D_t0_S0 b o n c s fb big phoffN shoffN shnumN) ++ [(35, i6_ 0)]) (by kernel_rfl)
  refine wp_seq (wp_region_lit ?_)
  refine wp_sym HF HM rfl 2 [] ((nf_D_t0_S0 b o n c s fb big phoffN shoffN shnumN) ++ [(35, i6_ 0), (571, pt_ fb), (572, i6_ 0)]) [(fb, .cells #[iB_ 1, .int .u8 dat, iB_ 1, u8_ abi, u8_ abiv, (boV big), u2_ tyN, u2_ machN, u6_ entryN, nl_, nl_, nl_, nl_, nl_] 131 (0, 0)), (s, .cells #[.iface 178 (.slice (some ⟨b, o, none⟩) n c), iI_ 0, iI_ 0, iI_ 9223372036854775807, iI_ 9223372036854775807] 246 (0, 0))] (by kernel_rfl) ?_
  clear HF HM; intro a w HF HM
  refine wp_make_cap HF HM rfl _ _ 127 rfl rfl 136 (.pointer none) 8 Tryd.underlying127 info_pp .i64 .i64 0 rfl rfl (by omega) (by unfold maxLen; omega) ?_
  intro a2 w2 pg cur hgw hcs HM2 HF2; have hg0 : w0.heap.size ≤ pg := Nat.le_trans HM.size hgw; clear HF HM hgw; have HM := HM2; have HF := HF2; clear HM2 HF2
  replace HF := HF.sub ((nf_D_t0_S0 b o n c s fb big phoffN shoffN shnumN) ++ [(35, i6_ 0), (571, pt_ fb), (573, sl_ pg 0 0)]) (by kernel_rfl)
  refine wp_sym HF HM rfl 3 [[1]] ((nf_D_t0_S0 b o n c s fb big phoffN shoffN shnumN) ++ [(35, i6_ 0)]) [(pg, .cells cur 136 (0, 0)), (fb, .cells #[iB_ 1, .int .u8 dat, iB_ 1, u8_ abi, u8_ abiv, (boV big), u2_ tyN, u2_ machN, u6_ entryN, nl_, sl_ pg 0 0, nl_, nl_, nl_] 131 (0, 0)), (s, .cells #[.iface 178 (.slice (some ⟨b, o, none⟩) n c), iI_ 0, iI_ 0, iI_ 9223372036854775807, iI_ 9223372036854775807] 246 (0, 0))] (by kernel_rfl) ?_
  clear HF HM; intro a w HF HM
  refine nil_then ?_
  have hbs : b ≠ s := fun e => absurd hbl (Nat.not_lt_of_le (e ▸ HM.ge (i := 2) rfl))
  have hsz : w0.heap.size ≤ w.heap.size := HM.size
  refine wp_seq (wp_region_lit ?_)
  refine wp_sym HF HM rfl 8 [] ((nf_D_t0_S0 b o n c s fb big phoffN shoffN shnumN) ++ [(35, i6_ 0), (578, .iface 144 (pt_ s)), (583, iL_ 0), (584, i6_ phoffN)]) [(pg, .cells cur 136 (0, 0)), (fb, .cells #[iB_ 1, .int .u8 dat, iB_ 1, u8_ abi, u8_ abiv, (boV big), u2_ tyN, u2_ machN, u6_ entryN, nl_, sl_ pg 0 0, nl_, nl_, nl_] 131 (0, 0)), (s, .cells #[.iface 178 (.slice (some ⟨b, o, none⟩) n c), iI_ 0, iI_ 0, iI_ 9223372036854775807, iI_ 9223372036854775807] 246 (0, 0))] (by kernel_rfl) ?_
  clear HF HM; intro a w HF HM
  refine wp_call HF (by kernel_rfl) 99 #[.iface 144 (pt_ s), u6_ (0 * 32), i6_ phoffN] (by kernel_rfl) (fun w => by kernel_rfl) (Calls.mono (readDataAt_full l b o n c hl hnc s (0 * 32) 0 phoffN 0 9223372036854775807 9223372036854775807 (by omega) (by omega) (by omega) (by omega) (by omega) (by omega) w (HM.row hr (by intro b' o' s' _; simp)) (Nat.lt_of_lt_of_le hbl HM.size) hbs (HM.get (i := 2) rfl)) ?_)
  rintro _ w3 ⟨pd, rfl, hb, hge, hgn⟩
  replace HM : Mm [] w0 w3 [(pd, .cells (((l.drop (0 + phoffN)).take (0 * 32)).map Bv).toArray 5 (0, 0)), (pg, .cells cur 136 (0, 0)), (fb, .cells #[iB_ 1, .int .u8 dat, iB_ 1, u8_ abi, u8_ abiv, (boV big), u2_ tyN, u2_ machN, u6_ entryN, nl_, sl_ pg 0 0, nl_, nl_, nl_] 131 (0, 0)), (s, .cells #[.iface 178 (.slice (some ⟨b, o, none⟩) n c), iI_ 0, iI_ 0, iI_ 9223372036854775807, iI_ 9223372036854775807] 246 (0, 0))] := HM.push hb hge hgn
  clear hb hge hgn
  refine ⟨_, rfl, ?_⟩; clear HF; intro a HF; replace HF := HF.sub ((nf_D_t0_S0 b o n c s fb big phoffN shoffN shnumN) ++ [(35, i6_ 0), (578, .iface 144 (pt_ s)), (583, iL_ 0), (584, i6_ phoffN), (585, .tuple #[sl_ pd (0 * 32) (0 * 32), .nilIface])]) (by kernel_rfl)
  refine wp_sym HF HM rfl 5 [] ((nf_D_t0_S0 b o n c s fb big phoffN shoffN shnumN) ++ [(35, i6_ 0), (36, sl_ pd (0 * 32) (0 * 32)), (37, .nilIface)]) [(pd, .cells (((l.drop (0 + phoffN)).take (0 * 32)).map Bv).toArray 5 (0, 0)), (pg, .cells cur 136 (0, 0)), (fb, .cells #[iB_ 1, .int .u8 dat, iB_ 1, u8_ abi, u8_ abiv, (boV big), u2_ tyN, u2_ machN, u6_ entryN, nl_, sl_ pg 0 0, nl_, nl_, nl_] 131 (0, 0)), (s, .cells #[.iface 178 (.slice (some ⟨b, o, none⟩) n c), iI_ 0, iI_ 0, iI_ 9223372036854775807, iI_ 9223372036854775807] 246 (0, 0))] (by kernel_rfl) ?_
  clear HF HM; intro a w HF HM
  refine nil_then ?_
  refine wp_seq ?_
  refine wp_seq (wp_region_lit ?_)
  refine wp_sym HF HM rfl 2 [] ((nf_D_t0_S0 b o n c s fb big phoffN shoffN shnumN) ++ [(35, i6_ 0), (36, sl_ pd (0 * 32) (0 * 32)), (37, .nilIface), (589, .bool false)]) [(pd, .cells (((l.drop (0 + phoffN)).take (0 * 32)).map Bv).toArray 5 (0, 0)), (pg, .cells cur 136 (0, 0)), (fb, .cells #[iB_ 1, .int .u8 dat, iB_ 1, u8_ abi, u8_ abiv, (boV big), u2_ tyN, u2_ machN, u6_ entryN, nl_, sl_ pg 0 0, nl_, nl_, nl_] 131 (0, 0)), (s, .cells #[.iface 178 (.slice (some ⟨b, o, none⟩) n c), iI_ 0, iI_ 0, iI_ 9223372036854775807, iI_ 9223372036854775807] 246 (0, 0))] (by kernel_rfl) ?_
  clear HF HM; intro a w HF HM
  refine nil_then ?_
  refine wp_condF HF rfl ?_
  refine wp_skip ?_
  repeat (first | refine then_norm ?_ | refine inb_norm ?_)
  replace HF := HF.sub ((nf_D_t0_S0 b o n c s fb big phoffN shoffN shnumN) ++ [(36, sl_ pd (0 * 32) (0 * 32))]) (by kernel_rfl)
  replace HF := HF.sub ((nf_D_t0_S0 b o n c s fb big phoffN shoffN shnumN) ++ [(36, sl_ pd (0 * 32) (0 * 32))]) (by kernel_rfl)
  rw [Nat.zero_add] at HM
  exact K a w pg cur pd hcs HF HM

abbrev nf_D_t1_S0 := fun (b : Nat) (o : Nat) (n : Nat) (c : Nat) (s : Nat) (fb : Nat) (big : Bool) (phoffN : Nat) (phnumN : Nat) (shoffN : Nat) (shnumN : Nat) => ([(0, .iface 178 (.slice (some ⟨b, o, none⟩) n c)), (4, pt_ s), (8, pt_ fb), (9, (boV big)), (10, i6_ phoffN), (11, iI_ 32), (12, i6_ phnumN), (13, i6_ shoffN), (14, iI_ 40), (15, i6_ shnumN), (16, i6_ (shnumN - 1)), (26, iI_ 40)] : Slots)
set_option maxRecDepth 100000 in
set_option maxHeartbeats 1000000 in
theorem nf_D_t1 (l : List UInt8) (b o n c : Nat) (hl : n = l.length) (hnc : n ≤ c) (big : Bool) (abi abiv tyN machN entryN phoffN phnumN shoffN shnumN : Nat) (dat : Int) (b1 : tyN < 65536) (b2 : machN < 65536) (b3 : entryN ≤ 18446744073709551615) (b4 : phoffN < 4611686018427387904) (b5 : shoffN < 4611686018427387904) (b6 : phnumN < 200) (b7 : shnumN < 200) (c1 : 0 < shoffN) (c2 : 0 < shnumN) (c3 : 0 < phnumN) (c4 : phoffN < n) (c5 : phoffN + (phnumN * 32) ≤ n) {Q : Exit → Act → World → Prop} (w0 : World) (hbl : b < w0.heap.size) (hr : Row w0 (some ⟨b, o, none⟩) (l.map Bv)) (a : Act) (w : World) (s fb : Nat) (HF : Fr 1287 a (nf_D_t1_S0 b o n c s fb big phoffN phnumN shoffN shnumN)) (HM : Mm [] w0 w [(fb, .cells #[iB_ 1, .int .u8 dat, iB_ 1, u8_ abi, u8_ abiv, (boV big), u2_ tyN, u2_ machN, u6_ entryN, nl_, nl_, nl_, nl_, nl_] 131 (0, 0)), (s, .cells #[.iface 178 (.slice (some ⟨b, o, none⟩) n c), iI_ 0, iI_ 0, iI_ 9223372036854775807, iI_ 9223372036854775807] 246 (0, 0))])
    (K : ∀ a w pg cur pd, cur.size = phnumN → Fr 1287 a ((nf_D_t1_S0 b o n c s fb big phoffN phnumN shoffN shnumN) ++ [(36, sl_ pd (phnumN * 32) (phnumN * 32))]) → Mm [] w0 w [(pd, .cells (((l.drop phoffN).take (phnumN * 32)).map Bv).toArray 5 (0, 0)), (pg, .cells cur 136 (0, 0)), (fb, .cells #[iB_ 1, .int .u8 dat, iB_ 1, u8_ abi, u8_ abiv, (boV big), u2_ tyN, u2_ machN, u6_ entryN, nl_, sl_ pg 0 phnumN, nl_, nl_, nl_] 131 (0, 0)), (s, .cells #[.iface 178 (.slice (some ⟨b, o, none⟩) n c), iI_ 0, iI_ 0, iI_ 9223372036854775807, iI_ 9223372036854775807] 246 (0, 0))] → (spine Tryd.f78 35).wp Tryd.prog Q a w) : (spine Tryd.f78 29).wp Tryd.prog Q a w := by
  refine wp_seq (wp_region_lit ?_)
  refine wp_sym HF HM rfl 2 [] ((nf_D_t1_S0 b o n c s fb big phoffN phnumN shoffN shnumN) ++ [(547, iL_ (IntKind.u64.wrap ((phnumN : Nat) : Int)))]) [(fb, .cells #[iB_ 1, .int .u8 dat, iB_ 1, u8_ abi, u8_ abiv, (boV big), u2_ tyN, u2_ machN, u6_ entryN, nl_, nl_, nl_, nl_, nl_] 131 (0, 0)), (s, .cells #[.iface 178 (.slice (some ⟨b, o, none⟩) n c), iI_ 0, iI_ 0, iI_ 9223372036854775807, iI_ 9223372036854775807] 246 (0, 0))] (by kernel_rfl) ?_
  clear HF HM; intro a w HF HM
  rw [show IntKind.u64.wrap ((phnumN : Nat) : Int) = ((phnumN : Nat) : Int) from IntWalk.u64_in _ (by omega)] at HF
  refine wp_call HF (by kernel_rfl) 98 #[iL_ 8, u6_ phnumN] (by kernel_rfl) (fun w => by kernel_rfl) (Calls.mono (sliceCap_8 phnumN (by omega) w) ?_)
  rintro _ w1 ⟨rfl, hq⟩
  replace HM : Mm [] w0 w1 [(fb, .cells #[iB_ 1, .int .u8 dat, iB_ 1, u8_ abi, u8_ abiv, (boV big), u2_ tyN, u2_ machN, u6_ entryN, nl_, nl_, nl_, nl_, nl_] 131 (0, 0)), (s, .cells #[.iface 178 (.slice (some ⟨b, o, none⟩) n c), iI_ 0, iI_ 0, iI_ 9223372036854775807, iI_ 9223372036854775807] 246 (0, 0))] := by first | (rw [hq]; exact HM) | (rw [← hq]; exact HM)
  clear hq
  refine ⟨_, rfl, ?_⟩; clear HF; intro a HF; replace HF := HF.sub ((nf_D_t1_S0 b o n c s fb big phoffN phnumN shoffN shnumN) ++ [(547, u6_ phnumN), (548, i6_ phnumN)]) (by kernel_rfl)
  refine wp_sym HF HM rfl 1 [] ((nf_D_t1_S0 b o n c s fb big phoffN phnumN shoffN shnumN) ++ [(35, i6_ phnumN)]) [(fb, .cells #[iB_ 1, .int .u8 dat, iB_ 1, u8_ abi, u8_ abiv, (boV big), u2_ tyN, u2_ machN, u6_ entryN, nl_, nl_, nl_, nl_, nl_] 131 (0, 0)), (s, .cells #[.iface 178 (.slice (some ⟨b, o, none⟩) n c), iI_ 0, iI_ 0, iI_ 9223372036854775807, iI_ 9223372036854775807] 246 (0, 0))] (by kernel_rfl) ?_
  clear HF HM; intro a w HF HM
  refine nil_then ?_
  refine wp_seq ?_
  refine wp_seq (wp_region_lit ?_)
  refine wp_sym HF HM rfl 2 [] ((nf_D_t1_S0 b o n c s fb big phoffN phnumN shoffN shnumN) ++ [(35, i6_ phnumN), (550, .bool (decide (((phnumN : Nat) : Int) < 0)))]) [(fb, .cells #[iB_ 1, .int .u8 dat, iB_ 1, u8_ abi, u8_ abiv, (boV big), u2_ tyN, u2_ machN, u6_ entryN, nl_, nl_, nl_, nl_, nl_] 131 (0, 0)), (s, .cells #[.iface 178 (.slice (some ⟨b, o, none⟩) n c), iI_ 0, iI_ 0, iI_ 9223372036854775807, iI_ 9223372036854775807] 246 (0, 0))] (by kernel_rfl) ?_
  clear HF HM; intro a w HF HM
  rw [show decide (((phnumN : Nat) : Int) < 0) = false from dec_f (by omega)] at HF
  refine nil_then ?_
  refine wp_condF HF rfl ?_
  refine wp_skip ?_
  repeat (first | refine then_norm ?_ | refine inb_norm ?_)
  replace HF := HF.sub ((nf_D_t1_S0 b o n c s fb big phoffN phnumN shoffN shnumN) ++ [(35, i6_ phnumN)]) (by kernel_rfl)
  refine wp_seq ?_
  refine wp_seq (wp_region_lit ?_)
  refine wp_sym HF HM rfl 2 [] ((nf_D_t1_S0 b o n c s fb big phoffN phnumN shoffN shnumN) ++ [(35, i6_ phnumN), (557, .bool (decide (0 < ((phnumN : Nat) : Int))))]) [(fb, .cells #[iB_ 1, .int .u8 dat, iB_ 1, u8_ abi, u8_ abiv, (boV big), u2_ tyN, u2_ machN, u6_ entryN, nl_, nl_, nl_, nl_, nl_] 131 (0, 0)), (s, .cells #[.iface 178 (.slice (some ⟨b, o, none⟩) n c), iI_ 0, iI_ 0, iI_ 9223372036854775807, iI_ 9223372036854775807] 246 (0, 0))] (by kernel_rfl) ?_
  clear HF HM; intro a w HF HM
  rw [show decide (0 < ((phnumN : Nat) : Int)) = true from dec_t (by omega)] at HF
  refine wp_sym HF HM rfl 3 [] ((nf_D_t1_S0 b o n c s fb big phoffN phnumN shoffN shnumN) ++ [(35, i6_ phnumN), (557, .bool true), (558, .bool true), (560, iL_ (IntKind.u64.wrap ((phnumN : Nat) : Int)))]) [(fb, .cells #[iB_ 1, .int .u8 dat, iB_ 1, u8_ abi, u8_ abiv, (boV big), u2_ tyN, u2_ machN, u6_ entryN, nl_, nl_, nl_, nl_, nl_] 131 (0, 0)), (s, .cells #[.iface 178 (.slice (some ⟨b, o, none⟩) n c), iI_ 0, iI_ 0, iI_ 9223372036854775807, iI_ 9223372036854775807] 246 (0, 0))] (by kernel_rfl) ?_
  clear HF HM; intro a w HF HM
  rw [show IntKind.u64.wrap ((phnumN : Nat) : Int) = ((phnumN : Nat) : Int) from IntWalk.u64_in _ (by omega)] at HF
  refine wp_run HF (by kernel_rfl) (iL_ (IntKind.u64.wrap ((18446744073709551615 : Int).tdiv ((phnumN : Nat) : Int)))) (by kernel_rfl) (run_quo rfl rfl rfl (by omega)) ?_
  clear HF; intro a HF; replace HF := HF.sub [(0, .iface 178 (.slice (some ⟨b, o, none⟩) n c)), (4, pt_ s), (8, pt_ fb), (9, (boV big)), (10, i6_ phoffN), (11, iI_ 32), (12, i6_ phnumN), (13, i6_ shoffN), (14, iI_ 40), (15, i6_ shnumN), (16, i6_ (shnumN - 1)), (26, iI_ 40), (35, i6_ phnumN), (557, .bool true), (558, .bool true), (560, u6_ phnumN), (561, iL_ (IntKind.u64.wrap ((18446744073709551615 : Int).tdiv ((phnumN : Nat) : Int))))] (by kernel_rfl)
  have hq := big_quo phnumN c3 b6
  rw [IntWalk.u64_in ((18446744073709551615 : Int).tdiv ((phnumN : Nat) : Int)) (by omega)] at HF
  refine wp_sym HF HM rfl 3 [] ((nf_D_t1_S0 b o n c s fb big phoffN phnumN shoffN shnumN) ++ [(35, i6_ phnumN), (557, .bool true), (558, .bool true), (564, .bool (decide (((18446744073709551615 : Int).tdiv ((phnumN : Nat) : Int)) < 32)))]) [(fb, .cells #[iB_ 1, .int .u8 dat, iB_ 1, u8_ abi, u8_ abiv, (boV big), u2_ tyN, u2_ machN, u6_ entryN, nl_, nl_, nl_, nl_, nl_] 131 (0, 0)), (s, .cells #[.iface 178 (.slice (some ⟨b, o, none⟩) n c), iI_ 0, iI_ 0, iI_ 9223372036854775807, iI_ 9223372036854775807] 246 (0, 0))] (by kernel_rfl) ?_
  clear HF HM; intro a w HF HM
  rw [show decide (((18446744073709551615 : Int).tdiv ((phnumN : Nat) : Int)) < 32) = false from dec_f (by omega)] at HF
  refine wp_sym HF HM rfl 1 [] ((nf_D_t1_S0 b o n c s fb big phoffN phnumN shoffN shnumN) ++ [(35, i6_ phnumN), (565, .bool false)]) [(fb, .cells #[iB_ 1, .int .u8 dat, iB_ 1, u8_ abi, u8_ abiv, (boV big), u2_ tyN, u2_ machN, u6_ entryN, nl_, nl_, nl_, nl_, nl_] 131 (0, 0)), (s, .cells #[.iface 178 (.slice (some ⟨b, o, none⟩) n c), iI_ 0, iI_ 0, iI_ 9223372036854775807, iI_ 9223372036854775807] 246 (0, 0))] (by kernel_rfl) ?_
  clear HF HM; intro a w HF HM
  refine nil_then ?_
  refine wp_condF HF rfl ?_
  refine wp_skip ?_
  repeat (first | refine then_norm ?_ | refine inb_norm ?_)
  replace HF := HF.sub ((nf_D_t1_S0 b o n c s fb big phoffN phnumN shoffN shnumN) ++ [(35, i6_ phnumN)]) (by kernel_rfl)
  refine wp_seq (wp_region_lit ?_)
  refine wp_sym HF HM rfl 2 [] ((nf_D_t1_S0 b o n c s fb big phoffN phnumN shoffN shnumN) ++ [(35, i6_ phnumN), (571, pt_ fb), (572, i6_ phnumN)]) [(fb, .cells #[iB_ 1, .int .u8 dat, iB_ 1, u8_ abi, u8_ abiv, (boV big), u2_ tyN, u2_ machN, u6_ entryN, nl_, nl_, nl_, nl_, nl_] 131 (0, 0)), (s, .cells #[.iface 178 (.slice (some ⟨b, o, none⟩) n c), iI_ 0, iI_ 0, iI_ 9223372036854775807, iI_ 9223372036854775807] 246 (0, 0))] (by kernel_rfl) ?_
  clear HF HM; intro a w HF HM
  refine wp_make_cap HF HM rfl _ _ 127 rfl rfl 136 (.pointer none) 8 Tryd.underlying127 info_pp .i64 .i64 phnumN rfl rfl (by omega) (by unfold maxLen; omega) ?_
  intro a2 w2 pg cur hgw hcs HM2 HF2; have hg0 : w0.heap.size ≤ pg := Nat.le_trans HM.size hgw; clear HF HM hgw; have HM := HM2; have HF := HF2; clear HM2 HF2
  replace HF := HF.sub ((nf_D_t1_S0 b o n c s fb big phoffN phnumN shoffN shnumN) ++ [(35, i6_ phnumN), (571, pt_ fb), (573, sl_ pg 0 phnumN)]) (by kernel_rfl)
  refine wp_sym HF HM rfl 3 [[1]] ((nf_D_t1_S0 b o n c s fb big phoffN phnumN shoffN shnumN) ++ [(35, i6_ phnumN)]) [(pg, .cells cur 136 (0, 0)), (fb, .cells #[iB_ 1, .int .u8 dat, iB_ 1, u8_ abi, u8_ abiv, (boV big), u2_ tyN, u2_ machN, u6_ entryN, nl_, sl_ pg 0 phnumN, nl_, nl_, nl_] 131 (0, 0)), (s, .cells #[.iface 178 (.slice (some ⟨b, o, none⟩) n c), iI_ 0, iI_ 0, iI_ 9223372036854775807, iI_ 9223372036854775807] 246 (0, 0))] (by kernel_rfl) ?_
  clear HF HM; intro a w HF HM
  refine nil_then ?_
  have hbs : b ≠ s := fun e => absurd hbl (Nat.not_lt_of_le (e ▸ HM.ge (i := 2) rfl))
  have hsz : w0.heap.size ≤ w.heap.size := HM.size
  refine wp_seq (wp_region_lit ?_)
  refine wp_sym HF HM rfl 4 [] ((nf_D_t1_S0 b o n c s fb big phoffN phnumN shoffN shnumN) ++ [(35, i6_ phnumN), (578, .iface 144 (pt_ s)), (580, iL_ (IntKind.u64.wrap ((phnumN : Nat) : Int)))]) [(pg, .cells cur 136 (0, 0)), (fb, .cells #[iB_ 1, .int .u8 dat, iB_ 1, u8_ abi, u8_ abiv, (boV big), u2_ tyN, u2_ machN, u6_ entryN, nl_, sl_ pg 0 phnumN, nl_, nl_, nl_] 131 (0, 0)), (s, .cells #[.iface 178 (.slice (some ⟨b, o, none⟩) n c), iI_ 0, iI_ 0, iI_ 9223372036854775807, iI_ 9223372036854775807] 246 (0, 0))] (by kernel_rfl) ?_
  clear HF HM; intro a w HF HM
  rw [show IntKind.u64.wrap ((phnumN : Nat) : Int) = ((phnumN : Nat) : Int) from IntWalk.u64_in _ (by omega)] at HF
  refine wp_sym HF HM rfl 3 [] ((nf_D_t1_S0 b o n c s fb big phoffN phnumN shoffN shnumN) ++ [(35, i6_ phnumN), (578, .iface 144 (pt_ s)), (583, iL_ (IntKind.u64.wrap (((phnumN : Nat) : Int) * 32)))]) [(pg, .cells cur 136 (0, 0)), (fb, .cells #[iB_ 1, .int .u8 dat, iB_ 1, u8_ abi, u8_ abiv, (boV big), u2_ tyN, u2_ machN, u6_ entryN, nl_, sl_ pg 0 phnumN, nl_, nl_, nl_] 131 (0, 0)), (s, .cells #[.iface 178 (.slice (some ⟨b, o, none⟩) n c), iI_ 0, iI_ 0, iI_ 9223372036854775807, iI_ 9223372036854775807] 246 (0, 0))] (by kernel_rfl) ?_
  clear HF HM; intro a w HF HM
  rw [show IntKind.u64.wrap (((phnumN : Nat) : Int) * 32) = (((phnumN * 32) : Nat) : Int) from (IntWalk.u64_in _ (by omega)).trans (by omega)] at HF
  refine wp_sym HF HM rfl 1 [] ((nf_D_t1_S0 b o n c s fb big phoffN phnumN shoffN shnumN) ++ [(35, i6_ phnumN), (578, .iface 144 (pt_ s)), (583, u6_ (phnumN * 32)), (584, i6_ phoffN)]) [(pg, .cells cur 136 (0, 0)), (fb, .cells #[iB_ 1, .int .u8 dat, iB_ 1, u8_ abi, u8_ abiv, (boV big), u2_ tyN, u2_ machN, u6_ entryN, nl_, sl_ pg 0 phnumN, nl_, nl_, nl_] 131 (0, 0)), (s, .cells #[.iface 178 (.slice (some ⟨b, o, none⟩) n c), iI_ 0, iI_ 0, iI_ 9223372036854775807, iI_ 9223372036854775807] 246 (0, 0))] (by kernel_rfl) ?_
  clear HF HM; intro a w HF HM
  refine wp_call HF (by kernel_rfl) 99 #[.iface 144 (pt_ s), u6_ (phnumN * 32), i6_ phoffN] (by kernel_rfl) (fun w => by kernel_rfl) (Calls.mono (readDataAt_full l b o n c hl hnc s (phnumN * 32) 0 phoffN 0 9223372036854775807 9223372036854775807 (by omega) (by omega) (by omega) (by omega) (by omega) (by omega) w (HM.row hr (by intro b' o' s' _; simp)) (Nat.lt_of_lt_of_le hbl HM.size) hbs (HM.get (i := 2) rfl)) ?_)
  rintro _ w3 ⟨pd, rfl, hb, hge, hgn⟩
  replace HM : Mm [] w0 w3 [(pd, .cells (((l.drop (0 + phoffN)).take (phnumN * 32)).map Bv).toArray 5 (0, 0)), (pg, .cells cur 136 (0, 0)), (fb, .cells #[iB_ 1, .int .u8 dat, iB_ 1, u8_ abi, u8_ abiv, (boV big), u2_ tyN, u2_ machN, u6_ entryN, nl_, sl_ pg 0 phnumN, nl_, nl_, nl_] 131 (0, 0)), (s, .cells #[.iface 178 (.slice (some ⟨b, o, none⟩) n c), iI_ 0, iI_ 0, iI_ 9223372036854775807, iI_ 9223372036854775807] 246 (0, 0))] := HM.push hb hge hgn
  clear hb hge hgn
  refine ⟨_, rfl, ?_⟩; clear HF; intro a HF; replace HF := HF.sub ((nf_D_t1_S0 b o n c s fb big phoffN phnumN shoffN shnumN) ++ [(35, i6_ phnumN), (578, .iface 144 (pt_ s)), (583, u6_ (phnumN * 32)), (584, i6_ phoffN), (585, .tuple #[sl_ pd (phnumN * 32) (phnumN * 32), .nilIface])]) (by kernel_rfl)
  refine wp_sym HF HM rfl 5 [] ((nf_D_t1_S0 b o n c s fb big phoffN phnumN shoffN shnumN) ++ [(35, i6_ phnumN), (36, sl_ pd (phnumN * 32) (phnumN * 32)), (37, .nilIface)]) [(pd, .cells (((l.drop (0 + phoffN)).take (phnumN * 32)).map Bv).toArray 5 (0, 0)), (pg, .cells cur 136 (0, 0)), (fb, .cells #[iB_ 1, .int .u8 dat, iB_ 1, u8_ abi, u8_ abiv, (boV big), u2_ tyN, u2_ machN, u6_ entryN, nl_, sl_ pg 0 phnumN, nl_, nl_, nl_] 131 (0, 0)), (s, .cells #[.iface 178 (.slice (some ⟨b, o, none⟩) n c), iI_ 0, iI_ 0, iI_ 9223372036854775807, iI_ 9223372036854775807] 246 (0, 0))] (by kernel_rfl) ?_
  clear HF HM; intro a w HF HM
  refine nil_then ?_
  refine wp_seq ?_
  refine wp_seq (wp_region_lit ?_)
  refine wp_sym HF HM rfl 2 [] ((nf_D_t1_S0 b o n c s fb big phoffN phnumN shoffN shnumN) ++ [(35, i6_ phnumN), (36, sl_ pd (phnumN * 32) (phnumN * 32)), (37, .nilIface), (589, .bool false)]) [(pd, .cells (((l.drop (0 + phoffN)).take (phnumN * 32)).map Bv).toArray 5 (0, 0)), (pg, .cells cur 136 (0, 0)), (fb, .cells #[iB_ 1, .int .u8 dat, iB_ 1, u8_ abi, u8_ abiv, (boV big), u2_ tyN, u2_ machN, u6_ entryN, nl_, sl_ pg 0 phnumN, nl_, nl_, nl_] 131 (0, 0)), (s, .cells #[.iface 178 (.slice (some ⟨b, o, none⟩) n c), iI_ 0, iI_ 0, iI_ 9223372036854775807, iI_ 9223372036854775807] 246 (0, 0))] (by kernel_rfl) ?_
  clear HF HM; intro a w HF HM
  refine nil_then ?_
  refine wp_condF HF rfl ?_
  refine wp_skip ?_
  repeat (first | refine then_norm ?_ | refine inb_norm ?_)
  replace HF := HF.sub ((nf_D_t1_S0 b o n c s fb big phoffN phnumN shoffN shnumN) ++ [(36, sl_ pd (phnumN * 32) (phnumN * 32))]) (by kernel_rfl)
  replace HF := HF.sub ((nf_D_t1_S0 b o n c s fb big phoffN phnumN shoffN shnumN) ++ [(36, sl_ pd (phnumN * 32) (phnumN * 32))]) (by kernel_rfl)
  rw [Nat.zero_add] at HM
  exact K a w pg cur pd hcs HF HM

abbrev nf_D_w0_S0 := fun (b : Nat) (o : Nat) (n : Nat) (c : Nat) (s : Nat) (fb : Nat) (big : Bool) (phoffN : Nat) (shoffN : Nat) (shnumN : Nat) => ([(0, .iface 178 (.slice (some ⟨b, o, none⟩) n c)), (4, pt_ s), (8, pt_ fb), (9, (boV big)), (10, i6_ phoffN), (11, iI_ 56), (12, iI_ 0), (13, i6_ shoffN), (14, iI_ 64), (15, i6_ shnumN), (16, i6_ (shnumN - 1)), (26, iI_ 64)] : Slots)
set_option maxRecDepth 100000 in
set_option maxHeartbeats 1000000 in
theorem nf_D_w0 (l : List UInt8) (b o n c : Nat) (hl : n = l.length) (hnc : n ≤ c) (big : Bool) (abi abiv tyN machN entryN phoffN phnumN shoffN shnumN : Nat) (dat : Int) (b1 : tyN < 65536) (b2 : machN < 65536) (b3 : entryN ≤ 18446744073709551615) (b4 : phoffN < 4611686018427387904) (b5 : shoffN < 4611686018427387904) (b6 : phnumN < 200) (b7 : shnumN < 200) (c1 : 0 < shoffN) (c2 : 0 < shnumN) (c4 : phoffN < n) (c5 : phoffN + (0 * 56) ≤ n) {Q : Exit → Act → World → Prop} (w0 : World) (hbl : b < w0.heap.size) (hr : Row w0 (some ⟨b, o, none⟩) (l.map Bv)) (a : Act) (w : World) (s fb : Nat) (HF : Fr 1287 a (nf_D_w0_S0 b o n c s fb big phoffN shoffN shnumN)) (HM : Mm [] w0 w [(fb, .cells #[iB_ 2, .int .u8 dat, iB_ 1, u8_ abi, u8_ abiv, (boV big), u2_ tyN, u2_ machN, u6_ entryN, nl_, nl_, nl_, nl_, nl_] 131 (0, 0)), (s, .cells #[.iface 178 (.slice (some ⟨b, o, none⟩) n c), iI_ 0, iI_ 0, iI_ 9223372036854775807, iI_ 9223372036854775807] 246 (0, 0))])
    (K : ∀ a w pg cur pd, cur.size = 0 → Fr 1287 a ((nf_D_w0_S0 b o n c s fb big phoffN shoffN shnumN) ++ [(36, sl_ pd (0 * 56) (0 * 56))]) → Mm [] w0 w [(pd, .cells (((l.drop phoffN).take (0 * 56)).map Bv).toArray 5 (0, 0)), (pg, .cells cur 136 (0, 0)), (fb, .cells #[iB_ 2, .int .u8 dat, iB_ 1, u8_ abi, u8_ abiv, (boV big), u2_ tyN, u2_ machN, u6_ entryN, nl_, sl_ pg 0 0, nl_, nl_, nl_] 131 (0, 0)), (s, .cells #[.iface 178 (.slice (some ⟨b, o, none⟩) n c), iI_ 0, iI_ 0, iI_ 9223372036854775807, iI_ 9223372036854775807] 246 (0, 0))] → (spine Tryd.f78 35).wp Tryd.prog Q a w) : (spine Tryd.f78 29).wp Tryd.prog Q a w := by
  refine wp_seq (wp_region_lit ?_)
  refine wp_sym HF HM rfl 2 [] ((nf_D_w0_S0 b o n c s fb big phoffN shoffN shnumN) ++ [(547, iL_ 0)]) [(fb, .cells #[iB_ 2, .int .u8 dat, iB_ 1, u8_ abi, u8_ abiv, (boV big), u2_ tyN, u2_ machN, u6_ entryN, nl_, nl_, nl_, nl_, nl_] 131 (0, 0)), (s, .cells #[.iface 178 (.slice (some ⟨b, o, none⟩) n c), iI_ 0, iI_ 0, iI_ 9223372036854775807, iI_ 9223372036854775807] 246 (0, 0))] (by kernel_rfl) ?_
  clear HF HM; intro a w HF HM
  refine wp_call HF (by kernel_rfl) 98 #[iL_ 8, u6_ 0] (by kernel_rfl) (fun w => by kernel_rfl) (Calls.mono (sliceCap_8 0 (by omega) w) ?_)
  rintro _ w1 ⟨rfl, hq⟩
  replace HM : Mm [] w0 w1 [(fb, .cells #[iB_ 2, .int .u8 dat, iB_ 1, u8_ abi, u8_ abiv, (boV big), u2_ tyN, u2_ machN, u6_ entryN, nl_, nl_, nl_, nl_, nl_] 131 (0, 0)), (s, .cells #[.iface 178 (.slice (some ⟨b, o, none⟩) n c), iI_ 0, iI_ 0, iI_ 9223372036854775807, iI_ 9223372036854775807] 246 (0, 0))] := by first | (rw [hq]; exact HM) | (rw [← hq]; exact HM)
  clear hq
  refine ⟨_, rfl, ?_⟩; clear HF; intro a HF; replace HF := HF.sub ((nf_D_w0_S0 b o n c s fb big phoffN shoffN shnumN) ++ [(547, iL_ 0), (548, i6_ 0)]) (by kernel_rfl)
  refine wp_sym HF HM rfl 1 [] ((nf_D_w0_S0 b o n c s fb big phoffN shoffN shnumN) ++ [(35, i6_ 0)]) [(fb, .cells #[iB_ 2, .int .u8 dat, iB_ 1, u8_ abi, u8_ abiv, (boV big), u2_ tyN, u2_ machN, u6_ entryN, nl_, nl_, nl_, nl_, nl_] 131 (0, 0)), (s, .cells #[.iface 178 (.slice (some ⟨b, o, none⟩) n c), iI_ 0, iI_ 0, iI_ 9223372036854775807, iI_ 9223372036854775807] 246 (0, 0))] (by kernel_rfl) ?_
  clear HF HM; intro a w HF HM
  refine nil_then ?_
  refine wp_seq ?_
  refine wp_seq (wp_region_lit ?_)
  refine wp_sym HF HM rfl 2 [] ((nf_D_w0_S0 b o n c s fb big phoffN shoffN shnumN) ++ [(35, i6_ 0), (550, .bool (decide (((0 : Nat) : Int) < 0)))]) [(fb, .cells #[iB_ 2, .int .u8 dat, iB_ 1, u8_ abi, u8_ abiv, (boV big), u2_ tyN, u2_ machN, u6_ entryN, nl_, nl_, nl_, nl_, nl_] 131 (0, 0)), (s, .cells #[.iface 178 (.slice (some ⟨b, o, none⟩) n c), iI_ 0, iI_ 0, iI_ 9223372036854775807, iI_ 9223372036854775807] 246 (0, 0))] (by kernel_rfl) ?_
  clear HF HM; intro a w HF HM
  rw [show decide (((0 : Nat) : Int) < 0) = false from dec_f (by omega)] at HF
  refine nil_then ?_
  refine wp_condF HF rfl ?_
  refine wp_skip ?_
  repeat (first | refine then_norm ?_ | refine inb_norm ?_)
  replace HF := HF.sub ((nf_D_w0_S0 b o n c s fb big phoffN shoffN shnumN) ++ [(35, i6_ 0)]) (by kernel_rfl)
  refine wp_seq ?_
  refine wp_seq (wp_region_lit ?_)
  refine wp_sym HF HM rfl 10 [] ((nf_D_w0_S0 b o n c s fb big phoffN shoffN shnumN) ++ [(35, i6_ 0), (565, .bool false)]) [(fb, .cells #[iB_ 2, .int .u8 dat, iB_ 1, u8_ abi, u8_ abiv, (boV big), u2_ tyN, u2_ machN, u6_ entryN, nl_, nl_, nl_, nl_, nl_] 131 (0, 0)), (s, .cells #[.iface 178 (.slice (some ⟨b, o, none⟩) n c), iI_ 0, iI_ 0, iI_ 9223372036854775807, iI_ 9223372036854775807] 246 (0, 0))] (by kernel_rfl) ?_
  clear HF HM; intro a w HF HM
  refine nil_then ?_
  refine wp_condF HF rfl ?_
  refine wp_skip ?_
  repeat (first | refine then_norm ?_ | refine inb_norm ?_)
  replace HF := HF.sub ((nf_D_w0_S0 b o n c s fb big phoffN shoffN shnumN) ++ [(35, i6_ 0)]) (by kernel_rfl)
  refine wp_seq (wp_region_lit ?_)
  refine wp_sym HF HM rfl 2 [] ((nf_D_w0_S0 b o n c s fb big phoffN shoffN shnumN) ++ [(35, i6_ 0), (571, pt_ fb), (572, i6_ 0)]) [(fb, .cells #[iB_ 2, .int .u8 dat, iB_ 1, u8_ abi, u8_ abiv, (boV big), u2_ tyN, u2_ machN, u6_ entryN, nl_, nl_, nl_, nl_, nl_] 131 (0, 0)), (s, .cells #[.iface 178 (.slice (some ⟨b, o, none⟩) n c), iI_ 0, iI_ 0, iI_ 9223372036854775807, iI_ 9223372036854775807] 246 (0, 0))] (by kernel_rfl) ?_
  clear HF HM; intro a w HF HM
  refine wp_make_cap HF HM rfl _ _ 127 rfl rfl 136 (.pointer none) 8 Tryd.underlying127 info_pp .i64 .i64 0 rfl rfl (by omega) (by unfold maxLen; omega) ?_
  intro a2 w2 pg cur hgw hcs HM2 HF2; have hg0 : w0.heap.size ≤ pg := Nat.le_trans HM.size hgw; clear HF HM hgw; have HM := HM2; have HF := HF2; clear HM2 HF2
  replace HF := HF.sub ((nf_D_w0_S0 b o n c s fb big phoffN shoffN shnumN) ++ [(35, i6_ 0), (571, pt_ fb), (573, sl_ pg 0 0)]) (by kernel_rfl)
  refine wp_sym HF HM rfl 3 [[1]] ((nf_D_w0_S0 b o n c s fb big phoffN shoffN shnumN) ++ [(35, i6_ 0)]) [(pg, .cells cur 136 (0, 0)), (fb, .cells #[iB_ 2, .int .u8 dat, iB_ 1, u8_ abi, u8_ abiv, (boV big), u2_ tyN, u2_ machN, u6_ entryN, nl_, sl_ pg 0 0, nl_, nl_, nl_] 131 (0, 0)), (s, .cells #[.iface 178 (.slice (some ⟨b, o, none⟩) n c), iI_ 0, iI_ 0, iI_ 9223372036854775807, iI_ 9223372036854775807] 246 (0, 0))] (by kernel_rfl) ?_
  clear HF HM; intro a w HF HM
  refine nil_then ?_
  have hbs : b ≠ s := fun e => absurd hbl (Nat.not_lt_of_le (e ▸ HM.ge (i := 2) rfl))
  have hsz : w0.heap.size ≤ w.heap.size := HM.size
  refine wp_seq (wp_region_lit ?_)
  refine wp_sym HF HM rfl 8 [] ((nf_D_w0_S0 b o n c s fb big phoffN shoffN shnumN) ++ [(35, i6_ 0), (578, .iface 144 (pt_ s)), (583, iL_ 0), (584, i6_ phoffN)]) [(pg, .cells cur 136 (0, 0)), (fb, .cells #[iB_ 2, .int .u8 dat, iB_ 1, u8_ abi, u8_ abiv, (boV big), u2_ tyN, u2_ machN, u6_ entryN, nl_, sl_ pg 0 0, nl_, nl_, nl_] 131 (0, 0)), (s, .cells #[.iface 178 (.slice (some ⟨b, o, none⟩) n c), iI_ 0, iI_ 0, iI_ 9223372036854775807, iI_ 9223372036854775807] 246 (0, 0))] (by kernel_rfl) ?_
  clear HF HM; intro a w HF HM
  refine wp_call HF (by kernel_rfl) 99 #[.iface 144 (pt_ s), u6_ (0 * 56), i6_ phoffN] (by kernel_rfl) (fun w => by kernel_rfl) (Calls.mono (readDataAt_full l b o n c hl hnc s (0 * 56) 0 phoffN 0 9223372036854775807 9223372036854775807 (by omega) (by omega) (by omega) (by omega) (by omega) (by omega) w (HM.row hr (by intro b' o' s' _; simp)) (Nat.lt_of_lt_of_le hbl HM.size) hbs (HM.get (i := 2) rfl)) ?_)
  rintro _ w3 ⟨pd, rfl, hb, hge, hgn⟩
  replace HM : Mm [] w0 w3 [(pd, .cells (((l.drop (0 + phoffN)).take (0 * 56)).map Bv).toArray 5 (0, 0)), (pg, .cells cur 136 (0, 0)), (fb, .cells #[iB_ 2, .int .u8 dat, iB_ 1, u8_ abi, u8_ abiv, (boV big), u2_ tyN, u2_ machN, u6_ entryN, nl_, sl_ pg 0 0, nl_, nl_, nl_] 131 (0, 0)), (s, .cells #[.iface 178 (.slice (some ⟨b, o, none⟩) n c), iI_ 0, iI_ 0, iI_ 9223372036854775807, iI_ 9223372036854775807] 246 (0, 0))] := HM.push hb hge hgn
  clear hb hge hgn
  refine ⟨_, rfl, ?_⟩; clear HF; intro a HF; replace HF := HF.sub ((nf_D_w0_S0 b o n c s fb big phoffN shoffN shnumN) ++ [(35, i6_ 0), (578, .iface 144 (pt_ s)), (583, iL_ 0), (584, i6_ phoffN), (585, .tuple #[sl_ pd (0 * 56) (0 * 56), .nilIface])]) (by kernel_rfl)
  refine wp_sym HF HM rfl 5 [] ((nf_D_w0_S0 b o n c s fb big phoffN shoffN shnumN) ++ [(35, i6_ 0), (36, sl_ pd (0 * 56) (0 * 56)), (37, .nilIface)]) [(pd, .cells (((l.drop (0 + phoffN)).take (0 * 56)).map Bv).toArray 5 (0, 0)), (pg, .cells cur 136 (0, 0)), (fb, .cells #[iB_ 2, .int .u8 dat, iB_ 1, u8_ abi, u8_ abiv, (boV big), u2_ tyN, u2_ machN, u6_ entryN, nl_, sl_ pg 0 0, nl_, nl_, nl_] 131 (0, 0)), (s, .cells #[.iface 178 (.slice (some ⟨b, o, none⟩) n c), iI_ 0, iI_ 0, iI_ 9223372036854775807, iI_ 9223372036854775807] 246 (0, 0))] (by kernel_rfl) ?_
  clear HF HM; intro a w HF HM
  refine nil_then ?_
  refine wp_seq ?_
  refine wp_seq (wp_region_lit ?_)
  refine wp_sym HF HM rfl 2 [] ((nf_D_w0_S0 b o n c s fb big phoffN shoffN shnumN) ++ [(35, i6_ 0), (36, sl_ pd (0 * 56) (0 * 56)), (37, .nilIface), (589, .bool false)]) [(pd, .cells (((l.drop (0 + phoffN)).take (0 * 56)).map Bv).toArray 5 (0, 0)), (pg, .cells cur 136 (0, 0)), (fb, .cells #[iB_ 2, .int .u8 dat, iB_ 1, u8_ abi, u8_ abiv, (boV big), u2_ tyN, u2_ machN, u6_ entryN, nl_, sl_ pg 0 0, nl_, nl_, nl_] 131 (0, 0)), (s, .cells #[.iface 178 (.slice (some ⟨b, o, none⟩) n c), iI_ 0, iI_ 0, iI_ 9223372036854775807, iI_ 9223372036854775807] 246 (0, 0))] (by kernel_rfl) ?_
  clear HF HM; intro a w HF HM
  refine nil_then ?_
  refine wp_condF HF rfl ?_
  refine wp_skip ?_
  repeat (first | refine then_norm ?_ | refine inb_norm ?_)
  replace HF := HF.sub ((nf_D_w0_S0 b o n c s fb big phoffN shoffN shnumN) ++ [(36, sl_ pd (0 * 56) (0 * 56))]) (by kernel_rfl)
  replace HF := HF.sub ((nf_D_w0_S0 b o n c s fb big phoffN shoffN shnumN) ++ [(36, sl_ pd (0 * 56) (0 * 56))]) (by kernel_rfl)
  rw [Nat.zero_add] at HM
  exact K a w pg cur pd hcs HF HM

abbrev nf_D_w1_S0 := fun (b : Nat) (o : Nat) (n : Nat) (c : Nat) (s : Nat) (fb : Nat) (big : Bool) (phoffN : Nat) (phnumN : Nat) (shoffN : Nat) (shnumN : Nat) => ([(0, .iface 178 (.slice (some ⟨b, o, none⟩) n c)), (4, pt_ s), (8, pt_ fb), (9, (boV big)), (10, i6_ phoffN), (11, iI_ 56), (12, i6_ phnumN), (13, i6_ shoffN), (14, iI_ 64), (15, i6_ shnumN), (16, i6_ (shnumN - 1)), (26, iI_ 64)] : Slots)
set_option maxRecDepth 100000 in
set_option maxHeartbeats 1000000 in
theorem nf_D_w1 (l : List UInt8) (b o n c : Nat) (hl : n = l.length) (hnc : n ≤ c) (big : Bool) (abi abiv tyN machN entryN phoffN phnumN shoffN shnumN : Nat) (dat : Int) (b1 : tyN < 65536) (b2 : machN < 65536) (b3 : entryN ≤ 18446744073709551615) (b4 : phoffN < 4611686018427387904) (b5 : shoffN < 4611686018427387904) (b6 : phnumN < 200) (b7 : shnumN < 200) (c1 : 0 < shoffN) (c2 : 0 < shnumN) (c3 : 0 < phnumN) (c4 : phoffN < n) (c5 : phoffN + (phnumN * 56) ≤ n) {Q : Exit → Act → World → Prop} (w0 : World) (hbl : b < w0.heap.size) (hr : Row w0 (some ⟨b, o, none⟩) (l.map Bv)) (a : Act) (w : World) (s fb : Nat) (HF : Fr 1287 a (nf_D_w1_S0 b o n c s fb big phoffN phnumN shoffN shnumN)) (HM : Mm [] w0 w [(fb, .cells #[iB_ 2, .int .u8 dat, iB_ 1, u8_ abi, u8_ abiv, (boV big), u2_ tyN, u2_ machN, u6_ entryN, nl_, nl_, nl_, nl_, nl_] 131 (0, 0)), (s, .cells #[.iface 178 (.slice (some ⟨b, o, none⟩) n c), iI_ 0, iI_ 0, iI_ 9223372036854775807, iI_ 9223372036854775807] 246 (0, 0))])
    (K : ∀ a w pg cur pd, cur.size = phnumN → Fr 1287 a ((nf_D_w1_S0 b o n c s fb big phoffN phnumN shoffN shnumN) ++ [(36, sl_ pd (phnumN * 56) (phnumN * 56))]) → Mm [] w0 w [(pd, .cells (((l.drop phoffN).take (phnumN * 56)).map Bv).toArray 5 (0, 0)), (pg, .cells cur 136 (0, 0)), (fb, .cells #[iB_ 2, .int .u8 dat, iB_ 1, u8_ abi, u8_ abiv, (boV big), u2_ tyN, u2_ machN, u6_ entryN, nl_, sl_ pg 0 phnumN, nl_, nl_, nl_] 131 (0, 0)), (s, .cells #[.iface 178 (.slice (some ⟨b, o, none⟩) n c), iI_ 0, iI_ 0, iI_ 9223372036854775807, iI_ 9223372036854775807] 246 (0, 0))] → (spine Tryd.f78 35).wp Tryd.prog Q a w) : (spine Tryd.f78 29).wp Tryd.prog Q a w := by
  refine wp_seq (wp_region_lit ?_)
  refine wp_sym HF HM rfl 2 [] ((nf_D_w1_S0 b o n c s fb big phoffN phnumN shoffN shnumN) ++ [(547, iL_ (IntKind.u64.wrap ((phnumN : Nat) : Int)))]) [(fb, .cells #[iB_ 2, .int .u8 dat, iB_ 1, u8_ abi, u8_ abiv, (boV big), u2_ tyN, u2_ machN, u6_ entryN, nl_, nl_, nl_, nl_, nl_] 131 (0, 0)), (s, .cells #[.iface 178 (.slice (some ⟨b, o, none⟩) n c), iI_ 0, iI_ 0, iI_ 9223372036854775807, iI_ 9223372036854775807] 246 (0, 0))] (by kernel_rfl) ?_
  clear HF HM; intro a w HF HM
  rw [show IntKind.u64.wrap ((phnumN : Nat) : Int) = ((phnumN : Nat) : Int) from IntWalk.u64_in _ (by omega)] at HF
  refine wp_call HF (by kernel_rfl) 98 #[iL_ 8, u6_ phnumN] (by kernel_rfl) (fun w => by kernel_rfl) (Calls.mono (sliceCap_8 phnumN (by omega) w) ?_)
  rintro _ w1 ⟨rfl, hq⟩
  replace HM : Mm [] w0 w1 [(fb, .cells #[iB_ 2, .int .u8 dat, iB_ 1, u8_ abi, u8_ abiv, (boV big), u2_ tyN, u2_ machN, u6_ entryN, nl_, nl_, nl_, nl_, nl_] 131 (0, 0)), (s, .cells #[.iface 178 (.slice (some ⟨b, o, none⟩) n c), iI_ 0, iI_ 0, iI_ 9223372036854775807, iI_ 9223372036854775807] 246 (0, 0))] := by first | (rw [hq]; exact HM) | (rw [← hq]; exact HM)
  clear hq
  refine ⟨_, rfl, ?_⟩; clear HF; intro a HF; replace HF := HF.sub ((nf_D_w1_S0 b o n c s fb big phoffN phnumN shoffN shnumN) ++ [(547, u6_ phnumN), (548, i6_ phnumN)]) (by kernel_rfl)
  refine wp_sym HF HM rfl 1 [] ((nf_D_w1_S0 b o n c s fb big phoffN phnumN shoffN shnumN) ++ [(35, i6_ phnumN)]) [(fb, .cells #[iB_ 2, .int .u8 dat, iB_ 1, u8_ abi, u8_ abiv, (boV big), u2_ tyN, u2_ machN, u6_ entryN, nl_, nl_, nl_, nl_, nl_] 131 (0, 0)), (s, .cells #[.iface 178 (.slice (some ⟨b, o, none⟩) n c), iI_ 0, iI_ 0, iI_ 9223372036854775807, iI_ 9223372036854775807] 246 (0, 0))] (by kernel_rfl) ?_
  clear HF HM; intro a w HF HM
  refine nil_then ?_
  refine wp_seq ?_
  refine wp_seq (wp_region_lit ?_)
  refine wp_sym HF HM rfl 2 [] ((nf_D_w1_S0 b o n c s fb big phoffN phnumN shoffN shnumN) ++ [(35, i6_ phnumN), (550, .bool (decide (((phnumN : Nat) : Int) < 0)))]) [(fb, .cells #[iB_ 2, .int .u8 dat, iB_ 1, u8_ abi, u8_ abiv, (boV big), u2_ tyN, u2_ machN, u6_ entryN, nl_, nl_, nl_, nl_, nl_] 131 (0, 0)), (s, .cells #[.iface 178 (.slice (some ⟨b, o, none⟩) n c), iI_ 0, iI_ 0, iI_ 9223372036854775807, iI_ 9223372036854775807] 246 (0, 0))] (by kernel_rfl) ?_
  clear HF HM; intro a w HF HM
  rw [show decide (((phnumN : Nat) : Int) < 0) = false from dec_f (by omega)] at HF
  refine nil_then ?_
  refine wp_condF HF rfl ?_
  refine wp_skip ?_
  repeat (first | refine then_norm ?_ | refine inb_norm ?_)
  replace HF := HF.sub ((nf_D_w1_S0 b o n c s fb big phoffN phnumN shoffN shnumN) ++ [(35, i6_ phnumN)]) (by kernel_rfl)
  refine wp_seq ?_
  refine wp_seq (wp_region_lit ?_)
  refine wp_sym HF HM rfl 2 [] ((nf_D_w1_S0 b o n c s fb big phoffN phnumN shoffN shnumN) ++ [(35, i6_ phnumN), (557, .bool (decide (0 < ((phnumN : Nat) : Int))))]) [(fb, .cells #[iB_ 2, .int .u8 dat, iB_ 1, u8_ abi, u8_ abiv, (boV big), u2_ tyN, u2_ machN, u6_ entryN, nl_, nl_, nl_, nl_, nl_] 131 (0, 0)), (s, .cells #[.iface 178 (.slice (some ⟨b, o, none⟩) n c), iI_ 0, iI_ 0, iI_ 9223372036854775807, iI_ 9223372036854775807] 246 (0, 0))] (by kernel_rfl) ?_
  clear HF HM; intro a w HF HM
  rw [show decide (0 < ((phnumN : Nat) : Int)) = true from dec_t (by omega)] at HF
  refine wp_sym HF HM rfl 3 [] ((nf_D_w1_S0 b o n c s fb big phoffN phnumN shoffN shnumN) ++ [(35, i6_ phnumN), (557, .bool true), (558, .bool true), (560, iL_ (IntKind.u64.wrap ((phnumN : Nat) : Int)))]) [(fb, .cells #[iB_ 2, .int .u8 dat, iB_ 1, u8_ abi, u8_ abiv, (boV big), u2_ tyN, u2_ machN, u6_ entryN, nl_, nl_, nl_, nl_, nl_] 131 (0, 0)), (s, .cells #[.iface 178 (.slice (some ⟨b, o, none⟩) n c), iI_ 0, iI_ 0, iI_ 9223372036854775807, iI_ 9223372036854775807] 246 (0, 0))] (by kernel_rfl) ?_
  clear HF HM; intro a w HF HM
  rw [show IntKind.u64.wrap ((phnumN : Nat) : Int) = ((phnumN : Nat) : Int) from IntWalk.u64_in _ (by omega)] at HF
  refine wp_run HF (by kernel_rfl) (iL_ (IntKind.u64.wrap ((18446744073709551615 : Int).tdiv ((phnumN : Nat) : Int)))) (by kernel_rfl) (run_quo rfl rfl rfl (by omega)) ?_
  clear HF; intro a HF; replace HF := HF.sub [(0, .iface 178 (.slice (some ⟨b, o, none⟩) n c)), (4, pt_ s), (8, pt_ fb), (9, (boV big)), (10, i6_ phoffN), (11, iI_ 56), (12, i6_ phnumN), (13, i6_ shoffN), (14, iI_ 64), (15, i6_ shnumN), (16, i6_ (shnumN - 1)), (26, iI_ 64), (35, i6_ phnumN), (557, .bool true), (558, .bool true), (560, u6_ phnumN), (561, iL_ (IntKind.u64.wrap ((18446744073709551615 : Int).tdiv ((phnumN : Nat) : Int))))] (by kernel_rfl)
  have hq := big_quo phnumN c3 b6
  rw [IntWalk.u64_in ((18446744073709551615 : Int).tdiv ((phnumN : Nat) : Int)) (by omega)] at HF
  refine wp_sym HF HM rfl 3 [] ((nf_D_w1_S0 b o n c s fb big phoffN phnumN shoffN shnumN) ++ [(35, i6_ phnumN), (557, .bool true), (558, .bool true), (564, .bool (decide (((18446744073709551615 : Int).tdiv ((phnumN : Nat) : Int)) < 56)))]) [(fb, .cells #[iB_ 2, .int .u8 dat, iB_ 1, u8_ abi, u8_ abiv, (boV big), u2_ tyN, u2_ machN, u6_ entryN, nl_, nl_, nl_, nl_, nl_] 131 (0, 0)), (s, .cells #[.iface 178 (.slice (some ⟨b, o, none⟩) n c), iI_ 0, iI_ 0, iI_ 9223372036854775807, iI_ 9223372036854775807] 246 (0, 0))] (by kernel_rfl) ?_
  clear HF HM; intro a w HF HM
  rw [show decide (((18446744073709551615 : Int).tdiv ((phnumN : Nat) : Int)) < 56) = false from dec_f (by omega)] at HF
  refine wp_sym HF HM rfl 1 [] ((nf_D_w1_S0 b o n c s fb big phoffN phnumN shoffN shnumN) ++ [(35, i6_ phnumN), (565, .bool false)]) [(fb, .cells #[iB_ 2, .int .u8 dat, iB_ 1, u8_ abi, u8_ abiv, (boV big), u2_ tyN, u2_ machN, u6_ entryN, nl_, nl_, nl_, nl_, nl_] 131 (0, 0)), (s, .cells #[.iface 178 (.slice (some ⟨b, o, none⟩) n c), iI_ 0, iI_ 0, iI_ 9223372036854775807, iI_ 9223372036854775807] 246 (0, 0))] (by kernel_rfl) ?_
  clear HF HM; intro a w HF HM
  refine nil_then ?_
  refine wp_condF HF rfl ?_
  refine wp_skip ?_
  repeat (first | refine then_norm ?_ | refine inb_norm ?_)
  replace HF := HF.sub ((nf_D_w1_S0 b o n c s fb big phoffN phnumN shoffN shnumN) ++ [(35, i6_ phnumN)]) (by kernel_rfl)
  refine wp_seq (wp_region_lit ?_)
  refine wp_sym HF HM rfl 2 [] ((nf_D_w1_S0 b o n c s fb big phoffN phnumN shoffN shnumN) ++ [(35, i6_ phnumN), (571, pt_ fb), (572, i6_ phnumN)]) [(fb, .cells #[iB_ 2, .int .u8 dat, iB_ 1, u8_ abi, u8_ abiv, (boV big), u2_ tyN, u2_ machN, u6_ entryN, nl_, nl_, nl_, nl_, nl_] 131 (0, 0)), (s, .cells #[.iface 178 (.slice (some ⟨b, o, none⟩) n c), iI_ 0, iI_ 0, iI_ 9223372036854775807, iI_ 9223372036854775807] 246 (0, 0))] (by kernel_rfl) ?_
  clear HF HM; intro a w HF HM
  refine wp_make_cap HF HM rfl _ _ 127 rfl rfl 136 (.pointer none) 8 Tryd.underlying127 info_pp .i64 .i64 phnumN rfl rfl (by omega) (by unfold maxLen; omega) ?_
  intro a2 w2 pg cur hgw hcs HM2 HF2; have hg0 : w0.heap.size ≤ pg := Nat.le_trans HM.size hgw; clear HF HM hgw; have HM := HM2; have HF := HF2; clear HM2 HF2
  replace HF := HF.sub ((nf_D_w1_S0 b o n c s fb big phoffN phnumN shoffN shnumN) ++ [(35, i6_ phnumN), (571, pt_ fb), (573, sl_ pg 0 phnumN)]) (by kernel_rfl)
  refine wp_sym HF HM rfl 3 [[1]] ((nf_D_w1_S0 b o n c s fb big phoffN phnumN shoffN shnumN) ++ [(35, i6_ phnumN)]) [(pg, .cells cur 136 (0, 0)), (fb, .cells #[iB_ 2, .int .u8 dat, iB_ 1, u8_ abi, u8_ abiv, (boV big), u2_ tyN, u2_ machN, u6_ entryN, nl_, sl_ pg 0 phnumN, nl_, nl_, nl_] 131 (0, 0)), (s, .cells #[.iface 178 (.slice (some ⟨b, o, none⟩) n c), iI_ 0, iI_ 0, iI_ 9223372036854775807, iI_ 9223372036854775807] 246 (0, 0))] (by kernel_rfl) ?_
  clear HF HM; intro a w HF HM
  refine nil_then ?_
  have hbs : b ≠ s := fun e => absurd hbl (Nat.not_lt_of_le (e ▸ HM.ge (i := 2) rfl))
  have hsz : w0.heap.size ≤ w.heap.size := HM.size
  refine wp_seq (wp_region_lit ?_)
  refine wp_sym HF HM rfl 4 [] ((nf_D_w1_S0 b o n c s fb big phoffN phnumN shoffN shnumN) ++ [(35, i6_ phnumN), (578, .iface 144 (pt_ s)), (580, iL_ (IntKind.u64.wrap ((phnumN : Nat) : Int)))]) [(pg, .cells cur 136 (0, 0)), (fb, .cells #[iB_ 2, .int .u8 dat, iB_ 1, u8_ abi, u8_ abiv, (boV big), u2_ tyN, u2_ machN, u6_ entryN, nl_, sl_ pg 0 phnumN, nl_, nl_, nl_] 131 (0, 0)), (s, .cells #[.iface 178 (.slice (some ⟨b, o, none⟩) n c), iI_ 0, iI_ 0, iI_ 9223372036854775807, iI_ 9223372036854775807] 246 (0, 0))] (by kernel_rfl) ?_
  clear HF HM; intro a w HF HM
  rw [show IntKind.u64.wrap ((phnumN : Nat) : Int) = ((phnumN : Nat) : Int) from IntWalk.u64_in _ (by omega)] at HF
  refine wp_sym HF HM rfl 3 [] ((nf_D_w1_S0 b o n c s fb big phoffN phnumN shoffN shnumN) ++ [(35, i6_ phnumN), (578, .iface 144 (pt_ s)), (583, iL_ (IntKind.u64.wrap (((phnumN : Nat) : Int) * 56)))]) [(pg, .cells cur 136 (0, 0)), (fb, .cells #[iB_ 2, .int .u8 dat, iB_ 1, u8_ abi, u8_ abiv, (boV big), u2_ tyN, u2_ machN, u6_ entryN, nl_, sl_ pg 0 phnumN, nl_, nl_, nl_] 131 (0, 0)), (s, .cells #[.iface 178 (.slice (some ⟨b, o, none⟩) n c), iI_ 0, iI_ 0, iI_ 9223372036854775807, iI_ 9223372036854775807] 246 (0, 0))] (by kernel_rfl) ?_
  clear HF HM; intro a w HF HM
  rw [show IntKind.u64.wrap (((phnumN : Nat) : Int) * 56) = (((phnumN * 56) : Nat) : Int) from (IntWalk.u64_in _ (by omega)).trans (by omega)] at HF
  refine wp_sym HF HM rfl 1 [] ((nf_D_w1_S0 b o n c s fb big phoffN phnumN shoffN shnumN) ++ [(35, i6_ phnumN), (578, .iface 144 (pt_ s)), (583, u6_ (phnumN * 56)), (584, i6_ phoffN)]) [(pg, .cells cur 136 (0, 0)), (fb, .cells #[iB_ 2, .int .u8 dat, iB_ 1, u8_ abi, u8_ abiv, (boV big), u2_ tyN, u2_ machN, u6_ entryN, nl_, sl_ pg 0 phnumN, nl_, nl_, nl_] 131 (0, 0)), (s, .cells #[.iface 178 (.slice (some ⟨b, o, none⟩) n c), iI_ 0, iI_ 0, iI_ 9223372036854775807, iI_ 9223372036854775807] 246 (0, 0))] (by kernel_rfl) ?_
  clear HF HM; intro a w HF HM
  refine wp_call HF (by kernel_rfl) 99 #[.iface 144 (pt_ s), u6_ (phnumN * 56), i6_ phoffN] (by kernel_rfl) (fun w => by kernel_rfl) (Calls.mono (readDataAt_full l b o n c hl hnc s (phnumN * 56) 0 phoffN 0 9223372036854775807 9223372036854775807 (by omega) (by omega) (by omega) (by omega) (by omega) (by omega) w (HM.row hr (by intro b' o' s' _; simp)) (Nat.lt_of_lt_of_le hbl HM.size) hbs (HM.get (i := 2) rfl)) ?_)
  rintro _ w3 ⟨pd, rfl, hb, hge, hgn⟩
  replace HM : Mm [] w0 w3 [(pd, .cells (((l.drop (0 + phoffN)).take (phnumN * 56)).map Bv).toArray 5 (0, 0)), (pg, .cells cur 136 (0, 0)), (fb, .cells #[iB_ 2, .int .u8 dat, iB_ 1, u8_ abi, u8_ abiv, (boV big), u2_ tyN, u2_ machN, u6_ entryN, nl_, sl_ pg 0 phnumN, nl_, nl_, nl_] 131 (0, 0)), (s, .cells #[.iface 178 (.slice (some ⟨b, o, none⟩) n c), iI_ 0, iI_ 0, iI_ 9223372036854775807, iI_ 9223372036854775807] 246 (0, 0))] := HM.push hb hge hgn
  clear hb hge hgn
  refine ⟨_, rfl, ?_⟩; clear HF; intro a HF; replace HF := HF.sub ((nf_D_w1_S0 b o n c s fb big phoffN phnumN shoffN shnumN) ++ [(35, i6_ phnumN), (578, .iface 144 (pt_ s)), (583, u6_ (phnumN * 56)), (584, i6_ phoffN), (585, .tuple #[sl_ pd (phnumN * 56) (phnumN * 56), .nilIface])]) (by kernel_rfl)
  refine wp_sym HF HM rfl 5 [] ((nf_D_w1_S0 b o n c s fb big phoffN phnumN shoffN shnumN) ++ [(35, i6_ phnumN), (36, sl_ pd (phnumN * 56) (phnumN * 56)), (37, .nilIface)]) [(pd, .cells (((l.drop (0 + phoffN)).take (phnumN * 56)).map Bv).toArray 5 (0, 0)), (pg, .cells cur 136 (0, 0)), (fb, .cells #[iB_ 2, .int .u8 dat, iB_ 1, u8_ abi, u8_ abiv, (boV big), u2_ tyN, u2_ machN, u6_ entryN, nl_, sl_ pg 0 phnumN, nl_, nl_, nl_] 131 (0, 0)), (s, .cells #[.iface 178 (.slice (some ⟨b, o, none⟩) n c), iI_ 0, iI_ 0, iI_ 9223372036854775807, iI_ 9223372036854775807] 246 (0, 0))] (by kernel_rfl) ?_
  clear HF HM; intro a w HF HM
  refine nil_then ?_
  refine wp_seq ?_
  refine wp_seq (wp_region_lit ?_)
  refine wp_sym HF HM rfl 2 [] ((nf_D_w1_S0 b o n c s fb big phoffN phnumN shoffN shnumN) ++ [(35, i6_ phnumN), (36, sl_ pd (phnumN * 56) (phnumN * 56)), (37, .nilIface), (589, .bool false)]) [(pd, .cells (((l.drop (0 + phoffN)).take (phnumN * 56)).map Bv).toArray 5 (0, 0)), (pg, .cells cur 136 (0, 0)), (fb, .cells #[iB_ 2, .int .u8 dat, iB_ 1, u8_ abi, u8_ abiv, (boV big), u2_ tyN, u2_ machN, u6_ entryN, nl_, sl_ pg 0 phnumN, nl_, nl_, nl_] 131 (0, 0)), (s, .cells #[.iface 178 (.slice (some ⟨b, o, none⟩) n c), iI_ 0, iI_ 0, iI_ 9223372036854775807, iI_ 9223372036854775807] 246 (0, 0))] (by kernel_rfl) ?_
  clear HF HM; intro a w HF HM
  refine nil_then ?_
  refine wp_condF HF rfl ?_
  refine wp_skip ?_
  repeat (first | refine then_norm ?_ | refine inb_norm ?_)
  replace HF := HF.sub ((nf_D_w1_S0 b o n c s fb big phoffN phnumN shoffN shnumN) ++ [(36, sl_ pd (phnumN * 56) (phnumN * 56))]) (by kernel_rfl)
  replace HF := HF.sub ((nf_D_w1_S0 b o n c s fb big phoffN phnumN shoffN shnumN) ++ [(36, sl_ pd (phnumN * 56) (phnumN * 56))]) (by kernel_rfl)
  rw [Nat.zero_add] at HM
  exact K a w pg cur pd hcs HF HM

end Go.Proofs.YtdgehpocmfjbiaaDoor
