/- Proved: the headers of sections are read, with their names, in order: one that is none ahead of all, at every argument. No condition. -/
import Derived.Test.YtdgehpocmfjbiaaDoorPh
import Derived.Test.YtdgehpocmfjbiaaDoorPg
import Derived.Test.YtdgehpocmfjbiaaDoorPj
import Derived.Test.YtdgehpocmfjbiaaDoorCards
import Derived.Test.YtdgehpocmfjbiaaDoorTie
import Derived.Test.YtdgehpocmfjbiaaDoorFnSectionsJ
import Derived.Test.YtdgehpocmfjbiaaDoorFnSectionsJC
import Derived.LaidMore
import Derived.LaidLaws
import Derived.Stop.Joined
import Derived.SevenTiedAt
import Derived.ProofKit
import Derived.OpenShut
import Derived.ShutString
import Derived.ChangeOld
import Derived.Below
set_option linter.unusedVariables false
set_option linter.unusedSimpArgs false
namespace Go.Proofs.YtdgehpocmfjbiaaDoor
open Go.RowKit
theorem secRes_at {x : ImgM} {g cap i : Nat} {m : PartM} (hm : (allM x g cap)[i]? = some m) : secRes (scOf x.img) (nbOf x.img) i = [.string ⟨m.name.toArray⟩, i6_ m.ty, i6_ m.flags, u6_ m.addr, u6_ (x.img.secPlace i), u6_ (sizeB m.ty m.size m.data.length), i6_ m.link, i6_ m.info, u6_ m.align, u6_ m.ent, u6_ (sizeB m.ty m.size m.data.length)] := by
  have h1 : x.img.all[i]? = some m.part := by rw [← allM_part x g cap, List.getElem?_map, hm]; rfl
  have h2 : nbOf x.img i = m.name := by
    unfold nbOf
    rw [← names_all x g cap, List.getElem?_map, hm]
    rfl
  unfold secRes
  rw [h2]
  unfold scOf
  rw [h1]
  rfl

abbrev law_sections_B0 := fun z1 (x : ImgM) => ((z1, .cells #[.bool x.wide, .bool x.big, u8_ x.abi, u8_ x.abiv, .int .i64 x.ty, .int .i64 x.machine, u6_ x.entry, .slice x.A x.ss.length x.c, .slice x.B x.ps.length x.d] 26 (0, 0)) : Nat × Obj)
abbrev law_sections_S1 := fun g3 (x : ImgM) cap3 gs caps => ([(5, sl_ g3 (x.ps.length + 2) cap3), (6, sl_ gs (x.ps.length + 2) caps)] : Slots)
abbrev law_sections_S2 := fun g3 (x : ImgM) cap3 gs caps gl capl => ((law_sections_S1 g3 x cap3 gs caps) ++ [(41, sl_ gl (x.ps.length + 2) capl), (42, i6_ (x.ps.length + 2))] : Slots)
set_option maxRecDepth 100000 in
set_option maxHeartbeats 1000000 in
theorem law_sections (x : ImgM) (w0 : World) (h : x.At w0) : Calls Tryd.prog 13 #[x.val] w0 fun e w' => e = .returned (.bool true) ∧ Below w0.heap.size w0 w' := by
  obtain ⟨w, hw⟩ : ∃ w, w0 = w := ⟨_, rfl⟩
  have HM : Mm [] w0 w [] := hw ▸ Mm.start w0
  conv => arg 4; rw [hw]
  clear hw
  refine calls_start Tryd.func13 rfl Tryd.ntmps13 [(0, .agg #[.bool x.wide, .bool x.big, u8_ x.abi, u8_ x.abiv, .int .i64 x.ty, .int .i64 x.machine, u6_ x.entry, .slice x.A x.ss.length x.c, .slice x.B x.ps.length x.d])] (by kernel_rfl) (Nat.le_of_ble_eq_true rfl) ?_
  intro a HF
  refine wp_seq (wp_region_lit ?_)
  obtain ⟨z1, hz1⟩ : ∃ z, w.heap.size = z := ⟨_, rfl⟩
  refine wp_sym HF HM hz1 2 [] [(1, pt_ z1)] [law_sections_B0 z1 x] (by kernel_rfl) ?_
  clear HF HM hz1; intro a w HF HM
  refine nil_then ?_
  refine wp_seq ?_
  refine wp_seq (wp_region_lit ?_)
  refine wp_pure HF HM rfl 1 [[0]] [(1, pt_ z1), (13, .agg #[.bool x.wide, .bool x.big, u8_ x.abi, u8_ x.abiv, .int .i64 x.ty, .int .i64 x.machine, u6_ x.entry, .slice x.A x.ss.length x.c, .slice x.B x.ps.length x.d])] (by kernel_rfl) ?_
  clear HF; intro a HF
  refine wp_call HF (by kernel_rfl) 20 #[.agg #[.bool x.wide, .bool x.big, u8_ x.abi, u8_ x.abiv, .int .i64 x.ty, .int .i64 x.machine, u6_ x.entry, .slice x.A x.ss.length x.c, .slice x.B x.ps.length x.d]] (by kernel_rfl) (fun w => by kernel_rfl) (Calls.mono (zzFits1_any x w (h.below HM.below)) ?_)
  rintro _ w1 ⟨b1, rfl, hb⟩
  replace HM := HM.call hb
  clear hb
  refine ⟨_, rfl, ?_⟩; clear HF; intro a HF
  replace HF := HF.sub [(1, pt_ z1), (14, .bool b1)] (by kernel_rfl)
  rcases bool_cases2 b1 with hc2 | hc2
  · replace HF := Fr.sub (Fr.tell HF 14 rfl (congrArg Value.bool hc2)) [(1, pt_ z1), (14, .bool false)] (by kernel_rfl)
    refine wp_pure HF HM rfl 1 [] [(1, pt_ z1), (15, .bool true)] (by kernel_rfl) ?_
    clear HF; intro a HF
    refine nil_then ?_
    refine wp_condT HF rfl ?_
    refine wp_seq (wp_region_lit ?_)
    refine wp_pure HF HM rfl 1 [] [(2, .bool true)] (by kernel_rfl) ?_
    clear HF; intro a HF
    refine nil_then ?_
    refine wp_ret ?_
    repeat (first | refine then_ret ?_ | refine inb_ret ?_)
    exact ret_one HF rfl rfl ⟨rfl, HM.below⟩
  replace HF := Fr.sub (Fr.tell HF 14 rfl (congrArg Value.bool hc2)) [(1, pt_ z1), (14, .bool true)] (by kernel_rfl)
  refine wp_pure HF HM rfl 1 [] [(1, pt_ z1), (15, .bool false)] (by kernel_rfl) ?_
  clear HF; intro a HF
  refine nil_then ?_
  refine wp_condF HF rfl ?_
  refine wp_skip ?_
  repeat (first | refine then_norm ?_ | refine inb_norm ?_)
  refine wp_seq ?_
  refine wp_seq (wp_region_lit ?_)
  refine wp_pure HF HM rfl 1 [[0]] [(1, pt_ z1), (16, .agg #[.bool x.wide, .bool x.big, u8_ x.abi, u8_ x.abiv, .int .i64 x.ty, .int .i64 x.machine, u6_ x.entry, .slice x.A x.ss.length x.c, .slice x.B x.ps.length x.d])] (by kernel_rfl) ?_
  clear HF; intro a HF
  refine wp_call HF (by kernel_rfl) 22 #[.agg #[.bool x.wide, .bool x.big, u8_ x.abi, u8_ x.abiv, .int .i64 x.ty, .int .i64 x.machine, u6_ x.entry, .slice x.A x.ss.length x.c, .slice x.B x.ps.length x.d]] (by kernel_rfl) (fun w => by kernel_rfl) (Calls.mono (isImage_any x w1 (h.below HM.below)) ?_)
  rintro _ w2 ⟨b3, rfl, hb, hok4⟩
  replace HM := HM.call hb
  clear hb
  refine ⟨_, rfl, ?_⟩; clear HF; intro a HF
  replace HF := HF.sub [(1, pt_ z1), (17, .bool b3)] (by kernel_rfl)
  rcases bool_cases2 b3 with hc5 | hc5
  · replace HF := Fr.sub (Fr.tell HF 17 rfl (congrArg Value.bool hc5)) [(1, pt_ z1), (17, .bool false)] (by kernel_rfl)
    refine wp_pure HF HM rfl 1 [] [(1, pt_ z1), (18, .bool true)] (by kernel_rfl) ?_
    clear HF; intro a HF
    refine nil_then ?_
    refine wp_condT HF rfl ?_
    refine wp_seq (wp_region_lit ?_)
    refine wp_pure HF HM rfl 1 [] [(2, .bool true)] (by kernel_rfl) ?_
    clear HF; intro a HF
    refine nil_then ?_
    refine wp_ret ?_
    repeat (first | refine then_ret ?_ | refine inb_ret ?_)
    exact ret_one HF rfl rfl ⟨rfl, HM.below⟩
  replace HF := Fr.sub (Fr.tell HF 17 rfl (congrArg Value.bool hc5)) [(1, pt_ z1), (17, .bool true)] (by kernel_rfl)
  refine wp_pure HF HM rfl 1 [] [(1, pt_ z1), (18, .bool false)] (by kernel_rfl) ?_
  clear HF; intro a HF
  refine nil_then ?_
  refine wp_condF HF rfl ?_
  refine wp_skip ?_
  repeat (first | refine then_norm ?_ | refine inb_norm ?_)
  refine wp_seq (wp_region_lit ?_)
  refine wp_pure HF HM rfl 1 [[0]] [(1, pt_ z1), (20, .agg #[.bool x.wide, .bool x.big, u8_ x.abi, u8_ x.abiv, .int .i64 x.ty, .int .i64 x.machine, u6_ x.entry, .slice x.A x.ss.length x.c, .slice x.B x.ps.length x.d])] (by kernel_rfl) ?_
  clear HF; intro a HF
  have ok := (hok4 hc5).1
  have iok := ImgM.ok ok h
  have hk1 := ok.segs; have hk2 := ok.parts; have hk3 := iok.namesB_le; have hk7 := iok.shoff_le; have hk8 := iok.length_le
  refine wp_call HF (by kernel_rfl) 36 #[.agg #[.bool x.wide, .bool x.big, u8_ x.abi, u8_ x.abiv, .int .i64 x.ty, .int .i64 x.machine, u6_ x.entry, .slice x.A x.ss.length x.c, .slice x.B x.ps.length x.d]] (by kernel_rfl) (fun w => by kernel_rfl) (Calls.mono (file_any x w2 (h.below HM.below) ok) ?_)
  rintro _ w3 ⟨g1, cap1, cur1, g2, cap2, cur2, g3, cap3, cur3, rfl, hb, ho1, ho2, ho3⟩
  replace HM : Mm [] w0 w3 [(g3, .cells cur3 3 (0, 0)), (g1, .cells cur1 5 (0, 0)), law_sections_B0 z1 x] := HM.push2 hb ho1.new ho1.obj ho3.new ho3.obj (other_block ho3.obj ho1.obj (by decide))
  clear hb
  refine ⟨_, rfl, ?_⟩; clear HF; intro a HF
  replace HF := HF.sub [(1, pt_ z1), (21, .tuple #[sl_ g1 x.img.file.length cap1, sl_ g2 x.ss.length cap2, sl_ g3 (x.ps.length + 2) cap3])] (by kernel_rfl)
  refine wp_pure HF HM rfl 7 [] [(1, pt_ z1), (3, sl_ g1 x.img.file.length cap1), (5, sl_ g3 (x.ps.length + 2) cap3)] (by kernel_rfl) ?_
  clear HF; intro a HF
  refine nil_then ?_
  refine wp_seq (wp_region_lit ?_)
  refine wp_pure HF HM rfl 1 [] [(1, pt_ z1), (5, sl_ g3 (x.ps.length + 2) cap3), (26, sl_ g1 x.img.file.length cap1)] (by kernel_rfl) ?_
  clear HF; intro a HF
  refine wp_call HF (by kernel_rfl) 35 #[sl_ g1 x.img.file.length cap1] (by kernel_rfl) (fun w => by kernel_rfl) (Calls.mono (sections_any x.img.file _ _ _ rfl ho1.nc x.img.wide x.img.big x.img.abi x.img.abiv x.img.ty x.img.machine x.img.entry (hSize x.img.wide) x.img.segs.length x.img.shoff x.img.all.length (sgOf x.img) (scOf x.img) (nbOf x.img) (good_file iok) (by have hq := Img.Ok.length_le iok; omega) w3 (HM.rowOwn (i := 1) rfl ho1.tk)) ?_)
  rintro _ w4 ⟨gs, caps, curs, rfl, hb, hos⟩
  replace HM : Mm [] w0 w4 [(gs, .cells curs 64 (0, 0)), (g3, .cells cur3 3 (0, 0)), (g1, .cells cur1 5 (0, 0)), law_sections_B0 z1 x] := HM.push hb hos.new hos.obj
  clear hb
  rw [all_len] at hos
  refine ⟨_, rfl, ?_⟩; clear HF; intro a HF
  rw [all_len] at HF
  replace HF := HF.sub [(1, pt_ z1), (5, sl_ g3 (x.ps.length + 2) cap3), (27, .tuple #[sl_ gs (x.ps.length + 2) caps, .bool true])] (by kernel_rfl)
  refine wp_pure HF HM rfl 5 [] [(1, pt_ z1), (5, sl_ g3 (x.ps.length + 2) cap3), (6, sl_ gs (x.ps.length + 2) caps), (7, .bool true)] (by kernel_rfl) ?_
  clear HF; intro a HF
  refine nil_then ?_
  refine wp_seq (wp_region_lit ?_)
  refine wp_pure HF HM rfl 1 [[0]] ((law_sections_S1 g3 x cap3 gs caps) ++ [(7, .bool true), (30, .agg #[.bool x.wide, .bool x.big, u8_ x.abi, u8_ x.abiv, .int .i64 x.ty, .int .i64 x.machine, u6_ x.entry, .slice x.A x.ss.length x.c, .slice x.B x.ps.length x.d])]) (by kernel_rfl) ?_
  clear HF; intro a HF
  refine wp_call HF (by kernel_rfl) 38 #[.agg #[.bool x.wide, .bool x.big, u8_ x.abi, u8_ x.abiv, .int .i64 x.ty, .int .i64 x.machine, u6_ x.entry, .slice x.A x.ss.length x.c, .slice x.B x.ps.length x.d]] (by kernel_rfl) (fun w => by kernel_rfl) (Calls.mono (all_any x w4 (h.below HM.below) (by omega) (by omega)) ?_)
  rintro _ w5 ⟨gl, capl, curl, gt, capt, curt, rfl, hb, hol, hot, hne⟩
  replace HM : Mm [] w0 w5 [(gl, .cells curl 46 (0, 0)), (gs, .cells curs 64 (0, 0)), (g3, .cells cur3 3 (0, 0)), (g1, .cells cur1 5 (0, 0)), law_sections_B0 z1 x] := HM.push hb hol.new hol.obj
  clear hb
  have hal := allM_length x gt capt
  refine ⟨_, rfl, ?_⟩; clear HF; intro a HF
  replace HF := HF.sub ((law_sections_S1 g3 x cap3 gs caps) ++ [(7, .bool true), (31, sl_ gl (x.ps.length + 2) capl)]) (by kernel_rfl)
  refine wp_pure HF HM rfl 1 [] ((law_sections_S1 g3 x cap3 gs caps) ++ [(7, .bool true), (8, sl_ gl (x.ps.length + 2) capl)]) (by kernel_rfl) ?_
  clear HF; intro a HF
  refine nil_then ?_
  refine wp_seq ?_
  refine wp_seq (wp_region_lit ?_)
  refine wp_pure HF HM rfl 9 [] ((law_sections_S1 g3 x cap3 gs caps) ++ [(8, sl_ gl (x.ps.length + 2) capl), (40, .bool ((((x.ps.length + 2) : Nat) : Int) != (((x.ps.length + 2) : Nat) : Int)))]) (by kernel_rfl) ?_
  clear HF; intro a HF
  refine nil_then ?_
  rw [show ((((x.ps.length + 2) : Nat) : Int) != (((x.ps.length + 2) : Nat) : Int)) = false from bne_f (fun hq => hq rfl)] at HF
  refine wp_condF HF rfl ?_
  refine wp_skip ?_
  repeat (first | refine then_norm ?_ | refine inb_norm ?_)
  refine wp_seq ?_
  refine wp_seq (wp_region_lit ?_)
  refine wp_pure HF HM rfl 3 [] ((law_sections_S2 g3 x cap3 gs caps gl capl) ++ [(43, iI_ 0)]) (by kernel_rfl) ?_
  clear HF; intro a HF
  refine nil_then ?_
  refine wp_block ?_
  replace HM := HM.pick [0, 1, 2] [(gl, .cells curl 46 (0, 0)), (gs, .cells curs 64 (0, 0)), (g3, .cells cur3 3 (0, 0))] rfl (by decide)
  refine loop_ind ((x.ps.length + 2)) (fun i a w => (Mm [] w0 w [(gl, .cells curl 46 (0, 0)), (gs, .cells curs 64 (0, 0)), (g3, .cells cur3 3 (0, 0))] ∧ Fr 85 a ((law_sections_S2 g3 x cap3 gs caps gl capl) ++ [(43, i6_ i)]))) ?_ ?_ ?_
  · exact ⟨HM, HF.sub ((law_sections_S2 g3 x cap3 gs caps gl capl) ++ [(43, iI_ 0)]) (by kernel_rfl)⟩
  · intro i a w KX hi hI KR
    obtain ⟨HM, HF⟩ := hI
    have hpl := x.img.secPlace_le i
    refine wp_seq (wp_region_lit ?_)
    refine wp_pure HF HM rfl 1 [] ((law_sections_S2 g3 x cap3 gs caps gl capl) ++ [(43, i6_ i), (44, .bool (decide (((i : Nat) : Int) < (((x.ps.length + 2) : Nat) : Int))))]) (by kernel_rfl) ?_
    clear HF; intro a HF
    refine nil_then ?_
    refine wp_seq ?_
    rw [show decide (((i : Nat) : Int) < (((x.ps.length + 2) : Nat) : Int)) = true from dec_t (by omega)] at HF
    refine wp_condT HF rfl ?_
    refine wp_skip ?_
    repeat (first | refine then_norm ?_ | refine inb_norm ?_)
    refine wp_seq ?_
    refine wp_block ?_
    refine wp_seq (wp_region_lit ?_)
    refine wp_pure HF HM rfl 1 [] ((law_sections_S2 g3 x cap3 gs caps gl capl) ++ [(43, i6_ i), (45, i6_ i)]) (by kernel_rfl) ?_
    clear HF; intro a HF
    obtain ⟨m6, hm6⟩ : ∃ m, (allM x gt capt)[i]? = some m := ⟨_, List.getElem?_eq_getElem (by omega)⟩
    have hmm_m6 := List.mem_of_getElem? hm6
    have hmb_m6 := allM_b h ok m6 hmm_m6
    have hmd_m6 := hmb_m6.data; have hmt_m6 := hmb_m6.ty; have hmf_m6 := hmb_m6.flags; have hml_m6 := hmb_m6.link; have hmi_m6 := hmb_m6.info
    refine wp_run HF (by kernel_rfl) (.pointer (Option.map (fun q : Addr => q.add (i * 10)) (some ⟨gl, 0, none⟩))) (by kernel_rfl) (run_index_row Tryd.underlying24 (by kernel_rfl) rfl i rfl rfl (by omega) (Option.some_ne_none _)) ?_
    clear HF; intro a HF; replace HF := HF.sub ((law_sections_S2 g3 x cap3 gs caps gl capl) ++ [(43, i6_ i), (45, i6_ i), (46, .pointer (Option.map (fun q : Addr => q.add (i * 10)) (some ⟨gl, 0, none⟩)))]) (by kernel_rfl)
    refine wp_run HF (by kernel_rfl) (.agg #[.string (⟨m6.name.toArray⟩), u3_ m6.ty, u3_ m6.flags, u6_ m6.addr, u3_ m6.link, u3_ m6.info, u6_ m6.align, u6_ m6.ent, u6_ m6.size, .slice m6.A m6.data.length m6.c]) (by kernel_rfl) (run_load_row rfl rfl (row_elem (f := PartM.cells) (k := 10) (fun _ => rfl) (HM.rowOwn (i := 0) rfl hol.tk) i hm6) (Nat.zero_lt_succ _) Tryd.underlying46 rfl (by kernel_rfl)) ?_
    clear HF; intro a HF; replace HF := HF.sub ((law_sections_S2 g3 x cap3 gs caps gl capl) ++ [(43, i6_ i), (45, i6_ i), (47, .agg #[.string (⟨m6.name.toArray⟩), u3_ m6.ty, u3_ m6.flags, u6_ m6.addr, u3_ m6.link, u3_ m6.info, u6_ m6.align, u6_ m6.ent, u6_ m6.size, .slice m6.A m6.data.length m6.c])]) (by kernel_rfl)
    obtain ⟨z20, hz20⟩ : ∃ z, w.heap.size = z := ⟨_, rfl⟩
    refine wp_sym HF HM hz20 3 [[3]] ((law_sections_S1 g3 x cap3 gs caps) ++ [(9, i6_ i), (10, pt_ z20), (41, sl_ gl (x.ps.length + 2) capl), (42, i6_ (x.ps.length + 2)), (43, i6_ i)]) [(z20, .cells #[.string (⟨m6.name.toArray⟩), u3_ m6.ty, u3_ m6.flags, u6_ m6.addr, u3_ m6.link, u3_ m6.info, u6_ m6.align, u6_ m6.ent, u6_ m6.size, .slice m6.A m6.data.length m6.c] 46 (0, 0)), (gl, .cells curl 46 (0, 0)), (gs, .cells curs 64 (0, 0)), (g3, .cells cur3 3 (0, 0))] (by kernel_rfl) ?_
    clear HF HM hz20; intro a w HF HM
    refine nil_then ?_
    refine wp_seq (wp_region_lit ?_)
    refine wp_pure HF HM rfl 1 [[3]] ((law_sections_S1 g3 x cap3 gs caps) ++ [(9, i6_ i), (10, pt_ z20), (41, sl_ gl (x.ps.length + 2) capl), (42, i6_ (x.ps.length + 2)), (43, i6_ i), (48, .agg #[.string (⟨m6.name.toArray⟩), u3_ m6.ty, u3_ m6.flags, u6_ m6.addr, u3_ m6.link, u3_ m6.info, u6_ m6.align, u6_ m6.ent, u6_ m6.size, .slice m6.A m6.data.length m6.c])]) (by kernel_rfl) ?_
    clear HF; intro a HF
    refine wp_call HF (by kernel_rfl) 39 #[.agg #[.string (⟨m6.name.toArray⟩), u3_ m6.ty, u3_ m6.flags, u6_ m6.addr, u3_ m6.link, u3_ m6.info, u6_ m6.align, u6_ m6.ent, u6_ m6.size, .slice m6.A m6.data.length m6.c]] (by kernel_rfl) (fun w => by kernel_rfl) (Calls.mono (size_any ⟨m6.name.toArray⟩ m6.ty m6.flags m6.addr m6.link m6.info m6.align m6.ent m6.size m6.data.length m6.c m6.A (by omega) w) ?_)
    rintro _ w6 ⟨rfl, hb⟩
    replace HM := HM.call hb
    clear hb
    refine ⟨_, rfl, ?_⟩; clear HF; intro a HF
    replace HF := HF.sub ((law_sections_S1 g3 x cap3 gs caps) ++ [(9, i6_ i), (10, pt_ z20), (41, sl_ gl (x.ps.length + 2) capl), (42, i6_ (x.ps.length + 2)), (43, i6_ i), (49, u6_ (sizeB m6.ty m6.size m6.data.length))]) (by kernel_rfl)
    refine wp_pure HF HM rfl 1 [] ((law_sections_S1 g3 x cap3 gs caps) ++ [(9, i6_ i), (10, pt_ z20), (11, u6_ (sizeB m6.ty m6.size m6.data.length)), (41, sl_ gl (x.ps.length + 2) capl), (42, i6_ (x.ps.length + 2)), (43, i6_ i)]) (by kernel_rfl) ?_
    clear HF; intro a HF
    refine nil_then ?_
    refine reg_plan HM (by kernel_rfl) [(z20, .cells #[.string (⟨m6.name.toArray⟩), u3_ m6.ty, u3_ m6.flags, u6_ m6.addr, u3_ m6.link, u3_ m6.info, u6_ m6.align, u6_ m6.ent, u6_ m6.size, .slice m6.A m6.data.length m6.c] 46 (0, 0)), (gl, .cells curl 46 (0, 0)), (gs, .cells curs 64 (0, 0)), (g3, .cells cur3 3 (0, 0))] [(0, false), (1, false), (2, false), (3, false), (4, false), (5, false), (6, false), (7, false), (8, false), (9, false), (10, false), (11, false), (12, false), (13, false), (14, false), (15, false), (16, false), (17, false), (18, false), (19, false), (20, false), (21, false), (22, false), (23, false), (24, false), (25, false), (26, false), (27, false), (28, true), (29, true)] (by kernel_rfl) ?_
    clear HM; intro w7 HM
    refine plan_sym HF (HM.told [0, 1, 2, 3] rfl) 5 [[3], [3]] ((law_sections_S1 g3 x cap3 gs caps) ++ [(9, i6_ i), (10, pt_ z20), (11, u6_ (sizeB m6.ty m6.size m6.data.length)), (41, sl_ gl (x.ps.length + 2) capl), (42, i6_ (x.ps.length + 2)), (43, i6_ i), (51, .string (⟨m6.name.toArray⟩)), (54, iI_ (IntKind.i64.wrap ((m6.ty : Nat) : Int)))]) (by kernel_rfl) ?_
    clear HF; intro a HF
    rw [show IntKind.i64.wrap ((m6.ty : Nat) : Int) = ((m6.ty : Nat) : Int) from IntWalk.i64_in _ (by omega)] at HF
    refine plan_sym HF (HM.told [0, 1, 2, 3] rfl) 3 [[3]] ((law_sections_S1 g3 x cap3 gs caps) ++ [(9, i6_ i), (10, pt_ z20), (11, u6_ (sizeB m6.ty m6.size m6.data.length)), (41, sl_ gl (x.ps.length + 2) capl), (42, i6_ (x.ps.length + 2)), (43, i6_ i), (51, .string (⟨m6.name.toArray⟩)), (54, i6_ m6.ty), (57, iI_ (IntKind.i64.wrap ((m6.flags : Nat) : Int)))]) (by kernel_rfl) ?_
    clear HF; intro a HF
    rw [show IntKind.i64.wrap ((m6.flags : Nat) : Int) = ((m6.flags : Nat) : Int) from IntWalk.i64_in _ (by omega)] at HF
    refine plan_sym HF (HM.told [0, 1, 2, 3] rfl) 4 [[3]] ((law_sections_S1 g3 x cap3 gs caps) ++ [(9, i6_ i), (10, pt_ z20), (11, u6_ (sizeB m6.ty m6.size m6.data.length)), (41, sl_ gl (x.ps.length + 2) capl), (42, i6_ (x.ps.length + 2)), (43, i6_ i), (51, .string (⟨m6.name.toArray⟩)), (54, i6_ m6.ty), (57, i6_ m6.flags), (59, u6_ m6.addr), (60, sl_ g3 (x.ps.length + 2) cap3), (61, i6_ i)]) (by kernel_rfl) ?_
    clear HF; intro a HF
    refine plan_run rfl HF (HM.told [0, 1, 2, 3] rfl) rfl (.pointer (Option.map (fun q : Addr => q.add (i * 1)) (some ⟨g3, 0, none⟩))) (by kernel_rfl) (fun w hw => run_index_row Tryd.underlying66 (by kernel_rfl) rfl i rfl rfl (by omega) (Option.some_ne_none _)) ?_
    clear HF; intro a HF; replace HF := HF.sub ((law_sections_S1 g3 x cap3 gs caps) ++ [(9, i6_ i), (10, pt_ z20), (11, u6_ (sizeB m6.ty m6.size m6.data.length)), (41, sl_ gl (x.ps.length + 2) capl), (42, i6_ (x.ps.length + 2)), (43, i6_ i), (51, .string (⟨m6.name.toArray⟩)), (54, i6_ m6.ty), (57, i6_ m6.flags), (59, u6_ m6.addr), (62, .pointer (Option.map (fun q : Addr => q.add (i * 1)) (some ⟨g3, 0, none⟩)))]) (by kernel_rfl)
    refine plan_run rfl HF (HM.told [0, 1, 2, 3] rfl) rfl (i6_ (x.img.secPlace i)) (by kernel_rfl) (fun w hw => run_load_row1 rfl rfl (row_elem1 (Told.rowOwn hw (i := 3) rfl ho3.tk) i (List.getElem?_range (by omega))) (by kernel_rfl)) ?_
    clear HF; intro a HF; replace HF := HF.sub ((law_sections_S1 g3 x cap3 gs caps) ++ [(9, i6_ i), (10, pt_ z20), (11, u6_ (sizeB m6.ty m6.size m6.data.length)), (41, sl_ gl (x.ps.length + 2) capl), (42, i6_ (x.ps.length + 2)), (43, i6_ i), (51, .string (⟨m6.name.toArray⟩)), (54, i6_ m6.ty), (57, i6_ m6.flags), (59, u6_ m6.addr), (63, i6_ (x.img.secPlace i))]) (by kernel_rfl)
    refine plan_sym HF (HM.told [0, 1, 2, 3] rfl) 1 [] ((law_sections_S1 g3 x cap3 gs caps) ++ [(9, i6_ i), (10, pt_ z20), (11, u6_ (sizeB m6.ty m6.size m6.data.length)), (41, sl_ gl (x.ps.length + 2) capl), (42, i6_ (x.ps.length + 2)), (43, i6_ i), (51, .string (⟨m6.name.toArray⟩)), (54, i6_ m6.ty), (57, i6_ m6.flags), (59, u6_ m6.addr), (64, iL_ (IntKind.u64.wrap (((x.img.secPlace i) : Nat) : Int)))]) (by kernel_rfl) ?_
    clear HF; intro a HF
    rw [show IntKind.u64.wrap (((x.img.secPlace i) : Nat) : Int) = (((x.img.secPlace i) : Nat) : Int) from IntWalk.u64_in _ (by omega)] at HF
    refine plan_sym HF (HM.told [0, 1, 2, 3] rfl) 4 [[3]] ((law_sections_S1 g3 x cap3 gs caps) ++ [(9, i6_ i), (10, pt_ z20), (11, u6_ (sizeB m6.ty m6.size m6.data.length)), (41, sl_ gl (x.ps.length + 2) capl), (42, i6_ (x.ps.length + 2)), (43, i6_ i), (51, .string (⟨m6.name.toArray⟩)), (54, i6_ m6.ty), (57, i6_ m6.flags), (59, u6_ m6.addr), (64, u6_ (x.img.secPlace i)), (65, u6_ (sizeB m6.ty m6.size m6.data.length)), (68, iI_ (IntKind.i64.wrap ((m6.link : Nat) : Int)))]) (by kernel_rfl) ?_
    clear HF; intro a HF
    rw [show IntKind.i64.wrap ((m6.link : Nat) : Int) = ((m6.link : Nat) : Int) from IntWalk.i64_in _ (by omega)] at HF
    refine plan_sym HF (HM.told [0, 1, 2, 3] rfl) 3 [[3]] ((law_sections_S1 g3 x cap3 gs caps) ++ [(9, i6_ i), (10, pt_ z20), (11, u6_ (sizeB m6.ty m6.size m6.data.length)), (41, sl_ gl (x.ps.length + 2) capl), (42, i6_ (x.ps.length + 2)), (43, i6_ i), (51, .string (⟨m6.name.toArray⟩)), (54, i6_ m6.ty), (57, i6_ m6.flags), (59, u6_ m6.addr), (64, u6_ (x.img.secPlace i)), (65, u6_ (sizeB m6.ty m6.size m6.data.length)), (68, i6_ m6.link), (71, iI_ (IntKind.i64.wrap ((m6.info : Nat) : Int)))]) (by kernel_rfl) ?_
    clear HF; intro a HF
    rw [show IntKind.i64.wrap ((m6.info : Nat) : Int) = ((m6.info : Nat) : Int) from IntWalk.i64_in _ (by omega)] at HF
    refine plan_sym HF (HM.told [0, 1, 2, 3] rfl) 6 [[3], [3]] ((law_sections_S1 g3 x cap3 gs caps) ++ [(9, i6_ i), (41, sl_ gl (x.ps.length + 2) capl), (42, i6_ (x.ps.length + 2)), (43, i6_ i), (77, .agg #[.string (⟨m6.name.toArray⟩), i6_ m6.ty, i6_ m6.flags, u6_ m6.addr, u6_ (x.img.secPlace i), u6_ (sizeB m6.ty m6.size m6.data.length), i6_ m6.link, i6_ m6.info, u6_ m6.align, u6_ m6.ent, u6_ (sizeB m6.ty m6.size m6.data.length)])]) (by kernel_rfl) ?_
    clear HF; intro a HF
    refine plan_force rfl ?_
    obtain ⟨z23, hz23⟩ : ∃ z, w7.heap.size = z := ⟨_, rfl⟩
    refine wp_sym HF HM hz23 1 [] ((law_sections_S1 g3 x cap3 gs caps) ++ [(9, i6_ i), (12, pt_ z23), (41, sl_ gl (x.ps.length + 2) capl), (42, i6_ (x.ps.length + 2)), (43, i6_ i), (77, .agg #[.string (⟨m6.name.toArray⟩), i6_ m6.ty, i6_ m6.flags, u6_ m6.addr, u6_ (x.img.secPlace i), u6_ (sizeB m6.ty m6.size m6.data.length), i6_ m6.link, i6_ m6.info, u6_ m6.align, u6_ m6.ent, u6_ (sizeB m6.ty m6.size m6.data.length)])]) [(z23, .cells #[.string (⟨#[]⟩ : ByteArray), iI_ 0, iI_ 0, iL_ 0, iL_ 0, iL_ 0, iI_ 0, iI_ 0, iL_ 0, iL_ 0, iL_ 0] 64 (0, 0)), (z20, .cells #[.string (⟨m6.name.toArray⟩), u3_ m6.ty, u3_ m6.flags, u6_ m6.addr, u3_ m6.link, u3_ m6.info, u6_ m6.align, u6_ m6.ent, u6_ m6.size, .slice m6.A m6.data.length m6.c] 46 (0, 0)), (gl, .cells curl 46 (0, 0)), (gs, .cells curs 64 (0, 0)), (g3, .cells cur3 3 (0, 0))] (by kernel_rfl) ?_
    clear HF HM hz23; intro a w HF HM
    refine only_end (HM.told [1, 2, 3, 4] rfl) ?_
    refine plan_force rfl ?_
    refine wp_sym HF HM rfl 1 [[4]] ((law_sections_S1 g3 x cap3 gs caps) ++ [(9, i6_ i), (12, pt_ z23), (41, sl_ gl (x.ps.length + 2) capl), (42, i6_ (x.ps.length + 2)), (43, i6_ i)]) [(z23, .cells #[.string (⟨m6.name.toArray⟩), i6_ m6.ty, i6_ m6.flags, u6_ m6.addr, u6_ (x.img.secPlace i), u6_ (sizeB m6.ty m6.size m6.data.length), i6_ m6.link, i6_ m6.info, u6_ m6.align, u6_ m6.ent, u6_ (sizeB m6.ty m6.size m6.data.length)] 64 (0, 0)), (z20, .cells #[.string (⟨m6.name.toArray⟩), u3_ m6.ty, u3_ m6.flags, u6_ m6.addr, u3_ m6.link, u3_ m6.info, u6_ m6.align, u6_ m6.ent, u6_ m6.size, .slice m6.A m6.data.length m6.c] 46 (0, 0)), (gl, .cells curl 46 (0, 0)), (gs, .cells curs 64 (0, 0)), (g3, .cells cur3 3 (0, 0))] (by kernel_rfl) ?_
    clear HF HM; intro a w HF HM
    refine only_end (HM.told [1, 2, 3, 4] rfl) ?_
    refine plan_end ?_
    refine then_norm ?_
    refine reg_quietw (by kernel_rfl) (by kernel_rfl) ?_
    refine quiet_sym HF HM rfl 2 [] ((law_sections_S1 g3 x cap3 gs caps) ++ [(12, pt_ z23), (41, sl_ gl (x.ps.length + 2) capl), (42, i6_ (x.ps.length + 2)), (43, i6_ i), (78, sl_ gs (x.ps.length + 2) caps), (79, i6_ i)]) (by kernel_rfl) ?_
    clear HF; intro a HF
    refine quiet_run HF rfl (.pointer (Option.map (fun q : Addr => q.add (i * 11)) (some ⟨gs, 0, none⟩))) (by kernel_rfl) (fun j => run_index_row Tryd.underlying60 (by kernel_rfl) rfl i rfl rfl (by omega) (Option.some_ne_none _)) ?_
    clear HF; intro a HF; replace HF := HF.sub ((law_sections_S1 g3 x cap3 gs caps) ++ [(12, pt_ z23), (41, sl_ gl (x.ps.length + 2) capl), (42, i6_ (x.ps.length + 2)), (43, i6_ i), (80, .pointer (Option.map (fun q : Addr => q.add (i * 11)) (some ⟨gs, 0, none⟩)))]) (by kernel_rfl)
    refine quiet_run HF rfl (.agg (secRes (scOf x.img) (nbOf x.img) i).toArray) (by kernel_rfl) (fun j => run_load_row rfl rfl (row_drewN (row_elem (f := secRes (scOf x.img) (nbOf x.img)) (k := 11) (fun _ => rfl) (HM.rowOwn (i := 3) rfl hos.tk) i (List.getElem?_range (by omega))) j) (Nat.zero_lt_succ _) Tryd.underlying64 rfl (by kernel_rfl)) ?_
    clear HF; intro a HF; replace HF := HF.sub [(5, sl_ g3 (x.ps.length + 2) cap3), (6, sl_ gs (x.ps.length + 2) caps), (12, pt_ z23), (41, sl_ gl (x.ps.length + 2) capl), (42, i6_ (x.ps.length + 2)), (43, i6_ i), (81, .agg (secRes (scOf x.img) (nbOf x.img) i).toArray)] (by kernel_rfl)
    rw [secRes_at hm6] at HF
    refine quiet_sym HF HM rfl 1 [[4]] ((law_sections_S2 g3 x cap3 gs caps gl capl) ++ [(43, i6_ i), (81, .agg #[.string (⟨m6.name.toArray⟩), i6_ m6.ty, i6_ m6.flags, u6_ m6.addr, u6_ (x.img.secPlace i), u6_ (sizeB m6.ty m6.size m6.data.length), i6_ m6.link, i6_ m6.info, u6_ m6.align, u6_ m6.ent, u6_ (sizeB m6.ty m6.size m6.data.length)]), (82, .agg #[.string (⟨m6.name.toArray⟩), i6_ m6.ty, i6_ m6.flags, u6_ m6.addr, u6_ (x.img.secPlace i), u6_ (sizeB m6.ty m6.size m6.data.length), i6_ m6.link, i6_ m6.info, u6_ m6.align, u6_ m6.ent, u6_ (sizeB m6.ty m6.size m6.data.length)])]) (by kernel_rfl) ?_
    clear HF; intro a HF
    refine quiet_run HF rfl (.bool false) (by kernel_rfl) (fun j => run_binop_eql2 rfl rfl rfl (neqGuard2_sect _ _ _ _ _) (neq2_sect _ _ _ _ _ _ _ _ _ _ _ _)) ?_
    clear HF; intro a HF; replace HF := HF.sub ((law_sections_S2 g3 x cap3 gs caps gl capl) ++ [(43, i6_ i), (83, .bool false)]) (by kernel_rfl)
    refine quiet_end ?_
    rintro w8 ⟨nq, hq⟩
    replace HM : Mm [] w0 w8 [(z23, .cells #[.string (⟨m6.name.toArray⟩), i6_ m6.ty, i6_ m6.flags, u6_ m6.addr, u6_ (x.img.secPlace i), u6_ (sizeB m6.ty m6.size m6.data.length), i6_ m6.link, i6_ m6.info, u6_ m6.align, u6_ m6.ent, u6_ (sizeB m6.ty m6.size m6.data.length)] 64 (0, 0)), (z20, .cells #[.string (⟨m6.name.toArray⟩), u3_ m6.ty, u3_ m6.flags, u6_ m6.addr, u3_ m6.link, u3_ m6.info, u6_ m6.align, u6_ m6.ent, u6_ m6.size, .slice m6.A m6.data.length m6.c] 46 (0, 0)), (gl, .cells curl 46 (0, 0)), (gs, .cells curs 64 (0, 0)), (g3, .cells cur3 3 (0, 0))] := by rw [hq]; exact HM.drewN nq
    clear hq nq
    refine wp_condF HF rfl ?_
    refine wp_skip ?_
    repeat (first | refine then_norm ?_ | refine inb_norm ?_)
    refine wp_region_lit ?_
    refine wp_pure HF HM rfl 1 [] ((law_sections_S2 g3 x cap3 gs caps gl capl) ++ [(84, iI_ (IntKind.i64.wrap (((i : Nat) : Int) + 1)))]) (by kernel_rfl) ?_
    clear HF; intro a HF
    rw [show IntKind.i64.wrap (((i : Nat) : Int) + 1) = (((i + 1) : Nat) : Int) from (IntWalk.i64_in _ (by omega)).trans (by omega)] at HF
    refine wp_pure HF HM rfl 1 [] ((law_sections_S2 g3 x cap3 gs caps gl capl) ++ [(43, i6_ (i + 1))]) (by kernel_rfl) ?_
    clear HF; intro a HF
    refine wpList_nil ?_
    repeat (first | refine then_norm ?_ | refine inb_norm ?_)
    exact KR _ _ (⟨(HM.pick [2, 3, 4] [(gl, .cells curl 46 (0, 0)), (gs, .cells curs 64 (0, 0)), (g3, .cells cur3 3 (0, 0))] rfl (by decide)), HF.sub ((law_sections_S2 g3 x cap3 gs caps gl capl) ++ [(43, i6_ (i + 1))]) (by kernel_rfl)⟩)
  · intro a w KX hI
    obtain ⟨HM, HF⟩ := hI
    refine wp_seq (wp_region_lit ?_)
    refine wp_pure HF HM rfl 1 [] ((law_sections_S2 g3 x cap3 gs caps gl capl) ++ [(43, i6_ (x.ps.length + 2)), (44, .bool (decide ((((x.ps.length + 2) : Nat) : Int) < (((x.ps.length + 2) : Nat) : Int))))]) (by kernel_rfl) ?_
    clear HF; intro a HF
    refine nil_then ?_
    refine wp_seq ?_
    rw [show decide ((((x.ps.length + 2) : Nat) : Int) < (((x.ps.length + 2) : Nat) : Int)) = false from dec_f (by omega)] at HF
    refine wp_condF HF rfl ?_
    refine wp_exit ?_
    repeat (first | refine then_exit ?_ | refine inb_exit_other rfl ?_)
    refine inb_exit ?_
    repeat (first | refine then_norm ?_ | refine inb_norm ?_)
    refine wp_seq (wp_region_lit ?_)
    refine wp_pure HF HM rfl 1 [] [(2, .bool true)] (by kernel_rfl) ?_
    clear HF; intro a HF
    refine nil_then ?_
    refine wp_ret ?_
    repeat (first | refine then_ret ?_ | refine inb_ret ?_)
    exact ret_one HF rfl rfl ⟨rfl, HM.below⟩

end Go.Proofs.YtdgehpocmfjbiaaDoor
namespace Go.Proofs.YtdgehpocmfjbiaaDoor.fnSections
open Go Go.ChangeShapes Go.WideShapes Go.ChangeAt Go.RowKit Go.Deep

theorem own : ownKnob Tryd.prog.godebug = none := by kernel_rfl
theorem laidOut : laidOutB Tryd.prog = true := by kernel_rfl
theorem door_met (os : Os) (args : Array Value) : laidMetH Tryd.prog Rows.fnSectionsRow.laid ((World.doorLaid Tryd.prog 123 os).forCall (fun _ _ => 0) ⟨#[], args, []⟩).memory :=
  laidMetH_of_parts3 (fuel := 8) (laidMet_of_run' 8 (by kernel_rfl) (by kernel_rfl)) (by kernel_rfl) (by kernel_rfl)

set_option maxRecDepth 100000 in
theorem lifted (os : Os) (started : os.Started) (H : Type) (enc : TypeId × Value → H) :
    ReturnsInHanded {} Tryd.checked os 13 .any (fun w args => (Rows.fnSectionsSpec.pre enc Tryd.prog Tryd.f13 [] false w args ∧ laidMetH Tryd.prog Rows.fnSectionsRow.laid w) ∧ sizedMet enc Tryd.prog Tryd.f13 (OpenSpec.ofChange Rows.fnSectionsSpec) false w args)
      (Rows.fnSectionsSpec.post enc Tryd.prog Tryd.f13 false true false false) := by
  refine returnsInHanded_of_change_and (C := Tryd.checked) (X := fun w _ => laidMetH Tryd.prog Rows.fnSectionsRow.laid w) (fun _ _ _ hh h => h.of_heap hh) own started (by kernel_rfl) Tryd.func13
    (ChangeSpec.witness_shaped (enc := enc) (C := Tryd.checked) (os := os) (X := fun w _ => laidMetH Tryd.prog Rows.fnSectionsRow.laid w) false (World.doorLaid Tryd.prog 123 os) #[.agg #[.bool false, .bool false, .int .u8 0, .int .u8 0, .int .i64 0, .int .i64 0, .int .u64 0, .slice none 0 0, .slice none 0 0]] 8 rfl (World.shaped_of_RefB (by kernel_rfl) (by kernel_rfl)) (by kernel_rfl) (by kernel_rfl) (by kernel_rfl) (door_met os _)) ?_
  intro W base args ds gs before hval0 hW _ _ hL _
  have hval : ∀ (j : Nat) t v, Tryd.f13.params[j]? = some t → args[j]? = some v → Value.okWide Tryd.prog W .any base t v := hval0
  have hW' := hW
  obtain ⟨p, q, hA0, hV, rfl, hfz, hnd⟩ := hW
  have hA : DataW.TrodAll enc Tryd.prog W 0 (fun _ => true) true Tryd.f13.params.toList args.toList ds p := hA0
  rw [Tryd.params13] at hA hval
  obtain ⟨v0, vs0, d0, ds0, p0, q0, hargs, rfl, rfl, h0, r0⟩ := trodAll_cons hA
  obtain ⟨rfl, rfl, rfl⟩ := trodAll_nil r0
  obtain rfl : args = #[v0] := by cases args; simp_all
  obtain ⟨rfl, rfl⟩ := trodVars_none hV
  have k0 := h0
  have lt0 : ∀ x ∈ p0, x.block < W.heap.size := by obtain ⟨m, hm⟩ := k0; exact DataW.trod_lt m _ _ _ hm
  obtain ⟨x0, rfl, hx0⟩ := open_img (hval 0 26 v0 rfl rfl) h0
  clear hA0 hval0
  refine (law_sections x0 W hx0).mono fun e W' ⟨he, bel⟩ => ?_
  subst he
  exact ⟨_, rfl, _, _, _, [], _, [], hW', trodAll_mk1 (shut_bool Tryd.underlying4 _), (trodAll_cons_mk (Below.trod laidOut (by kernel_rfl) (of_decide_eq_true (by kernel_rfl)) k0 bel lt0) trodAll_mk0), rfl, bel.frame _, fun h => by cases h⟩

set_option maxRecDepth 100000 in
theorem over_j : joinedFacts Tryd.pinned.checked.prog 13 Tryd.f13 Rows.fnSectionsSpec Rows.fnSectionsRow = true := (and_t (and_t (and_t (and_t (and_t (and_t (and_t (and_t (and_t (and_t (and_t (and_t (and_t (and_t (and_t (and_t (and_t (and_t (and_t (and_t (and_t (and_t (and_t (and_t (and_t (and_t (and_t (and_t (and_t (and_t (and_t l0 l1) l2) l3) l4) l5) l6) l7) l8) l9) l10) l11) l12) l13) l14) l15) l16) l17) l18) l19) l20) l21) l22) l23) l24) l25) l26) l27) l28) l29) l30) l31)

theorem over : Rows.FnSectionsSaid :=
  OpenClaim.holds_of_wide 13 Tryd.f13 rfl rfl rfl rfl rfl rfl rfl ⟨rfl, rfl, rfl, rfl, rfl⟩ rfl rfl rfl rfl rfl c5 Tryd.func13 over_j
    (of_decide_eq_true (by kernel_rfl)) (by unfold Func.isWrapper; first | (rw [if_pos (by decide +kernel)]; kernel_rfl) | (rw [if_neg (by decide +kernel)]; exact ⟨rfl, rfl⟩))
    (fun os started H enc _ => lifted os started H enc)

theorem proved : Rows.FnSectionsCardSaid :=
  Claim7.holds_tied_plain_at .later [] [.sentinel, .sentinel, .sentinel, .sentinel, .sentinel] true (true, "ed888367449acd6afd80057b2906ce1b79ec16b7beef13a0a9ac5f630eedede4") true
    over (fun _ h => by cases h) c1 (fun _ h => by cases h) fnSections_row_tie rfl ⟨rfl, rfl⟩ qc4 rfl
    (fun f fn hf hfn => by
      obtain rfl : f = 13 := Option.some.inj (c5.symm.trans hf) |>.symm
      obtain rfl : fn = Tryd.f13 := (Option.some.inj (Tryd.func13.symm.trans hfn)).symm
      exact ⟨qc2, fun j t ht => by
        rw [Tryd.params13] at ht
        have hm : t ∈ [26] := by simpa using Array.mem_of_getElem? ht
        have hall : ([26].all fun u => !Tryd.prog.wantsStandIn u) = true := by kernel_rfl
        exact (show Tryd.prog.wantsStandIn t = false by simpa using List.all_eq_true.1 hall t hm)⟩)
    c3
#print axioms proved
end Go.Proofs.YtdgehpocmfjbiaaDoor.fnSections
