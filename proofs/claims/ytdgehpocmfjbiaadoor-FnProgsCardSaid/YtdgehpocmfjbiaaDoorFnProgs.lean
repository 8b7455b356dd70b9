/- Proved: program headers are read, in order, at every argument. No condition. -/
import Derived.Test.YtdgehpocmfjbiaaDoorPh
import Derived.Test.YtdgehpocmfjbiaaDoorPg
import Derived.Test.YtdgehpocmfjbiaaDoorPk
import Derived.Test.YtdgehpocmfjbiaaDoorCards
import Derived.Test.YtdgehpocmfjbiaaDoorTie
import Derived.Test.YtdgehpocmfjbiaaDoorFnProgsJ
import Derived.Test.YtdgehpocmfjbiaaDoorFnProgsJC
import Derived.LaidMore
import Derived.LaidLaws
import Derived.Stop.Joined
import Derived.SevenTiedAt
import Derived.ProofKit
import Derived.OpenShut
import Derived.ShutString
import Derived.ChangeOld
import Derived.Below
set_option linter.unusedVariables false
set_option linter.unusedSimpArgs false
namespace Go.Proofs.YtdgehpocmfjbiaaDoor
open Go.RowKit
theorem progRes_at {x : ImgM} {i : Nat} {m : SegM} (hm : x.ss[i]? = some m) : progRes (sgOf x.img) i = [i6_ m.ty, i6_ m.flags, u6_ (x.img.segPlace i), u6_ m.vaddr, u6_ m.paddr, u6_ m.data.length, u6_ m.memsz, u6_ m.align] := by
  have h1 : x.img.segs[i]? = some m.seg := by
    show (x.ss.map SegM.seg)[i]? = _
    rw [List.getElem?_map, hm]; rfl
  unfold progRes sgOf
  rw [h1]
  rfl

abbrev law_progs_B0 := fun z1 (x : ImgM) => ((z1, .cells #[.bool x.wide, .bool x.big, u8_ x.abi, u8_ x.abiv, .int .i64 x.ty, .int .i64 x.machine, u6_ x.entry, .slice x.A x.ss.length x.c, .slice x.B x.ps.length x.d] 26 (0, 0)) : Nat × Obj)
abbrev law_progs_S1 := fun g2 (x : ImgM) cap2 => ([(4, sl_ g2 x.ss.length cap2), (6, nl_), (39, .slice x.A x.ss.length x.c), (40, i6_ x.ss.length)] : Slots)
abbrev law_progs_S2 := fun g2 (x : ImgM) cap2 gs caps => ([(4, sl_ g2 x.ss.length cap2), (6, sl_ gs x.ss.length caps), (39, .slice x.A x.ss.length x.c), (40, i6_ x.ss.length)] : Slots)
abbrev law_progs_B3 := fun z23 (m6 : SegM) => ((z23, .cells #[u3_ m6.ty, u3_ m6.flags, u6_ m6.vaddr, u6_ m6.paddr, u6_ m6.memsz, u6_ m6.align, .slice m6.A m6.data.length m6.c] 57 (0, 0)) : Nat × Obj)
abbrev law_progs_S4 := fun g2 (x : ImgM) cap2 gs caps i z23 => ([(4, sl_ g2 x.ss.length cap2), (6, sl_ gs x.ss.length caps), (8, i6_ i), (9, pt_ z23), (39, .slice x.A x.ss.length x.c), (40, i6_ x.ss.length), (41, i6_ i)] : Slots)
abbrev law_progs_S5 := fun g2 (x : ImgM) cap2 gs caps => ([(4, sl_ g2 x.ss.length cap2), (6, sl_ gs x.ss.length caps)] : Slots)
abbrev law_progs_B6 := fun z24 (m6 : SegM) (x : ImgM) i => ((z24, .cells #[i6_ m6.ty, i6_ m6.flags, u6_ (x.img.segPlace i), u6_ m6.vaddr, u6_ m6.paddr, u6_ m6.data.length, u6_ m6.memsz, u6_ m6.align] 73 (0, 0)) : Nat × Obj)
set_option maxRecDepth 100000 in
set_option maxHeartbeats 1000000 in
theorem law_progs (x : ImgM) (w0 : World) (h : x.At w0) : Calls Tryd.prog 12 #[x.val] w0 fun e w' => e = .returned (.bool true) ∧ Below w0.heap.size w0 w' := by
  obtain ⟨w, hw⟩ : ∃ w, w0 = w := ⟨_, rfl⟩
  have HM : Mm [] w0 w [] := hw ▸ Mm.start w0
  conv => arg 4; rw [hw]
  clear hw
  refine calls_start Tryd.func12 rfl Tryd.ntmps12 [(0, .agg #[.bool x.wide, .bool x.big, u8_ x.abi, u8_ x.abiv, .int .i64 x.ty, .int .i64 x.machine, u6_ x.entry, .slice x.A x.ss.length x.c, .slice x.B x.ps.length x.d])] (by kernel_rfl) (Nat.le_of_ble_eq_true rfl) ?_
  intro a HF
  refine wp_seq (wp_region_lit ?_)
  obtain ⟨z1, hz1⟩ : ∃ z, w.heap.size = z := ⟨_, rfl⟩
  refine wp_sym HF HM hz1 2 [] [(1, pt_ z1)] [law_progs_B0 z1 x] (by kernel_rfl) ?_
  clear HF HM hz1; intro a w HF HM
  refine nil_then ?_
  refine wp_seq ?_
  refine wp_seq (wp_region_lit ?_)
  refine wp_pure HF HM rfl 1 [[0]] [(1, pt_ z1), (11, .agg #[.bool x.wide, .bool x.big, u8_ x.abi, u8_ x.abiv, .int .i64 x.ty, .int .i64 x.machine, u6_ x.entry, .slice x.A x.ss.length x.c, .slice x.B x.ps.length x.d])] (by kernel_rfl) ?_
  clear HF; intro a HF
  refine wp_call HF (by kernel_rfl) 20 #[.agg #[.bool x.wide, .bool x.big, u8_ x.abi, u8_ x.abiv, .int .i64 x.ty, .int .i64 x.machine, u6_ x.entry, .slice x.A x.ss.length x.c, .slice x.B x.ps.length x.d]] (by kernel_rfl) (fun w => by kernel_rfl) (Calls.mono (zzFits1_any x w (h.below HM.below)) ?_)
  rintro _ w1 ⟨b1, rfl, hb⟩
  replace HM := HM.call hb
  clear hb
  refine ⟨_, rfl, ?_⟩; clear HF; intro a HF
  replace HF := HF.sub [(1, pt_ z1), (12, .bool b1)] (by kernel_rfl)
  rcases bool_cases2 b1 with hc2 | hc2
  · replace HF := Fr.sub (Fr.tell HF 12 rfl (congrArg Value.bool hc2)) [(1, pt_ z1), (12, .bool false)] (by kernel_rfl)
    refine wp_pure HF HM rfl 1 [] [(1, pt_ z1), (13, .bool true)] (by kernel_rfl) ?_
    clear HF; intro a HF
    refine nil_then ?_
    refine wp_condT HF rfl ?_
    refine wp_seq (wp_region_lit ?_)
    refine wp_pure HF HM rfl 1 [] [(2, .bool true)] (by kernel_rfl) ?_
    clear HF; intro a HF
    refine nil_then ?_
    refine wp_ret ?_
    repeat (first | refine then_ret ?_ | refine inb_ret ?_)
    exact ret_one HF rfl rfl ⟨rfl, HM.below⟩
  replace HF := Fr.sub (Fr.tell HF 12 rfl (congrArg Value.bool hc2)) [(1, pt_ z1), (12, .bool true)] (by kernel_rfl)
  refine wp_pure HF HM rfl 1 [] [(1, pt_ z1), (13, .bool false)] (by kernel_rfl) ?_
  clear HF; intro a HF
  refine nil_then ?_
  refine wp_condF HF rfl ?_
  refine wp_skip ?_
  repeat (first | refine then_norm ?_ | refine inb_norm ?_)
  refine wp_seq ?_
  refine wp_seq (wp_region_lit ?_)
  refine wp_pure HF HM rfl 1 [[0]] [(1, pt_ z1), (14, .agg #[.bool x.wide, .bool x.big, u8_ x.abi, u8_ x.abiv, .int .i64 x.ty, .int .i64 x.machine, u6_ x.entry, .slice x.A x.ss.length x.c, .slice x.B x.ps.length x.d])] (by kernel_rfl) ?_
  clear HF; intro a HF
  refine wp_call HF (by kernel_rfl) 22 #[.agg #[.bool x.wide, .bool x.big, u8_ x.abi, u8_ x.abiv, .int .i64 x.ty, .int .i64 x.machine, u6_ x.entry, .slice x.A x.ss.length x.c, .slice x.B x.ps.length x.d]] (by kernel_rfl) (fun w => by kernel_rfl) (Calls.mono (isImage_any x w1 (h.below HM.below)) ?_)
  rintro _ w2 ⟨b3, rfl, hb, hok4⟩
  replace HM := HM.call hb
  clear hb
  refine ⟨_, rfl, ?_⟩; clear HF; intro a HF
  replace HF := HF.sub [(1, pt_ z1), (15, .bool b3)] (by kernel_rfl)
  rcases bool_cases2 b3 with hc5 | hc5
  · replace HF := Fr.sub (Fr.tell HF 15 rfl (congrArg Value.bool hc5)) [(1, pt_ z1), (15, .bool false)] (by kernel_rfl)
    refine wp_pure HF HM rfl 1 [] [(1, pt_ z1), (16, .bool true)] (by kernel_rfl) ?_
    clear HF; intro a HF
    refine nil_then ?_
    refine wp_condT HF rfl ?_
    refine wp_seq (wp_region_lit ?_)
    refine wp_pure HF HM rfl 1 [] [(2, .bool true)] (by kernel_rfl) ?_
    clear HF; intro a HF
    refine nil_then ?_
    refine wp_ret ?_
    repeat (first | refine then_ret ?_ | refine inb_ret ?_)
    exact ret_one HF rfl rfl ⟨rfl, HM.below⟩
  replace HF := Fr.sub (Fr.tell HF 15 rfl (congrArg Value.bool hc5)) [(1, pt_ z1), (15, .bool true)] (by kernel_rfl)
  refine wp_pure HF HM rfl 1 [] [(1, pt_ z1), (16, .bool false)] (by kernel_rfl) ?_
  clear HF; intro a HF
  refine nil_then ?_
  refine wp_condF HF rfl ?_
  refine wp_skip ?_
  repeat (first | refine then_norm ?_ | refine inb_norm ?_)
  refine wp_seq (wp_region_lit ?_)
  refine wp_pure HF HM rfl 1 [[0]] [(1, pt_ z1), (18, .agg #[.bool x.wide, .bool x.big, u8_ x.abi, u8_ x.abiv, .int .i64 x.ty, .int .i64 x.machine, u6_ x.entry, .slice x.A x.ss.length x.c, .slice x.B x.ps.length x.d])] (by kernel_rfl) ?_
  clear HF; intro a HF
  have ok := (hok4 hc5).1
  have iok := ImgM.ok ok h
  have hk1 := ok.segs; have hk2 := ok.parts; have hk3 := iok.namesB_le; have hk7 := iok.shoff_le; have hk8 := iok.length_le
  refine wp_call HF (by kernel_rfl) 36 #[.agg #[.bool x.wide, .bool x.big, u8_ x.abi, u8_ x.abiv, .int .i64 x.ty, .int .i64 x.machine, u6_ x.entry, .slice x.A x.ss.length x.c, .slice x.B x.ps.length x.d]] (by kernel_rfl) (fun w => by kernel_rfl) (Calls.mono (file_any x w2 (h.below HM.below) ok) ?_)
  rintro _ w3 ⟨g1, cap1, cur1, g2, cap2, cur2, g3, cap3, cur3, rfl, hb, ho1, ho2, ho3⟩
  replace HM : Mm [] w0 w3 [(g2, .cells cur2 3 (0, 0)), (g1, .cells cur1 5 (0, 0)), law_progs_B0 z1 x] := HM.push2 hb ho1.new ho1.obj ho2.new ho2.obj (other_block ho2.obj ho1.obj (by decide))
  clear hb
  refine ⟨_, rfl, ?_⟩; clear HF; intro a HF
  replace HF := HF.sub [(1, pt_ z1), (19, .tuple #[sl_ g1 x.img.file.length cap1, sl_ g2 x.ss.length cap2, sl_ g3 (x.ps.length + 2) cap3])] (by kernel_rfl)
  refine wp_pure HF HM rfl 7 [] [(1, pt_ z1), (3, sl_ g1 x.img.file.length cap1), (4, sl_ g2 x.ss.length cap2)] (by kernel_rfl) ?_
  clear HF; intro a HF
  refine nil_then ?_
  refine wp_seq (wp_region_lit ?_)
  refine wp_pure HF HM rfl 1 [] [(1, pt_ z1), (4, sl_ g2 x.ss.length cap2), (24, sl_ g1 x.img.file.length cap1)] (by kernel_rfl) ?_
  clear HF; intro a HF
  refine wp_call HF (by kernel_rfl) 37 #[sl_ g1 x.img.file.length cap1] (by kernel_rfl) (fun w => by kernel_rfl) (Calls.mono (progs_any x.img.file _ _ _ rfl ho1.nc x.img.wide x.img.big x.img.abi x.img.abiv x.img.ty x.img.machine x.img.entry (hSize x.img.wide) x.img.segs.length x.img.shoff x.img.all.length (sgOf x.img) (scOf x.img) (nbOf x.img) (good_file iok) (by have hq := Img.Ok.length_le iok; omega) w3 (HM.rowOwn (i := 1) rfl ho1.tk)) ?_)
  rintro _ w4 ⟨hb, ⟨hp0, rfl⟩ | ⟨gs, caps, curs, rfl, hos⟩⟩
  · replace HM := HM.call hb
    clear hb
    rw [segs_len] at hp0
    refine ⟨_, rfl, ?_⟩; clear HF; intro a HF
    replace HF := HF.sub [(1, pt_ z1), (4, sl_ g2 x.ss.length cap2), (25, .tuple #[nl_, .bool true])] (by kernel_rfl)
    refine wp_pure HF HM rfl 5 [] [(1, pt_ z1), (4, sl_ g2 x.ss.length cap2), (6, nl_), (7, .bool true)] (by kernel_rfl) ?_
    clear HF; intro a HF
    refine nil_then ?_
    refine wp_seq ?_
    refine wp_seq (wp_region_lit ?_)
    refine wp_pure HF HM rfl 10 [[], [0]] [(1, pt_ z1), (4, sl_ g2 x.ss.length cap2), (6, nl_), (37, .bool (0 != ((x.ss.length : Nat) : Int)))] (by kernel_rfl) ?_
    clear HF; intro a HF
    refine nil_then ?_
    rw [show (0 != ((x.ss.length : Nat) : Int)) = false from bne_f (fun hq => hq (by omega))] at HF
    refine wp_condF HF rfl ?_
    refine wp_skip ?_
    repeat (first | refine then_norm ?_ | refine inb_norm ?_)
    refine wp_seq ?_
    refine wp_seq (wp_region_lit ?_)
    refine wp_pure HF HM rfl 4 [[0]] ((law_progs_S1 g2 x cap2) ++ [(41, iI_ 0)]) (by kernel_rfl) ?_
    clear HF; intro a HF
    refine nil_then ?_
    refine wp_block ?_
    replace HM := HM.pick [0] [(g2, .cells cur2 3 (0, 0))] rfl (by decide)
    refine loop_ind (x.ss.length) (fun i a w => (Mm [] w0 w [(g2, .cells cur2 3 (0, 0))] ∧ Fr 77 a ((law_progs_S1 g2 x cap2) ++ [(41, i6_ i)]))) ?_ ?_ ?_
    · exact ⟨HM, HF.sub ((law_progs_S1 g2 x cap2) ++ [(41, iI_ 0)]) (by kernel_rfl)⟩
    · intro i a w KX hi hI KR
      obtain ⟨HM, HF⟩ := hI
      have hpl := x.img.segPlace_le i
      exfalso; omega
    · intro a w KX hI
      obtain ⟨HM, HF⟩ := hI
      refine wp_seq (wp_region_lit ?_)
      refine wp_pure HF HM rfl 1 [] ((law_progs_S1 g2 x cap2) ++ [(41, i6_ x.ss.length), (42, .bool (decide (((x.ss.length : Nat) : Int) < ((x.ss.length : Nat) : Int))))]) (by kernel_rfl) ?_
      clear HF; intro a HF
      refine nil_then ?_
      refine wp_seq ?_
      rw [show decide (((x.ss.length : Nat) : Int) < ((x.ss.length : Nat) : Int)) = false from dec_f (by omega)] at HF
      refine wp_condF HF rfl ?_
      refine wp_exit ?_
      repeat (first | refine then_exit ?_ | refine inb_exit_other rfl ?_)
      refine inb_exit ?_
      repeat (first | refine then_norm ?_ | refine inb_norm ?_)
      refine wp_seq (wp_region_lit ?_)
      refine wp_pure HF HM rfl 1 [] [(2, .bool true)] (by kernel_rfl) ?_
      clear HF; intro a HF
      refine nil_then ?_
      refine wp_ret ?_
      repeat (first | refine then_ret ?_ | refine inb_ret ?_)
      exact ret_one HF rfl rfl ⟨rfl, HM.below⟩
  · replace HM : Mm [] w0 w4 [(gs, .cells curs 73 (0, 0)), (g2, .cells cur2 3 (0, 0)), (g1, .cells cur1 5 (0, 0)), law_progs_B0 z1 x] := HM.push hb hos.new hos.obj
    clear hb
    rw [segs_len] at hos
    refine ⟨_, rfl, ?_⟩; clear HF; intro a HF
    rw [segs_len] at HF
    replace HF := HF.sub [(1, pt_ z1), (4, sl_ g2 x.ss.length cap2), (25, .tuple #[sl_ gs x.ss.length caps, .bool true])] (by kernel_rfl)
    refine wp_pure HF HM rfl 5 [] [(1, pt_ z1), (4, sl_ g2 x.ss.length cap2), (6, sl_ gs x.ss.length caps), (7, .bool true)] (by kernel_rfl) ?_
    clear HF; intro a HF
    refine nil_then ?_
    refine wp_seq ?_
    refine wp_seq (wp_region_lit ?_)
    refine wp_pure HF HM rfl 10 [[], [0]] [(1, pt_ z1), (4, sl_ g2 x.ss.length cap2), (6, sl_ gs x.ss.length caps), (37, .bool (((x.ss.length : Nat) : Int) != ((x.ss.length : Nat) : Int)))] (by kernel_rfl) ?_
    clear HF; intro a HF
    refine nil_then ?_
    rw [show (((x.ss.length : Nat) : Int) != ((x.ss.length : Nat) : Int)) = false from bne_f (fun hq => hq rfl)] at HF
    refine wp_condF HF rfl ?_
    refine wp_skip ?_
    repeat (first | refine then_norm ?_ | refine inb_norm ?_)
    refine wp_seq ?_
    refine wp_seq (wp_region_lit ?_)
    refine wp_pure HF HM rfl 4 [[0]] ((law_progs_S2 g2 x cap2 gs caps) ++ [(41, iI_ 0)]) (by kernel_rfl) ?_
    clear HF; intro a HF
    refine nil_then ?_
    refine wp_block ?_
    replace HM := HM.pick [0, 1] [(gs, .cells curs 73 (0, 0)), (g2, .cells cur2 3 (0, 0))] rfl (by decide)
    refine loop_ind (x.ss.length) (fun i a w => (Mm [] w0 w [(gs, .cells curs 73 (0, 0)), (g2, .cells cur2 3 (0, 0))] ∧ Fr 77 a ((law_progs_S2 g2 x cap2 gs caps) ++ [(41, i6_ i)]))) ?_ ?_ ?_
    · exact ⟨HM, HF.sub ((law_progs_S2 g2 x cap2 gs caps) ++ [(41, iI_ 0)]) (by kernel_rfl)⟩
    · intro i a w KX hi hI KR
      obtain ⟨HM, HF⟩ := hI
      have hpl := x.img.segPlace_le i
      refine wp_seq (wp_region_lit ?_)
      refine wp_pure HF HM rfl 1 [] ((law_progs_S2 g2 x cap2 gs caps) ++ [(41, i6_ i), (42, .bool (decide (((i : Nat) : Int) < ((x.ss.length : Nat) : Int))))]) (by kernel_rfl) ?_
      clear HF; intro a HF
      refine nil_then ?_
      refine wp_seq ?_
      rw [show decide (((i : Nat) : Int) < ((x.ss.length : Nat) : Int)) = true from dec_t (by omega)] at HF
      refine wp_condT HF rfl ?_
      refine wp_skip ?_
      repeat (first | refine then_norm ?_ | refine inb_norm ?_)
      refine wp_seq ?_
      refine wp_block ?_
      refine wp_seq (wp_region_lit ?_)
      refine wp_pure HF HM rfl 1 [] ((law_progs_S2 g2 x cap2 gs caps) ++ [(41, i6_ i), (43, i6_ i)]) (by kernel_rfl) ?_
      clear HF; intro a HF
      obtain ⟨m6, hm6⟩ : ∃ m, x.ss[i]? = some m := ⟨_, List.getElem?_eq_getElem (by omega)⟩
      have hme_m6 := ok.seg m6 (List.mem_of_getElem? hm6)
      have hmd_m6 := hme_m6.data
      have hmb_m6 := h.seg m6 (List.mem_of_getElem? hm6)
      have hmt_m6 := hmb_m6.ty; have hmf_m6 := hmb_m6.flags
      refine wp_run HF (by kernel_rfl) (.pointer (Option.map (fun q : Addr => q.add (i * 7)) x.A)) (by kernel_rfl) (run_index_row Tryd.underlying23 (by kernel_rfl) rfl i rfl rfl (by omega) (row_some_elem (row_elem (f := SegM.cells) (k := 7) (fun _ => rfl) (HM.row h.segs) i hm6) (Nat.zero_lt_succ _))) ?_
      clear HF; intro a HF; replace HF := HF.sub ((law_progs_S2 g2 x cap2 gs caps) ++ [(41, i6_ i), (43, i6_ i), (44, .pointer (Option.map (fun q : Addr => q.add (i * 7)) x.A))]) (by kernel_rfl)
      refine wp_run HF (by kernel_rfl) (.agg #[u3_ m6.ty, u3_ m6.flags, u6_ m6.vaddr, u6_ m6.paddr, u6_ m6.memsz, u6_ m6.align, .slice m6.A m6.data.length m6.c]) (by kernel_rfl) (run_load_row rfl rfl (row_elem (f := SegM.cells) (k := 7) (fun _ => rfl) (HM.row h.segs) i hm6) (Nat.zero_lt_succ _) Tryd.underlying57 rfl (by kernel_rfl)) ?_
      clear HF; intro a HF; replace HF := HF.sub ((law_progs_S2 g2 x cap2 gs caps) ++ [(41, i6_ i), (43, i6_ i), (45, .agg #[u3_ m6.ty, u3_ m6.flags, u6_ m6.vaddr, u6_ m6.paddr, u6_ m6.memsz, u6_ m6.align, .slice m6.A m6.data.length m6.c])]) (by kernel_rfl)
      obtain ⟨z23, hz23⟩ : ∃ z, w.heap.size = z := ⟨_, rfl⟩
      refine wp_sym HF HM hz23 3 [[2]] (law_progs_S4 g2 x cap2 gs caps i z23) [law_progs_B3 z23 m6, (gs, .cells curs 73 (0, 0)), (g2, .cells cur2 3 (0, 0))] (by kernel_rfl) ?_
      clear HF HM hz23; intro a w HF HM
      refine nil_then ?_
      refine reg_plan HM (by kernel_rfl) [law_progs_B3 z23 m6, (gs, .cells curs 73 (0, 0)), (g2, .cells cur2 3 (0, 0))] [(0, false), (1, false), (2, false), (3, false), (4, false), (5, false), (6, false), (7, false), (8, false), (9, false), (10, false), (11, false), (12, false), (13, false), (14, false), (15, false), (16, false), (17, false), (18, false), (19, false), (20, false), (21, false), (22, false), (23, false), (24, true), (25, true)] (by kernel_rfl) ?_
      clear HM; intro w5 HM
      refine plan_sym HF (HM.told [0, 1, 2] rfl) 3 [[2]] ((law_progs_S4 g2 x cap2 gs caps i z23) ++ [(48, iI_ (IntKind.i64.wrap ((m6.ty : Nat) : Int)))]) (by kernel_rfl) ?_
      clear HF; intro a HF
      rw [show IntKind.i64.wrap ((m6.ty : Nat) : Int) = ((m6.ty : Nat) : Int) from IntWalk.i64_in _ (by omega)] at HF
      refine plan_sym HF (HM.told [0, 1, 2] rfl) 3 [[2]] ((law_progs_S4 g2 x cap2 gs caps i z23) ++ [(48, i6_ m6.ty), (51, iI_ (IntKind.i64.wrap ((m6.flags : Nat) : Int)))]) (by kernel_rfl) ?_
      clear HF; intro a HF
      rw [show IntKind.i64.wrap ((m6.flags : Nat) : Int) = ((m6.flags : Nat) : Int) from IntWalk.i64_in _ (by omega)] at HF
      refine plan_sym HF (HM.told [0, 1, 2] rfl) 2 [] ((law_progs_S4 g2 x cap2 gs caps i z23) ++ [(48, i6_ m6.ty), (51, i6_ m6.flags), (52, sl_ g2 x.ss.length cap2), (53, i6_ i)]) (by kernel_rfl) ?_
      clear HF; intro a HF
      refine plan_run rfl HF (HM.told [0, 1, 2] rfl) rfl (.pointer (Option.map (fun q : Addr => q.add (i * 1)) (some ⟨g2, 0, none⟩))) (by kernel_rfl) (fun w hw => run_index_row Tryd.underlying66 (by kernel_rfl) rfl i rfl rfl (by omega) (Option.some_ne_none _)) ?_
      clear HF; intro a HF; replace HF := HF.sub ((law_progs_S4 g2 x cap2 gs caps i z23) ++ [(48, i6_ m6.ty), (51, i6_ m6.flags), (54, .pointer (Option.map (fun q : Addr => q.add (i * 1)) (some ⟨g2, 0, none⟩)))]) (by kernel_rfl)
      refine plan_run rfl HF (HM.told [0, 1, 2] rfl) rfl (i6_ (x.img.segPlace i)) (by kernel_rfl) (fun w hw => run_load_row1 rfl rfl (row_elem1 (Told.rowOwn hw (i := 2) rfl ho2.tk) i (List.getElem?_range (by omega))) (by kernel_rfl)) ?_
      clear HF; intro a HF; replace HF := HF.sub ((law_progs_S4 g2 x cap2 gs caps i z23) ++ [(48, i6_ m6.ty), (51, i6_ m6.flags), (55, i6_ (x.img.segPlace i))]) (by kernel_rfl)
      refine plan_sym HF (HM.told [0, 1, 2] rfl) 1 [] ((law_progs_S4 g2 x cap2 gs caps i z23) ++ [(48, i6_ m6.ty), (51, i6_ m6.flags), (56, iL_ (IntKind.u64.wrap (((x.img.segPlace i) : Nat) : Int)))]) (by kernel_rfl) ?_
      clear HF; intro a HF
      rw [show IntKind.u64.wrap (((x.img.segPlace i) : Nat) : Int) = (((x.img.segPlace i) : Nat) : Int) from IntWalk.u64_in _ (by omega)] at HF
      refine plan_sym HF (HM.told [0, 1, 2] rfl) 8 [[2], [2], [2]] ((law_progs_S4 g2 x cap2 gs caps i z23) ++ [(48, i6_ m6.ty), (51, i6_ m6.flags), (56, u6_ (x.img.segPlace i)), (58, u6_ m6.vaddr), (60, u6_ m6.paddr), (64, iL_ (IntKind.u64.wrap ((m6.data.length : Nat) : Int)))]) (by kernel_rfl) ?_
      clear HF; intro a HF
      rw [show IntKind.u64.wrap ((m6.data.length : Nat) : Int) = ((m6.data.length : Nat) : Int) from IntWalk.u64_in _ (by omega)] at HF
      refine plan_sym HF (HM.told [0, 1, 2] rfl) 5 [[2], [2]] ((law_progs_S5 g2 x cap2 gs caps) ++ [(8, i6_ i), (39, .slice x.A x.ss.length x.c), (40, i6_ x.ss.length), (41, i6_ i), (69, .agg #[i6_ m6.ty, i6_ m6.flags, u6_ (x.img.segPlace i), u6_ m6.vaddr, u6_ m6.paddr, u6_ m6.data.length, u6_ m6.memsz, u6_ m6.align])]) (by kernel_rfl) ?_
      clear HF; intro a HF
      refine plan_force rfl ?_
      obtain ⟨z24, hz24⟩ : ∃ z, w5.heap.size = z := ⟨_, rfl⟩
      refine wp_sym HF HM hz24 1 [] ((law_progs_S5 g2 x cap2 gs caps) ++ [(8, i6_ i), (10, pt_ z24), (39, .slice x.A x.ss.length x.c), (40, i6_ x.ss.length), (41, i6_ i), (69, .agg #[i6_ m6.ty, i6_ m6.flags, u6_ (x.img.segPlace i), u6_ m6.vaddr, u6_ m6.paddr, u6_ m6.data.length, u6_ m6.memsz, u6_ m6.align])]) [(z24, .cells #[iI_ 0, iI_ 0, iL_ 0, iL_ 0, iL_ 0, iL_ 0, iL_ 0, iL_ 0] 73 (0, 0)), law_progs_B3 z23 m6, (gs, .cells curs 73 (0, 0)), (g2, .cells cur2 3 (0, 0))] (by kernel_rfl) ?_
      clear HF HM hz24; intro a w HF HM
      refine only_end (HM.told [1, 2, 3] rfl) ?_
      refine plan_force rfl ?_
      refine wp_sym HF HM rfl 1 [[3]] ((law_progs_S5 g2 x cap2 gs caps) ++ [(8, i6_ i), (10, pt_ z24), (39, .slice x.A x.ss.length x.c), (40, i6_ x.ss.length), (41, i6_ i)]) [law_progs_B6 z24 m6 x i, law_progs_B3 z23 m6, (gs, .cells curs 73 (0, 0)), (g2, .cells cur2 3 (0, 0))] (by kernel_rfl) ?_
      clear HF HM; intro a w HF HM
      refine only_end (HM.told [1, 2, 3] rfl) ?_
      refine plan_end ?_
      refine then_norm ?_
      refine reg_quietw (by kernel_rfl) (by kernel_rfl) ?_
      refine quiet_sym HF HM rfl 2 [] ((law_progs_S5 g2 x cap2 gs caps) ++ [(10, pt_ z24), (39, .slice x.A x.ss.length x.c), (40, i6_ x.ss.length), (41, i6_ i), (70, sl_ gs x.ss.length caps), (71, i6_ i)]) (by kernel_rfl) ?_
      clear HF; intro a HF
      refine quiet_run HF rfl (.pointer (Option.map (fun q : Addr => q.add (i * 8)) (some ⟨gs, 0, none⟩))) (by kernel_rfl) (fun j => run_index_row Tryd.underlying69 (by kernel_rfl) rfl i rfl rfl (by omega) (Option.some_ne_none _)) ?_
      clear HF; intro a HF; replace HF := HF.sub ((law_progs_S5 g2 x cap2 gs caps) ++ [(10, pt_ z24), (39, .slice x.A x.ss.length x.c), (40, i6_ x.ss.length), (41, i6_ i), (72, .pointer (Option.map (fun q : Addr => q.add (i * 8)) (some ⟨gs, 0, none⟩)))]) (by kernel_rfl)
      refine quiet_run HF rfl (.agg (progRes (sgOf x.img) i).toArray) (by kernel_rfl) (fun j => run_load_row rfl rfl (row_drewN (row_elem (f := progRes (sgOf x.img)) (k := 8) (fun _ => rfl) (HM.rowOwn (i := 2) rfl hos.tk) i (List.getElem?_range (by omega))) j) (Nat.zero_lt_succ _) Tryd.underlying73 rfl (by kernel_rfl)) ?_
      clear HF; intro a HF; replace HF := HF.sub [(4, sl_ g2 x.ss.length cap2), (6, sl_ gs x.ss.length caps), (10, pt_ z24), (39, .slice x.A x.ss.length x.c), (40, i6_ x.ss.length), (41, i6_ i), (73, .agg (progRes (sgOf x.img) i).toArray)] (by kernel_rfl)
      rw [progRes_at hm6] at HF
      refine quiet_sym HF HM rfl 1 [[3]] ((law_progs_S2 g2 x cap2 gs caps) ++ [(41, i6_ i), (73, .agg #[i6_ m6.ty, i6_ m6.flags, u6_ (x.img.segPlace i), u6_ m6.vaddr, u6_ m6.paddr, u6_ m6.data.length, u6_ m6.memsz, u6_ m6.align]), (74, .agg #[i6_ m6.ty, i6_ m6.flags, u6_ (x.img.segPlace i), u6_ m6.vaddr, u6_ m6.paddr, u6_ m6.data.length, u6_ m6.memsz, u6_ m6.align])]) (by kernel_rfl) ?_
      clear HF; intro a HF
      refine quiet_run HF rfl (.bool false) (by kernel_rfl) (fun j => run_binop_eql2 rfl rfl rfl (neqGuard2_prog _ _ _ _ _) (neq2_prog _ _ _ _ _ _ _ _ _)) ?_
      clear HF; intro a HF; replace HF := HF.sub ((law_progs_S2 g2 x cap2 gs caps) ++ [(41, i6_ i), (75, .bool false)]) (by kernel_rfl)
      refine quiet_end ?_
      rintro w6 ⟨nq, hq⟩
      replace HM : Mm [] w0 w6 [law_progs_B6 z24 m6 x i, law_progs_B3 z23 m6, (gs, .cells curs 73 (0, 0)), (g2, .cells cur2 3 (0, 0))] := by rw [hq]; exact HM.drewN nq
      clear hq nq
      refine wp_condF HF rfl ?_
      refine wp_skip ?_
      repeat (first | refine then_norm ?_ | refine inb_norm ?_)
      refine wp_region_lit ?_
      refine wp_pure HF HM rfl 1 [] ((law_progs_S2 g2 x cap2 gs caps) ++ [(76, iI_ (IntKind.i64.wrap (((i : Nat) : Int) + 1)))]) (by kernel_rfl) ?_
      clear HF; intro a HF
      rw [show IntKind.i64.wrap (((i : Nat) : Int) + 1) = (((i + 1) : Nat) : Int) from (IntWalk.i64_in _ (by omega)).trans (by omega)] at HF
      refine wp_pure HF HM rfl 1 [] ((law_progs_S2 g2 x cap2 gs caps) ++ [(41, i6_ (i + 1))]) (by kernel_rfl) ?_
      clear HF; intro a HF
      refine wpList_nil ?_
      repeat (first | refine then_norm ?_ | refine inb_norm ?_)
      exact KR _ _ (⟨(HM.pick [2, 3] [(gs, .cells curs 73 (0, 0)), (g2, .cells cur2 3 (0, 0))] rfl (by decide)), HF.sub ((law_progs_S2 g2 x cap2 gs caps) ++ [(41, i6_ (i + 1))]) (by kernel_rfl)⟩)
    · intro a w KX hI
      obtain ⟨HM, HF⟩ := hI
      refine wp_seq (wp_region_lit ?_)
      refine wp_pure HF HM rfl 1 [] ((law_progs_S2 g2 x cap2 gs caps) ++ [(41, i6_ x.ss.length), (42, .bool (decide (((x.ss.length : Nat) : Int) < ((x.ss.length : Nat) : Int))))]) (by kernel_rfl) ?_
      clear HF; intro a HF
      refine nil_then ?_
      refine wp_seq ?_
      rw [show decide (((x.ss.length : Nat) : Int) < ((x.ss.length : Nat) : Int)) = false from dec_f (by omega)] at HF
      refine wp_condF HF rfl ?_
      refine wp_exit ?_
      repeat (first | refine then_exit ?_ | refine inb_exit_other rfl ?_)
      refine inb_exit ?_
      repeat (first | refine then_norm ?_ | refine inb_norm ?_)
      refine wp_seq (wp_region_lit ?_)
      refine wp_pure HF HM rfl 1 [] [(2, .bool true)] (by kernel_rfl) ?_
      clear HF; intro a HF
      refine nil_then ?_
      refine wp_ret ?_
      repeat (first | refine then_ret ?_ | refine inb_ret ?_)
      exact ret_one HF rfl rfl ⟨rfl, HM.below⟩

end Go.Proofs.YtdgehpocmfjbiaaDoor
namespace Go.Proofs.YtdgehpocmfjbiaaDoor.fnProgs
open Go Go.ChangeShapes Go.WideShapes Go.ChangeAt Go.RowKit Go.Deep

theorem own : ownKnob Tryd.prog.godebug = none := by kernel_rfl
theorem laidOut : laidOutB Tryd.prog = true := by kernel_rfl
theorem door_met (os : Os) (args : Array Value) : laidMetH Tryd.prog Rows.fnProgsRow.laid ((World.doorLaid Tryd.prog 123 os).forCall (fun _ _ => 0) ⟨#[], args, []⟩).memory :=
  laidMetH_of_parts3 (fuel := 8) (laidMet_of_run' 8 (by kernel_rfl) (by kernel_rfl)) (by kernel_rfl) (by kernel_rfl)

set_option maxRecDepth 100000 in
theorem lifted (os : Os) (started : os.Started) (H : Type) (enc : TypeId × Value → H) :
    ReturnsInHanded {} Tryd.checked os 12 .any (fun w args => (Rows.fnProgsSpec.pre enc Tryd.prog Tryd.f12 [] false w args ∧ laidMetH Tryd.prog Rows.fnProgsRow.laid w) ∧ sizedMet enc Tryd.prog Tryd.f12 (OpenSpec.ofChange Rows.fnProgsSpec) false w args)
      (Rows.fnProgsSpec.post enc Tryd.prog Tryd.f12 false true false false) := by
  refine returnsInHanded_of_change_and (C := Tryd.checked) (X := fun w _ => laidMetH Tryd.prog Rows.fnProgsRow.laid w) (fun _ _ _ hh h => h.of_heap hh) own started (by kernel_rfl) Tryd.func12
    (ChangeSpec.witness_shaped (enc := enc) (C := Tryd.checked) (os := os) (X := fun w _ => laidMetH Tryd.prog Rows.fnProgsRow.laid w) false (World.doorLaid Tryd.prog 123 os) #[.agg #[.bool false, .bool false, .int .u8 0, .int .u8 0, .int .i64 0, .int .i64 0, .int .u64 0, .slice none 0 0, .slice none 0 0]] 8 rfl (World.shaped_of_RefB (by kernel_rfl) (by kernel_rfl)) (by kernel_rfl) (by kernel_rfl) (by kernel_rfl) (door_met os _)) ?_
  intro W base args ds gs before hval0 hW _ _ hL _
  have hval : ∀ (j : Nat) t v, Tryd.f12.params[j]? = some t → args[j]? = some v → Value.okWide Tryd.prog W .any base t v := hval0
  have hW' := hW
  obtain ⟨p, q, hA0, hV, rfl, hfz, hnd⟩ := hW
  have hA : DataW.TrodAll enc Tryd.prog W 0 (fun _ => true) true Tryd.f12.params.toList args.toList ds p := hA0
  rw [Tryd.params12] at hA hval
  obtain ⟨v0, vs0, d0, ds0, p0, q0, hargs, rfl, rfl, h0, r0⟩ := trodAll_cons hA
  obtain ⟨rfl, rfl, rfl⟩ := trodAll_nil r0
  obtain rfl : args = #[v0] := by cases args; simp_all
  obtain ⟨rfl, rfl⟩ := trodVars_none hV
  have k0 := h0
  have lt0 : ∀ x ∈ p0, x.block < W.heap.size := by obtain ⟨m, hm⟩ := k0; exact DataW.trod_lt m _ _ _ hm
  obtain ⟨x0, rfl, hx0⟩ := open_img (hval 0 26 v0 rfl rfl) h0
  clear hA0 hval0
  refine (law_progs x0 W hx0).mono fun e W' ⟨he, bel⟩ => ?_
  subst he
  exact ⟨_, rfl, _, _, _, [], _, [], hW', trodAll_mk1 (shut_bool Tryd.underlying4 _), (trodAll_cons_mk (Below.trod laidOut (by kernel_rfl) (of_decide_eq_true (by kernel_rfl)) k0 bel lt0) trodAll_mk0), rfl, bel.frame _, fun h => by cases h⟩

set_option maxRecDepth 100000 in
theorem over_j : joinedFacts Tryd.pinned.checked.prog 12 Tryd.f12 Rows.fnProgsSpec Rows.fnProgsRow = true := (and_t (and_t (and_t (and_t (and_t (and_t (and_t (and_t (and_t (and_t (and_t (and_t (and_t (and_t (and_t (and_t (and_t (and_t (and_t (and_t (and_t (and_t (and_t (and_t (and_t (and_t (and_t (and_t (and_t (and_t (and_t l0 l1) l2) l3) l4) l5) l6) l7) l8) l9) l10) l11) l12) l13) l14) l15) l16) l17) l18) l19) l20) l21) l22) l23) l24) l25) l26) l27) l28) l29) l30) l31)

theorem over : Rows.FnProgsSaid :=
  OpenClaim.holds_of_wide 12 Tryd.f12 rfl rfl rfl rfl rfl rfl rfl ⟨rfl, rfl, rfl, rfl, rfl⟩ rfl rfl rfl rfl rfl c5 Tryd.func12 over_j
    (of_decide_eq_true (by kernel_rfl)) (by unfold Func.isWrapper; first | (rw [if_pos (by decide +kernel)]; kernel_rfl) | (rw [if_neg (by decide +kernel)]; exact ⟨rfl, rfl⟩))
    (fun os started H enc _ => lifted os started H enc)

theorem proved : Rows.FnProgsCardSaid :=
  Claim7.holds_tied_plain_at .later [] [.sentinel, .sentinel, .sentinel, .sentinel, .sentinel] true (true, "ed888367449acd6afd80057b2906ce1b79ec16b7beef13a0a9ac5f630eedede4") true
    over (fun _ h => by cases h) c1 (fun _ h => by cases h) fnProgs_row_tie rfl ⟨rfl, rfl⟩ qc4 rfl
    (fun f fn hf hfn => by
      obtain rfl : f = 12 := Option.some.inj (c5.symm.trans hf) |>.symm
      obtain rfl : fn = Tryd.f12 := (Option.some.inj (Tryd.func12.symm.trans hfn)).symm
      exact ⟨qc2, fun j t ht => by
        rw [Tryd.params12] at ht
        have hm : t ∈ [26] := by simpa using Array.mem_of_getElem? ht
        have hall : ([26].all fun u => !Tryd.prog.wantsStandIn u) = true := by kernel_rfl
        exact (show Tryd.prog.wantsStandIn t = false by simpa using List.all_eq_true.1 hall t hm)⟩)
    c3
#print axioms proved
end Go.Proofs.YtdgehpocmfjbiaaDoor.fnProgs
