/- Proved: the same sections are read in both classes and both orders of bytes: all but where their bytes begin, at every argument. No condition. -/
import Derived.Test.YtdgehpocmfjbiaaDoorPd
import Derived.Test.YtdgehpocmfjbiaaDoorPh
import Derived.Test.YtdgehpocmfjbiaaDoorPg
import Derived.Test.YtdgehpocmfjbiaaDoorPj
import Derived.Test.YtdgehpocmfjbiaaDoorCards
import Derived.Test.YtdgehpocmfjbiaaDoorTie
import Derived.Test.YtdgehpocmfjbiaaDoorFnClassesJ
import Derived.Test.YtdgehpocmfjbiaaDoorFnClassesJC
import Derived.LaidMore
import Derived.LaidLaws
import Derived.Stop.Joined
import Derived.SevenTiedAt
import Derived.ProofKit
import Derived.OpenShut
import Derived.ShutString
import Derived.ChangeOld
import Derived.Below
set_option linter.unusedVariables false
set_option linter.unusedSimpArgs false
namespace Go.Proofs.YtdgehpocmfjbiaaDoor
open Go.RowKit
section
variable {P : Program} {w : World}
/-- the address of element j, the row's address laid open -/
theorem run_index_at {t e : TypeId} {k : Nat} (ht : P.underlying t = some (.slice e)) (hi : (P.info? e).map (·.size) = some k) {ρ : Operand → Value} {o : Oper} {x ix : Operand} (ho : o.op = .indexAddr t x ix) {A : Option Addr} {n c : Nat} (j : Nat) {g off : Nat} (hA : A = some ⟨g, off, none⟩) {kk : IntKind} (hx : ρ x = .slice A n c) (hj : ρ ix = .int kk (j : Int)) (h : j < n) :
    (execOp ρ o).run P w = .ok (.value (.pointer (some ⟨g, off + j * k, none⟩))) w := by
  subst hA
  have := run_index_row (w := w) ht hi ho j hx hj h (Option.some_ne_none _)
  rw [Option.map_some, addr_add'] at this
  exact this
theorem row_at_elem {α : Type} {A : Option Addr} {g off : Nat} {f : α → List Value} {k : Nat} {l : List α} (hk : ∀ a, (f a).length = k) (hA : A = some ⟨g, off, none⟩) (hr : Row w A (l.flatMap f)) (j : Nat) {m : α} (hj : l[j]? = some m) : Row w (some ⟨g, off + j * k, none⟩) (f m) := by
  subst hA
  have := row_elem hk hr j hj
  rw [Option.map_some, addr_add'] at this
  exact this
theorem row_fld {g off : Nat} {cs : List Value} {v : Value} (hr : Row w (some ⟨g, off, none⟩) cs) (i : Nat) (hi : cs[i]? = some v) : Row w (some ⟨g, off + i, none⟩) [v] := fun j u hu => by
  obtain ⟨rfl, rfl⟩ : j = 0 ∧ v = u := by
    cases j with
    | zero => exact ⟨rfl, by injection hu⟩
    | succ j => cases hu
  obtain ⟨b, o, e, hc⟩ := hr i _ hi
  injection e with e; injection e with e1 e2
  subst e1; subst e2
  exact ⟨_, _, rfl, hc⟩
end
theorem flat_cong {f g : Nat → List Value} : ∀ n, (∀ j, j < n → g j = f j) → (List.range n).flatMap g = (List.range n).flatMap f
  | 0, _ => rfl
  | n + 1, h => by rw [List.range_succ, List.flatMap_append, List.flatMap_append, List.flatMap_singleton, List.flatMap_singleton, flat_cong n (fun j hj => h j (by omega)), h n (by omega)]
theorem set_flat {f g : Nat → List Value} {k c i : Nat} {v : Value} (hk : ∀ j, (f j).length = k) (hc : c < k) (he : ∀ j, j ≠ i → g j = f j) (hi : g i = (f i).set c v) : ∀ n, i < n → ((List.range n).flatMap f).set (i * k + c) v = (List.range n).flatMap g
  | 0, h => absurd h (Nat.not_lt_zero _)
  | n + 1, h => by
    rw [List.range_succ, List.flatMap_append, List.flatMap_append, List.flatMap_singleton, List.flatMap_singleton]
    have hl : ((List.range n).flatMap f).length = n * k := by rw [flat_len hk, List.length_range]
    by_cases hn : i = n
    · subst hn
      rw [List.set_append_right _ _ (by rw [hl]; omega), hl, Nat.add_sub_cancel_left, hi, flat_cong i (fun j hj => he j (by omega))]
    · have h1 : (i + 1) * k ≤ n * k := Nat.mul_le_mul_right _ (by omega)
      rw [Nat.succ_mul] at h1
      rw [List.set_append_left _ _ (by rw [hl]; omega), set_flat hk hc he hi n (by omega), he n (fun e => hn e.symm)]
end Go.Proofs.YtdgehpocmfjbiaaDoor
namespace Go.Proofs.YtdgehpocmfjbiaaDoor
open Go.RowKit
def ImgM.turn (x : ImgM) (wide big : Bool) : ImgM := ⟨wide, big, x.abi, x.abiv, x.ty, x.machine, x.entry, x.ss, x.A, x.c, x.ps, x.B, x.d⟩
theorem ImgM.At.turn {x : ImgM} {w : World} (h : x.At w) (a b : Bool) : (x.turn a b).At w := ⟨h.segs, h.parts, h.seg, h.part, h.c1, h.c2, h.d1, h.d2, h.abi, h.abiv, h.entry⟩
theorem all_len_turn (x : ImgM) (a b : Bool) : (x.turn a b).img.all.length = x.ps.length + 2 := all_len (x.turn a b)
def secOff (sc : Nat → SecV) (nb : Nat → List UInt8) (o : Nat → Nat) (j : Nat) : List Value := [.string (⟨(nb j).toArray⟩), i6_ ((sc j).ty), i6_ ((sc j).flags), u6_ ((sc j).addr), u6_ (o j), u6_ ((sc j).fsz), i6_ ((sc j).link), i6_ ((sc j).info), u6_ ((sc j).align), u6_ ((sc j).ent), u6_ ((sc j).fsz)]
def offOf (sc : Nat → SecV) (j : Nat) : Nat := (sc j).off
def mixO (sc sy : Nat → SecV) (i j : Nat) : Nat := if j < i then (sy j).off else (sc j).off
theorem secRes_mix (sc : Nat → SecV) (nb : Nat → List UInt8) (sy : Nat → SecV) : secRes sc nb = secOff sc nb (mixO sc sy 0) := by
  funext j
  unfold secRes secOff mixO
  rw [if_neg (Nat.not_lt_zero j)]
theorem secRes_turn (x : ImgM) (a b : Bool) : secRes (scOf (x.turn a b).img) (nbOf (x.turn a b).img) = secOff (scOf x.img) (nbOf x.img) (offOf (scOf (x.turn a b).img)) := by
  funext j
  have e : (x.turn a b).img.all = x.img.all := rfl
  have e2 : (x.turn a b).img.names = x.img.names := rfl
  unfold secRes secOff
  unfold offOf nbOf scOf
  rw [e, e2]
  cases x.img.all[j]? <;> rfl
theorem turn_set (x : ImgM) (a b : Bool) (n i : Nat) (hi : i < n) : ((List.range n).flatMap (secOff (scOf x.img) (nbOf x.img) (mixO (scOf x.img) (scOf (x.turn a b).img) i)) : List Value).set (0 + i * 11 + 4) (u6_ (scOf (x.turn a b).img i).off) = (List.range n).flatMap (secOff (scOf x.img) (nbOf x.img) (mixO (scOf x.img) (scOf (x.turn a b).img) (i + 1))) := by
  rw [Nat.zero_add]
  refine set_flat (k := 11) (c := 4) (fun _ => rfl) (by omega) (fun j hj => ?_) ?_ n hi
  · have : mixO (scOf x.img) (scOf (x.turn a b).img) (i + 1) j = mixO (scOf x.img) (scOf (x.turn a b).img) i j := by
      unfold mixO
      by_cases h : j < i
      · rw [if_pos h, if_pos (by omega)]
      · rw [if_neg h, if_neg (by omega)]
    unfold secOff
    rw [this]
  · have : mixO (scOf x.img) (scOf (x.turn a b).img) (i + 1) i = (scOf (x.turn a b).img i).off := if_pos (Nat.lt_succ_self i)
    unfold secOff
    rw [this]
    rfl
theorem mix_at (x : ImgM) (a b : Bool) (i : Nat) : mixO (scOf x.img) (scOf (x.turn a b).img) (i + 1) i = (scOf (x.turn a b).img i).off := if_pos (Nat.lt_succ_self i)

abbrev law_classes_B0 := fun z1 (x : ImgM) => ((z1, .cells #[.bool x.wide, .bool x.big, u8_ x.abi, u8_ x.abiv, .int .i64 x.ty, .int .i64 x.machine, u6_ x.entry, .slice x.A x.ss.length x.c, .slice x.B x.ps.length x.d] 26 (0, 0)) : Nat × Obj)
abbrev law_classes_B1 := fun z6 (m1 : Bool) (m2 : Bool) (x : ImgM) => ((z6, .cells #[.bool m1, .bool m2, u8_ x.abi, u8_ x.abiv, .int .i64 x.ty, .int .i64 x.machine, u6_ x.entry, .slice x.A x.ss.length x.c, .slice x.B x.ps.length x.d] 26 (0, 0)) : Nat × Obj)
abbrev law_classes_S2 := fun gx (x : ImgM) capx gy capy => ([(8, sl_ gx (x.ps.length + 2) capx), (10, sl_ gy (x.ps.length + 2) capy)] : Slots)
abbrev law_classes_S3 := fun rg (x : ImgM) rc gy capy => ([(8, sl_ rg (x.ps.length + 2) rc), (10, sl_ gy (x.ps.length + 2) capy)] : Slots)
abbrev law_classes_S4 := fun rg (x : ImgM) rc gy capy i => ((law_classes_S3 rg x rc gy capy) ++ [(12, i6_ i), (64, i6_ (x.ps.length + 2)), (65, i6_ i)] : Slots)
abbrev law_classes_S5 := fun rg (x : ImgM) rc gy capy i (m1 : Bool) (m2 : Bool) => ((law_classes_S3 rg x rc gy capy) ++ [(64, i6_ (x.ps.length + 2)), (65, i6_ i), (80, .agg #[.string (⟨(nbOf x.img i).toArray⟩), i6_ ((scOf x.img i).ty), i6_ ((scOf x.img i).flags), u6_ ((scOf x.img i).addr), u6_ ((scOf (x.turn m1 m2).img i).off), u6_ ((scOf x.img i).fsz), i6_ ((scOf x.img i).link), i6_ ((scOf x.img i).info), u6_ ((scOf x.img i).align), u6_ ((scOf x.img i).ent), u6_ ((scOf x.img i).fsz)])] : Slots)
set_option maxRecDepth 100000 in
set_option maxHeartbeats 1000000 in
theorem law_classes (x : ImgM) (m1 m2 : Bool) (w0 : World) (h : x.At w0) : Calls Tryd.prog 11 #[x.val, .bool m1, .bool m2] w0 fun e w' => e = .returned (.bool true) ∧ Below w0.heap.size w0 w' := by
  obtain ⟨w, hw⟩ : ∃ w, w0 = w := ⟨_, rfl⟩
  have HM : Mm [] w0 w [] := hw ▸ Mm.start w0
  conv => arg 4; rw [hw]
  clear hw
  refine calls_start Tryd.func11 rfl Tryd.ntmps11 [(0, .agg #[.bool x.wide, .bool x.big, u8_ x.abi, u8_ x.abiv, .int .i64 x.ty, .int .i64 x.machine, u6_ x.entry, .slice x.A x.ss.length x.c, .slice x.B x.ps.length x.d]), (1, .bool m1), (2, .bool m2)] (by kernel_rfl) (Nat.le_of_ble_eq_true rfl) ?_
  intro a HF
  refine wp_seq (wp_region_lit ?_)
  obtain ⟨z1, hz1⟩ : ∃ z, w.heap.size = z := ⟨_, rfl⟩
  refine wp_sym HF HM hz1 2 [] [(1, .bool m1), (2, .bool m2), (3, pt_ z1)] [law_classes_B0 z1 x] (by kernel_rfl) ?_
  clear HF HM hz1; intro a w HF HM
  refine nil_then ?_
  refine wp_seq ?_
  refine wp_seq (wp_region_lit ?_)
  refine wp_pure HF HM rfl 1 [[0]] [(1, .bool m1), (2, .bool m2), (3, pt_ z1), (13, .agg #[.bool x.wide, .bool x.big, u8_ x.abi, u8_ x.abiv, .int .i64 x.ty, .int .i64 x.machine, u6_ x.entry, .slice x.A x.ss.length x.c, .slice x.B x.ps.length x.d])] (by kernel_rfl) ?_
  clear HF; intro a HF
  refine wp_call HF (by kernel_rfl) 20 #[.agg #[.bool x.wide, .bool x.big, u8_ x.abi, u8_ x.abiv, .int .i64 x.ty, .int .i64 x.machine, u6_ x.entry, .slice x.A x.ss.length x.c, .slice x.B x.ps.length x.d]] (by kernel_rfl) (fun w => by kernel_rfl) (Calls.mono (zzFits1_any x w (h.below HM.below)) ?_)
  rintro _ w1 ⟨b1, rfl, hb⟩
  replace HM := HM.call hb
  clear hb
  refine ⟨_, rfl, ?_⟩; clear HF; intro a HF
  replace HF := HF.sub [(1, .bool m1), (2, .bool m2), (3, pt_ z1), (14, .bool b1)] (by kernel_rfl)
  rcases bool_cases2 b1 with hc2 | hc2
  · replace HF := Fr.sub (Fr.tell HF 14 rfl (congrArg Value.bool hc2)) [(1, .bool m1), (2, .bool m2), (3, pt_ z1), (14, .bool false)] (by kernel_rfl)
    refine wp_pure HF HM rfl 1 [] [(1, .bool m1), (2, .bool m2), (3, pt_ z1), (15, .bool true)] (by kernel_rfl) ?_
    clear HF; intro a HF
    refine nil_then ?_
    refine wp_condT HF rfl ?_
    refine wp_seq (wp_region_lit ?_)
    refine wp_pure HF HM rfl 1 [] [(6, .bool true)] (by kernel_rfl) ?_
    clear HF; intro a HF
    refine nil_then ?_
    refine wp_ret ?_
    repeat (first | refine then_ret ?_ | refine inb_ret ?_)
    exact ret_one HF rfl rfl ⟨rfl, HM.below⟩
  replace HF := Fr.sub (Fr.tell HF 14 rfl (congrArg Value.bool hc2)) [(1, .bool m1), (2, .bool m2), (3, pt_ z1), (14, .bool true)] (by kernel_rfl)
  refine wp_pure HF HM rfl 1 [] [(1, .bool m1), (2, .bool m2), (3, pt_ z1), (15, .bool false)] (by kernel_rfl) ?_
  clear HF; intro a HF
  refine nil_then ?_
  refine wp_condF HF rfl ?_
  refine wp_skip ?_
  repeat (first | refine then_norm ?_ | refine inb_norm ?_)
  refine wp_seq (wp_region_lit ?_)
  obtain ⟨z6, hz6⟩ : ∃ z, w1.heap.size = z := ⟨_, rfl⟩
  refine wp_sym HF HM hz6 3 [[0], [1]] [(1, .bool m1), (2, .bool m2), (3, pt_ z1), (7, pt_ z6)] [(z6, .cells #[.bool x.wide, .bool x.big, u8_ x.abi, u8_ x.abiv, .int .i64 x.ty, .int .i64 x.machine, u6_ x.entry, .slice x.A x.ss.length x.c, .slice x.B x.ps.length x.d] 26 (0, 0)), law_classes_B0 z1 x] (by kernel_rfl) ?_
  clear HF HM hz6; intro a w HF HM
  refine nil_then ?_
  refine wp_seq (wp_region_lit ?_)
  refine wp_sym HF HM rfl 6 [[1], [1]] [(3, pt_ z1), (7, pt_ z6)] [law_classes_B1 z6 m1 m2 x, law_classes_B0 z1 x] (by kernel_rfl) ?_
  clear HF HM; intro a w HF HM
  refine nil_then ?_
  refine wp_seq ?_
  refine wp_seq (wp_region_lit ?_)
  refine wp_pure HF HM rfl 1 [[0]] [(3, pt_ z1), (7, pt_ z6), (21, .agg #[.bool x.wide, .bool x.big, u8_ x.abi, u8_ x.abiv, .int .i64 x.ty, .int .i64 x.machine, u6_ x.entry, .slice x.A x.ss.length x.c, .slice x.B x.ps.length x.d])] (by kernel_rfl) ?_
  clear HF; intro a HF
  refine wp_call HF (by kernel_rfl) 22 #[.agg #[.bool x.wide, .bool x.big, u8_ x.abi, u8_ x.abiv, .int .i64 x.ty, .int .i64 x.machine, u6_ x.entry, .slice x.A x.ss.length x.c, .slice x.B x.ps.length x.d]] (by kernel_rfl) (fun w => by kernel_rfl) (Calls.mono (isImage_any x w (h.below HM.below)) ?_)
  rintro _ w2 ⟨b3, rfl, hb, hok4⟩
  replace HM := HM.call hb
  clear hb
  refine ⟨_, rfl, ?_⟩; clear HF; intro a HF
  replace HF := HF.sub [(3, pt_ z1), (7, pt_ z6), (22, .bool b3)] (by kernel_rfl)
  rcases bool_cases2 b3 with hc5 | hc5
  · replace HF := Fr.sub (Fr.tell HF 22 rfl (congrArg Value.bool hc5)) [(3, pt_ z1), (7, pt_ z6), (22, .bool false)] (by kernel_rfl)
    refine wp_pure HF HM rfl 6 [] [(3, pt_ z1), (7, pt_ z6), (28, .bool true)] (by kernel_rfl) ?_
    clear HF; intro a HF
    refine nil_then ?_
    refine wp_condT HF rfl ?_
    refine wp_seq (wp_region_lit ?_)
    refine wp_pure HF HM rfl 1 [] [(6, .bool true)] (by kernel_rfl) ?_
    clear HF; intro a HF
    refine nil_then ?_
    refine wp_ret ?_
    repeat (first | refine then_ret ?_ | refine inb_ret ?_)
    exact ret_one HF rfl rfl ⟨rfl, HM.below⟩
  replace HF := Fr.sub (Fr.tell HF 22 rfl (congrArg Value.bool hc5)) [(3, pt_ z1), (7, pt_ z6), (22, .bool true)] (by kernel_rfl)
  refine wp_pure HF HM rfl 3 [[1]] [(3, pt_ z1), (7, pt_ z6), (24, .bool false), (25, .agg #[.bool m1, .bool m2, u8_ x.abi, u8_ x.abiv, .int .i64 x.ty, .int .i64 x.machine, u6_ x.entry, .slice x.A x.ss.length x.c, .slice x.B x.ps.length x.d])] (by kernel_rfl) ?_
  clear HF; intro a HF
  refine wp_call HF (by kernel_rfl) 22 #[.agg #[.bool m1, .bool m2, u8_ x.abi, u8_ x.abiv, .int .i64 x.ty, .int .i64 x.machine, u6_ x.entry, .slice x.A x.ss.length x.c, .slice x.B x.ps.length x.d]] (by kernel_rfl) (fun w => by kernel_rfl) (Calls.mono (isImage_any (x.turn m1 m2) w2 ((h.turn m1 m2).below HM.below)) ?_)
  rintro _ w3 ⟨b6, rfl, hb, hok7⟩
  replace HM := HM.call hb
  clear hb
  refine ⟨_, rfl, ?_⟩; clear HF; intro a HF
  replace HF := HF.sub [(3, pt_ z1), (7, pt_ z6), (24, .bool false), (26, .bool b6)] (by kernel_rfl)
  rcases bool_cases2 b6 with hc8 | hc8
  · replace HF := Fr.sub (Fr.tell HF 26 rfl (congrArg Value.bool hc8)) [(3, pt_ z1), (7, pt_ z6), (24, .bool false), (26, .bool false)] (by kernel_rfl)
    refine wp_pure HF HM rfl 2 [] [(3, pt_ z1), (7, pt_ z6), (28, .bool true)] (by kernel_rfl) ?_
    clear HF; intro a HF
    refine nil_then ?_
    refine wp_condT HF rfl ?_
    refine wp_seq (wp_region_lit ?_)
    refine wp_pure HF HM rfl 1 [] [(6, .bool true)] (by kernel_rfl) ?_
    clear HF; intro a HF
    refine nil_then ?_
    refine wp_ret ?_
    repeat (first | refine then_ret ?_ | refine inb_ret ?_)
    exact ret_one HF rfl rfl ⟨rfl, HM.below⟩
  replace HF := Fr.sub (Fr.tell HF 26 rfl (congrArg Value.bool hc8)) [(3, pt_ z1), (7, pt_ z6), (24, .bool false), (26, .bool true)] (by kernel_rfl)
  refine wp_pure HF HM rfl 2 [] [(3, pt_ z1), (7, pt_ z6), (28, .bool false)] (by kernel_rfl) ?_
  clear HF; intro a HF
  refine nil_then ?_
  refine wp_condF HF rfl ?_
  refine wp_skip ?_
  repeat (first | refine then_norm ?_ | refine inb_norm ?_)
  refine wp_seq (wp_region_lit ?_)
  refine wp_pure HF HM rfl 1 [[0]] [(3, pt_ z1), (7, pt_ z6), (30, .agg #[.bool x.wide, .bool x.big, u8_ x.abi, u8_ x.abiv, .int .i64 x.ty, .int .i64 x.machine, u6_ x.entry, .slice x.A x.ss.length x.c, .slice x.B x.ps.length x.d])] (by kernel_rfl) ?_
  clear HF; intro a HF
  refine wp_call HF (by kernel_rfl) 25 #[.agg #[.bool x.wide, .bool x.big, u8_ x.abi, u8_ x.abiv, .int .i64 x.ty, .int .i64 x.machine, u6_ x.entry, .slice x.A x.ss.length x.c, .slice x.B x.ps.length x.d]] (by kernel_rfl) (fun w => by kernel_rfl) (Calls.mono (fileOf_any x w3 (h.below HM.below) (hok4 hc5).1) ?_)
  rintro _ w4 ⟨gf9, capf9, curf9, rfl, hb, hof9⟩
  replace HM : Mm [] w0 w4 [(gf9, .cells curf9 5 (0, 0)), law_classes_B1 z6 m1 m2 x, law_classes_B0 z1 x] := HM.push hb hof9.new hof9.obj
  clear hb
  refine ⟨_, rfl, ?_⟩; clear HF; intro a HF
  replace HF := HF.sub [(3, pt_ z1), (7, pt_ z6), (31, sl_ gf9 x.img.file.length capf9)] (by kernel_rfl)
  have ok := (hok4 hc5).1
  have hk2 := ok.parts
  have iok := ImgM.ok ok h
  refine wp_call HF (by kernel_rfl) 35 #[sl_ gf9 x.img.file.length capf9] (by kernel_rfl) (fun w => by kernel_rfl) (Calls.mono (sections_any x.img.file _ _ _ rfl hof9.nc x.img.wide x.img.big x.img.abi x.img.abiv x.img.ty x.img.machine x.img.entry (hSize x.img.wide) x.img.segs.length x.img.shoff x.img.all.length (sgOf x.img) (scOf x.img) (nbOf x.img) (good_file iok) (by have hq := Img.Ok.length_le iok; omega) w4 (HM.rowOwn (i := 0) rfl hof9.tk)) ?_)
  rintro _ w5 ⟨gx, capx, curx, rfl, hb, hox⟩
  replace HM : Mm [] w0 w5 [(gx, .cells curx 64 (0, 0)), (gf9, .cells curf9 5 (0, 0)), law_classes_B1 z6 m1 m2 x, law_classes_B0 z1 x] := HM.push hb hox.new hox.obj
  clear hb
  rw [all_len] at hox
  rw [secRes_mix _ _ (scOf (x.turn m1 m2).img)] at hox
  refine ⟨_, rfl, ?_⟩; clear HF; intro a HF
  rw [all_len] at HF
  replace HF := HF.sub [(3, pt_ z1), (7, pt_ z6), (32, .tuple #[sl_ gx (x.ps.length + 2) capx, .bool true])] (by kernel_rfl)
  refine wp_pure HF HM rfl 5 [] [(3, pt_ z1), (7, pt_ z6), (8, sl_ gx (x.ps.length + 2) capx), (9, .bool true)] (by kernel_rfl) ?_
  clear HF; intro a HF
  refine nil_then ?_
  refine wp_seq (wp_region_lit ?_)
  refine wp_pure HF HM rfl 1 [[1]] [(3, pt_ z1), (8, sl_ gx (x.ps.length + 2) capx), (9, .bool true), (36, .agg #[.bool m1, .bool m2, u8_ x.abi, u8_ x.abiv, .int .i64 x.ty, .int .i64 x.machine, u6_ x.entry, .slice x.A x.ss.length x.c, .slice x.B x.ps.length x.d])] (by kernel_rfl) ?_
  clear HF; intro a HF
  refine wp_call HF (by kernel_rfl) 25 #[.agg #[.bool m1, .bool m2, u8_ x.abi, u8_ x.abiv, .int .i64 x.ty, .int .i64 x.machine, u6_ x.entry, .slice x.A x.ss.length x.c, .slice x.B x.ps.length x.d]] (by kernel_rfl) (fun w => by kernel_rfl) (Calls.mono (fileOf_any (x.turn m1 m2) w5 ((h.turn m1 m2).below HM.below) (hok7 hc8).1) ?_)
  rintro _ w6 ⟨gf10, capf10, curf10, rfl, hb, hof10⟩
  replace HM : Mm [] w0 w6 [(gf10, .cells curf10 5 (0, 0)), (gx, .cells curx 64 (0, 0)), (gf9, .cells curf9 5 (0, 0)), law_classes_B1 z6 m1 m2 x, law_classes_B0 z1 x] := HM.push hb hof10.new hof10.obj
  clear hb
  refine ⟨_, rfl, ?_⟩; clear HF; intro a HF
  replace HF := HF.sub [(3, pt_ z1), (8, sl_ gx (x.ps.length + 2) capx), (9, .bool true), (37, sl_ gf10 ((x.turn m1 m2).img.file.length) capf10)] (by kernel_rfl)
  have oky := (hok7 hc8).1
  have ioky : (x.turn m1 m2).img.Ok := ImgM.ok oky (h.turn m1 m2)
  refine wp_call HF (by kernel_rfl) 35 #[sl_ gf10 ((x.turn m1 m2).img.file.length) capf10] (by kernel_rfl) (fun w => by kernel_rfl) (Calls.mono (sections_any (x.turn m1 m2).img.file _ _ _ rfl hof10.nc (x.turn m1 m2).img.wide (x.turn m1 m2).img.big (x.turn m1 m2).img.abi (x.turn m1 m2).img.abiv (x.turn m1 m2).img.ty (x.turn m1 m2).img.machine (x.turn m1 m2).img.entry (hSize (x.turn m1 m2).img.wide) (x.turn m1 m2).img.segs.length (x.turn m1 m2).img.shoff (x.turn m1 m2).img.all.length (sgOf (x.turn m1 m2).img) (scOf (x.turn m1 m2).img) (nbOf (x.turn m1 m2).img) (good_file ioky) (by have hq := Img.Ok.length_le ioky; omega) w6 (HM.rowOwn (i := 0) rfl hof10.tk)) ?_)
  rintro _ w7 ⟨gy, capy, cury, rfl, hb, hoy⟩
  replace HM : Mm [] w0 w7 [(gy, .cells cury 64 (0, 0)), (gf10, .cells curf10 5 (0, 0)), (gx, .cells curx 64 (0, 0)), (gf9, .cells curf9 5 (0, 0)), law_classes_B1 z6 m1 m2 x, law_classes_B0 z1 x] := HM.push hb hoy.new hoy.obj
  clear hb
  rw [all_len_turn] at hoy
  rw [secRes_turn] at hoy
  refine ⟨_, rfl, ?_⟩; clear HF; intro a HF
  rw [all_len_turn] at HF
  replace HF := HF.sub [(3, pt_ z1), (8, sl_ gx (x.ps.length + 2) capx), (9, .bool true), (38, .tuple #[sl_ gy (x.ps.length + 2) capy, .bool true])] (by kernel_rfl)
  refine wp_pure HF HM rfl 5 [] [(3, pt_ z1), (8, sl_ gx (x.ps.length + 2) capx), (9, .bool true), (10, sl_ gy (x.ps.length + 2) capy), (11, .bool true)] (by kernel_rfl) ?_
  clear HF; intro a HF
  refine nil_then ?_
  refine wp_seq ?_
  refine wp_seq (wp_region_lit ?_)
  refine wp_pure HF HM rfl 13 [[], [0]] ((law_classes_S2 gx x capx gy capy) ++ [(47, .bool false), (49, i6_ (x.ps.length + 2)), (53, iI_ (IntKind.i64.wrap (((x.ps.length : Nat) : Int) + 2)))]) (by kernel_rfl) ?_
  clear HF; intro a HF
  rw [show IntKind.i64.wrap (((x.ps.length : Nat) : Int) + 2) = (((x.ps.length + 2) : Nat) : Int) from (IntWalk.i64_in _ (by omega)).trans (by omega)] at HF
  refine wp_pure HF HM rfl 3 [] ((law_classes_S2 gx x capx gy capy) ++ [(56, .bool ((((x.ps.length + 2) : Nat) : Int) != (((x.ps.length + 2) : Nat) : Int)))]) (by kernel_rfl) ?_
  clear HF; intro a HF
  rw [show ((((x.ps.length + 2) : Nat) : Int) != (((x.ps.length + 2) : Nat) : Int)) = false from bne_f (fun hq => hq rfl)] at HF
  refine wp_pure HF HM rfl 6 [] ((law_classes_S2 gx x capx gy capy) ++ [(62, .bool ((((x.ps.length + 2) : Nat) : Int) != (((x.ps.length + 2) : Nat) : Int)))]) (by kernel_rfl) ?_
  clear HF; intro a HF
  refine nil_then ?_
  rw [show ((((x.ps.length + 2) : Nat) : Int) != (((x.ps.length + 2) : Nat) : Int)) = false from bne_f (fun hq => hq rfl)] at HF
  refine wp_condF HF rfl ?_
  refine wp_skip ?_
  repeat (first | refine then_norm ?_ | refine inb_norm ?_)
  refine wp_seq ?_
  refine wp_seq (wp_region_lit ?_)
  refine wp_pure HF HM rfl 3 [] ((law_classes_S2 gx x capx gy capy) ++ [(64, i6_ (x.ps.length + 2)), (65, iI_ 0)]) (by kernel_rfl) ?_
  clear HF; intro a HF
  refine nil_then ?_
  refine wp_block ?_
  replace HM := HM.pick [0, 2] [(gy, .cells cury 64 (0, 0)), (gx, .cells curx 64 (0, 0))] rfl (by decide)
  refine loop_ind ((x.ps.length + 2)) (fun i a w => (∃ rg : Nat, ∃ rc : Nat, ∃ rk : Array Value, (rk.toList.take ((x.ps.length + 2) * 11) = (List.range (x.ps.length + 2)).flatMap (secOff (scOf x.img) (nbOf x.img) (mixO (scOf x.img) (scOf (x.turn m1 m2).img) i))) ∧ (rk.size = rc * 11) ∧ ((x.ps.length + 2) ≤ rc) ∧ (rc ≤ maxLen) ∧ Mm [] w0 w [(rg, .cells rk 64 (0, 0)), (gy, .cells cury 64 (0, 0))] ∧ Fr 87 a ((law_classes_S3 rg x rc gy capy) ++ [(64, i6_ (x.ps.length + 2)), (65, i6_ i)]))) ?_ ?_ ?_
  · exact ⟨gx, capx, curx, hox.tk, hox.sz, hox.nc, hox.cm, (HM.pick [1, 0] [(gx, .cells curx 64 (0, 0)), (gy, .cells cury 64 (0, 0))] rfl (by decide)), HF.sub ((law_classes_S2 gx x capx gy capy) ++ [(64, i6_ (x.ps.length + 2)), (65, iI_ 0)]) (by kernel_rfl)⟩
  · intro i a w KX hi hI KR
    obtain ⟨rg, rc, rk, rtk, rsz, rnc, rcm, HM, HF⟩ := hI
    refine wp_seq (wp_region_lit ?_)
    refine wp_pure HF HM rfl 1 [] ((law_classes_S3 rg x rc gy capy) ++ [(64, i6_ (x.ps.length + 2)), (65, i6_ i), (66, .bool (decide (((i : Nat) : Int) < (((x.ps.length + 2) : Nat) : Int))))]) (by kernel_rfl) ?_
    clear HF; intro a HF
    refine nil_then ?_
    refine wp_seq ?_
    rw [show decide (((i : Nat) : Int) < (((x.ps.length + 2) : Nat) : Int)) = true from dec_t (by omega)] at HF
    refine wp_condT HF rfl ?_
    refine wp_skip ?_
    repeat (first | refine then_norm ?_ | refine inb_norm ?_)
    refine wp_seq ?_
    refine wp_block ?_
    refine wp_seq (wp_region_lit ?_)
    refine wp_pure HF HM rfl 2 [] (law_classes_S4 rg x rc gy capy i) (by kernel_rfl) ?_
    clear HF; intro a HF
    refine nil_then ?_
    refine wp_seq (wp_region_lit ?_)
    refine wp_pure HF HM rfl 4 [] ((law_classes_S4 rg x rc gy capy i) ++ [(68, sl_ rg (x.ps.length + 2) rc), (69, i6_ i), (70, sl_ gy (x.ps.length + 2) capy), (71, i6_ i)]) (by kernel_rfl) ?_
    clear HF; intro a HF
    refine wp_run HF (by kernel_rfl) (.pointer (some ⟨gy, 0 + i * 11, none⟩)) (by kernel_rfl) (run_index_at Tryd.underlying60 (by kernel_rfl) rfl i rfl rfl rfl (by omega)) ?_
    clear HF; intro a HF; replace HF := HF.sub ((law_classes_S4 rg x rc gy capy i) ++ [(68, sl_ rg (x.ps.length + 2) rc), (69, i6_ i), (72, .pointer (some ⟨gy, 0 + i * 11, none⟩))]) (by kernel_rfl)
    refine wp_pure HF HM rfl 1 [] ((law_classes_S4 rg x rc gy capy i) ++ [(68, sl_ rg (x.ps.length + 2) rc), (69, i6_ i), (73, .pointer (some ⟨gy, 0 + i * 11 + 4, none⟩))]) (by kernel_rfl) ?_
    clear HF; intro a HF
    refine wp_run HF (by kernel_rfl) (u6_ ((scOf (x.turn m1 m2).img i).off)) (by kernel_rfl) (run_load_row1 rfl rfl (row_fld (row_at_elem (f := secOff (scOf x.img) (nbOf x.img) (offOf (scOf (x.turn m1 m2).img))) (k := 11) (fun _ => rfl) rfl (HM.rowOwn (i := 1) rfl hoy.tk) i (List.getElem?_range (by omega))) 4 rfl) (by kernel_rfl)) ?_
    clear HF; intro a HF; replace HF := HF.sub ((law_classes_S4 rg x rc gy capy i) ++ [(68, sl_ rg (x.ps.length + 2) rc), (69, i6_ i), (74, u6_ ((scOf (x.turn m1 m2).img i).off))]) (by kernel_rfl)
    refine wp_run HF (by kernel_rfl) (.pointer (some ⟨rg, 0 + i * 11, none⟩)) (by kernel_rfl) (run_index_at Tryd.underlying60 (by kernel_rfl) rfl i rfl rfl rfl (by omega)) ?_
    clear HF; intro a HF; replace HF := HF.sub ((law_classes_S4 rg x rc gy capy i) ++ [(74, u6_ ((scOf (x.turn m1 m2).img i).off)), (75, .pointer (some ⟨rg, 0 + i * 11, none⟩))]) (by kernel_rfl)
    refine wp_pure HF HM rfl 1 [] ((law_classes_S4 rg x rc gy capy i) ++ [(74, u6_ ((scOf (x.turn m1 m2).img i).off)), (76, .pointer (some ⟨rg, 0 + i * 11 + 4, none⟩))]) (by kernel_rfl) ?_
    clear HF; intro a HF
    refine wp_store_own HF HM rfl 22 _ _ rfl rfl 0 rg (0 + i * 11 + 4) rk 64 rfl rfl (u6_ ((scOf (x.turn m1 m2).img i).off)) rfl rfl rfl (by rw [rsz]; have hq := rnc; omega) (by kernel_rfl) ?_
    intro a w8 cur11 HM2 hcu HF2; clear HF HM
    have tks11 : cur11.toList.take ((x.ps.length + 2) * 11) = ((List.range (x.ps.length + 2)).flatMap (secOff (scOf x.img) (nbOf x.img) (mixO (scOf x.img) (scOf (x.turn m1 m2).img) i)) : List Value).set (0 + i * 11 + 4) (u6_ ((scOf (x.turn m1 m2).img i).off)) := by rw [hcu, List.take_set, rtk]
    have szs11 : cur11.size = rc * 11 := by rw [← Array.length_toList, hcu, List.length_set, Array.length_toList, rsz]
    have HM : Mm [] w0 w8 [(rg, .cells cur11 64 (0, 0)), (gy, .cells cury 64 (0, 0))] := HM2
    have HF := HF2.sub (law_classes_S4 rg x rc gy capy i) (by kernel_rfl); clear HM2 HF2 hcu
    replace tks11 : cur11.toList.take ((x.ps.length + 2) * 11) = (List.range (x.ps.length + 2)).flatMap (secOff (scOf x.img) (nbOf x.img) (mixO (scOf x.img) (scOf (x.turn m1 m2).img) (i + 1))) := tks11.trans (turn_set x m1 m2 _ i (by omega))
    refine nil_then ?_
    refine reg_quietw (by kernel_rfl) (by kernel_rfl) ?_
    refine quiet_sym HF HM rfl 2 [] ((law_classes_S4 rg x rc gy capy i) ++ [(77, sl_ rg (x.ps.length + 2) rc), (78, i6_ i)]) (by kernel_rfl) ?_
    clear HF; intro a HF
    refine quiet_run HF rfl (.pointer (some ⟨rg, 0 + i * 11, none⟩)) (by kernel_rfl) (fun j => run_index_at Tryd.underlying60 (by kernel_rfl) rfl i rfl rfl rfl (by omega)) ?_
    clear HF; intro a HF; replace HF := HF.sub ((law_classes_S4 rg x rc gy capy i) ++ [(79, .pointer (some ⟨rg, 0 + i * 11, none⟩))]) (by kernel_rfl)
    refine quiet_run HF rfl (.agg #[.string (⟨(nbOf x.img i).toArray⟩), i6_ ((scOf x.img i).ty), i6_ ((scOf x.img i).flags), u6_ ((scOf x.img i).addr), u6_ ((mixO (scOf x.img) (scOf (x.turn m1 m2).img) (i + 1)) i), u6_ ((scOf x.img i).fsz), i6_ ((scOf x.img i).link), i6_ ((scOf x.img i).info), u6_ ((scOf x.img i).align), u6_ ((scOf x.img i).ent), u6_ ((scOf x.img i).fsz)]) (by kernel_rfl) (fun j => run_load_row rfl rfl (row_drewN (row_at_elem (f := secOff (scOf x.img) (nbOf x.img) (mixO (scOf x.img) (scOf (x.turn m1 m2).img) (i + 1))) (k := 11) (fun _ => rfl) rfl (HM.rowOwn (i := 0) rfl tks11) i (List.getElem?_range (by omega))) j) (Nat.zero_lt_succ _) Tryd.underlying64 rfl (by kernel_rfl)) ?_
    clear HF; intro a HF; replace HF := HF.sub [(8, sl_ rg (x.ps.length + 2) rc), (10, sl_ gy (x.ps.length + 2) capy), (12, i6_ i), (64, i6_ (x.ps.length + 2)), (65, i6_ i), (80, .agg #[.string (⟨(nbOf x.img i).toArray⟩), i6_ ((scOf x.img i).ty), i6_ ((scOf x.img i).flags), u6_ ((scOf x.img i).addr), u6_ ((mixO (scOf x.img) (scOf (x.turn m1 m2).img) (i + 1)) i), u6_ ((scOf x.img i).fsz), i6_ ((scOf x.img i).link), i6_ ((scOf x.img i).info), u6_ ((scOf x.img i).align), u6_ ((scOf x.img i).ent), u6_ ((scOf x.img i).fsz)])] (by kernel_rfl)
    rw [mix_at] at HF
    refine quiet_sym HF HM rfl 2 [] ((law_classes_S5 rg x rc gy capy i m1 m2) ++ [(81, sl_ gy (x.ps.length + 2) capy), (82, i6_ i)]) (by kernel_rfl) ?_
    clear HF; intro a HF
    refine quiet_run HF rfl (.pointer (some ⟨gy, 0 + i * 11, none⟩)) (by kernel_rfl) (fun j => run_index_at Tryd.underlying60 (by kernel_rfl) rfl i rfl rfl rfl (by omega)) ?_
    clear HF; intro a HF; replace HF := HF.sub ((law_classes_S5 rg x rc gy capy i m1 m2) ++ [(83, .pointer (some ⟨gy, 0 + i * 11, none⟩))]) (by kernel_rfl)
    refine quiet_run HF rfl (.agg #[.string (⟨(nbOf x.img i).toArray⟩), i6_ ((scOf x.img i).ty), i6_ ((scOf x.img i).flags), u6_ ((scOf x.img i).addr), u6_ ((scOf (x.turn m1 m2).img i).off), u6_ ((scOf x.img i).fsz), i6_ ((scOf x.img i).link), i6_ ((scOf x.img i).info), u6_ ((scOf x.img i).align), u6_ ((scOf x.img i).ent), u6_ ((scOf x.img i).fsz)]) (by kernel_rfl) (fun j => run_load_row rfl rfl (row_drewN (row_at_elem (f := secOff (scOf x.img) (nbOf x.img) (offOf (scOf (x.turn m1 m2).img))) (k := 11) (fun _ => rfl) rfl (HM.rowOwn (i := 1) rfl hoy.tk) i (List.getElem?_range (by omega))) j) (Nat.zero_lt_succ _) Tryd.underlying64 rfl (by kernel_rfl)) ?_
    clear HF; intro a HF; replace HF := HF.sub ((law_classes_S5 rg x rc gy capy i m1 m2) ++ [(84, .agg #[.string (⟨(nbOf x.img i).toArray⟩), i6_ ((scOf x.img i).ty), i6_ ((scOf x.img i).flags), u6_ ((scOf x.img i).addr), u6_ ((scOf (x.turn m1 m2).img i).off), u6_ ((scOf x.img i).fsz), i6_ ((scOf x.img i).link), i6_ ((scOf x.img i).info), u6_ ((scOf x.img i).align), u6_ ((scOf x.img i).ent), u6_ ((scOf x.img i).fsz)])]) (by kernel_rfl)
    refine quiet_run HF rfl (.bool false) (by kernel_rfl) (fun j => run_binop_eql2 rfl rfl rfl (neqGuard2_sect _ _ _ _ _) (neq2_sect _ _ _ _ _ _ _ _ _ _ _ _)) ?_
    clear HF; intro a HF; replace HF := HF.sub ((law_classes_S3 rg x rc gy capy) ++ [(64, i6_ (x.ps.length + 2)), (65, i6_ i), (85, .bool false)]) (by kernel_rfl)
    refine quiet_end ?_
    rintro w9 ⟨nq, hq⟩
    replace HM : Mm [] w0 w9 [(rg, .cells cur11 64 (0, 0)), (gy, .cells cury 64 (0, 0))] := by rw [hq]; exact HM.drewN nq
    clear hq nq
    refine wp_condF HF rfl ?_
    refine wp_skip ?_
    repeat (first | refine then_norm ?_ | refine inb_norm ?_)
    refine wp_region_lit ?_
    refine wp_pure HF HM rfl 1 [] ((law_classes_S3 rg x rc gy capy) ++ [(64, i6_ (x.ps.length + 2)), (86, iI_ (IntKind.i64.wrap (((i : Nat) : Int) + 1)))]) (by kernel_rfl) ?_
    clear HF; intro a HF
    rw [show IntKind.i64.wrap (((i : Nat) : Int) + 1) = (((i + 1) : Nat) : Int) from (IntWalk.i64_in _ (by omega)).trans (by omega)] at HF
    refine wp_pure HF HM rfl 1 [] ((law_classes_S3 rg x rc gy capy) ++ [(64, i6_ (x.ps.length + 2)), (65, i6_ (i + 1))]) (by kernel_rfl) ?_
    clear HF; intro a HF
    refine wpList_nil ?_
    repeat (first | refine then_norm ?_ | refine inb_norm ?_)
    exact KR _ _ (⟨rg, rc, cur11, tks11, szs11, rnc, rcm, HM, HF.sub ((law_classes_S3 rg x rc gy capy) ++ [(64, i6_ (x.ps.length + 2)), (65, i6_ (i + 1))]) (by kernel_rfl)⟩)
  · intro a w KX hI
    obtain ⟨rg, rc, rk, rtk, rsz, rnc, rcm, HM, HF⟩ := hI
    refine wp_seq (wp_region_lit ?_)
    refine wp_pure HF HM rfl 1 [] ((law_classes_S3 rg x rc gy capy) ++ [(64, i6_ (x.ps.length + 2)), (65, i6_ (x.ps.length + 2)), (66, .bool (decide ((((x.ps.length + 2) : Nat) : Int) < (((x.ps.length + 2) : Nat) : Int))))]) (by kernel_rfl) ?_
    clear HF; intro a HF
    refine nil_then ?_
    refine wp_seq ?_
    rw [show decide ((((x.ps.length + 2) : Nat) : Int) < (((x.ps.length + 2) : Nat) : Int)) = false from dec_f (by omega)] at HF
    refine wp_condF HF rfl ?_
    refine wp_exit ?_
    repeat (first | refine then_exit ?_ | refine inb_exit_other rfl ?_)
    refine inb_exit ?_
    repeat (first | refine then_norm ?_ | refine inb_norm ?_)
    refine wp_seq (wp_region_lit ?_)
    refine wp_pure HF HM rfl 1 [] [(6, .bool true)] (by kernel_rfl) ?_
    clear HF; intro a HF
    refine nil_then ?_
    refine wp_ret ?_
    repeat (first | refine then_ret ?_ | refine inb_ret ?_)
    exact ret_one HF rfl rfl ⟨rfl, HM.below⟩

end Go.Proofs.YtdgehpocmfjbiaaDoor
namespace Go.Proofs.YtdgehpocmfjbiaaDoor.fnClasses
open Go Go.ChangeShapes Go.WideShapes Go.ChangeAt Go.RowKit Go.Deep

theorem own : ownKnob Tryd.prog.godebug = none := by kernel_rfl
theorem laidOut : laidOutB Tryd.prog = true := by kernel_rfl
theorem door_met (os : Os) (args : Array Value) : laidMetH Tryd.prog Rows.fnClassesRow.laid ((World.doorLaid Tryd.prog 123 os).forCall (fun _ _ => 0) ⟨#[], args, []⟩).memory :=
  laidMetH_of_parts3 (fuel := 8) (laidMet_of_run' 8 (by kernel_rfl) (by kernel_rfl)) (by kernel_rfl) (by kernel_rfl)

set_option maxRecDepth 100000 in
theorem lifted (os : Os) (started : os.Started) (H : Type) (enc : TypeId × Value → H) :
    ReturnsInHanded {} Tryd.checked os 11 .any (fun w args => (Rows.fnClassesSpec.pre enc Tryd.prog Tryd.f11 [] false w args ∧ laidMetH Tryd.prog Rows.fnClassesRow.laid w) ∧ sizedMet enc Tryd.prog Tryd.f11 (OpenSpec.ofChange Rows.fnClassesSpec) false w args)
      (Rows.fnClassesSpec.post enc Tryd.prog Tryd.f11 false true false false) := by
  refine returnsInHanded_of_change_and (C := Tryd.checked) (X := fun w _ => laidMetH Tryd.prog Rows.fnClassesRow.laid w) (fun _ _ _ hh h => h.of_heap hh) own started (by kernel_rfl) Tryd.func11
    (ChangeSpec.witness_shaped (enc := enc) (C := Tryd.checked) (os := os) (X := fun w _ => laidMetH Tryd.prog Rows.fnClassesRow.laid w) false (World.doorLaid Tryd.prog 123 os) #[.agg #[.bool false, .bool false, .int .u8 0, .int .u8 0, .int .i64 0, .int .i64 0, .int .u64 0, .slice none 0 0, .slice none 0 0], .bool false, .bool false] 8 rfl (World.shaped_of_RefB (by kernel_rfl) (by kernel_rfl)) (by kernel_rfl) (by kernel_rfl) (by kernel_rfl) (door_met os _)) ?_
  intro W base args ds gs before hval0 hW _ _ hL _
  have hval : ∀ (j : Nat) t v, Tryd.f11.params[j]? = some t → args[j]? = some v → Value.okWide Tryd.prog W .any base t v := hval0
  have hW' := hW
  obtain ⟨p, q, hA0, hV, rfl, hfz, hnd⟩ := hW
  have hA : DataW.TrodAll enc Tryd.prog W 0 (fun _ => true) true Tryd.f11.params.toList args.toList ds p := hA0
  rw [Tryd.params11] at hA hval
  obtain ⟨v0, vs0, d0, ds0, p0, q0, hargs, rfl, rfl, h0, r0⟩ := trodAll_cons hA
  obtain ⟨v1, vs1, d1, ds1, p1, q1, rfl, rfl, rfl, h1, r1⟩ := trodAll_cons r0
  obtain ⟨v2, vs2, d2, ds2, p2, q2, rfl, rfl, rfl, h2, r2⟩ := trodAll_cons r1
  obtain ⟨rfl, rfl, rfl⟩ := trodAll_nil r2
  obtain rfl : args = #[v0, v1, v2] := by cases args; simp_all
  obtain ⟨rfl, rfl⟩ := trodVars_none hV
  have k0 := h0
  have lt0 : ∀ x ∈ p0, x.block < W.heap.size := by obtain ⟨m, hm⟩ := k0; exact DataW.trod_lt m _ _ _ hm
  have k1 := h1
  have lt1 : ∀ x ∈ p1, x.block < W.heap.size := by obtain ⟨m, hm⟩ := k1; exact DataW.trod_lt m _ _ _ hm
  have k2 := h2
  have lt2 : ∀ x ∈ p2, x.block < W.heap.size := by obtain ⟨m, hm⟩ := k2; exact DataW.trod_lt m _ _ _ hm
  obtain ⟨x0, rfl, hx0⟩ := open_img (hval 0 26 v0 rfl rfl) h0
  obtain ⟨b1, rfl, -, -⟩ := open_bool Tryd.underlying4 (hval 1 4 v1 rfl rfl) h1
  obtain ⟨b2, rfl, -, -⟩ := open_bool Tryd.underlying4 (hval 2 4 v2 rfl rfl) h2
  clear hA0 hval0
  refine (law_classes x0 b1 b2 W hx0).mono fun e W' ⟨he, bel⟩ => ?_
  subst he
  exact ⟨_, rfl, _, _, _, [], _, [], hW', trodAll_mk1 (shut_bool Tryd.underlying4 _), (trodAll_cons_mk (Below.trod laidOut (by kernel_rfl) (of_decide_eq_true (by kernel_rfl)) k0 bel lt0) (trodAll_cons_mk (Below.trod laidOut (by kernel_rfl) (of_decide_eq_true (by kernel_rfl)) k1 bel lt1) (trodAll_cons_mk (Below.trod laidOut (by kernel_rfl) (of_decide_eq_true (by kernel_rfl)) k2 bel lt2) trodAll_mk0))), rfl, bel.frame _, fun h => by cases h⟩

set_option maxRecDepth 100000 in
theorem over_j : joinedFacts Tryd.pinned.checked.prog 11 Tryd.f11 Rows.fnClassesSpec Rows.fnClassesRow = true := (and_t (and_t (and_t (and_t (and_t (and_t (and_t (and_t (and_t (and_t (and_t (and_t (and_t (and_t (and_t (and_t (and_t (and_t (and_t (and_t (and_t (and_t (and_t (and_t (and_t (and_t (and_t (and_t (and_t (and_t (and_t l0 l1) l2) l3) l4) l5) l6) l7) l8) l9) l10) l11) l12) l13) l14) l15) l16) l17) l18) l19) l20) l21) l22) l23) l24) l25) l26) l27) l28) l29) l30) l31)

theorem over : Rows.FnClassesSaid :=
  OpenClaim.holds_of_wide 11 Tryd.f11 rfl rfl rfl rfl rfl rfl rfl ⟨rfl, rfl, rfl, rfl, rfl⟩ rfl rfl rfl rfl rfl c5 Tryd.func11 over_j
    (of_decide_eq_true (by kernel_rfl)) (by unfold Func.isWrapper; first | (rw [if_pos (by decide +kernel)]; kernel_rfl) | (rw [if_neg (by decide +kernel)]; exact ⟨rfl, rfl⟩))
    (fun os started H enc _ => lifted os started H enc)

theorem proved : Rows.FnClassesCardSaid :=
  Claim7.holds_tied_plain_at .later [] [.sentinel, .sentinel, .sentinel, .sentinel, .sentinel] true (true, "ed888367449acd6afd80057b2906ce1b79ec16b7beef13a0a9ac5f630eedede4") true
    over (fun _ h => by cases h) c1 (fun _ h => by cases h) fnClasses_row_tie rfl ⟨rfl, rfl⟩ qc4 rfl
    (fun f fn hf hfn => by
      obtain rfl : f = 11 := Option.some.inj (c5.symm.trans hf) |>.symm
      obtain rfl : fn = Tryd.f11 := (Option.some.inj (Tryd.func11.symm.trans hfn)).symm
      exact ⟨qc2, fun j t ht => by
        rw [Tryd.params11] at ht
        have hm : t ∈ [26, 4, 4] := by simpa using Array.mem_of_getElem? ht
        have hall : ([26, 4, 4].all fun u => !Tryd.prog.wantsStandIn u) = true := by kernel_rfl
        exact (show Tryd.prog.wantsStandIn t = false by simpa using List.all_eq_true.1 hall t hm)⟩)
    c3
#print axioms proved
end Go.Proofs.YtdgehpocmfjbiaaDoor.fnClasses
