/- elf.NewFile: one round of the loop over the program headers. · elf.NewFile: the loop over the program headers. · elf.NewFile: the table of sections is -/
import Derived.Test.YtdgehpocmfjbiaaDoorTc
import Derived.Test.YtdgehpocmfjbiaaDoorTb
import Derived.Deep.AppendSrc
set_option linter.unusedVariables false
set_option linter.unusedSimpArgs false
set_option maxRecDepth 100000
set_option maxHeartbeats 2000000
namespace Go.Proofs.YtdgehpocmfjbiaaDoor
open Go.RowKit

/-- the body of the loop that begins a piece of a spine -/
def oG : Code → Code
 | .seq (.seq _ (.block _ (.loop c))) _ => c
 | c => c
theorem eG {P : Program} {t e : TypeId} {info : TypeInfo} (ht : P.underlying t = some (.slice e)) (hi : P.info? e = some info) (hs : info.size = 1) {ρ : Operand → Value} {o : Oper} {x lo : Operand} (ho : o.op = .slice t x (some lo) none none)
  {b n c : Nat} (k : Nat) {kk : IntKind} (hx : ρ x = aH b n c) (hl : ρ lo = .int kk (k : Int)) (h1 : k ≤ n) (h2 : n ≤ c) (h3 : k < c) (w : World) :
  (execOp ρ o).run P w = .ok (.value (.slice (some ⟨b, k, none⟩) (n - k) (c - k))) w := by
 have := CX ht hi hs ho k hx hl h1 h2 h3 w
 rwa [Nat.zero_add] at this
structure lD where
 ty : Nat
 flags : Nat
 off : Nat
 bI : Nat
 bJ : Nat
 bH : Nat
 bM : Nat
 align : Nat

abbrev nU := fun (b : Nat) (o : Nat) (n : Nat) (c : Nat) (s : Nat) (fb : Nat) (big : Bool) (ak : Nat) (aj : Nat) (au : Nat) (ah : Nat) (pd : Nat) => ([(0, .iface 178 (.slice (some ⟨b, o, none⟩) n c)), (4, aC s), (8, aC fb), (9, (aP big)), (10, aA ak), (11, ay 32), (12, aA aj), (13, aA au), (14, ay 40), (15, aA ah), (16, aA (ah - 1)), (26, ay 40), (36, aH pd (aj * 32) (aj * 32))] : Slots)
abbrev xJ := fun (fb : Nat) (dat : Int) (abi : Nat) (aF : Nat) (big : Bool) (aS : Nat) (aG : Nat) (aB : Nat) (pg : Nat) (i : Nat) (aj : Nat) => ((fb, .cells #[aK 1, .int .u8 dat, aK 1, aV abi, aV aF, (aP big), bf aS, bf aG, aJ aB, aN, aH pg (i + 1) aj, aN, aN, aN] 131 (0, 0)) : Nat × Obj)
abbrev oK := fun sb (b : Nat) (o : Nat) (n : Nat) (c : Nat) (v : lD) => ((sb, .cells #[.iface 178 (.slice (some ⟨b, o, none⟩) n c), aA v.off, aA v.off, ay (((v.bH : Nat) : Int) + ((v.off : Nat) : Int)), aA v.bH] 246 (0, 0)) : Nat × Obj)
abbrev gW := fun (fb : Nat) (dat : Int) (abi : Nat) (aF : Nat) (big : Bool) (aS : Nat) (aG : Nat) (aB : Nat) (pg : Nat) (i : Nat) (aj : Nat) => ((fb, .cells #[aK 1, .int .u8 dat, aK 1, aV abi, aV aF, (aP big), bf aS, bf aG, aJ aB, aN, aH pg i aj, aN, aN, aN] 131 (0, 0)) : Nat × Obj)
abbrev mW := fun z5 => ((z5, .cells #[ay 0, lJ 0, bG 0, bG 0, bG 0, bG 0, bG 0, bG 0, .nilIface, .pointer none] 146 (0, 0)) : Nat × Obj)
abbrev fB := fun (b : Nat) (o : Nat) (n : Nat) (c : Nat) (s : Nat) (fb : Nat) (big : Bool) (ak : Nat) (aj : Nat) (au : Nat) (ah : Nat) (pd : Nat) (i : Nat) z5 => ((nU b o n c s fb big ak aj au ah pd) ++ [(38, aA i), (39, aJ (i * 32)), (40, aC z5)] : Slots)
abbrev J_ := fun (pd : Nat) (i : Nat) (aj : Nat) => ((614, .slice (some ⟨pd, ((i * 32) + 0), none⟩) ((aj * 32) - ((i * 32) + 0)) ((aj * 32) - ((i * 32) + 0))) : Nat × Value)
abbrev xI := fun (b : Nat) (o : Nat) (n : Nat) (c : Nat) (s : Nat) (fb : Nat) (big : Bool) (ak : Nat) (aj : Nat) (au : Nat) (ah : Nat) (pd : Nat) (i : Nat) z5 => ((fB b o n c s fb big ak aj au ah pd i z5) ++ [(609, aC z5), (610, (aP big)), (614, .slice (some ⟨pd, ((i * 32) + 0), none⟩) ((aj * 32) - ((i * 32) + 0)) ((aj * 32) - ((i * 32) + 0)))] : Slots)
abbrev J9 := fun (pd : Nat) (i : Nat) (aj : Nat) => ((621, .slice (some ⟨pd, ((i * 32) + 24), none⟩) ((aj * 32) - ((i * 32) + 24)) ((aj * 32) - ((i * 32) + 24))) : Nat × Value)
abbrev xH := fun (b : Nat) (o : Nat) (n : Nat) (c : Nat) (s : Nat) (fb : Nat) (big : Bool) (ak : Nat) (aj : Nat) (au : Nat) (ah : Nat) (pd : Nat) (i : Nat) z5 => ((xI b o n c s fb big ak aj au ah pd i z5) ++ [(617, (aP big)), (621, .slice (some ⟨pd, ((i * 32) + 24), none⟩) ((aj * 32) - ((i * 32) + 24)) ((aj * 32) - ((i * 32) + 24)))] : Slots)
abbrev zH := fun (pd : Nat) (i : Nat) (aj : Nat) => ((627, .slice (some ⟨pd, ((i * 32) + 4), none⟩) ((aj * 32) - ((i * 32) + 4)) ((aj * 32) - ((i * 32) + 4))) : Nat × Value)
abbrev vV := fun (b : Nat) (o : Nat) (n : Nat) (c : Nat) (s : Nat) (fb : Nat) (big : Bool) (ak : Nat) (aj : Nat) (au : Nat) (ah : Nat) (pd : Nat) (i : Nat) z5 => ((xH b o n c s fb big ak aj au ah pd i z5) ++ [(623, (aP big)), (627, .slice (some ⟨pd, ((i * 32) + 4), none⟩) ((aj * 32) - ((i * 32) + 4)) ((aj * 32) - ((i * 32) + 4)))] : Slots)
abbrev zG := fun (pd : Nat) (i : Nat) (aj : Nat) => ((634, .slice (some ⟨pd, ((i * 32) + 8), none⟩) ((aj * 32) - ((i * 32) + 8)) ((aj * 32) - ((i * 32) + 8))) : Nat × Value)
abbrev vU := fun (b : Nat) (o : Nat) (n : Nat) (c : Nat) (s : Nat) (fb : Nat) (big : Bool) (ak : Nat) (aj : Nat) (au : Nat) (ah : Nat) (pd : Nat) (i : Nat) z5 => ((vV b o n c s fb big ak aj au ah pd i z5) ++ [(630, (aP big)), (634, .slice (some ⟨pd, ((i * 32) + 8), none⟩) ((aj * 32) - ((i * 32) + 8)) ((aj * 32) - ((i * 32) + 8)))] : Slots)
abbrev zF := fun (pd : Nat) (i : Nat) (aj : Nat) => ((641, .slice (some ⟨pd, ((i * 32) + 12), none⟩) ((aj * 32) - ((i * 32) + 12)) ((aj * 32) - ((i * 32) + 12))) : Nat × Value)
abbrev vT := fun (b : Nat) (o : Nat) (n : Nat) (c : Nat) (s : Nat) (fb : Nat) (big : Bool) (ak : Nat) (aj : Nat) (au : Nat) (ah : Nat) (pd : Nat) (i : Nat) z5 => ((vU b o n c s fb big ak aj au ah pd i z5) ++ [(637, (aP big)), (641, .slice (some ⟨pd, ((i * 32) + 12), none⟩) ((aj * 32) - ((i * 32) + 12)) ((aj * 32) - ((i * 32) + 12)))] : Slots)
abbrev zD := fun (pd : Nat) (i : Nat) (aj : Nat) => ((648, .slice (some ⟨pd, ((i * 32) + 16), none⟩) ((aj * 32) - ((i * 32) + 16)) ((aj * 32) - ((i * 32) + 16))) : Nat × Value)
abbrev vS := fun (b : Nat) (o : Nat) (n : Nat) (c : Nat) (s : Nat) (fb : Nat) (big : Bool) (ak : Nat) (aj : Nat) (au : Nat) (ah : Nat) (pd : Nat) (i : Nat) z5 => ((vT b o n c s fb big ak aj au ah pd i z5) ++ [(644, (aP big)), (648, .slice (some ⟨pd, ((i * 32) + 16), none⟩) ((aj * 32) - ((i * 32) + 16)) ((aj * 32) - ((i * 32) + 16)))] : Slots)
abbrev zC := fun (pd : Nat) (i : Nat) (aj : Nat) => ((655, .slice (some ⟨pd, ((i * 32) + 20), none⟩) ((aj * 32) - ((i * 32) + 20)) ((aj * 32) - ((i * 32) + 20))) : Nat × Value)
abbrev sZ := fun (b : Nat) (o : Nat) (n : Nat) (c : Nat) (s : Nat) (fb : Nat) (big : Bool) (ak : Nat) (aj : Nat) (au : Nat) (ah : Nat) (pd : Nat) (i : Nat) z5 => ((vS b o n c s fb big ak aj au ah pd i z5) ++ [(651, (aP big)), (655, .slice (some ⟨pd, ((i * 32) + 20), none⟩) ((aj * 32) - ((i * 32) + 20)) ((aj * 32) - ((i * 32) + 20)))] : Slots)
abbrev tq := fun (pd : Nat) (i : Nat) (aj : Nat) => ((662, .slice (some ⟨pd, ((i * 32) + 28), none⟩) ((aj * 32) - ((i * 32) + 28)) ((aj * 32) - ((i * 32) + 28))) : Nat × Value)
abbrev zB := fun (b : Nat) (o : Nat) (n : Nat) (c : Nat) (s : Nat) (fb : Nat) (big : Bool) (ak : Nat) (aj : Nat) (au : Nat) (ah : Nat) (pd : Nat) (i : Nat) z5 => ((fB b o n c s fb big ak aj au ah pd i z5) ++ [(609, aC z5), (617, (aP big)), (621, .slice (some ⟨pd, ((i * 32) + 24), none⟩) ((aj * 32) - ((i * 32) + 24)) ((aj * 32) - ((i * 32) + 24))), (623, (aP big)), (627, .slice (some ⟨pd, ((i * 32) + 4), none⟩) ((aj * 32) - ((i * 32) + 4)) ((aj * 32) - ((i * 32) + 4))), (630, (aP big)), (634, .slice (some ⟨pd, ((i * 32) + 8), none⟩) ((aj * 32) - ((i * 32) + 8)) ((aj * 32) - ((i * 32) + 8))), (637, (aP big)), (641, .slice (some ⟨pd, ((i * 32) + 12), none⟩) ((aj * 32) - ((i * 32) + 12)) ((aj * 32) - ((i * 32) + 12))), (644, (aP big)), (648, .slice (some ⟨pd, ((i * 32) + 16), none⟩) ((aj * 32) - ((i * 32) + 16)) ((aj * 32) - ((i * 32) + 16))), (651, (aP big)), (655, .slice (some ⟨pd, ((i * 32) + 20), none⟩) ((aj * 32) - ((i * 32) + 20)) ((aj * 32) - ((i * 32) + 20))), (658, (aP big)), (662, .slice (some ⟨pd, ((i * 32) + 28), none⟩) ((aj * 32) - ((i * 32) + 28)) ((aj * 32) - ((i * 32) + 28)))] : Slots)
abbrev zA := fun (b : Nat) (o : Nat) (n : Nat) (c : Nat) (s : Nat) (fb : Nat) (big : Bool) (ak : Nat) (aj : Nat) (au : Nat) (ah : Nat) (pd : Nat) (i : Nat) z5 (v : lD) => ((fB b o n c s fb big ak aj au ah pd i z5) ++ [(609, aC z5), (630, (aP big)), (634, .slice (some ⟨pd, ((i * 32) + 8), none⟩) ((aj * 32) - ((i * 32) + 8)) ((aj * 32) - ((i * 32) + 8))), (637, (aP big)), (641, .slice (some ⟨pd, ((i * 32) + 12), none⟩) ((aj * 32) - ((i * 32) + 12)) ((aj * 32) - ((i * 32) + 12))), (644, (aP big)), (648, .slice (some ⟨pd, ((i * 32) + 16), none⟩) ((aj * 32) - ((i * 32) + 16)) ((aj * 32) - ((i * 32) + 16))), (651, (aP big)), (655, .slice (some ⟨pd, ((i * 32) + 20), none⟩) ((aj * 32) - ((i * 32) + 20)) ((aj * 32) - ((i * 32) + 20))), (658, (aP big)), (662, .slice (some ⟨pd, ((i * 32) + 28), none⟩) ((aj * 32) - ((i * 32) + 28)) ((aj * 32) - ((i * 32) + 28))), (616, aA v.ty), (622, aX v.flags)] : Slots)
abbrev zy := fun (b : Nat) (o : Nat) (n : Nat) (c : Nat) (s : Nat) (fb : Nat) (big : Bool) (ak : Nat) (aj : Nat) (au : Nat) (ah : Nat) (pd : Nat) (i : Nat) z5 (v : lD) => ((fB b o n c s fb big ak aj au ah pd i z5) ++ [(609, aC z5), (637, (aP big)), (641, .slice (some ⟨pd, ((i * 32) + 12), none⟩) ((aj * 32) - ((i * 32) + 12)) ((aj * 32) - ((i * 32) + 12))), (644, (aP big)), (648, .slice (some ⟨pd, ((i * 32) + 16), none⟩) ((aj * 32) - ((i * 32) + 16)) ((aj * 32) - ((i * 32) + 16))), (651, (aP big)), (655, .slice (some ⟨pd, ((i * 32) + 20), none⟩) ((aj * 32) - ((i * 32) + 20)) ((aj * 32) - ((i * 32) + 20))), (658, (aP big)), (662, .slice (some ⟨pd, ((i * 32) + 28), none⟩) ((aj * 32) - ((i * 32) + 28)) ((aj * 32) - ((i * 32) + 28))), (616, aA v.ty), (622, aX v.flags), (629, aJ v.off)] : Slots)
abbrev zx := fun (b : Nat) (o : Nat) (n : Nat) (c : Nat) (s : Nat) (fb : Nat) (big : Bool) (ak : Nat) (aj : Nat) (au : Nat) (ah : Nat) (pd : Nat) (i : Nat) z5 (v : lD) => ((fB b o n c s fb big ak aj au ah pd i z5) ++ [(609, aC z5), (644, (aP big)), (648, .slice (some ⟨pd, ((i * 32) + 16), none⟩) ((aj * 32) - ((i * 32) + 16)) ((aj * 32) - ((i * 32) + 16))), (651, (aP big)), (655, .slice (some ⟨pd, ((i * 32) + 20), none⟩) ((aj * 32) - ((i * 32) + 20)) ((aj * 32) - ((i * 32) + 20))), (658, (aP big)), (662, .slice (some ⟨pd, ((i * 32) + 28), none⟩) ((aj * 32) - ((i * 32) + 28)) ((aj * 32) - ((i * 32) + 28))), (616, aA v.ty), (622, aX v.flags), (629, aJ v.off), (636, aJ v.bI)] : Slots)
abbrev zu := fun (b : Nat) (o : Nat) (n : Nat) (c : Nat) (s : Nat) (fb : Nat) (big : Bool) (ak : Nat) (aj : Nat) (au : Nat) (ah : Nat) (pd : Nat) (i : Nat) z5 (v : lD) => ((fB b o n c s fb big ak aj au ah pd i z5) ++ [(609, aC z5), (651, (aP big)), (655, .slice (some ⟨pd, ((i * 32) + 20), none⟩) ((aj * 32) - ((i * 32) + 20)) ((aj * 32) - ((i * 32) + 20))), (658, (aP big)), (662, .slice (some ⟨pd, ((i * 32) + 28), none⟩) ((aj * 32) - ((i * 32) + 28)) ((aj * 32) - ((i * 32) + 28))), (616, aA v.ty), (622, aX v.flags), (629, aJ v.off), (636, aJ v.bI), (643, aJ v.bJ)] : Slots)
abbrev zq := fun (b : Nat) (o : Nat) (n : Nat) (c : Nat) (s : Nat) (fb : Nat) (big : Bool) (ak : Nat) (aj : Nat) (au : Nat) (ah : Nat) (pd : Nat) (i : Nat) z5 (v : lD) => ((fB b o n c s fb big ak aj au ah pd i z5) ++ [(609, aC z5), (658, (aP big)), (662, .slice (some ⟨pd, ((i * 32) + 28), none⟩) ((aj * 32) - ((i * 32) + 28)) ((aj * 32) - ((i * 32) + 28))), (616, aA v.ty), (622, aX v.flags), (629, aJ v.off), (636, aJ v.bI), (643, aJ v.bJ), (650, aJ v.bH)] : Slots)
abbrev qW := fun z5 (v : lD) => ((z5, .cells #[aA v.ty, aX v.flags, aJ v.off, aJ v.bI, aJ v.bJ, aJ v.bH, aJ v.bM, aJ v.align, .nilIface, .pointer none] 146 (0, 0)) : Nat × Obj)
abbrev pR := fun (b : Nat) (o : Nat) (n : Nat) (c : Nat) (s : Nat) (fb : Nat) (big : Bool) (ak : Nat) (aj : Nat) (au : Nat) (ah : Nat) (pd : Nat) (i : Nat) z5 => ((fB b o n c s fb big ak aj au ah pd i z5) ++ [(763, aC z5), (764, .iface 178 (.slice (some ⟨b, o, none⟩) n c))] : Slots)
abbrev qV := fun z5 (v : lD) sb => ((z5, .cells #[aA v.ty, aX v.flags, aJ v.off, aJ v.bI, aJ v.bJ, aJ v.bH, aJ v.bM, aJ v.align, .iface 144 (aC sb), aC sb] 146 (0, 0)) : Nat × Obj)
theorem NK (l : List UInt8) (b o n c : Nat) (hl : n = l.length) (hnc : n ≤ c) (big : Bool) (abi aF aS aG aB ak aj au ah : Nat) (dat : Int) (b1 : aS < 65536) (b2 : aG < 65536) (b3 : aB ≤ 18446744073709551615) (b4 : ak < 4611686018427387904) (b5 : au < 4611686018427387904) (b6 : aj < 200) (b7 : ah < 200) (X : List UInt8) (nI : X.length = (aj * 32)) (i : Nat) (hi : i < aj) (v : lD) (hv : um (X.drop (i * 32)) false big v.ty v.flags v.bI v.bJ v.bM v.align v.bH v.off)
  (v1 : v.ty < 4294967296) (v2 : v.off + v.bH < 4611686018427387904) (v3 : v.bI ≤ 18446744073709551615) (v4 : v.bJ ≤ 18446744073709551615) (v5 : v.bM ≤ 18446744073709551615) (v6 : v.align ≤ 18446744073709551615) {K0 : Act → World → Prop} {Q : Exit → Act → World → Prop} (a : Act) (W1 : World) (s fb pg pd : Nat) (cur : Array Value) (hcs : cur.size = aj)
  (h1 : W1.heap[fb]? = some (.cells #[aK 1, .int .u8 dat, aK 1, aV abi, aV aF, (aP big), bf aS, bf aG, aJ aB, aN, aH pg i aj, aN, aN, aN] 131 (0, 0))) (h2 : W1.heap[pg]? = some (.cells cur 136 (0, 0))) (h3 : W1.heap[pd]? = some (.cells (X.map Bv).toArray 5 (0, 0))) (n1 : fb ≠ pg) (n2 : fb ≠ pd) (n3 : pg ≠ pd) (HF : Fr 1287 a ((nU b o n c s fb big ak aj au ah pd) ++ [(38, aA i)]))
  (K : ∀ a w' pb sb cur', cur'.size = aj → cur'.toList.take (i + 1) = cur.toList.take i ++ [aC pb] → Fr 1287 a ((nU b o n c s fb big ak aj au ah pd) ++ [(38, aA (i + 1))]) → Mm [fb, pg, pd] W1 w' [oK sb b o n c v, (pb, .cells #[aA v.ty, aX v.flags, aJ v.off, aJ v.bI, aJ v.bJ, aJ v.bH, aJ v.bM, aJ v.align, .iface 144 (aC sb), aC sb] 146 (0, 0)), xJ fb dat abi aF big aS aG aB pg i aj, (pg, .cells cur' 136 (0, 0)), (pd, .cells (X.map Bv).toArray 5 (0, 0))] → K0 a w') : (oG (spine Tryd.f78 35)).wp Tryd.prog (Exit.then K0 Q) a W1 := by
 obtain ⟨i0, hi0, hs0⟩ := uq
 have e0 : num big X ((i * 32) + 0) 4 = v.ty := (fJ big X (i * 32) 0 4).symm.trans hv.ty
 have e1 : num big X ((i * 32) + 24) 4 = v.flags := (fJ big X (i * 32) 24 4).symm.trans hv.flags
 have e2 : num big X ((i * 32) + 4) 4 = v.off := (fJ big X (i * 32) 4 4).symm.trans hv.off
 have e3 : num big X ((i * 32) + 8) 4 = v.bI := (fJ big X (i * 32) 8 4).symm.trans hv.bI
 have e4 : num big X ((i * 32) + 12) 4 = v.bJ := (fJ big X (i * 32) 12 4).symm.trans hv.bJ
 have e5 : num big X ((i * 32) + 16) 4 = v.bH := (fJ big X (i * 32) 16 4).symm.trans hv.KI
 have e6 : num big X ((i * 32) + 20) 4 = v.bM := (fJ big X (i * 32) 20 4).symm.trans hv.bM
 have e7 : num big X ((i * 32) + 28) 4 = v.align := (fJ big X (i * 32) 28 4).symm.trans hv.align
 obtain ⟨w, hw⟩ : ∃ w, W1 = w := ⟨_, rfl⟩
 have HM : Mm [fb, pg, pd] W1 w [gW fb dat abi aF big aS aG aB pg i aj, (pg, .cells cur 136 (0, 0)), (pd, .cells (X.map Bv).toArray 5 (0, 0))] := hw ▸ Mm.start3 h1 h2 h3 n1 n2 n3
 conv => arg 5; rw [hw]
 clear hw
 refine wp_seq ?_
 refine wp_seq (wp_region_lit ?_)
 refine aO HF HM rfl 3 [] ((nU b o n c s fb big ak aj au ah pd) ++ [(38, aA i), (593, .bool (decide (((i : Nat) : Int) < ((aj : Nat) : Int))))]) [gW fb dat abi aF big aS aG aB pg i aj, (pg, .cells cur 136 (0, 0)), (pd, .cells (X.map Bv).toArray 5 (0, 0))] (by kernel_rfl) ?_
 clear HF HM; intro a w HF HM
 rw [show decide (((i : Nat) : Int) < ((aj : Nat) : Int)) = true from fC (by omega)] at HF
 refine aI ?_
 refine bF HF rfl ?_
 refine wp_skip ?_
 repeat (first | refine aQ ?_ | refine aU ?_)
 replace HF := HF.sub ((nU b o n c s fb big ak aj au ah pd) ++ [(38, aA i)]) (by kernel_rfl)
 refine wp_seq (wp_block ?_)
 refine wp_seq (wp_region_lit ?_)
 refine aO HF HM rfl 2 [] ((nU b o n c s fb big ak aj au ah pd) ++ [(38, aA i), (597, bG (IntKind.u64.wrap ((i : Nat) : Int)))]) [gW fb dat abi aF big aS aG aB pg i aj, (pg, .cells cur 136 (0, 0)), (pd, .cells (X.map Bv).toArray 5 (0, 0))] (by kernel_rfl) ?_
 clear HF HM; intro a w HF HM
 rw [show IntKind.u64.wrap ((i : Nat) : Int) = ((i : Nat) : Int) from IntWalk.u64_in _ (by omega)] at HF
 refine aO HF HM rfl 3 [] ((nU b o n c s fb big ak aj au ah pd) ++ [(38, aA i), (600, bG (IntKind.u64.wrap (((i : Nat) : Int) * 32)))]) [gW fb dat abi aF big aS aG aB pg i aj, (pg, .cells cur 136 (0, 0)), (pd, .cells (X.map Bv).toArray 5 (0, 0))] (by kernel_rfl) ?_
 clear HF HM; intro a w HF HM
 rw [show IntKind.u64.wrap (((i : Nat) : Int) * 32) = (((i * 32) : Nat) : Int) from (IntWalk.u64_in _ (by omega)).trans (by omega)] at HF
 refine aO HF HM rfl 1 [] ((nU b o n c s fb big ak aj au ah pd) ++ [(38, aA i), (39, aJ (i * 32))]) [gW fb dat abi aF big aS aG aB pg i aj, (pg, .cells cur 136 (0, 0)), (pd, .cells (X.map Bv).toArray 5 (0, 0))] (by kernel_rfl) ?_
 clear HF HM; intro a w HF HM
 refine aI ?_
 obtain ⟨z5, uT⟩ : ∃ z, w.heap.size = z := ⟨_, rfl⟩
 refine bC HF HM uT [] (fB b o n c s fb big ak aj au ah pd i z5) [mW z5, gW fb dat abi aF big aS aG aB pg i aj, (pg, .cells cur 136 (0, 0)), (pd, .cells (X.map Bv).toArray 5 (0, 0))] (by kernel_rfl) ?_
 clear HF HM uT; intro a w HF HM
 refine wp_seq ?_
 refine bC HF HM rfl [[2]] ((fB b o n c s fb big ak aj au ah pd i z5) ++ [(606, aK 1)]) [mW z5, gW fb dat abi aF big aS aG aB pg i aj, (pg, .cells cur 136 (0, 0)), (pd, .cells (X.map Bv).toArray 5 (0, 0))] (by kernel_rfl) ?_
 clear HF HM; intro a w HF HM
 refine wp_block ?_
 refine bC HF HM rfl [] ((fB b o n c s fb big ak aj au ah pd i z5) ++ [(606, aK 1), (607, .bool true)]) [mW z5, gW fb dat abi aF big aS aG aB pg i aj, (pg, .cells cur 136 (0, 0)), (pd, .cells (X.map Bv).toArray 5 (0, 0))] (by kernel_rfl) ?_
 clear HF HM; intro a w HF HM
 refine bF HF rfl ?_
 replace HF := HF.sub (fB b o n c s fb big ak aj au ah pd i z5) (by kernel_rfl)
 refine rQ HM (by kernel_rfl) [(pd, .cells (X.map Bv).toArray 5 (0, 0))] [(0, false), (1, false), (2, false), (3, false), (4, false), (5, false), (8, false), (9, false), (10, false), (11, false), (12, false), (14, false), (15, false), (16, false), (17, false), (18, false), (21, false), (22, false), (23, false), (24, false), (25, false), (28, false), (29, false), (30, false), (31, false), (32, false), (35, false), (36, false), (37, false), (38, false), (39, false), (42, false), (43, false), (44, false), (45, false), (46, false), (49, false), (50, false), (51, false), (52, false), (53, false), (6, true), (7, false), (13, true), (19, true), (20, false), (26, true), (27, false), (33, true), (34, false), (40, true), (41, false), (47, true), (48, false), (54, true), (55, false), (56, false), (57, false), (58, false), (59, true)] (by kernel_rfl) ?_
 clear HM; intro w1 HM
 refine bD HF (HM.told [3] rfl) 1 [] ((fB b o n c s fb big ak aj au ah pd i z5) ++ [(609, aC z5)]) (by kernel_rfl) ?_
 clear HF; intro a HF
 refine bD HF (HM.told [3] rfl) 4 [] ((fB b o n c s fb big ak aj au ah pd i z5) ++ [(609, aC z5), (610, (aP big)), (611, aH pd (aj * 32) (aj * 32)), (613, bG (IntKind.u64.wrap ((((i * 32) : Nat) : Int) + 0)))]) (by kernel_rfl) ?_
 clear HF; intro a HF
 rw [show IntKind.u64.wrap ((((i * 32) : Nat) : Int) + 0) = ((((i * 32) + 0) : Nat) : Int) from (IntWalk.u64_in _ (by omega)).trans (by omega)] at HF
 refine eu rfl HF (HM.told [3] rfl) rfl (.slice (some ⟨pd, ((i * 32) + 0), none⟩) ((aj * 32) - ((i * 32) + 0)) ((aj * 32) - ((i * 32) + 0))) (by kernel_rfl) (fun w hw => eG (t := 33) Tryd.underlying33 hi0 hs0 rfl ((i * 32) + 0) (kk := .u64) rfl rfl (by omega) (by omega) (by omega) w) ?_
 clear HF; intro a HF; replace HF := HF.sub ((fB b o n c s fb big ak aj au ah pd i z5) ++ [(609, aC z5), (610, (aP big)), (611, aH pd (aj * 32) (aj * 32)), (613, aJ ((i * 32) + 0)), J_ pd i aj]) (by kernel_rfl)
 replace HF := HF.sub (xI b o n c s fb big ak aj au ah pd i z5) (by kernel_rfl)
 refine bD HF (HM.told [3] rfl) 4 [] ((xI b o n c s fb big ak aj au ah pd i z5) ++ [(617, (aP big)), (618, aH pd (aj * 32) (aj * 32)), (620, bG (IntKind.u64.wrap ((((i * 32) : Nat) : Int) + 24)))]) (by kernel_rfl) ?_
 clear HF; intro a HF
 rw [show IntKind.u64.wrap ((((i * 32) : Nat) : Int) + 24) = ((((i * 32) + 24) : Nat) : Int) from (IntWalk.u64_in _ (by omega)).trans (by omega)] at HF
 refine eu rfl HF (HM.told [3] rfl) rfl (.slice (some ⟨pd, ((i * 32) + 24), none⟩) ((aj * 32) - ((i * 32) + 24)) ((aj * 32) - ((i * 32) + 24))) (by kernel_rfl) (fun w hw => eG (t := 33) Tryd.underlying33 hi0 hs0 rfl ((i * 32) + 24) (kk := .u64) rfl rfl (by omega) (by omega) (by omega) w) ?_
 clear HF; intro a HF; replace HF := HF.sub ((xI b o n c s fb big ak aj au ah pd i z5) ++ [(617, (aP big)), (618, aH pd (aj * 32) (aj * 32)), (620, aJ ((i * 32) + 24)), J9 pd i aj]) (by kernel_rfl)
 replace HF := HF.sub (xH b o n c s fb big ak aj au ah pd i z5) (by kernel_rfl)
 refine bD HF (HM.told [3] rfl) 4 [] ((xH b o n c s fb big ak aj au ah pd i z5) ++ [(623, (aP big)), (624, aH pd (aj * 32) (aj * 32)), (626, bG (IntKind.u64.wrap ((((i * 32) : Nat) : Int) + 4)))]) (by kernel_rfl) ?_
 clear HF; intro a HF
 rw [show IntKind.u64.wrap ((((i * 32) : Nat) : Int) + 4) = ((((i * 32) + 4) : Nat) : Int) from (IntWalk.u64_in _ (by omega)).trans (by omega)] at HF
 refine eu rfl HF (HM.told [3] rfl) rfl (.slice (some ⟨pd, ((i * 32) + 4), none⟩) ((aj * 32) - ((i * 32) + 4)) ((aj * 32) - ((i * 32) + 4))) (by kernel_rfl) (fun w hw => eG (t := 33) Tryd.underlying33 hi0 hs0 rfl ((i * 32) + 4) (kk := .u64) rfl rfl (by omega) (by omega) (by omega) w) ?_
 clear HF; intro a HF; replace HF := HF.sub ((xH b o n c s fb big ak aj au ah pd i z5) ++ [(623, (aP big)), (624, aH pd (aj * 32) (aj * 32)), (626, aJ ((i * 32) + 4)), zH pd i aj]) (by kernel_rfl)
 replace HF := HF.sub (vV b o n c s fb big ak aj au ah pd i z5) (by kernel_rfl)
 refine bD HF (HM.told [3] rfl) 4 [] ((vV b o n c s fb big ak aj au ah pd i z5) ++ [(630, (aP big)), (631, aH pd (aj * 32) (aj * 32)), (633, bG (IntKind.u64.wrap ((((i * 32) : Nat) : Int) + 8)))]) (by kernel_rfl) ?_
 clear HF; intro a HF
 rw [show IntKind.u64.wrap ((((i * 32) : Nat) : Int) + 8) = ((((i * 32) + 8) : Nat) : Int) from (IntWalk.u64_in _ (by omega)).trans (by omega)] at HF
 refine eu rfl HF (HM.told [3] rfl) rfl (.slice (some ⟨pd, ((i * 32) + 8), none⟩) ((aj * 32) - ((i * 32) + 8)) ((aj * 32) - ((i * 32) + 8))) (by kernel_rfl) (fun w hw => eG (t := 33) Tryd.underlying33 hi0 hs0 rfl ((i * 32) + 8) (kk := .u64) rfl rfl (by omega) (by omega) (by omega) w) ?_
 clear HF; intro a HF; replace HF := HF.sub ((vV b o n c s fb big ak aj au ah pd i z5) ++ [(630, (aP big)), (631, aH pd (aj * 32) (aj * 32)), (633, aJ ((i * 32) + 8)), zG pd i aj]) (by kernel_rfl)
 replace HF := HF.sub (vU b o n c s fb big ak aj au ah pd i z5) (by kernel_rfl)
 refine bD HF (HM.told [3] rfl) 4 [] ((vU b o n c s fb big ak aj au ah pd i z5) ++ [(637, (aP big)), (638, aH pd (aj * 32) (aj * 32)), (640, bG (IntKind.u64.wrap ((((i * 32) : Nat) : Int) + 12)))]) (by kernel_rfl) ?_
 clear HF; intro a HF
 rw [show IntKind.u64.wrap ((((i * 32) : Nat) : Int) + 12) = ((((i * 32) + 12) : Nat) : Int) from (IntWalk.u64_in _ (by omega)).trans (by omega)] at HF
 refine eu rfl HF (HM.told [3] rfl) rfl (.slice (some ⟨pd, ((i * 32) + 12), none⟩) ((aj * 32) - ((i * 32) + 12)) ((aj * 32) - ((i * 32) + 12))) (by kernel_rfl) (fun w hw => eG (t := 33) Tryd.underlying33 hi0 hs0 rfl ((i * 32) + 12) (kk := .u64) rfl rfl (by omega) (by omega) (by omega) w) ?_
 clear HF; intro a HF; replace HF := HF.sub ((vU b o n c s fb big ak aj au ah pd i z5) ++ [(637, (aP big)), (638, aH pd (aj * 32) (aj * 32)), (640, aJ ((i * 32) + 12)), zF pd i aj]) (by kernel_rfl)
 replace HF := HF.sub (vT b o n c s fb big ak aj au ah pd i z5) (by kernel_rfl)
 refine bD HF (HM.told [3] rfl) 4 [] ((vT b o n c s fb big ak aj au ah pd i z5) ++ [(644, (aP big)), (645, aH pd (aj * 32) (aj * 32)), (647, bG (IntKind.u64.wrap ((((i * 32) : Nat) : Int) + 16)))]) (by kernel_rfl) ?_
 clear HF; intro a HF
 rw [show IntKind.u64.wrap ((((i * 32) : Nat) : Int) + 16) = ((((i * 32) + 16) : Nat) : Int) from (IntWalk.u64_in _ (by omega)).trans (by omega)] at HF
 refine eu rfl HF (HM.told [3] rfl) rfl (.slice (some ⟨pd, ((i * 32) + 16), none⟩) ((aj * 32) - ((i * 32) + 16)) ((aj * 32) - ((i * 32) + 16))) (by kernel_rfl) (fun w hw => eG (t := 33) Tryd.underlying33 hi0 hs0 rfl ((i * 32) + 16) (kk := .u64) rfl rfl (by omega) (by omega) (by omega) w) ?_
 clear HF; intro a HF; replace HF := HF.sub ((vT b o n c s fb big ak aj au ah pd i z5) ++ [(644, (aP big)), (645, aH pd (aj * 32) (aj * 32)), (647, aJ ((i * 32) + 16)), zD pd i aj]) (by kernel_rfl)
 replace HF := HF.sub (vS b o n c s fb big ak aj au ah pd i z5) (by kernel_rfl)
 refine bD HF (HM.told [3] rfl) 4 [] ((vS b o n c s fb big ak aj au ah pd i z5) ++ [(651, (aP big)), (652, aH pd (aj * 32) (aj * 32)), (654, bG (IntKind.u64.wrap ((((i * 32) : Nat) : Int) + 20)))]) (by kernel_rfl) ?_
 clear HF; intro a HF
 rw [show IntKind.u64.wrap ((((i * 32) : Nat) : Int) + 20) = ((((i * 32) + 20) : Nat) : Int) from (IntWalk.u64_in _ (by omega)).trans (by omega)] at HF
 refine eu rfl HF (HM.told [3] rfl) rfl (.slice (some ⟨pd, ((i * 32) + 20), none⟩) ((aj * 32) - ((i * 32) + 20)) ((aj * 32) - ((i * 32) + 20))) (by kernel_rfl) (fun w hw => eG (t := 33) Tryd.underlying33 hi0 hs0 rfl ((i * 32) + 20) (kk := .u64) rfl rfl (by omega) (by omega) (by omega) w) ?_
 clear HF; intro a HF; replace HF := HF.sub ((vS b o n c s fb big ak aj au ah pd i z5) ++ [(651, (aP big)), (652, aH pd (aj * 32) (aj * 32)), (654, aJ ((i * 32) + 20)), zC pd i aj]) (by kernel_rfl)
 replace HF := HF.sub (sZ b o n c s fb big ak aj au ah pd i z5) (by kernel_rfl)
 refine bD HF (HM.told [3] rfl) 4 [] ((sZ b o n c s fb big ak aj au ah pd i z5) ++ [(658, (aP big)), (659, aH pd (aj * 32) (aj * 32)), (661, bG (IntKind.u64.wrap ((((i * 32) : Nat) : Int) + 28)))]) (by kernel_rfl) ?_
 clear HF; intro a HF
 rw [show IntKind.u64.wrap ((((i * 32) : Nat) : Int) + 28) = ((((i * 32) + 28) : Nat) : Int) from (IntWalk.u64_in _ (by omega)).trans (by omega)] at HF
 refine eu rfl HF (HM.told [3] rfl) rfl (.slice (some ⟨pd, ((i * 32) + 28), none⟩) ((aj * 32) - ((i * 32) + 28)) ((aj * 32) - ((i * 32) + 28))) (by kernel_rfl) (fun w hw => eG (t := 33) Tryd.underlying33 hi0 hs0 rfl ((i * 32) + 28) (kk := .u64) rfl rfl (by omega) (by omega) (by omega) w) ?_
 clear HF; intro a HF; replace HF := HF.sub ((sZ b o n c s fb big ak aj au ah pd i z5) ++ [(658, (aP big)), (659, aH pd (aj * 32) (aj * 32)), (661, aJ ((i * 32) + 28)), tq pd i aj]) (by kernel_rfl)
 replace HF := HF.sub ((sZ b o n c s fb big ak aj au ah pd i z5) ++ [(658, (aP big)), tq pd i aj]) (by kernel_rfl)
 refine bQ rfl ?_
 refine bn HF (by kernel_rfl) 87 #[(aP big), .slice (some ⟨pd, ((i * 32) + 0), none⟩) ((aj * 32) - ((i * 32) + 0)) ((aj * 32) - ((i * 32) + 0))] (by kernel_rfl) (fun w => by kernel_rfl) (Calls.mono (jy (HM.get (i := 3) rfl) (by unfold maxLen; omega) big ((i * 32) + 0) ((aj * 32) - ((i * 32) + 0)) (by omega) (by omega) ((v.ty : Nat) : Int) (by rw [e0])) ?_)
 rintro _ w2 ⟨rfl, jF, hq⟩
 replace HM : Mm [fb, pg, pd] W1 w2 [mW z5, gW fb dat abi aF big aS aG aB pg i aj, (pg, .cells cur 136 (0, 0)), (pd, .cells (X.map Bv).toArray 5 (0, 0))] := by rw [hq]; exact HM.drewN _
 clear hq
 refine ⟨_, rfl, ?_⟩; clear HF; intro a HF; replace HF := HF.sub ((sZ b o n c s fb big ak aj au ah pd i z5) ++ [(658, (aP big)), tq pd i aj, (615, aX v.ty)]) (by kernel_rfl)
 refine cZ (HM.told [3] rfl) ?_
 replace HF := HF.sub ((zB b o n c s fb big ak aj au ah pd i z5) ++ [(615, aX v.ty)]) (by kernel_rfl)
 refine bD HF (HM.told [3] rfl) 1 [] ((zB b o n c s fb big ak aj au ah pd i z5) ++ [(616, ay (IntKind.i64.wrap ((v.ty : Nat) : Int)))]) (by kernel_rfl) ?_
 clear HF; intro a HF
 rw [show IntKind.i64.wrap ((v.ty : Nat) : Int) = ((v.ty : Nat) : Int) from IntWalk.i64_in _ (by omega)] at HF
 refine bQ rfl ?_
 refine bn HF (by kernel_rfl) 87 #[(aP big), .slice (some ⟨pd, ((i * 32) + 24), none⟩) ((aj * 32) - ((i * 32) + 24)) ((aj * 32) - ((i * 32) + 24))] (by kernel_rfl) (fun w => by kernel_rfl) (Calls.mono (jy (HM.get (i := 3) rfl) (by unfold maxLen; omega) big ((i * 32) + 24) ((aj * 32) - ((i * 32) + 24)) (by omega) (by omega) ((v.flags : Nat) : Int) (by rw [e1])) ?_)
 rintro _ w3 ⟨rfl, jF, hq⟩
 replace HM : Mm [fb, pg, pd] W1 w3 [mW z5, gW fb dat abi aF big aS aG aB pg i aj, (pg, .cells cur 136 (0, 0)), (pd, .cells (X.map Bv).toArray 5 (0, 0))] := by rw [hq]; exact HM.drewN _
 clear hq
 refine ⟨_, rfl, ?_⟩; clear HF; intro a HF; replace HF := HF.sub ((zB b o n c s fb big ak aj au ah pd i z5) ++ [(616, aA v.ty), (622, aX v.flags)]) (by kernel_rfl)
 refine cZ (HM.told [3] rfl) ?_
 replace HF := HF.sub ((fB b o n c s fb big ak aj au ah pd i z5) ++ [(609, aC z5), (623, (aP big)), zH pd i aj, (630, (aP big)), zG pd i aj, (637, (aP big)), zF pd i aj, (644, (aP big)), zD pd i aj, (651, (aP big)), zC pd i aj, (658, (aP big)), tq pd i aj, (616, aA v.ty), (622, aX v.flags)]) (by kernel_rfl)
 refine bQ rfl ?_
 refine bn HF (by kernel_rfl) 87 #[(aP big), .slice (some ⟨pd, ((i * 32) + 4), none⟩) ((aj * 32) - ((i * 32) + 4)) ((aj * 32) - ((i * 32) + 4))] (by kernel_rfl) (fun w => by kernel_rfl) (Calls.mono (jy (HM.get (i := 3) rfl) (by unfold maxLen; omega) big ((i * 32) + 4) ((aj * 32) - ((i * 32) + 4)) (by omega) (by omega) ((v.off : Nat) : Int) (by rw [e2])) ?_)
 rintro _ w4 ⟨rfl, jF, hq⟩
 replace HM : Mm [fb, pg, pd] W1 w4 [mW z5, gW fb dat abi aF big aS aG aB pg i aj, (pg, .cells cur 136 (0, 0)), (pd, .cells (X.map Bv).toArray 5 (0, 0))] := by rw [hq]; exact HM.drewN _
 clear hq
 refine ⟨_, rfl, ?_⟩; clear HF; intro a HF; replace HF := HF.sub ((fB b o n c s fb big ak aj au ah pd i z5) ++ [(609, aC z5), (623, (aP big)), zH pd i aj, (630, (aP big)), zG pd i aj, (637, (aP big)), zF pd i aj, (644, (aP big)), zD pd i aj, (651, (aP big)), zC pd i aj, (658, (aP big)), tq pd i aj, (616, aA v.ty), (622, aX v.flags), (628, aX v.off)]) (by kernel_rfl)
 refine cZ (HM.told [3] rfl) ?_
 replace HF := HF.sub ((zA b o n c s fb big ak aj au ah pd i z5 v) ++ [(628, aX v.off)]) (by kernel_rfl)
 refine bD HF (HM.told [3] rfl) 1 [] ((zA b o n c s fb big ak aj au ah pd i z5 v) ++ [(629, bG (IntKind.u64.wrap ((v.off : Nat) : Int)))]) (by kernel_rfl) ?_
 clear HF; intro a HF
 rw [show IntKind.u64.wrap ((v.off : Nat) : Int) = ((v.off : Nat) : Int) from IntWalk.u64_in _ (by omega)] at HF
 refine bQ rfl ?_
 refine bn HF (by kernel_rfl) 87 #[(aP big), .slice (some ⟨pd, ((i * 32) + 8), none⟩) ((aj * 32) - ((i * 32) + 8)) ((aj * 32) - ((i * 32) + 8))] (by kernel_rfl) (fun w => by kernel_rfl) (Calls.mono (jy (HM.get (i := 3) rfl) (by unfold maxLen; omega) big ((i * 32) + 8) ((aj * 32) - ((i * 32) + 8)) (by omega) (by omega) ((v.bI : Nat) : Int) (by rw [e3])) ?_)
 rintro _ w5 ⟨rfl, jF, hq⟩
 replace HM : Mm [fb, pg, pd] W1 w5 [mW z5, gW fb dat abi aF big aS aG aB pg i aj, (pg, .cells cur 136 (0, 0)), (pd, .cells (X.map Bv).toArray 5 (0, 0))] := by rw [hq]; exact HM.drewN _
 clear hq
 refine ⟨_, rfl, ?_⟩; clear HF; intro a HF; replace HF := HF.sub ((zA b o n c s fb big ak aj au ah pd i z5 v) ++ [(629, aJ v.off), (635, aX v.bI)]) (by kernel_rfl)
 refine cZ (HM.told [3] rfl) ?_
 replace HF := HF.sub ((zy b o n c s fb big ak aj au ah pd i z5 v) ++ [(635, aX v.bI)]) (by kernel_rfl)
 refine bD HF (HM.told [3] rfl) 1 [] ((zy b o n c s fb big ak aj au ah pd i z5 v) ++ [(636, bG (IntKind.u64.wrap ((v.bI : Nat) : Int)))]) (by kernel_rfl) ?_
 clear HF; intro a HF
 rw [show IntKind.u64.wrap ((v.bI : Nat) : Int) = ((v.bI : Nat) : Int) from IntWalk.u64_in _ (by omega)] at HF
 refine bQ rfl ?_
 refine bn HF (by kernel_rfl) 87 #[(aP big), .slice (some ⟨pd, ((i * 32) + 12), none⟩) ((aj * 32) - ((i * 32) + 12)) ((aj * 32) - ((i * 32) + 12))] (by kernel_rfl) (fun w => by kernel_rfl) (Calls.mono (jy (HM.get (i := 3) rfl) (by unfold maxLen; omega) big ((i * 32) + 12) ((aj * 32) - ((i * 32) + 12)) (by omega) (by omega) ((v.bJ : Nat) : Int) (by rw [e4])) ?_)
 rintro _ w6 ⟨rfl, jF, hq⟩
 replace HM : Mm [fb, pg, pd] W1 w6 [mW z5, gW fb dat abi aF big aS aG aB pg i aj, (pg, .cells cur 136 (0, 0)), (pd, .cells (X.map Bv).toArray 5 (0, 0))] := by rw [hq]; exact HM.drewN _
 clear hq
 refine ⟨_, rfl, ?_⟩; clear HF; intro a HF; replace HF := HF.sub ((zy b o n c s fb big ak aj au ah pd i z5 v) ++ [(636, aJ v.bI), (642, aX v.bJ)]) (by kernel_rfl)
 refine cZ (HM.told [3] rfl) ?_
 replace HF := HF.sub ((zx b o n c s fb big ak aj au ah pd i z5 v) ++ [(642, aX v.bJ)]) (by kernel_rfl)
 refine bD HF (HM.told [3] rfl) 1 [] ((zx b o n c s fb big ak aj au ah pd i z5 v) ++ [(643, bG (IntKind.u64.wrap ((v.bJ : Nat) : Int)))]) (by kernel_rfl) ?_
 clear HF; intro a HF
 rw [show IntKind.u64.wrap ((v.bJ : Nat) : Int) = ((v.bJ : Nat) : Int) from IntWalk.u64_in _ (by omega)] at HF
 refine bQ rfl ?_
 refine bn HF (by kernel_rfl) 87 #[(aP big), .slice (some ⟨pd, ((i * 32) + 16), none⟩) ((aj * 32) - ((i * 32) + 16)) ((aj * 32) - ((i * 32) + 16))] (by kernel_rfl) (fun w => by kernel_rfl) (Calls.mono (jy (HM.get (i := 3) rfl) (by unfold maxLen; omega) big ((i * 32) + 16) ((aj * 32) - ((i * 32) + 16)) (by omega) (by omega) ((v.bH : Nat) : Int) (by rw [e5])) ?_)
 rintro _ w7 ⟨rfl, jF, hq⟩
 replace HM : Mm [fb, pg, pd] W1 w7 [mW z5, gW fb dat abi aF big aS aG aB pg i aj, (pg, .cells cur 136 (0, 0)), (pd, .cells (X.map Bv).toArray 5 (0, 0))] := by rw [hq]; exact HM.drewN _
 clear hq
 refine ⟨_, rfl, ?_⟩; clear HF; intro a HF; replace HF := HF.sub ((zx b o n c s fb big ak aj au ah pd i z5 v) ++ [(643, aJ v.bJ), (649, aX v.bH)]) (by kernel_rfl)
 refine cZ (HM.told [3] rfl) ?_
 replace HF := HF.sub ((zu b o n c s fb big ak aj au ah pd i z5 v) ++ [(649, aX v.bH)]) (by kernel_rfl)
 refine bD HF (HM.told [3] rfl) 1 [] ((zu b o n c s fb big ak aj au ah pd i z5 v) ++ [(650, bG (IntKind.u64.wrap ((v.bH : Nat) : Int)))]) (by kernel_rfl) ?_
 clear HF; intro a HF
 rw [show IntKind.u64.wrap ((v.bH : Nat) : Int) = ((v.bH : Nat) : Int) from IntWalk.u64_in _ (by omega)] at HF
 refine bQ rfl ?_
 refine bn HF (by kernel_rfl) 87 #[(aP big), .slice (some ⟨pd, ((i * 32) + 20), none⟩) ((aj * 32) - ((i * 32) + 20)) ((aj * 32) - ((i * 32) + 20))] (by kernel_rfl) (fun w => by kernel_rfl) (Calls.mono (jy (HM.get (i := 3) rfl) (by unfold maxLen; omega) big ((i * 32) + 20) ((aj * 32) - ((i * 32) + 20)) (by omega) (by omega) ((v.bM : Nat) : Int) (by rw [e6])) ?_)
 rintro _ w8 ⟨rfl, jF, hq⟩
 replace HM : Mm [fb, pg, pd] W1 w8 [mW z5, gW fb dat abi aF big aS aG aB pg i aj, (pg, .cells cur 136 (0, 0)), (pd, .cells (X.map Bv).toArray 5 (0, 0))] := by rw [hq]; exact HM.drewN _
 clear hq
 refine ⟨_, rfl, ?_⟩; clear HF; intro a HF; replace HF := HF.sub ((zu b o n c s fb big ak aj au ah pd i z5 v) ++ [(650, aJ v.bH), (656, aX v.bM)]) (by kernel_rfl)
 refine cZ (HM.told [3] rfl) ?_
 replace HF := HF.sub ((zq b o n c s fb big ak aj au ah pd i z5 v) ++ [(656, aX v.bM)]) (by kernel_rfl)
 refine bD HF (HM.told [3] rfl) 1 [] ((zq b o n c s fb big ak aj au ah pd i z5 v) ++ [(657, bG (IntKind.u64.wrap ((v.bM : Nat) : Int)))]) (by kernel_rfl) ?_
 clear HF; intro a HF
 rw [show IntKind.u64.wrap ((v.bM : Nat) : Int) = ((v.bM : Nat) : Int) from IntWalk.u64_in _ (by omega)] at HF
 refine bQ rfl ?_
 refine bn HF (by kernel_rfl) 87 #[(aP big), .slice (some ⟨pd, ((i * 32) + 28), none⟩) ((aj * 32) - ((i * 32) + 28)) ((aj * 32) - ((i * 32) + 28))] (by kernel_rfl) (fun w => by kernel_rfl) (Calls.mono (jy (HM.get (i := 3) rfl) (by unfold maxLen; omega) big ((i * 32) + 28) ((aj * 32) - ((i * 32) + 28)) (by omega) (by omega) ((v.align : Nat) : Int) (by rw [e7])) ?_)
 rintro _ w9 ⟨rfl, jF, hq⟩
 replace HM : Mm [fb, pg, pd] W1 w9 [mW z5, gW fb dat abi aF big aS aG aB pg i aj, (pg, .cells cur 136 (0, 0)), (pd, .cells (X.map Bv).toArray 5 (0, 0))] := by rw [hq]; exact HM.drewN _
 clear hq
 refine ⟨_, rfl, ?_⟩; clear HF; intro a HF; replace HF := HF.sub ((zq b o n c s fb big ak aj au ah pd i z5 v) ++ [(657, aJ v.bM), (663, aX v.align)]) (by kernel_rfl)
 refine cZ (HM.told [3] rfl) ?_
 replace HF := HF.sub ((fB b o n c s fb big ak aj au ah pd i z5) ++ [(609, aC z5), (616, aA v.ty), (622, aX v.flags), (629, aJ v.off), (636, aJ v.bI), (643, aJ v.bJ), (650, aJ v.bH), (657, aJ v.bM), (663, aX v.align)]) (by kernel_rfl)
 refine bD HF (HM.told [3] rfl) 1 [] ((fB b o n c s fb big ak aj au ah pd i z5) ++ [(609, aC z5), (616, aA v.ty), (622, aX v.flags), (629, aJ v.off), (636, aJ v.bI), (643, aJ v.bJ), (650, aJ v.bH), (657, aJ v.bM), (664, bG (IntKind.u64.wrap ((v.align : Nat) : Int)))]) (by kernel_rfl) ?_
 clear HF; intro a HF
 rw [show IntKind.u64.wrap ((v.align : Nat) : Int) = ((v.align : Nat) : Int) from IntWalk.u64_in _ (by omega)] at HF
 refine bD HF (HM.told [3] rfl) 3 [] ((fB b o n c s fb big ak aj au ah pd i z5) ++ [(609, aC z5), (616, aA v.ty), (622, aX v.flags), (629, aJ v.off), (636, aJ v.bI), (643, aJ v.bJ), (650, aJ v.bH), (657, aJ v.bM), (664, aJ v.align), (665, .agg #[aA v.ty, aX v.flags, aJ v.off, aJ v.bI, aJ v.bJ, aJ v.bH, aJ v.bM, aJ v.align]), (667, aC z5)]) (by kernel_rfl) ?_
 clear HF; intro a HF
 replace HF := HF.sub ((fB b o n c s fb big ak aj au ah pd i z5) ++ [(665, .agg #[aA v.ty, aX v.flags, aJ v.off, aJ v.bI, aJ v.bJ, aJ v.bH, aJ v.bM, aJ v.align]), (667, aC z5)]) (by kernel_rfl)
 refine bQ rfl ?_
 refine aO HF HM rfl 1 [[3, 3, 3, 3, 3, 3, 3, 3]] (fB b o n c s fb big ak aj au ah pd i z5) [qW z5 v, gW fb dat abi aF big aS aG aB pg i aj, (pg, .cells cur 136 (0, 0)), (pd, .cells (X.map Bv).toArray 5 (0, 0))] (by kernel_rfl) ?_
 clear HF HM; intro a w HF HM
 refine cZ (HM.told [3] rfl) ?_
 refine iP ?_
 repeat (first | refine aQ ?_ | refine aU ?_)
 refine wp_seq ?_
 refine wp_seq (wp_region_lit ?_)
 refine aO HF HM rfl 6 [[3]] ((fB b o n c s fb big ak aj au ah pd i z5) ++ [(728, ay (IntKind.i64.wrap ((v.off : Nat) : Int)))]) [qW z5 v, gW fb dat abi aF big aS aG aB pg i aj, (pg, .cells cur 136 (0, 0)), (pd, .cells (X.map Bv).toArray 5 (0, 0))] (by kernel_rfl) ?_
 clear HF HM; intro a w HF HM
 rw [show IntKind.i64.wrap ((v.off : Nat) : Int) = ((v.off : Nat) : Int) from IntWalk.i64_in _ (by omega)] at HF
 refine aO HF HM rfl 1 [] ((fB b o n c s fb big ak aj au ah pd i z5) ++ [(729, .bool (decide (((v.off : Nat) : Int) < 0)))]) [qW z5 v, gW fb dat abi aF big aS aG aB pg i aj, (pg, .cells cur 136 (0, 0)), (pd, .cells (X.map Bv).toArray 5 (0, 0))] (by kernel_rfl) ?_
 clear HF HM; intro a w HF HM
 rw [show decide (((v.off : Nat) : Int) < 0) = false from dI (by omega)] at HF
 refine aI ?_
 refine aZ HF rfl ?_
 refine wp_skip ?_
 repeat (first | refine aQ ?_ | refine aU ?_)
 replace HF := HF.sub (fB b o n c s fb big ak aj au ah pd i z5) (by kernel_rfl)
 refine wp_seq ?_
 refine wp_seq (wp_region_lit ?_)
 refine aO HF HM rfl 6 [[3]] ((fB b o n c s fb big ak aj au ah pd i z5) ++ [(748, ay (IntKind.i64.wrap ((v.bH : Nat) : Int)))]) [qW z5 v, gW fb dat abi aF big aS aG aB pg i aj, (pg, .cells cur 136 (0, 0)), (pd, .cells (X.map Bv).toArray 5 (0, 0))] (by kernel_rfl) ?_
 clear HF HM; intro a w HF HM
 rw [show IntKind.i64.wrap ((v.bH : Nat) : Int) = ((v.bH : Nat) : Int) from IntWalk.i64_in _ (by omega)] at HF
 refine aO HF HM rfl 1 [] ((fB b o n c s fb big ak aj au ah pd i z5) ++ [(749, .bool (decide (((v.bH : Nat) : Int) < 0)))]) [qW z5 v, gW fb dat abi aF big aS aG aB pg i aj, (pg, .cells cur 136 (0, 0)), (pd, .cells (X.map Bv).toArray 5 (0, 0))] (by kernel_rfl) ?_
 clear HF HM; intro a w HF HM
 rw [show decide (((v.bH : Nat) : Int) < 0) = false from dI (by omega)] at HF
 refine aI ?_
 refine aZ HF rfl ?_
 refine wp_skip ?_
 repeat (first | refine aQ ?_ | refine aU ?_)
 replace HF := HF.sub (fB b o n c s fb big ak aj au ah pd i z5) (by kernel_rfl)
 refine w_ HM (by kernel_rfl) (fun w => w.cell? ⟨z5, 2, none⟩ = some (aJ v.off) ∧ w.cell? ⟨z5, 5, none⟩ = some (aJ v.bH)) [(0, false), (1, false), (2, false), (3, false), (4, false), (5, false), (6, false), (7, false), (8, false), (9, false), (10, false), (11, false), (12, false), (13, false), (14, true), (15, false), (16, false), (17, true)] (by kernel_rfl) ?_
 clear HM; intro w10 HM
 refine jl (LS := []) (fun _ _ => jM _) HF ⟨HM.cellAt (i := 0) (k := 2) rfl rfl, HM.cellAt (i := 0) (k := 5) rfl rfl⟩ 6 [] ((pR b o n c s fb big ak aj au ah pd i z5) ++ [(768, .pointer (some ⟨z5, 2, none⟩))]) (by kernel_rfl) ?_
 clear HF; intro a HF
 refine o7 rfl HF ⟨HM.cellAt (i := 0) (k := 2) rfl rfl, HM.cellAt (i := 0) (k := 5) rfl rfl⟩ rfl (aJ v.off) (by kernel_rfl) (fun w hw => iE rfl rfl (by kernel_rfl) hw.1) ?_
 clear HF; intro a HF; replace HF := HF.sub ((pR b o n c s fb big ak aj au ah pd i z5) ++ [(768, .pointer (some ⟨z5, 2, none⟩)), (769, aJ v.off)]) (by kernel_rfl)
 refine jl (LS := []) (fun _ _ => jM _) HF ⟨HM.cellAt (i := 0) (k := 2) rfl rfl, HM.cellAt (i := 0) (k := 5) rfl rfl⟩ 1 [] ((pR b o n c s fb big ak aj au ah pd i z5) ++ [(770, ay (IntKind.i64.wrap ((v.off : Nat) : Int)))]) (by kernel_rfl) ?_
 clear HF; intro a HF
 rw [show IntKind.i64.wrap ((v.off : Nat) : Int) = ((v.off : Nat) : Int) from IntWalk.i64_in _ (by omega)] at HF
 refine jl (LS := []) (fun _ _ => jM _) HF ⟨HM.cellAt (i := 0) (k := 2) rfl rfl, HM.cellAt (i := 0) (k := 5) rfl rfl⟩ 4 [] ((pR b o n c s fb big ak aj au ah pd i z5) ++ [(770, aA v.off), (774, .pointer (some ⟨z5, 5, none⟩))]) (by kernel_rfl) ?_
 clear HF; intro a HF
 refine o7 rfl HF ⟨HM.cellAt (i := 0) (k := 2) rfl rfl, HM.cellAt (i := 0) (k := 5) rfl rfl⟩ rfl (aJ v.bH) (by kernel_rfl) (fun w hw => iE rfl rfl (by kernel_rfl) hw.2) ?_
 clear HF; intro a HF; replace HF := HF.sub ((pR b o n c s fb big ak aj au ah pd i z5) ++ [(770, aA v.off), (774, .pointer (some ⟨z5, 5, none⟩)), (775, aJ v.bH)]) (by kernel_rfl)
 refine jl (LS := []) (fun _ _ => jM _) HF ⟨HM.cellAt (i := 0) (k := 2) rfl rfl, HM.cellAt (i := 0) (k := 5) rfl rfl⟩ 1 [] ((pR b o n c s fb big ak aj au ah pd i z5) ++ [(770, aA v.off), (776, ay (IntKind.i64.wrap ((v.bH : Nat) : Int)))]) (by kernel_rfl) ?_
 clear HF; intro a HF
 rw [show IntKind.i64.wrap ((v.bH : Nat) : Int) = ((v.bH : Nat) : Int) from IntWalk.i64_in _ (by omega)] at HF
 refine nS rfl ?_
 refine bn HF (by kernel_rfl) 92 #[.iface 178 (.slice (some ⟨b, o, none⟩) n c), aA v.off, aA v.bH] (by kernel_rfl) (fun w => by kernel_rfl) (Calls.mono (nX 178 (.slice (some ⟨b, o, none⟩) n c) ((v.off : Nat) : Int) ((v.bH : Nat) : Int) (by omega) (by omega) (by omega) w10) ?_)
 rintro _ rZ ⟨sb, rfl, hb, hge, hgn⟩
 replace HM : Mm [fb, pg, pd] W1 rZ [oK sb b o n c v, qW z5 v, gW fb dat abi aF big aS aG aB pg i aj, (pg, .cells cur 136 (0, 0)), (pd, .cells (X.map Bv).toArray 5 (0, 0))] := HM.push hb hge hgn
 clear hb hge hgn
 refine ⟨_, rfl, ?_⟩; clear HF; intro a HF; replace HF := HF.sub ((pR b o n c s fb big ak aj au ah pd i z5) ++ [(770, aA v.off), (776, aA v.bH), (777, aC sb)]) (by kernel_rfl)
 refine o8 ⟨HM.cellAt (i := 1) (k := 2) rfl rfl, HM.cellAt (i := 1) (k := 5) rfl rfl⟩ ?_
 refine jl (LS := []) (fun _ _ => jM _) HF ⟨HM.cellAt (i := 1) (k := 2) rfl rfl, HM.cellAt (i := 1) (k := 5) rfl rfl⟩ 2 [] ((fB b o n c s fb big ak aj au ah pd i z5) ++ [(777, aC sb), (779, .pointer (some ⟨z5, 9, none⟩))]) (by kernel_rfl) ?_
 clear HF; intro a HF
 refine nS rfl ?_
 refine aO HF HM rfl 1 [[3]] (fB b o n c s fb big ak aj au ah pd i z5) [oK sb b o n c v, (z5, .cells #[aA v.ty, aX v.flags, aJ v.off, aJ v.bI, aJ v.bJ, aJ v.bH, aJ v.bM, aJ v.align, .nilIface, aC sb] 146 (0, 0)), gW fb dat abi aF big aS aG aB pg i aj, (pg, .cells cur 136 (0, 0)), (pd, .cells (X.map Bv).toArray 5 (0, 0))] (by kernel_rfl) ?_
 clear HF HM; intro a w HF HM
 refine o8 ⟨HM.cellAt (i := 1) (k := 2) rfl rfl, HM.cellAt (i := 1) (k := 5) rfl rfl⟩ ?_
 refine xg (aQ ?_)
 refine bC HF HM rfl [[3], [3]] (fB b o n c s fb big ak aj au ah pd i z5) [oK sb b o n c v, qV z5 v sb, gW fb dat abi aF big aS aG aB pg i aj, (pg, .cells cur 136 (0, 0)), (pd, .cells (X.map Bv).toArray 5 (0, 0))] (by kernel_rfl) ?_
 clear HF HM; intro a w HF HM
 refine wp_region_lit ?_
 obtain ⟨rY, AQ⟩ : ∃ z, w.heap.size = z := ⟨_, rfl⟩
 refine aO HF HM AQ 7 [[2]] ((fB b o n c s fb big ak aj au ah pd i z5) ++ [(788, aC fb), (792, aH pg i aj), (794, aH rY 1 1)]) [(rY, .cells #[aC z5] 136 (0, 0)), oK sb b o n c v, qV z5 v sb, gW fb dat abi aF big aS aG aB pg i aj, (pg, .cells cur 136 (0, 0)), (pd, .cells (X.map Bv).toArray 5 (0, 0))] (by kernel_rfl) ?_
 clear HF HM AQ; intro a w HF HM
 refine oP HF HM rfl _ _ 127 rfl rfl 136 (.pointer none) 8 Tryd.underlying127 wC 4 0 pg _ i aj cur _ _ rfl hcs (by omega) (by unfold maxLen; omega) rfl rfl rfl rfl ?_
 intro a2 w12 cur' hcs' htk bU HF2; clear HF HM; have HM : Mm [fb, pg, pd] W1 w12 [(rY, .cells #[aC z5] 136 (0, 0)), oK sb b o n c v, qV z5 v sb, gW fb dat abi aF big aS aG aB pg i aj, (pg, .cells cur' 136 (0, 0)), (pd, .cells (X.map Bv).toArray 5 (0, 0))] := bU; have HF := HF2; clear bU HF2
 replace HF := HF.sub ((fB b o n c s fb big ak aj au ah pd i z5) ++ [(788, aC fb), (795, aH pg (i + 1) aj)]) (by kernel_rfl)
 refine aO HF HM rfl 3 [[2]] (fB b o n c s fb big ak aj au ah pd i z5) [(rY, .cells #[aC z5] 136 (0, 0)), oK sb b o n c v, qV z5 v sb, xJ fb dat abi aF big aS aG aB pg i aj, (pg, .cells cur' 136 (0, 0)), (pd, .cells (X.map Bv).toArray 5 (0, 0))] (by kernel_rfl) ?_
 clear HF HM; intro a w HF HM
 refine wpList_nil ?_
 repeat (first | refine aQ ?_ | refine aU ?_)
 refine wp_region_lit ?_
 refine aO HF HM rfl 2 [] ((fB b o n c s fb big ak aj au ah pd i z5) ++ [(595, ay (IntKind.i64.wrap (((i : Nat) : Int) + 1)))]) [(rY, .cells #[aC z5] 136 (0, 0)), oK sb b o n c v, qV z5 v sb, xJ fb dat abi aF big aS aG aB pg i aj, (pg, .cells cur' 136 (0, 0)), (pd, .cells (X.map Bv).toArray 5 (0, 0))] (by kernel_rfl) ?_
 clear HF HM; intro a w HF HM
 rw [show IntKind.i64.wrap (((i : Nat) : Int) + 1) = (((i + 1) : Nat) : Int) from (IntWalk.i64_in _ (by omega)).trans (by omega)] at HF
 refine aO HF HM rfl 1 [] ((nU b o n c s fb big ak aj au ah pd) ++ [(39, aJ (i * 32)), (40, aC z5), (38, aA (i + 1))]) [(rY, .cells #[aC z5] 136 (0, 0)), oK sb b o n c v, qV z5 v sb, xJ fb dat abi aF big aS aG aB pg i aj, (pg, .cells cur' 136 (0, 0)), (pd, .cells (X.map Bv).toArray 5 (0, 0))] (by kernel_rfl) ?_
 clear HF HM; intro a w HF HM
 refine wpList_nil ?_
 repeat (first | refine aQ ?_ | refine aU ?_)
 replace HF := HF.sub ((nU b o n c s fb big ak aj au ah pd) ++ [(38, aA (i + 1))]) (by kernel_rfl)
 exact K a w z5 sb cur' hcs' htk HF (HM.sub (List.Sublist.cons _ (List.Sublist.refl _)))

abbrev nT := fun (b : Nat) (o : Nat) (n : Nat) (c : Nat) (s : Nat) (fb : Nat) (big : Bool) (ak : Nat) (aj : Nat) (au : Nat) (ah : Nat) (pd : Nat) => ([(0, .iface 178 (.slice (some ⟨b, o, none⟩) n c)), (4, aC s), (8, aC fb), (9, (aP big)), (10, aA ak), (11, ay 56), (12, aA aj), (13, aA au), (14, ay 64), (15, aA ah), (16, aA (ah - 1)), (26, ay 64), (36, aH pd (aj * 56) (aj * 56))] : Slots)
abbrev xG := fun (fb : Nat) (dat : Int) (abi : Nat) (aF : Nat) (big : Bool) (aS : Nat) (aG : Nat) (aB : Nat) (pg : Nat) (i : Nat) (aj : Nat) => ((fb, .cells #[aK 2, .int .u8 dat, aK 1, aV abi, aV aF, (aP big), bf aS, bf aG, aJ aB, aN, aH pg (i + 1) aj, aN, aN, aN] 131 (0, 0)) : Nat × Obj)
abbrev oJ := fun sb (b : Nat) (o : Nat) (n : Nat) (c : Nat) (v : lD) => ((sb, .cells #[.iface 178 (.slice (some ⟨b, o, none⟩) n c), aA v.off, aA v.off, ay (((v.bH : Nat) : Int) + ((v.off : Nat) : Int)), aA v.bH] 246 (0, 0)) : Nat × Obj)
abbrev gU := fun (fb : Nat) (dat : Int) (abi : Nat) (aF : Nat) (big : Bool) (aS : Nat) (aG : Nat) (aB : Nat) (pg : Nat) (i : Nat) (aj : Nat) => ((fb, .cells #[aK 2, .int .u8 dat, aK 1, aV abi, aV aF, (aP big), bf aS, bf aG, aJ aB, aN, aH pg i aj, aN, aN, aN] 131 (0, 0)) : Nat × Obj)
abbrev mg := fun z5 => ((z5, .cells #[ay 0, lJ 0, bG 0, bG 0, bG 0, bG 0, bG 0, bG 0, .nilIface, .pointer none] 146 (0, 0)) : Nat × Obj)
abbrev dQ := fun (b : Nat) (o : Nat) (n : Nat) (c : Nat) (s : Nat) (fb : Nat) (big : Bool) (ak : Nat) (aj : Nat) (au : Nat) (ah : Nat) (pd : Nat) (i : Nat) z5 => ((nT b o n c s fb big ak aj au ah pd) ++ [(38, aA i), (39, aJ (i * 56)), (40, aC z5)] : Slots)
abbrev J8 := fun (pd : Nat) (i : Nat) (aj : Nat) => ((675, .slice (some ⟨pd, ((i * 56) + 0), none⟩) ((aj * 56) - ((i * 56) + 0)) ((aj * 56) - ((i * 56) + 0))) : Nat × Value)
abbrev xE := fun (b : Nat) (o : Nat) (n : Nat) (c : Nat) (s : Nat) (fb : Nat) (big : Bool) (ak : Nat) (aj : Nat) (au : Nat) (ah : Nat) (pd : Nat) (i : Nat) z5 => ((dQ b o n c s fb big ak aj au ah pd i z5) ++ [(670, aC z5), (671, (aP big)), (675, .slice (some ⟨pd, ((i * 56) + 0), none⟩) ((aj * 56) - ((i * 56) + 0)) ((aj * 56) - ((i * 56) + 0)))] : Slots)
abbrev J7 := fun (pd : Nat) (i : Nat) (aj : Nat) => ((682, .slice (some ⟨pd, ((i * 56) + 4), none⟩) ((aj * 56) - ((i * 56) + 4)) ((aj * 56) - ((i * 56) + 4))) : Nat × Value)
abbrev xC := fun (b : Nat) (o : Nat) (n : Nat) (c : Nat) (s : Nat) (fb : Nat) (big : Bool) (ak : Nat) (aj : Nat) (au : Nat) (ah : Nat) (pd : Nat) (i : Nat) z5 => ((xE b o n c s fb big ak aj au ah pd i z5) ++ [(678, (aP big)), (682, .slice (some ⟨pd, ((i * 56) + 4), none⟩) ((aj * 56) - ((i * 56) + 4)) ((aj * 56) - ((i * 56) + 4)))] : Slots)
abbrev zo := fun (pd : Nat) (i : Nat) (aj : Nat) => ((688, .slice (some ⟨pd, ((i * 56) + 8), none⟩) ((aj * 56) - ((i * 56) + 8)) ((aj * 56) - ((i * 56) + 8))) : Nat × Value)
abbrev vP := fun (b : Nat) (o : Nat) (n : Nat) (c : Nat) (s : Nat) (fb : Nat) (big : Bool) (ak : Nat) (aj : Nat) (au : Nat) (ah : Nat) (pd : Nat) (i : Nat) z5 => ((xC b o n c s fb big ak aj au ah pd i z5) ++ [(684, (aP big)), (688, .slice (some ⟨pd, ((i * 56) + 8), none⟩) ((aj * 56) - ((i * 56) + 8)) ((aj * 56) - ((i * 56) + 8)))] : Slots)
abbrev sW := fun (pd : Nat) (i : Nat) (aj : Nat) => ((694, .slice (some ⟨pd, ((i * 56) + 16), none⟩) ((aj * 56) - ((i * 56) + 16)) ((aj * 56) - ((i * 56) + 16))) : Nat × Value)
abbrev vO := fun (b : Nat) (o : Nat) (n : Nat) (c : Nat) (s : Nat) (fb : Nat) (big : Bool) (ak : Nat) (aj : Nat) (au : Nat) (ah : Nat) (pd : Nat) (i : Nat) z5 => ((vP b o n c s fb big ak aj au ah pd i z5) ++ [(690, (aP big)), (694, .slice (some ⟨pd, ((i * 56) + 16), none⟩) ((aj * 56) - ((i * 56) + 16)) ((aj * 56) - ((i * 56) + 16)))] : Slots)
abbrev pO := fun (pd : Nat) (i : Nat) (aj : Nat) => ((700, .slice (some ⟨pd, ((i * 56) + 24), none⟩) ((aj * 56) - ((i * 56) + 24)) ((aj * 56) - ((i * 56) + 24))) : Nat × Value)
abbrev vN := fun (b : Nat) (o : Nat) (n : Nat) (c : Nat) (s : Nat) (fb : Nat) (big : Bool) (ak : Nat) (aj : Nat) (au : Nat) (ah : Nat) (pd : Nat) (i : Nat) z5 => ((vO b o n c s fb big ak aj au ah pd i z5) ++ [(696, (aP big)), (700, .slice (some ⟨pd, ((i * 56) + 24), none⟩) ((aj * 56) - ((i * 56) + 24)) ((aj * 56) - ((i * 56) + 24)))] : Slots)
abbrev nN := fun (pd : Nat) (i : Nat) (aj : Nat) => ((706, .slice (some ⟨pd, ((i * 56) + 32), none⟩) ((aj * 56) - ((i * 56) + 32)) ((aj * 56) - ((i * 56) + 32))) : Nat × Value)
abbrev vM := fun (b : Nat) (o : Nat) (n : Nat) (c : Nat) (s : Nat) (fb : Nat) (big : Bool) (ak : Nat) (aj : Nat) (au : Nat) (ah : Nat) (pd : Nat) (i : Nat) z5 => ((vN b o n c s fb big ak aj au ah pd i z5) ++ [(702, (aP big)), (706, .slice (some ⟨pd, ((i * 56) + 32), none⟩) ((aj * 56) - ((i * 56) + 32)) ((aj * 56) - ((i * 56) + 32)))] : Slots)
abbrev lW := fun (pd : Nat) (i : Nat) (aj : Nat) => ((712, .slice (some ⟨pd, ((i * 56) + 40), none⟩) ((aj * 56) - ((i * 56) + 40)) ((aj * 56) - ((i * 56) + 40))) : Nat × Value)
abbrev sV := fun (b : Nat) (o : Nat) (n : Nat) (c : Nat) (s : Nat) (fb : Nat) (big : Bool) (ak : Nat) (aj : Nat) (au : Nat) (ah : Nat) (pd : Nat) (i : Nat) z5 => ((vM b o n c s fb big ak aj au ah pd i z5) ++ [(708, (aP big)), (712, .slice (some ⟨pd, ((i * 56) + 40), none⟩) ((aj * 56) - ((i * 56) + 40)) ((aj * 56) - ((i * 56) + 40)))] : Slots)
abbrev ku := fun (pd : Nat) (i : Nat) (aj : Nat) => ((718, .slice (some ⟨pd, ((i * 56) + 48), none⟩) ((aj * 56) - ((i * 56) + 48)) ((aj * 56) - ((i * 56) + 48))) : Nat × Value)
abbrev zn := fun (b : Nat) (o : Nat) (n : Nat) (c : Nat) (s : Nat) (fb : Nat) (big : Bool) (ak : Nat) (aj : Nat) (au : Nat) (ah : Nat) (pd : Nat) (i : Nat) z5 => ((dQ b o n c s fb big ak aj au ah pd i z5) ++ [(670, aC z5), (678, (aP big)), (682, .slice (some ⟨pd, ((i * 56) + 4), none⟩) ((aj * 56) - ((i * 56) + 4)) ((aj * 56) - ((i * 56) + 4))), (684, (aP big)), (688, .slice (some ⟨pd, ((i * 56) + 8), none⟩) ((aj * 56) - ((i * 56) + 8)) ((aj * 56) - ((i * 56) + 8))), (690, (aP big)), (694, .slice (some ⟨pd, ((i * 56) + 16), none⟩) ((aj * 56) - ((i * 56) + 16)) ((aj * 56) - ((i * 56) + 16))), (696, (aP big)), (700, .slice (some ⟨pd, ((i * 56) + 24), none⟩) ((aj * 56) - ((i * 56) + 24)) ((aj * 56) - ((i * 56) + 24))), (702, (aP big)), (706, .slice (some ⟨pd, ((i * 56) + 32), none⟩) ((aj * 56) - ((i * 56) + 32)) ((aj * 56) - ((i * 56) + 32))), (708, (aP big)), (712, .slice (some ⟨pd, ((i * 56) + 40), none⟩) ((aj * 56) - ((i * 56) + 40)) ((aj * 56) - ((i * 56) + 40))), (714, (aP big)), (718, .slice (some ⟨pd, ((i * 56) + 48), none⟩) ((aj * 56) - ((i * 56) + 48)) ((aj * 56) - ((i * 56) + 48)))] : Slots)
abbrev qU := fun z5 (v : lD) => ((z5, .cells #[aA v.ty, aX v.flags, aJ v.off, aJ v.bI, aJ v.bJ, aJ v.bH, aJ v.bM, aJ v.align, .nilIface, .pointer none] 146 (0, 0)) : Nat × Obj)
abbrev pK := fun (b : Nat) (o : Nat) (n : Nat) (c : Nat) (s : Nat) (fb : Nat) (big : Bool) (ak : Nat) (aj : Nat) (au : Nat) (ah : Nat) (pd : Nat) (i : Nat) z5 => ((dQ b o n c s fb big ak aj au ah pd i z5) ++ [(763, aC z5), (764, .iface 178 (.slice (some ⟨b, o, none⟩) n c))] : Slots)
abbrev qR := fun z5 (v : lD) sb => ((z5, .cells #[aA v.ty, aX v.flags, aJ v.off, aJ v.bI, aJ v.bJ, aJ v.bH, aJ v.bM, aJ v.align, .iface 144 (aC sb), aC sb] 146 (0, 0)) : Nat × Obj)
theorem NJ (l : List UInt8) (b o n c : Nat) (hl : n = l.length) (hnc : n ≤ c) (big : Bool) (abi aF aS aG aB ak aj au ah : Nat) (dat : Int) (b1 : aS < 65536) (b2 : aG < 65536) (b3 : aB ≤ 18446744073709551615) (b4 : ak < 4611686018427387904) (b5 : au < 4611686018427387904) (b6 : aj < 200) (b7 : ah < 200) (X : List UInt8) (nI : X.length = (aj * 56)) (i : Nat) (hi : i < aj) (v : lD) (hv : um (X.drop (i * 56)) true big v.ty v.flags v.bI v.bJ v.bM v.align v.bH v.off)
  (v1 : v.ty < 4294967296) (v2 : v.off + v.bH < 4611686018427387904) (v3 : v.bI ≤ 18446744073709551615) (v4 : v.bJ ≤ 18446744073709551615) (v5 : v.bM ≤ 18446744073709551615) (v6 : v.align ≤ 18446744073709551615) {K0 : Act → World → Prop} {Q : Exit → Act → World → Prop} (a : Act) (W1 : World) (s fb pg pd : Nat) (cur : Array Value) (hcs : cur.size = aj)
  (h1 : W1.heap[fb]? = some (.cells #[aK 2, .int .u8 dat, aK 1, aV abi, aV aF, (aP big), bf aS, bf aG, aJ aB, aN, aH pg i aj, aN, aN, aN] 131 (0, 0))) (h2 : W1.heap[pg]? = some (.cells cur 136 (0, 0))) (h3 : W1.heap[pd]? = some (.cells (X.map Bv).toArray 5 (0, 0))) (n1 : fb ≠ pg) (n2 : fb ≠ pd) (n3 : pg ≠ pd) (HF : Fr 1287 a ((nT b o n c s fb big ak aj au ah pd) ++ [(38, aA i)]))
  (K : ∀ a w' pb sb cur', cur'.size = aj → cur'.toList.take (i + 1) = cur.toList.take i ++ [aC pb] → Fr 1287 a ((nT b o n c s fb big ak aj au ah pd) ++ [(38, aA (i + 1))]) → Mm [fb, pg, pd] W1 w' [oJ sb b o n c v, (pb, .cells #[aA v.ty, aX v.flags, aJ v.off, aJ v.bI, aJ v.bJ, aJ v.bH, aJ v.bM, aJ v.align, .iface 144 (aC sb), aC sb] 146 (0, 0)), xG fb dat abi aF big aS aG aB pg i aj, (pg, .cells cur' 136 (0, 0)), (pd, .cells (X.map Bv).toArray 5 (0, 0))] → K0 a w') : (oG (spine Tryd.f78 35)).wp Tryd.prog (Exit.then K0 Q) a W1 := by
 obtain ⟨i0, hi0, hs0⟩ := uq
 have e0 : num big X ((i * 56) + 0) 4 = v.ty := (fJ big X (i * 56) 0 4).symm.trans hv.ty
 have e1 : num big X ((i * 56) + 4) 4 = v.flags := (fJ big X (i * 56) 4 4).symm.trans hv.flags
 have e2 : num big X ((i * 56) + 8) 8 = v.off := (fJ big X (i * 56) 8 8).symm.trans hv.off
 have e3 : num big X ((i * 56) + 16) 8 = v.bI := (fJ big X (i * 56) 16 8).symm.trans hv.bI
 have e4 : num big X ((i * 56) + 24) 8 = v.bJ := (fJ big X (i * 56) 24 8).symm.trans hv.bJ
 have e5 : num big X ((i * 56) + 32) 8 = v.bH := (fJ big X (i * 56) 32 8).symm.trans hv.KI
 have e6 : num big X ((i * 56) + 40) 8 = v.bM := (fJ big X (i * 56) 40 8).symm.trans hv.bM
 have e7 : num big X ((i * 56) + 48) 8 = v.align := (fJ big X (i * 56) 48 8).symm.trans hv.align
 obtain ⟨w, hw⟩ : ∃ w, W1 = w := ⟨_, rfl⟩
 have HM : Mm [fb, pg, pd] W1 w [gU fb dat abi aF big aS aG aB pg i aj, (pg, .cells cur 136 (0, 0)), (pd, .cells (X.map Bv).toArray 5 (0, 0))] := hw ▸ Mm.start3 h1 h2 h3 n1 n2 n3
 conv => arg 5; rw [hw]
 clear hw
 refine wp_seq ?_
 refine wp_seq (wp_region_lit ?_)
 refine aO HF HM rfl 3 [] ((nT b o n c s fb big ak aj au ah pd) ++ [(38, aA i), (593, .bool (decide (((i : Nat) : Int) < ((aj : Nat) : Int))))]) [gU fb dat abi aF big aS aG aB pg i aj, (pg, .cells cur 136 (0, 0)), (pd, .cells (X.map Bv).toArray 5 (0, 0))] (by kernel_rfl) ?_
 clear HF HM; intro a w HF HM
 rw [show decide (((i : Nat) : Int) < ((aj : Nat) : Int)) = true from fC (by omega)] at HF
 refine aI ?_
 refine bF HF rfl ?_
 refine wp_skip ?_
 repeat (first | refine aQ ?_ | refine aU ?_)
 replace HF := HF.sub ((nT b o n c s fb big ak aj au ah pd) ++ [(38, aA i)]) (by kernel_rfl)
 refine wp_seq (wp_block ?_)
 refine wp_seq (wp_region_lit ?_)
 refine aO HF HM rfl 2 [] ((nT b o n c s fb big ak aj au ah pd) ++ [(38, aA i), (597, bG (IntKind.u64.wrap ((i : Nat) : Int)))]) [gU fb dat abi aF big aS aG aB pg i aj, (pg, .cells cur 136 (0, 0)), (pd, .cells (X.map Bv).toArray 5 (0, 0))] (by kernel_rfl) ?_
 clear HF HM; intro a w HF HM
 rw [show IntKind.u64.wrap ((i : Nat) : Int) = ((i : Nat) : Int) from IntWalk.u64_in _ (by omega)] at HF
 refine aO HF HM rfl 3 [] ((nT b o n c s fb big ak aj au ah pd) ++ [(38, aA i), (600, bG (IntKind.u64.wrap (((i : Nat) : Int) * 56)))]) [gU fb dat abi aF big aS aG aB pg i aj, (pg, .cells cur 136 (0, 0)), (pd, .cells (X.map Bv).toArray 5 (0, 0))] (by kernel_rfl) ?_
 clear HF HM; intro a w HF HM
 rw [show IntKind.u64.wrap (((i : Nat) : Int) * 56) = (((i * 56) : Nat) : Int) from (IntWalk.u64_in _ (by omega)).trans (by omega)] at HF
 refine aO HF HM rfl 1 [] ((nT b o n c s fb big ak aj au ah pd) ++ [(38, aA i), (39, aJ (i * 56))]) [gU fb dat abi aF big aS aG aB pg i aj, (pg, .cells cur 136 (0, 0)), (pd, .cells (X.map Bv).toArray 5 (0, 0))] (by kernel_rfl) ?_
 clear HF HM; intro a w HF HM
 refine aI ?_
 obtain ⟨z5, uT⟩ : ∃ z, w.heap.size = z := ⟨_, rfl⟩
 refine bC HF HM uT [] (dQ b o n c s fb big ak aj au ah pd i z5) [mg z5, gU fb dat abi aF big aS aG aB pg i aj, (pg, .cells cur 136 (0, 0)), (pd, .cells (X.map Bv).toArray 5 (0, 0))] (by kernel_rfl) ?_
 clear HF HM uT; intro a w HF HM
 refine wp_seq ?_
 refine bC HF HM rfl [[2]] ((dQ b o n c s fb big ak aj au ah pd i z5) ++ [(606, aK 2)]) [mg z5, gU fb dat abi aF big aS aG aB pg i aj, (pg, .cells cur 136 (0, 0)), (pd, .cells (X.map Bv).toArray 5 (0, 0))] (by kernel_rfl) ?_
 clear HF HM; intro a w HF HM
 refine wp_block ?_
 refine bC HF HM rfl [] ((dQ b o n c s fb big ak aj au ah pd i z5) ++ [(606, aK 2), (607, .bool false)]) [mg z5, gU fb dat abi aF big aS aG aB pg i aj, (pg, .cells cur 136 (0, 0)), (pd, .cells (X.map Bv).toArray 5 (0, 0))] (by kernel_rfl) ?_
 clear HF HM; intro a w HF HM
 refine aZ HF rfl ?_
 refine bC HF HM rfl [] ((dQ b o n c s fb big ak aj au ah pd i z5) ++ [(606, aK 2), (668, .bool true)]) [mg z5, gU fb dat abi aF big aS aG aB pg i aj, (pg, .cells cur 136 (0, 0)), (pd, .cells (X.map Bv).toArray 5 (0, 0))] (by kernel_rfl) ?_
 clear HF HM; intro a w HF HM
 refine bF HF rfl ?_
 replace HF := HF.sub (dQ b o n c s fb big ak aj au ah pd i z5) (by kernel_rfl)
 refine rQ HM (by kernel_rfl) [(pd, .cells (X.map Bv).toArray 5 (0, 0))] [(0, false), (1, false), (2, false), (3, false), (4, false), (5, false), (8, false), (9, false), (10, false), (11, false), (12, false), (14, false), (15, false), (16, false), (17, false), (18, false), (20, false), (21, false), (22, false), (23, false), (24, false), (26, false), (27, false), (28, false), (29, false), (30, false), (32, false), (33, false), (34, false), (35, false), (36, false), (38, false), (39, false), (40, false), (41, false), (42, false), (44, false), (45, false), (46, false), (47, false), (48, false), (6, true), (7, false), (13, true), (19, true), (25, true), (31, true), (37, true), (43, true), (49, true), (50, false), (51, false), (52, false), (53, true)] (by kernel_rfl) ?_
 clear HM; intro w1 HM
 refine bD HF (HM.told [3] rfl) 1 [] ((dQ b o n c s fb big ak aj au ah pd i z5) ++ [(670, aC z5)]) (by kernel_rfl) ?_
 clear HF; intro a HF
 refine bD HF (HM.told [3] rfl) 4 [] ((dQ b o n c s fb big ak aj au ah pd i z5) ++ [(670, aC z5), (671, (aP big)), (672, aH pd (aj * 56) (aj * 56)), (674, bG (IntKind.u64.wrap ((((i * 56) : Nat) : Int) + 0)))]) (by kernel_rfl) ?_
 clear HF; intro a HF
 rw [show IntKind.u64.wrap ((((i * 56) : Nat) : Int) + 0) = ((((i * 56) + 0) : Nat) : Int) from (IntWalk.u64_in _ (by omega)).trans (by omega)] at HF
 refine eu rfl HF (HM.told [3] rfl) rfl (.slice (some ⟨pd, ((i * 56) + 0), none⟩) ((aj * 56) - ((i * 56) + 0)) ((aj * 56) - ((i * 56) + 0))) (by kernel_rfl) (fun w hw => eG (t := 33) Tryd.underlying33 hi0 hs0 rfl ((i * 56) + 0) (kk := .u64) rfl rfl (by omega) (by omega) (by omega) w) ?_
 clear HF; intro a HF; replace HF := HF.sub ((dQ b o n c s fb big ak aj au ah pd i z5) ++ [(670, aC z5), (671, (aP big)), (672, aH pd (aj * 56) (aj * 56)), (674, aJ ((i * 56) + 0)), J8 pd i aj]) (by kernel_rfl)
 replace HF := HF.sub (xE b o n c s fb big ak aj au ah pd i z5) (by kernel_rfl)
 refine bD HF (HM.told [3] rfl) 4 [] ((xE b o n c s fb big ak aj au ah pd i z5) ++ [(678, (aP big)), (679, aH pd (aj * 56) (aj * 56)), (681, bG (IntKind.u64.wrap ((((i * 56) : Nat) : Int) + 4)))]) (by kernel_rfl) ?_
 clear HF; intro a HF
 rw [show IntKind.u64.wrap ((((i * 56) : Nat) : Int) + 4) = ((((i * 56) + 4) : Nat) : Int) from (IntWalk.u64_in _ (by omega)).trans (by omega)] at HF
 refine eu rfl HF (HM.told [3] rfl) rfl (.slice (some ⟨pd, ((i * 56) + 4), none⟩) ((aj * 56) - ((i * 56) + 4)) ((aj * 56) - ((i * 56) + 4))) (by kernel_rfl) (fun w hw => eG (t := 33) Tryd.underlying33 hi0 hs0 rfl ((i * 56) + 4) (kk := .u64) rfl rfl (by omega) (by omega) (by omega) w) ?_
 clear HF; intro a HF; replace HF := HF.sub ((xE b o n c s fb big ak aj au ah pd i z5) ++ [(678, (aP big)), (679, aH pd (aj * 56) (aj * 56)), (681, aJ ((i * 56) + 4)), J7 pd i aj]) (by kernel_rfl)
 replace HF := HF.sub (xC b o n c s fb big ak aj au ah pd i z5) (by kernel_rfl)
 refine bD HF (HM.told [3] rfl) 4 [] ((xC b o n c s fb big ak aj au ah pd i z5) ++ [(684, (aP big)), (685, aH pd (aj * 56) (aj * 56)), (687, bG (IntKind.u64.wrap ((((i * 56) : Nat) : Int) + 8)))]) (by kernel_rfl) ?_
 clear HF; intro a HF
 rw [show IntKind.u64.wrap ((((i * 56) : Nat) : Int) + 8) = ((((i * 56) + 8) : Nat) : Int) from (IntWalk.u64_in _ (by omega)).trans (by omega)] at HF
 refine eu rfl HF (HM.told [3] rfl) rfl (.slice (some ⟨pd, ((i * 56) + 8), none⟩) ((aj * 56) - ((i * 56) + 8)) ((aj * 56) - ((i * 56) + 8))) (by kernel_rfl) (fun w hw => eG (t := 33) Tryd.underlying33 hi0 hs0 rfl ((i * 56) + 8) (kk := .u64) rfl rfl (by omega) (by omega) (by omega) w) ?_
 clear HF; intro a HF; replace HF := HF.sub ((xC b o n c s fb big ak aj au ah pd i z5) ++ [(684, (aP big)), (685, aH pd (aj * 56) (aj * 56)), (687, aJ ((i * 56) + 8)), zo pd i aj]) (by kernel_rfl)
 replace HF := HF.sub (vP b o n c s fb big ak aj au ah pd i z5) (by kernel_rfl)
 refine bD HF (HM.told [3] rfl) 4 [] ((vP b o n c s fb big ak aj au ah pd i z5) ++ [(690, (aP big)), (691, aH pd (aj * 56) (aj * 56)), (693, bG (IntKind.u64.wrap ((((i * 56) : Nat) : Int) + 16)))]) (by kernel_rfl) ?_
 clear HF; intro a HF
 rw [show IntKind.u64.wrap ((((i * 56) : Nat) : Int) + 16) = ((((i * 56) + 16) : Nat) : Int) from (IntWalk.u64_in _ (by omega)).trans (by omega)] at HF
 refine eu rfl HF (HM.told [3] rfl) rfl (.slice (some ⟨pd, ((i * 56) + 16), none⟩) ((aj * 56) - ((i * 56) + 16)) ((aj * 56) - ((i * 56) + 16))) (by kernel_rfl) (fun w hw => eG (t := 33) Tryd.underlying33 hi0 hs0 rfl ((i * 56) + 16) (kk := .u64) rfl rfl (by omega) (by omega) (by omega) w) ?_
 clear HF; intro a HF; replace HF := HF.sub ((vP b o n c s fb big ak aj au ah pd i z5) ++ [(690, (aP big)), (691, aH pd (aj * 56) (aj * 56)), (693, aJ ((i * 56) + 16)), sW pd i aj]) (by kernel_rfl)
 replace HF := HF.sub (vO b o n c s fb big ak aj au ah pd i z5) (by kernel_rfl)
 refine bD HF (HM.told [3] rfl) 4 [] ((vO b o n c s fb big ak aj au ah pd i z5) ++ [(696, (aP big)), (697, aH pd (aj * 56) (aj * 56)), (699, bG (IntKind.u64.wrap ((((i * 56) : Nat) : Int) + 24)))]) (by kernel_rfl) ?_
 clear HF; intro a HF
 rw [show IntKind.u64.wrap ((((i * 56) : Nat) : Int) + 24) = ((((i * 56) + 24) : Nat) : Int) from (IntWalk.u64_in _ (by omega)).trans (by omega)] at HF
 refine eu rfl HF (HM.told [3] rfl) rfl (.slice (some ⟨pd, ((i * 56) + 24), none⟩) ((aj * 56) - ((i * 56) + 24)) ((aj * 56) - ((i * 56) + 24))) (by kernel_rfl) (fun w hw => eG (t := 33) Tryd.underlying33 hi0 hs0 rfl ((i * 56) + 24) (kk := .u64) rfl rfl (by omega) (by omega) (by omega) w) ?_
 clear HF; intro a HF; replace HF := HF.sub ((vO b o n c s fb big ak aj au ah pd i z5) ++ [(696, (aP big)), (697, aH pd (aj * 56) (aj * 56)), (699, aJ ((i * 56) + 24)), pO pd i aj]) (by kernel_rfl)
 replace HF := HF.sub (vN b o n c s fb big ak aj au ah pd i z5) (by kernel_rfl)
 refine bD HF (HM.told [3] rfl) 4 [] ((vN b o n c s fb big ak aj au ah pd i z5) ++ [(702, (aP big)), (703, aH pd (aj * 56) (aj * 56)), (705, bG (IntKind.u64.wrap ((((i * 56) : Nat) : Int) + 32)))]) (by kernel_rfl) ?_
 clear HF; intro a HF
 rw [show IntKind.u64.wrap ((((i * 56) : Nat) : Int) + 32) = ((((i * 56) + 32) : Nat) : Int) from (IntWalk.u64_in _ (by omega)).trans (by omega)] at HF
 refine eu rfl HF (HM.told [3] rfl) rfl (.slice (some ⟨pd, ((i * 56) + 32), none⟩) ((aj * 56) - ((i * 56) + 32)) ((aj * 56) - ((i * 56) + 32))) (by kernel_rfl) (fun w hw => eG (t := 33) Tryd.underlying33 hi0 hs0 rfl ((i * 56) + 32) (kk := .u64) rfl rfl (by omega) (by omega) (by omega) w) ?_
 clear HF; intro a HF; replace HF := HF.sub ((vN b o n c s fb big ak aj au ah pd i z5) ++ [(702, (aP big)), (703, aH pd (aj * 56) (aj * 56)), (705, aJ ((i * 56) + 32)), nN pd i aj]) (by kernel_rfl)
 replace HF := HF.sub (vM b o n c s fb big ak aj au ah pd i z5) (by kernel_rfl)
 refine bD HF (HM.told [3] rfl) 4 [] ((vM b o n c s fb big ak aj au ah pd i z5) ++ [(708, (aP big)), (709, aH pd (aj * 56) (aj * 56)), (711, bG (IntKind.u64.wrap ((((i * 56) : Nat) : Int) + 40)))]) (by kernel_rfl) ?_
 clear HF; intro a HF
 rw [show IntKind.u64.wrap ((((i * 56) : Nat) : Int) + 40) = ((((i * 56) + 40) : Nat) : Int) from (IntWalk.u64_in _ (by omega)).trans (by omega)] at HF
 refine eu rfl HF (HM.told [3] rfl) rfl (.slice (some ⟨pd, ((i * 56) + 40), none⟩) ((aj * 56) - ((i * 56) + 40)) ((aj * 56) - ((i * 56) + 40))) (by kernel_rfl) (fun w hw => eG (t := 33) Tryd.underlying33 hi0 hs0 rfl ((i * 56) + 40) (kk := .u64) rfl rfl (by omega) (by omega) (by omega) w) ?_
 clear HF; intro a HF; replace HF := HF.sub ((vM b o n c s fb big ak aj au ah pd i z5) ++ [(708, (aP big)), (709, aH pd (aj * 56) (aj * 56)), (711, aJ ((i * 56) + 40)), lW pd i aj]) (by kernel_rfl)
 replace HF := HF.sub (sV b o n c s fb big ak aj au ah pd i z5) (by kernel_rfl)
 refine bD HF (HM.told [3] rfl) 4 [] ((sV b o n c s fb big ak aj au ah pd i z5) ++ [(714, (aP big)), (715, aH pd (aj * 56) (aj * 56)), (717, bG (IntKind.u64.wrap ((((i * 56) : Nat) : Int) + 48)))]) (by kernel_rfl) ?_
 clear HF; intro a HF
 rw [show IntKind.u64.wrap ((((i * 56) : Nat) : Int) + 48) = ((((i * 56) + 48) : Nat) : Int) from (IntWalk.u64_in _ (by omega)).trans (by omega)] at HF
 refine eu rfl HF (HM.told [3] rfl) rfl (.slice (some ⟨pd, ((i * 56) + 48), none⟩) ((aj * 56) - ((i * 56) + 48)) ((aj * 56) - ((i * 56) + 48))) (by kernel_rfl) (fun w hw => eG (t := 33) Tryd.underlying33 hi0 hs0 rfl ((i * 56) + 48) (kk := .u64) rfl rfl (by omega) (by omega) (by omega) w) ?_
 clear HF; intro a HF; replace HF := HF.sub ((sV b o n c s fb big ak aj au ah pd i z5) ++ [(714, (aP big)), (715, aH pd (aj * 56) (aj * 56)), (717, aJ ((i * 56) + 48)), ku pd i aj]) (by kernel_rfl)
 replace HF := HF.sub ((sV b o n c s fb big ak aj au ah pd i z5) ++ [(714, (aP big)), ku pd i aj]) (by kernel_rfl)
 refine bQ rfl ?_
 refine bn HF (by kernel_rfl) 87 #[(aP big), .slice (some ⟨pd, ((i * 56) + 0), none⟩) ((aj * 56) - ((i * 56) + 0)) ((aj * 56) - ((i * 56) + 0))] (by kernel_rfl) (fun w => by kernel_rfl) (Calls.mono (jy (HM.get (i := 3) rfl) (by unfold maxLen; omega) big ((i * 56) + 0) ((aj * 56) - ((i * 56) + 0)) (by omega) (by omega) ((v.ty : Nat) : Int) (by rw [e0])) ?_)
 rintro _ w2 ⟨rfl, jF, hq⟩
 replace HM : Mm [fb, pg, pd] W1 w2 [mg z5, gU fb dat abi aF big aS aG aB pg i aj, (pg, .cells cur 136 (0, 0)), (pd, .cells (X.map Bv).toArray 5 (0, 0))] := by rw [hq]; exact HM.drewN _
 clear hq
 refine ⟨_, rfl, ?_⟩; clear HF; intro a HF; replace HF := HF.sub ((sV b o n c s fb big ak aj au ah pd i z5) ++ [(714, (aP big)), ku pd i aj, (676, aX v.ty)]) (by kernel_rfl)
 refine cZ (HM.told [3] rfl) ?_
 replace HF := HF.sub ((zn b o n c s fb big ak aj au ah pd i z5) ++ [(676, aX v.ty)]) (by kernel_rfl)
 refine bD HF (HM.told [3] rfl) 1 [] ((zn b o n c s fb big ak aj au ah pd i z5) ++ [(677, ay (IntKind.i64.wrap ((v.ty : Nat) : Int)))]) (by kernel_rfl) ?_
 clear HF; intro a HF
 rw [show IntKind.i64.wrap ((v.ty : Nat) : Int) = ((v.ty : Nat) : Int) from IntWalk.i64_in _ (by omega)] at HF
 refine bQ rfl ?_
 refine bn HF (by kernel_rfl) 87 #[(aP big), .slice (some ⟨pd, ((i * 56) + 4), none⟩) ((aj * 56) - ((i * 56) + 4)) ((aj * 56) - ((i * 56) + 4))] (by kernel_rfl) (fun w => by kernel_rfl) (Calls.mono (jy (HM.get (i := 3) rfl) (by unfold maxLen; omega) big ((i * 56) + 4) ((aj * 56) - ((i * 56) + 4)) (by omega) (by omega) ((v.flags : Nat) : Int) (by rw [e1])) ?_)
 rintro _ w3 ⟨rfl, jF, hq⟩
 replace HM : Mm [fb, pg, pd] W1 w3 [mg z5, gU fb dat abi aF big aS aG aB pg i aj, (pg, .cells cur 136 (0, 0)), (pd, .cells (X.map Bv).toArray 5 (0, 0))] := by rw [hq]; exact HM.drewN _
 clear hq
 refine ⟨_, rfl, ?_⟩; clear HF; intro a HF; replace HF := HF.sub ((zn b o n c s fb big ak aj au ah pd i z5) ++ [(677, aA v.ty), (683, aX v.flags)]) (by kernel_rfl)
 refine cZ (HM.told [3] rfl) ?_
 replace HF := HF.sub ((dQ b o n c s fb big ak aj au ah pd i z5) ++ [(670, aC z5), (684, (aP big)), zo pd i aj, (690, (aP big)), sW pd i aj, (696, (aP big)), pO pd i aj, (702, (aP big)), nN pd i aj, (708, (aP big)), lW pd i aj, (714, (aP big)), ku pd i aj, (677, aA v.ty), (683, aX v.flags)]) (by kernel_rfl)
 refine bQ rfl ?_
 refine bn HF (by kernel_rfl) 88 #[(aP big), .slice (some ⟨pd, ((i * 56) + 8), none⟩) ((aj * 56) - ((i * 56) + 8)) ((aj * 56) - ((i * 56) + 8))] (by kernel_rfl) (fun w => by kernel_rfl) (Calls.mono (oh (HM.get (i := 3) rfl) (by unfold maxLen; omega) big ((i * 56) + 8) ((aj * 56) - ((i * 56) + 8)) (by omega) (by omega) ((v.off : Nat) : Int) (by rw [e2])) ?_)
 rintro _ w4 ⟨rfl, jF, hq⟩
 replace HM : Mm [fb, pg, pd] W1 w4 [mg z5, gU fb dat abi aF big aS aG aB pg i aj, (pg, .cells cur 136 (0, 0)), (pd, .cells (X.map Bv).toArray 5 (0, 0))] := by rw [hq]; exact HM.drewN _
 clear hq
 refine ⟨_, rfl, ?_⟩; clear HF; intro a HF; replace HF := HF.sub ((dQ b o n c s fb big ak aj au ah pd i z5) ++ [(670, aC z5), (684, (aP big)), zo pd i aj, (690, (aP big)), sW pd i aj, (696, (aP big)), pO pd i aj, (702, (aP big)), nN pd i aj, (708, (aP big)), lW pd i aj, (714, (aP big)), ku pd i aj, (677, aA v.ty), (683, aX v.flags), (689, aJ v.off)]) (by kernel_rfl)
 refine cZ (HM.told [3] rfl) ?_
 replace HF := HF.sub ((dQ b o n c s fb big ak aj au ah pd i z5) ++ [(670, aC z5), (690, (aP big)), sW pd i aj, (696, (aP big)), pO pd i aj, (702, (aP big)), nN pd i aj, (708, (aP big)), lW pd i aj, (714, (aP big)), ku pd i aj, (677, aA v.ty), (683, aX v.flags), (689, aJ v.off)]) (by kernel_rfl)
 refine bQ rfl ?_
 refine bn HF (by kernel_rfl) 88 #[(aP big), .slice (some ⟨pd, ((i * 56) + 16), none⟩) ((aj * 56) - ((i * 56) + 16)) ((aj * 56) - ((i * 56) + 16))] (by kernel_rfl) (fun w => by kernel_rfl) (Calls.mono (oh (HM.get (i := 3) rfl) (by unfold maxLen; omega) big ((i * 56) + 16) ((aj * 56) - ((i * 56) + 16)) (by omega) (by omega) ((v.bI : Nat) : Int) (by rw [e3])) ?_)
 rintro _ w5 ⟨rfl, jF, hq⟩
 replace HM : Mm [fb, pg, pd] W1 w5 [mg z5, gU fb dat abi aF big aS aG aB pg i aj, (pg, .cells cur 136 (0, 0)), (pd, .cells (X.map Bv).toArray 5 (0, 0))] := by rw [hq]; exact HM.drewN _
 clear hq
 refine ⟨_, rfl, ?_⟩; clear HF; intro a HF; replace HF := HF.sub ((dQ b o n c s fb big ak aj au ah pd i z5) ++ [(670, aC z5), (690, (aP big)), sW pd i aj, (696, (aP big)), pO pd i aj, (702, (aP big)), nN pd i aj, (708, (aP big)), lW pd i aj, (714, (aP big)), ku pd i aj, (677, aA v.ty), (683, aX v.flags), (689, aJ v.off), (695, aJ v.bI)]) (by kernel_rfl)
 refine cZ (HM.told [3] rfl) ?_
 replace HF := HF.sub ((dQ b o n c s fb big ak aj au ah pd i z5) ++ [(670, aC z5), (696, (aP big)), pO pd i aj, (702, (aP big)), nN pd i aj, (708, (aP big)), lW pd i aj, (714, (aP big)), ku pd i aj, (677, aA v.ty), (683, aX v.flags), (689, aJ v.off), (695, aJ v.bI)]) (by kernel_rfl)
 refine bQ rfl ?_
 refine bn HF (by kernel_rfl) 88 #[(aP big), .slice (some ⟨pd, ((i * 56) + 24), none⟩) ((aj * 56) - ((i * 56) + 24)) ((aj * 56) - ((i * 56) + 24))] (by kernel_rfl) (fun w => by kernel_rfl) (Calls.mono (oh (HM.get (i := 3) rfl) (by unfold maxLen; omega) big ((i * 56) + 24) ((aj * 56) - ((i * 56) + 24)) (by omega) (by omega) ((v.bJ : Nat) : Int) (by rw [e4])) ?_)
 rintro _ w6 ⟨rfl, jF, hq⟩
 replace HM : Mm [fb, pg, pd] W1 w6 [mg z5, gU fb dat abi aF big aS aG aB pg i aj, (pg, .cells cur 136 (0, 0)), (pd, .cells (X.map Bv).toArray 5 (0, 0))] := by rw [hq]; exact HM.drewN _
 clear hq
 refine ⟨_, rfl, ?_⟩; clear HF; intro a HF; replace HF := HF.sub ((dQ b o n c s fb big ak aj au ah pd i z5) ++ [(670, aC z5), (696, (aP big)), pO pd i aj, (702, (aP big)), nN pd i aj, (708, (aP big)), lW pd i aj, (714, (aP big)), ku pd i aj, (677, aA v.ty), (683, aX v.flags), (689, aJ v.off), (695, aJ v.bI), (701, aJ v.bJ)]) (by kernel_rfl)
 refine cZ (HM.told [3] rfl) ?_
 replace HF := HF.sub ((dQ b o n c s fb big ak aj au ah pd i z5) ++ [(670, aC z5), (702, (aP big)), nN pd i aj, (708, (aP big)), lW pd i aj, (714, (aP big)), ku pd i aj, (677, aA v.ty), (683, aX v.flags), (689, aJ v.off), (695, aJ v.bI), (701, aJ v.bJ)]) (by kernel_rfl)
 refine bQ rfl ?_
 refine bn HF (by kernel_rfl) 88 #[(aP big), .slice (some ⟨pd, ((i * 56) + 32), none⟩) ((aj * 56) - ((i * 56) + 32)) ((aj * 56) - ((i * 56) + 32))] (by kernel_rfl) (fun w => by kernel_rfl) (Calls.mono (oh (HM.get (i := 3) rfl) (by unfold maxLen; omega) big ((i * 56) + 32) ((aj * 56) - ((i * 56) + 32)) (by omega) (by omega) ((v.bH : Nat) : Int) (by rw [e5])) ?_)
 rintro _ w7 ⟨rfl, jF, hq⟩
 replace HM : Mm [fb, pg, pd] W1 w7 [mg z5, gU fb dat abi aF big aS aG aB pg i aj, (pg, .cells cur 136 (0, 0)), (pd, .cells (X.map Bv).toArray 5 (0, 0))] := by rw [hq]; exact HM.drewN _
 clear hq
 refine ⟨_, rfl, ?_⟩; clear HF; intro a HF; replace HF := HF.sub ((dQ b o n c s fb big ak aj au ah pd i z5) ++ [(670, aC z5), (702, (aP big)), nN pd i aj, (708, (aP big)), lW pd i aj, (714, (aP big)), ku pd i aj, (677, aA v.ty), (683, aX v.flags), (689, aJ v.off), (695, aJ v.bI), (701, aJ v.bJ), (707, aJ v.bH)]) (by kernel_rfl)
 refine cZ (HM.told [3] rfl) ?_
 replace HF := HF.sub ((dQ b o n c s fb big ak aj au ah pd i z5) ++ [(670, aC z5), (708, (aP big)), lW pd i aj, (714, (aP big)), ku pd i aj, (677, aA v.ty), (683, aX v.flags), (689, aJ v.off), (695, aJ v.bI), (701, aJ v.bJ), (707, aJ v.bH)]) (by kernel_rfl)
 refine bQ rfl ?_
 refine bn HF (by kernel_rfl) 88 #[(aP big), .slice (some ⟨pd, ((i * 56) + 40), none⟩) ((aj * 56) - ((i * 56) + 40)) ((aj * 56) - ((i * 56) + 40))] (by kernel_rfl) (fun w => by kernel_rfl) (Calls.mono (oh (HM.get (i := 3) rfl) (by unfold maxLen; omega) big ((i * 56) + 40) ((aj * 56) - ((i * 56) + 40)) (by omega) (by omega) ((v.bM : Nat) : Int) (by rw [e6])) ?_)
 rintro _ w8 ⟨rfl, jF, hq⟩
 replace HM : Mm [fb, pg, pd] W1 w8 [mg z5, gU fb dat abi aF big aS aG aB pg i aj, (pg, .cells cur 136 (0, 0)), (pd, .cells (X.map Bv).toArray 5 (0, 0))] := by rw [hq]; exact HM.drewN _
 clear hq
 refine ⟨_, rfl, ?_⟩; clear HF; intro a HF; replace HF := HF.sub ((dQ b o n c s fb big ak aj au ah pd i z5) ++ [(670, aC z5), (708, (aP big)), lW pd i aj, (714, (aP big)), ku pd i aj, (677, aA v.ty), (683, aX v.flags), (689, aJ v.off), (695, aJ v.bI), (701, aJ v.bJ), (707, aJ v.bH), (713, aJ v.bM)]) (by kernel_rfl)
 refine cZ (HM.told [3] rfl) ?_
 replace HF := HF.sub ((dQ b o n c s fb big ak aj au ah pd i z5) ++ [(670, aC z5), (714, (aP big)), ku pd i aj, (677, aA v.ty), (683, aX v.flags), (689, aJ v.off), (695, aJ v.bI), (701, aJ v.bJ), (707, aJ v.bH), (713, aJ v.bM)]) (by kernel_rfl)
 refine bQ rfl ?_
 refine bn HF (by kernel_rfl) 88 #[(aP big), .slice (some ⟨pd, ((i * 56) + 48), none⟩) ((aj * 56) - ((i * 56) + 48)) ((aj * 56) - ((i * 56) + 48))] (by kernel_rfl) (fun w => by kernel_rfl) (Calls.mono (oh (HM.get (i := 3) rfl) (by unfold maxLen; omega) big ((i * 56) + 48) ((aj * 56) - ((i * 56) + 48)) (by omega) (by omega) ((v.align : Nat) : Int) (by rw [e7])) ?_)
 rintro _ w9 ⟨rfl, jF, hq⟩
 replace HM : Mm [fb, pg, pd] W1 w9 [mg z5, gU fb dat abi aF big aS aG aB pg i aj, (pg, .cells cur 136 (0, 0)), (pd, .cells (X.map Bv).toArray 5 (0, 0))] := by rw [hq]; exact HM.drewN _
 clear hq
 refine ⟨_, rfl, ?_⟩; clear HF; intro a HF; replace HF := HF.sub ((dQ b o n c s fb big ak aj au ah pd i z5) ++ [(670, aC z5), (714, (aP big)), ku pd i aj, (677, aA v.ty), (683, aX v.flags), (689, aJ v.off), (695, aJ v.bI), (701, aJ v.bJ), (707, aJ v.bH), (713, aJ v.bM), (719, aJ v.align)]) (by kernel_rfl)
 refine cZ (HM.told [3] rfl) ?_
 replace HF := HF.sub ((dQ b o n c s fb big ak aj au ah pd i z5) ++ [(670, aC z5), (677, aA v.ty), (683, aX v.flags), (689, aJ v.off), (695, aJ v.bI), (701, aJ v.bJ), (707, aJ v.bH), (713, aJ v.bM), (719, aJ v.align)]) (by kernel_rfl)
 refine bD HF (HM.told [3] rfl) 3 [] ((dQ b o n c s fb big ak aj au ah pd i z5) ++ [(670, aC z5), (677, aA v.ty), (683, aX v.flags), (689, aJ v.off), (695, aJ v.bI), (701, aJ v.bJ), (707, aJ v.bH), (713, aJ v.bM), (719, aJ v.align), (720, .agg #[aA v.ty, aX v.flags, aJ v.off, aJ v.bI, aJ v.bJ, aJ v.bH, aJ v.bM, aJ v.align]), (722, aC z5)]) (by kernel_rfl) ?_
 clear HF; intro a HF
 replace HF := HF.sub ((dQ b o n c s fb big ak aj au ah pd i z5) ++ [(720, .agg #[aA v.ty, aX v.flags, aJ v.off, aJ v.bI, aJ v.bJ, aJ v.bH, aJ v.bM, aJ v.align]), (722, aC z5)]) (by kernel_rfl)
 refine bQ rfl ?_
 refine aO HF HM rfl 1 [[3, 3, 3, 3, 3, 3, 3, 3]] (dQ b o n c s fb big ak aj au ah pd i z5) [qU z5 v, gU fb dat abi aF big aS aG aB pg i aj, (pg, .cells cur 136 (0, 0)), (pd, .cells (X.map Bv).toArray 5 (0, 0))] (by kernel_rfl) ?_
 clear HF HM; intro a w HF HM
 refine cZ (HM.told [3] rfl) ?_
 refine iP ?_
 repeat (first | refine aQ ?_ | refine aU ?_)
 refine wp_seq ?_
 refine wp_seq (wp_region_lit ?_)
 refine aO HF HM rfl 6 [[3]] ((dQ b o n c s fb big ak aj au ah pd i z5) ++ [(728, ay (IntKind.i64.wrap ((v.off : Nat) : Int)))]) [qU z5 v, gU fb dat abi aF big aS aG aB pg i aj, (pg, .cells cur 136 (0, 0)), (pd, .cells (X.map Bv).toArray 5 (0, 0))] (by kernel_rfl) ?_
 clear HF HM; intro a w HF HM
 rw [show IntKind.i64.wrap ((v.off : Nat) : Int) = ((v.off : Nat) : Int) from IntWalk.i64_in _ (by omega)] at HF
 refine aO HF HM rfl 1 [] ((dQ b o n c s fb big ak aj au ah pd i z5) ++ [(729, .bool (decide (((v.off : Nat) : Int) < 0)))]) [qU z5 v, gU fb dat abi aF big aS aG aB pg i aj, (pg, .cells cur 136 (0, 0)), (pd, .cells (X.map Bv).toArray 5 (0, 0))] (by kernel_rfl) ?_
 clear HF HM; intro a w HF HM
 rw [show decide (((v.off : Nat) : Int) < 0) = false from dI (by omega)] at HF
 refine aI ?_
 refine aZ HF rfl ?_
 refine wp_skip ?_
 repeat (first | refine aQ ?_ | refine aU ?_)
 replace HF := HF.sub (dQ b o n c s fb big ak aj au ah pd i z5) (by kernel_rfl)
 refine wp_seq ?_
 refine wp_seq (wp_region_lit ?_)
 refine aO HF HM rfl 6 [[3]] ((dQ b o n c s fb big ak aj au ah pd i z5) ++ [(748, ay (IntKind.i64.wrap ((v.bH : Nat) : Int)))]) [qU z5 v, gU fb dat abi aF big aS aG aB pg i aj, (pg, .cells cur 136 (0, 0)), (pd, .cells (X.map Bv).toArray 5 (0, 0))] (by kernel_rfl) ?_
 clear HF HM; intro a w HF HM
 rw [show IntKind.i64.wrap ((v.bH : Nat) : Int) = ((v.bH : Nat) : Int) from IntWalk.i64_in _ (by omega)] at HF
 refine aO HF HM rfl 1 [] ((dQ b o n c s fb big ak aj au ah pd i z5) ++ [(749, .bool (decide (((v.bH : Nat) : Int) < 0)))]) [qU z5 v, gU fb dat abi aF big aS aG aB pg i aj, (pg, .cells cur 136 (0, 0)), (pd, .cells (X.map Bv).toArray 5 (0, 0))] (by kernel_rfl) ?_
 clear HF HM; intro a w HF HM
 rw [show decide (((v.bH : Nat) : Int) < 0) = false from dI (by omega)] at HF
 refine aI ?_
 refine aZ HF rfl ?_
 refine wp_skip ?_
 repeat (first | refine aQ ?_ | refine aU ?_)
 replace HF := HF.sub (dQ b o n c s fb big ak aj au ah pd i z5) (by kernel_rfl)
 refine w_ HM (by kernel_rfl) (fun w => w.cell? ⟨z5, 2, none⟩ = some (aJ v.off) ∧ w.cell? ⟨z5, 5, none⟩ = some (aJ v.bH)) [(0, false), (1, false), (2, false), (3, false), (4, false), (5, false), (6, false), (7, false), (8, false), (9, false), (10, false), (11, false), (12, false), (13, false), (14, true), (15, false), (16, false), (17, true)] (by kernel_rfl) ?_
 clear HM; intro w10 HM
 refine jl (LS := []) (fun _ _ => jM _) HF ⟨HM.cellAt (i := 0) (k := 2) rfl rfl, HM.cellAt (i := 0) (k := 5) rfl rfl⟩ 6 [] ((pK b o n c s fb big ak aj au ah pd i z5) ++ [(768, .pointer (some ⟨z5, 2, none⟩))]) (by kernel_rfl) ?_
 clear HF; intro a HF
 refine o7 rfl HF ⟨HM.cellAt (i := 0) (k := 2) rfl rfl, HM.cellAt (i := 0) (k := 5) rfl rfl⟩ rfl (aJ v.off) (by kernel_rfl) (fun w hw => iE rfl rfl (by kernel_rfl) hw.1) ?_
 clear HF; intro a HF; replace HF := HF.sub ((pK b o n c s fb big ak aj au ah pd i z5) ++ [(768, .pointer (some ⟨z5, 2, none⟩)), (769, aJ v.off)]) (by kernel_rfl)
 refine jl (LS := []) (fun _ _ => jM _) HF ⟨HM.cellAt (i := 0) (k := 2) rfl rfl, HM.cellAt (i := 0) (k := 5) rfl rfl⟩ 1 [] ((pK b o n c s fb big ak aj au ah pd i z5) ++ [(770, ay (IntKind.i64.wrap ((v.off : Nat) : Int)))]) (by kernel_rfl) ?_
 clear HF; intro a HF
 rw [show IntKind.i64.wrap ((v.off : Nat) : Int) = ((v.off : Nat) : Int) from IntWalk.i64_in _ (by omega)] at HF
 refine jl (LS := []) (fun _ _ => jM _) HF ⟨HM.cellAt (i := 0) (k := 2) rfl rfl, HM.cellAt (i := 0) (k := 5) rfl rfl⟩ 4 [] ((pK b o n c s fb big ak aj au ah pd i z5) ++ [(770, aA v.off), (774, .pointer (some ⟨z5, 5, none⟩))]) (by kernel_rfl) ?_
 clear HF; intro a HF
 refine o7 rfl HF ⟨HM.cellAt (i := 0) (k := 2) rfl rfl, HM.cellAt (i := 0) (k := 5) rfl rfl⟩ rfl (aJ v.bH) (by kernel_rfl) (fun w hw => iE rfl rfl (by kernel_rfl) hw.2) ?_
 clear HF; intro a HF; replace HF := HF.sub ((pK b o n c s fb big ak aj au ah pd i z5) ++ [(770, aA v.off), (774, .pointer (some ⟨z5, 5, none⟩)), (775, aJ v.bH)]) (by kernel_rfl)
 refine jl (LS := []) (fun _ _ => jM _) HF ⟨HM.cellAt (i := 0) (k := 2) rfl rfl, HM.cellAt (i := 0) (k := 5) rfl rfl⟩ 1 [] ((pK b o n c s fb big ak aj au ah pd i z5) ++ [(770, aA v.off), (776, ay (IntKind.i64.wrap ((v.bH : Nat) : Int)))]) (by kernel_rfl) ?_
 clear HF; intro a HF
 rw [show IntKind.i64.wrap ((v.bH : Nat) : Int) = ((v.bH : Nat) : Int) from IntWalk.i64_in _ (by omega)] at HF
 refine nS rfl ?_
 refine bn HF (by kernel_rfl) 92 #[.iface 178 (.slice (some ⟨b, o, none⟩) n c), aA v.off, aA v.bH] (by kernel_rfl) (fun w => by kernel_rfl) (Calls.mono (nX 178 (.slice (some ⟨b, o, none⟩) n c) ((v.off : Nat) : Int) ((v.bH : Nat) : Int) (by omega) (by omega) (by omega) w10) ?_)
 rintro _ rZ ⟨sb, rfl, hb, hge, hgn⟩
 replace HM : Mm [fb, pg, pd] W1 rZ [oJ sb b o n c v, qU z5 v, gU fb dat abi aF big aS aG aB pg i aj, (pg, .cells cur 136 (0, 0)), (pd, .cells (X.map Bv).toArray 5 (0, 0))] := HM.push hb hge hgn
 clear hb hge hgn
 refine ⟨_, rfl, ?_⟩; clear HF; intro a HF; replace HF := HF.sub ((pK b o n c s fb big ak aj au ah pd i z5) ++ [(770, aA v.off), (776, aA v.bH), (777, aC sb)]) (by kernel_rfl)
 refine o8 ⟨HM.cellAt (i := 1) (k := 2) rfl rfl, HM.cellAt (i := 1) (k := 5) rfl rfl⟩ ?_
 refine jl (LS := []) (fun _ _ => jM _) HF ⟨HM.cellAt (i := 1) (k := 2) rfl rfl, HM.cellAt (i := 1) (k := 5) rfl rfl⟩ 2 [] ((dQ b o n c s fb big ak aj au ah pd i z5) ++ [(777, aC sb), (779, .pointer (some ⟨z5, 9, none⟩))]) (by kernel_rfl) ?_
 clear HF; intro a HF
 refine nS rfl ?_
 refine aO HF HM rfl 1 [[3]] (dQ b o n c s fb big ak aj au ah pd i z5) [oJ sb b o n c v, (z5, .cells #[aA v.ty, aX v.flags, aJ v.off, aJ v.bI, aJ v.bJ, aJ v.bH, aJ v.bM, aJ v.align, .nilIface, aC sb] 146 (0, 0)), gU fb dat abi aF big aS aG aB pg i aj, (pg, .cells cur 136 (0, 0)), (pd, .cells (X.map Bv).toArray 5 (0, 0))] (by kernel_rfl) ?_
 clear HF HM; intro a w HF HM
 refine o8 ⟨HM.cellAt (i := 1) (k := 2) rfl rfl, HM.cellAt (i := 1) (k := 5) rfl rfl⟩ ?_
 refine xg (aQ ?_)
 refine bC HF HM rfl [[3], [3]] (dQ b o n c s fb big ak aj au ah pd i z5) [oJ sb b o n c v, qR z5 v sb, gU fb dat abi aF big aS aG aB pg i aj, (pg, .cells cur 136 (0, 0)), (pd, .cells (X.map Bv).toArray 5 (0, 0))] (by kernel_rfl) ?_
 clear HF HM; intro a w HF HM
 refine wp_region_lit ?_
 obtain ⟨Cj, Gj⟩ : ∃ z, w.heap.size = z := ⟨_, rfl⟩
 refine aO HF HM Gj 7 [[2]] ((dQ b o n c s fb big ak aj au ah pd i z5) ++ [(788, aC fb), (792, aH pg i aj), (794, aH Cj 1 1)]) [(Cj, .cells #[aC z5] 136 (0, 0)), oJ sb b o n c v, qR z5 v sb, gU fb dat abi aF big aS aG aB pg i aj, (pg, .cells cur 136 (0, 0)), (pd, .cells (X.map Bv).toArray 5 (0, 0))] (by kernel_rfl) ?_
 clear HF HM Gj; intro a w HF HM
 refine oP HF HM rfl _ _ 127 rfl rfl 136 (.pointer none) 8 Tryd.underlying127 wC 4 0 pg _ i aj cur _ _ rfl hcs (by omega) (by unfold maxLen; omega) rfl rfl rfl rfl ?_
 intro a2 w12 cur' hcs' htk bU HF2; clear HF HM; have HM : Mm [fb, pg, pd] W1 w12 [(Cj, .cells #[aC z5] 136 (0, 0)), oJ sb b o n c v, qR z5 v sb, gU fb dat abi aF big aS aG aB pg i aj, (pg, .cells cur' 136 (0, 0)), (pd, .cells (X.map Bv).toArray 5 (0, 0))] := bU; have HF := HF2; clear bU HF2
 replace HF := HF.sub ((dQ b o n c s fb big ak aj au ah pd i z5) ++ [(788, aC fb), (795, aH pg (i + 1) aj)]) (by kernel_rfl)
 refine aO HF HM rfl 3 [[2]] (dQ b o n c s fb big ak aj au ah pd i z5) [(Cj, .cells #[aC z5] 136 (0, 0)), oJ sb b o n c v, qR z5 v sb, xG fb dat abi aF big aS aG aB pg i aj, (pg, .cells cur' 136 (0, 0)), (pd, .cells (X.map Bv).toArray 5 (0, 0))] (by kernel_rfl) ?_
 clear HF HM; intro a w HF HM
 refine wpList_nil ?_
 repeat (first | refine aQ ?_ | refine aU ?_)
 refine wp_region_lit ?_
 refine aO HF HM rfl 2 [] ((dQ b o n c s fb big ak aj au ah pd i z5) ++ [(595, ay (IntKind.i64.wrap (((i : Nat) : Int) + 1)))]) [(Cj, .cells #[aC z5] 136 (0, 0)), oJ sb b o n c v, qR z5 v sb, xG fb dat abi aF big aS aG aB pg i aj, (pg, .cells cur' 136 (0, 0)), (pd, .cells (X.map Bv).toArray 5 (0, 0))] (by kernel_rfl) ?_
 clear HF HM; intro a w HF HM
 rw [show IntKind.i64.wrap (((i : Nat) : Int) + 1) = (((i + 1) : Nat) : Int) from (IntWalk.i64_in _ (by omega)).trans (by omega)] at HF
 refine aO HF HM rfl 1 [] ((nT b o n c s fb big ak aj au ah pd) ++ [(39, aJ (i * 56)), (40, aC z5), (38, aA (i + 1))]) [(Cj, .cells #[aC z5] 136 (0, 0)), oJ sb b o n c v, qR z5 v sb, xG fb dat abi aF big aS aG aB pg i aj, (pg, .cells cur' 136 (0, 0)), (pd, .cells (X.map Bv).toArray 5 (0, 0))] (by kernel_rfl) ?_
 clear HF HM; intro a w HF HM
 refine wpList_nil ?_
 repeat (first | refine aQ ?_ | refine aU ?_)
 replace HF := HF.sub ((nT b o n c s fb big ak aj au ah pd) ++ [(38, aA (i + 1))]) (by kernel_rfl)
 exact K a w z5 sb cur' hcs' htk HF (HM.sub (List.Sublist.cons _ (List.Sublist.refl _)))

end Go.Proofs.YtdgehpocmfjbiaaDoor
namespace Go.Proofs.YtdgehpocmfjbiaaDoor
open Go.RowKit

theorem cu {w : World} {p g : Nat} {cs cs' : Array Value} {t t' : TypeId} {f f' : Nat × Nat} (h : w.heap[p]? = some (.cells cs t f)) (h' : w.heap[g]? = some (.cells cs' t' f')) (hne : t ≠ t') : p ≠ g := fun e => by
 subst e
 rw [h] at h'
 injection h' with h'
 injection h' with _ h2 _
 exact hne h2
theorem Mm.after {G G' : List Nat} {w0 w w' : World} {L L' : List (Nat × Obj)} (h : Mm G w0 w L) (hk : Keep G' w w') (hg : ∀ k ∈ G', w0.heap.size ≤ k ∨ k ∈ G) (hL : L'.map (·.1) = L.map (·.1)) (ht : ∀ p ∈ L', w'.heap[p.1]? = some p.2) : Mm G w0 w' L' :=
 ⟨h.1.step hk hg, fun p hp => ⟨ht p hp, by
  have : p.1 ∈ L.map (·.1) := hL ▸ List.mem_map_of_mem hp
  obtain ⟨q, hq, e⟩ := List.mem_map.1 this
  rw [← e]; exact (h.2.1 q hq).2⟩, hL ▸ h.2.2⟩
/-- the first k program headers, in memory -/
def lu (b o n c : Nat) (z : Nat) (w : World) (sg : Nat → lD) (k : Nat) (cur : Array Value) : Prop :=
 ∀ j, j < k → ∃ pb sb, cur[j]? = some (aC pb) ∧ z ≤ pb ∧ z ≤ sb ∧ w.heap[pb]? = some (.cells #[aA (sg j).ty, aX (sg j).flags, aJ (sg j).off, aJ (sg j).bI, aJ (sg j).bJ, aJ (sg j).bH, aJ (sg j).bM, aJ (sg j).align, .iface 144 (aC sb), aC sb] 146 (0, 0)) ∧ w.heap[sb]? = some (.cells #[.iface 178 (.slice (some ⟨b, o, none⟩) n c), aA (sg j).off, aA (sg j).off, .int .i64 ((((sg j).bH : Nat) : Int) + (((sg j).off : Nat) : Int)), aA (sg j).bH] 246 (0, 0))
theorem lu.keep {b o n c z : Nat} {w w' : World} {sg : Nat → lD} {k : Nat} {cur : Array Value} {G : List Nat} (h : lu b o n c z w sg k cur) (hk : Keep G w w') (hG : ∀ g ∈ G, ∃ cs t f, w.heap[g]? = some (.cells cs t f) ∧ t ≠ 146 ∧ t ≠ 246) : lu b o n c z w' sg k cur := fun j hj => by
 obtain ⟨pb, sb, h1, h2, h3, h4, h5⟩ := h j hj
 refine ⟨pb, sb, h1, h2, h3, (hk.block pb (jL h4) fun hm => ?_).trans h4, (hk.block sb (jL h5) fun hm => ?_).trans h5⟩
 ·obtain ⟨cs, t, f, e, n1, n2⟩ := hG pb hm
  exact cu h4 e (Ne.symm n1) rfl
 ·obtain ⟨cs, t, f, e, n1, n2⟩ := hG sb hm
  exact cu h5 e (Ne.symm n2) rfl
theorem lu.next {b o n c z : Nat} {w : World} {sg : Nat → lD} {k : Nat} {cur cur' : Array Value} {pb sb : Nat} (h : lu b o n c z w sg k cur) (hs : k < cur.size) (ht : cur'.toList.take (k + 1) = cur.toList.take k ++ [aC pb]) (h2 : z ≤ pb) (h3 : z ≤ sb)
  (h4 : w.heap[pb]? = some (.cells #[aA (sg k).ty, aX (sg k).flags, aJ (sg k).off, aJ (sg k).bI, aJ (sg k).bJ, aJ (sg k).bH, aJ (sg k).bM, aJ (sg k).align, .iface 144 (aC sb), aC sb] 146 (0, 0))) (h5 : w.heap[sb]? = some (.cells #[.iface 178 (.slice (some ⟨b, o, none⟩) n c), aA (sg k).off, aA (sg k).off, .int .i64 ((((sg k).bH : Nat) : Int) + (((sg k).off : Nat) : Int)), aA (sg k).bH] 246 (0, 0))) : lu b o n c z w sg (k + 1) cur' := fun j hj => by
 have hget : cur'[j]? = (cur'.toList.take (k + 1))[j]? := by rw [List.getElem?_take, if_pos hj]; simp
 rw [ht] at hget
 have hlen : (cur.toList.take k).length = k := by simp; omega
 rcases Nat.lt_or_ge j k with hlt | hge
 ·obtain ⟨pb', sb', g1, g2⟩ := h j hlt
  refine ⟨pb', sb', ?_, g2⟩
  rw [hget, List.getElem?_append_left (by omega), List.getElem?_take, if_pos hlt]
  simpa using g1
 ·obtain rfl : j = k := by omega
  exact ⟨pb, sb, by rw [hget, List.getElem?_append_right (by omega), hlen]; simp, h2, h3, h4, h5⟩

theorem MZ (l : List UInt8) (b o n c : Nat) (hl : n = l.length) (hnc : n ≤ c) (big : Bool) (abi aF aS aG aB ak aj au ah : Nat) (dat : Int) (b1 : aS < 65536) (b2 : aG < 65536) (b3 : aB ≤ 18446744073709551615) (b4 : ak < 4611686018427387904) (b5 : au < 4611686018427387904) (b6 : aj < 200) (b7 : ah < 200) (X : List UInt8) (nI : X.length = (aj * 32)) (sg : Nat → lD) (hv : ∀ i, i < aj → um (X.drop (i * 32)) false big (sg i).ty (sg i).flags (sg i).bI (sg i).bJ (sg i).bM (sg i).align (sg i).bH (sg i).off)
  (v1 : ∀ i, i < aj → (sg i).ty < 4294967296) (v2 : ∀ i, i < aj → (sg i).off + (sg i).bH < 4611686018427387904) (v3 : ∀ i, i < aj → (sg i).bI ≤ 18446744073709551615) (v4 : ∀ i, i < aj → (sg i).bJ ≤ 18446744073709551615) (v5 : ∀ i, i < aj → (sg i).bM ≤ 18446744073709551615) (v6 : ∀ i, i < aj → (sg i).align ≤ 18446744073709551615) (w0 : World) (s fb pg pd : Nat) {KK : Act → World → Prop} {QQ : Exit → Act → World → Prop} {KR : Act → World → Prop}
  (K : ∀ a w cur, cur.size = aj → lu b o n c w0.heap.size w sg aj cur → Fr 1287 a [(0, .iface 178 (.slice (some ⟨b, o, none⟩) n c)), (4, aC s), (8, aC fb), (9, (aP big)), (10, aA ak), (11, .int .i64 32), (12, aA aj), (13, aA au), (14, .int .i64 40), (15, aA ah), (16, aA (ah - 1)), (26, .int .i64 40), (36, aH pd (aj * 32) (aj * 32))] → Mm [] w0 w [(pd, .cells (X.map Bv).toArray 5 (0, 0)), (pg, .cells cur 136 (0, 0)), (fb, .cells #[.int .u8 1, .int .u8 dat, .int .u8 1, aV abi, aV aF, (aP big), bf aS, bf aG, aJ aB, .slice none 0 0, aH pg aj aj, .slice none 0 0, .slice none 0 0, .slice none 0 0] 131 (0, 0)), (s, .cells #[.iface 178 (.slice (some ⟨b, o, none⟩) n c), .int .i64 0, .int .i64 0, .int .i64 9223372036854775807, .int .i64 9223372036854775807] 246 (0, 0))] → KK a w) (a : Act) (w : World) (cur : Array Value) (hcs : cur.size = aj) (hP : lu b o n c w0.heap.size w sg aj cur) (HF : Fr 1287 a [(0, .iface 178 (.slice (some ⟨b, o, none⟩) n c)), (4, aC s), (8, aC fb), (9, (aP big)), (10, aA ak), (11, .int .i64 32), (12, aA aj), (13, aA au), (14, .int .i64 40), (15, aA ah), (16, aA (ah - 1)), (26, .int .i64 40), (36, aH pd (aj * 32) (aj * 32)), (38, aA aj)]) (HM : Mm [] w0 w [(pd, .cells (X.map Bv).toArray 5 (0, 0)), (pg, .cells cur 136 (0, 0)), (fb, .cells #[.int .u8 1, .int .u8 dat, .int .u8 1, aV abi, aV aF, (aP big), bf aS, bf aG, aJ aB, .slice none 0 0, aH pg aj aj, .slice none 0 0, .slice none 0 0, .slice none 0 0] 131 (0, 0)), (s, .cells #[.iface 178 (.slice (some ⟨b, o, none⟩) n c), .int .i64 0, .int .i64 0, .int .i64 9223372036854775807, .int .i64 9223372036854775807] 246 (0, 0))]) :
  (oG (spine Tryd.f78 35)).wp Tryd.prog (Exit.then KR (Exit.inBlock 5 (Exit.then KK QQ))) a w := by
 refine wp_seq ?_
 refine wp_seq (wp_region_lit ?_)
 refine wp_pure HF HM rfl 3 [] [(0, .iface 178 (.slice (some ⟨b, o, none⟩) n c)), (4, aC s), (8, aC fb), (9, (aP big)), (10, aA ak), (11, .int .i64 32), (12, aA aj), (13, aA au), (14, .int .i64 40), (15, aA ah), (16, aA (ah - 1)), (26, .int .i64 40), (36, aH pd (aj * 32) (aj * 32)), (38, aA aj), (593, .bool (decide (((aj : Nat) : Int) < ((aj : Nat) : Int))))] (by kernel_rfl) ?_
 clear HF; intro a HF
 rw [show decide (((aj : Nat) : Int) < ((aj : Nat) : Int)) = false from dI (by omega)] at HF
 refine aI ?_
 refine aZ HF rfl ?_
 replace HF := HF.sub [(0, .iface 178 (.slice (some ⟨b, o, none⟩) n c)), (4, aC s), (8, aC fb), (9, (aP big)), (10, aA ak), (11, .int .i64 32), (12, aA aj), (13, aA au), (14, .int .i64 40), (15, aA ah), (16, aA (ah - 1)), (26, .int .i64 40), (36, aH pd (aj * 32) (aj * 32)), (38, aA aj)] (by kernel_rfl)
 refine wp_exit (iW (iW (kL (aQ ?_))))
 replace HF := HF.sub [(0, .iface 178 (.slice (some ⟨b, o, none⟩) n c)), (4, aC s), (8, aC fb), (9, (aP big)), (10, aA ak), (11, .int .i64 32), (12, aA aj), (13, aA au), (14, .int .i64 40), (15, aA ah), (16, aA (ah - 1)), (26, .int .i64 40), (36, aH pd (aj * 32) (aj * 32))] (by kernel_rfl)
 have := HM.keep
 exact K a _ cur hcs hP HF HM
theorem Iq (l : List UInt8) (b o n c : Nat) (hl : n = l.length) (hnc : n ≤ c) (big : Bool) (abi aF aS aG aB ak aj au ah : Nat) (dat : Int) (b1 : aS < 65536) (b2 : aG < 65536) (b3 : aB ≤ 18446744073709551615) (b4 : ak < 4611686018427387904) (b5 : au < 4611686018427387904) (b6 : aj < 200) (b7 : ah < 200) (X : List UInt8) (nI : X.length = (aj * 32)) (sg : Nat → lD) (hv : ∀ i, i < aj → um (X.drop (i * 32)) false big (sg i).ty (sg i).flags (sg i).bI (sg i).bJ (sg i).bM (sg i).align (sg i).bH (sg i).off)
  (v1 : ∀ i, i < aj → (sg i).ty < 4294967296) (v2 : ∀ i, i < aj → (sg i).off + (sg i).bH < 4611686018427387904) (v3 : ∀ i, i < aj → (sg i).bI ≤ 18446744073709551615) (v4 : ∀ i, i < aj → (sg i).bJ ≤ 18446744073709551615) (v5 : ∀ i, i < aj → (sg i).bM ≤ 18446744073709551615) (v6 : ∀ i, i < aj → (sg i).align ≤ 18446744073709551615) (w0 : World) (s fb pg pd : Nat) {KK : Act → World → Prop} {QQ : Exit → Act → World → Prop}
  (K : ∀ a w cur, cur.size = aj → lu b o n c w0.heap.size w sg aj cur → Fr 1287 a [(0, .iface 178 (.slice (some ⟨b, o, none⟩) n c)), (4, aC s), (8, aC fb), (9, (aP big)), (10, aA ak), (11, ay 32), (12, aA aj), (13, aA au), (14, ay 40), (15, aA ah), (16, aA (ah - 1)), (26, ay 40), (36, aH pd (aj * 32) (aj * 32))] → Mm [] w0 w [(pd, .cells (X.map Bv).toArray 5 (0, 0)), (pg, .cells cur 136 (0, 0)), (fb, .cells #[aK 1, .int .u8 dat, aK 1, aV abi, aV aF, (aP big), bf aS, bf aG, aJ aB, aN, aH pg aj aj, aN, aN, aN] 131 (0, 0)), (s, .cells #[.iface 178 (.slice (some ⟨b, o, none⟩) n c), ay 0, ay 0, ay 9223372036854775807, ay 9223372036854775807] 246 (0, 0))] → KK a w) :
  ∀ (r i : Nat), i + r = aj → ∀ (a : Act) (w : World) (cur : Array Value), cur.size = aj → lu b o n c w0.heap.size w sg i cur → Fr 1287 a [(0, .iface 178 (.slice (some ⟨b, o, none⟩) n c)), (4, aC s), (8, aC fb), (9, (aP big)), (10, aA ak), (11, ay 32), (12, aA aj), (13, aA au), (14, ay 40), (15, aA ah), (16, aA (ah - 1)), (26, ay 40), (36, aH pd (aj * 32) (aj * 32)), (38, aA i)] → Mm [] w0 w [(pd, .cells (X.map Bv).toArray 5 (0, 0)), (pg, .cells cur 136 (0, 0)), (fb, .cells #[aK 1, .int .u8 dat, aK 1, aV abi, aV aF, (aP big), bf aS, bf aG, aJ aB, aN, aH pg i aj, aN, aN, aN] 131 (0, 0)), (s, .cells #[.iface 178 (.slice (some ⟨b, o, none⟩) n c), ay 0, ay 0, ay 9223372036854775807, ay 9223372036854775807] 246 (0, 0))] →
  Code.rounds Tryd.prog (oG (spine Tryd.f78 35)) (Exit.inBlock 5 (Exit.then KK QQ)) (r + 1) a w
 | 0, i, hr, a, w, cur, hcs, hP, HF, HM => by
  obtain rfl : i = aj := by omega
  rw [rounds_succ]
  exact MZ l b o n c hl hnc big abi aF aS aG aB ak i au ah dat b1 b2 b3 b4 b5 b6 b7 X nI sg hv v1 v2 v3 v4 v5 v6 w0 s fb pg pd K a w cur hcs hP HF HM
 | r + 1, i, hr, a, w, cur, hcs, hP, HF, HM => by
  have hi : i < aj := by omega
  rw [rounds_succ]
  refine NK l b o n c hl hnc big abi aF aS aG aB ak aj au ah dat b1 b2 b3 b4 b5 b6 b7 X nI i hi (sg i) (hv i hi) (v1 i hi) (v2 i hi) (v3 i hi) (v4 i hi) (v5 i hi) (v6 i hi) a w s fb pg pd cur hcs (HM.get (i := 2) rfl) (HM.get (i := 1) rfl) (HM.get (i := 0) rfl) (HM.ne (i := 2) (j := 1) rfl rfl (by decide)) (HM.ne (i := 2) (j := 0) rfl rfl (by decide)) (HM.ne (i := 1) (j := 0) rfl rfl (by decide)) HF ?_
  intro a' w' pb sb cur' hcs' htk BK iF
  have hk := iF.keep
  have hn : ∀ g ∈ [fb, pg, pd], g < w.heap.size := by
   intro g hg
   simp only [List.mem_cons, List.not_mem_nil, or_false] at hg
   rcases hg with rfl | rfl | rfl
   ·exact HM.lt (i := 2) rfl
   ·exact HM.lt (i := 1) rfl
   ·exact HM.lt (i := 0) rfl
  have hpb : w.heap.size ≤ pb := (iF.own (i := 1) rfl).elim id fun hm => absurd (iF.get (i := 1) rfl) (by
   intro e
   simp only [List.mem_cons, List.not_mem_nil, or_false] at hm
   rcases hm with rfl | rfl | rfl
   ·exact cu e (iF.get (i := 2) rfl) (by decide) rfl
   ·exact cu e (iF.get (i := 3) rfl) (by decide) rfl
   ·exact cu e (iF.get (i := 4) rfl) (by decide) rfl)
  have hsb : w.heap.size ≤ sb := (iF.own (i := 0) rfl).elim id fun hm => absurd (iF.get (i := 0) rfl) (by
   intro e
   simp only [List.mem_cons, List.not_mem_nil, or_false] at hm
   rcases hm with rfl | rfl | rfl
   ·exact cu e (iF.get (i := 2) rfl) (by decide) rfl
   ·exact cu e (iF.get (i := 3) rfl) (by decide) rfl
   ·exact cu e (iF.get (i := 4) rfl) (by decide) rfl)
  have hsz := HM.size
  have hP2 : lu b o n c w0.heap.size w' sg i cur := hP.keep hk (by
   intro g hg
   simp only [List.mem_cons, List.not_mem_nil, or_false] at hg
   rcases hg with rfl | rfl | rfl
   ·exact ⟨_, _, _, HM.get (i := 2) rfl, by decide, by decide⟩
   ·exact ⟨_, _, _, HM.get (i := 1) rfl, by decide, by decide⟩
   ·exact ⟨_, _, _, HM.get (i := 0) rfl, by decide, by decide⟩)
  have hP3 := hP2.next (by omega) htk (by omega) (by omega) (iF.get (i := 1) rfl) (iF.get (i := 0) rfl)
  have bU : Mm [] w0 w' [(pd, .cells (X.map Bv).toArray 5 (0, 0)), (pg, .cells cur' 136 (0, 0)), (fb, .cells #[aK 1, .int .u8 dat, aK 1, aV abi, aV aF, (aP big), bf aS, bf aG, aJ aB, aN, aH pg (i + 1) aj, aN, aN, aN] 131 (0, 0)), (s, .cells #[.iface 178 (.slice (some ⟨b, o, none⟩) n c), ay 0, ay 0, ay 9223372036854775807, ay 9223372036854775807] 246 (0, 0))] := HM.after hk (by
   intro g hg
   simp only [List.mem_cons, List.not_mem_nil, or_false] at hg
   rcases hg with rfl | rfl | rfl
   ·exact HM.own (i := 2) rfl
   ·exact HM.own (i := 1) rfl
   ·exact HM.own (i := 0) rfl) rfl (by
   intro p hp
   simp only [List.mem_cons, List.not_mem_nil, or_false] at hp
   rcases hp with rfl | rfl | rfl | rfl
   ·exact iF.get (i := 4) rfl
   ·exact iF.get (i := 3) rfl
   ·exact iF.get (i := 2) rfl
   ·refine (hk.block s (HM.lt (i := 3) rfl) ?_).trans (HM.get (i := 3) rfl)
    simp only [List.mem_cons, List.not_mem_nil, or_false, not_or]
    exact ⟨HM.ne (i := 3) (j := 2) rfl rfl (by decide), HM.ne (i := 3) (j := 1) rfl rfl (by decide), HM.ne (i := 3) (j := 0) rfl rfl (by decide)⟩)
  exact Iq l b o n c hl hnc big abi aF aS aG aB ak aj au ah dat b1 b2 b3 b4 b5 b6 b7 X nI sg hv v1 v2 v3 v4 v5 v6 w0 s fb pg pd K r (i + 1) (by omega) a' w' cur' hcs' hP3 BK bU

theorem J6 (l : List UInt8) (b o n c : Nat) (hl : n = l.length) (hnc : n ≤ c) (big : Bool) (abi aF aS aG aB ak aj au ah : Nat) (dat : Int) (b1 : aS < 65536) (b2 : aG < 65536) (b3 : aB ≤ 18446744073709551615) (b4 : ak < 4611686018427387904) (b5 : au < 4611686018427387904) (b6 : aj < 200) (b7 : ah < 200) (X : List UInt8) (nI : X.length = (aj * 32)) (sg : Nat → lD) (hv : ∀ i, i < aj → um (X.drop (i * 32)) false big (sg i).ty (sg i).flags (sg i).bI (sg i).bJ (sg i).bM (sg i).align (sg i).bH (sg i).off)
  (v1 : ∀ i, i < aj → (sg i).ty < 4294967296) (v2 : ∀ i, i < aj → (sg i).off + (sg i).bH < 4611686018427387904) (v3 : ∀ i, i < aj → (sg i).bI ≤ 18446744073709551615) (v4 : ∀ i, i < aj → (sg i).bJ ≤ 18446744073709551615) (v5 : ∀ i, i < aj → (sg i).bM ≤ 18446744073709551615) (v6 : ∀ i, i < aj → (sg i).align ≤ 18446744073709551615) (w0 : World) (s fb pg pd : Nat) {Q : Exit → Act → World → Prop} (a : Act) (w : World) (cur : Array Value) (hcs : cur.size = aj) (HF : Fr 1287 a [(0, .iface 178 (.slice (some ⟨b, o, none⟩) n c)), (4, aC s), (8, aC fb), (9, (aP big)), (10, aA ak), (11, .int .i64 32), (12, aA aj), (13, aA au), (14, .int .i64 40), (15, aA ah), (16, aA (ah - 1)), (26, .int .i64 40), (36, aH pd (aj * 32) (aj * 32))]) (HM : Mm [] w0 w [(pd, .cells (X.map Bv).toArray 5 (0, 0)), (pg, .cells cur 136 (0, 0)), (fb, .cells #[.int .u8 1, .int .u8 dat, .int .u8 1, aV abi, aV aF, (aP big), bf aS, bf aG, aJ aB, .slice none 0 0, aH pg 0 aj, .slice none 0 0, .slice none 0 0, .slice none 0 0] 131 (0, 0)), (s, .cells #[.iface 178 (.slice (some ⟨b, o, none⟩) n c), .int .i64 0, .int .i64 0, .int .i64 9223372036854775807, .int .i64 9223372036854775807] 246 (0, 0))])
  (K : ∀ a w cur, cur.size = aj → lu b o n c w0.heap.size w sg aj cur → Fr 1287 a [(0, .iface 178 (.slice (some ⟨b, o, none⟩) n c)), (4, aC s), (8, aC fb), (9, (aP big)), (10, aA ak), (11, .int .i64 32), (12, aA aj), (13, aA au), (14, .int .i64 40), (15, aA ah), (16, aA (ah - 1)), (26, .int .i64 40), (36, aH pd (aj * 32) (aj * 32))] → Mm [] w0 w [(pd, .cells (X.map Bv).toArray 5 (0, 0)), (pg, .cells cur 136 (0, 0)), (fb, .cells #[.int .u8 1, .int .u8 dat, .int .u8 1, aV abi, aV aF, (aP big), bf aS, bf aG, aJ aB, .slice none 0 0, aH pg aj aj, .slice none 0 0, .slice none 0 0, .slice none 0 0] 131 (0, 0)), (s, .cells #[.iface 178 (.slice (some ⟨b, o, none⟩) n c), .int .i64 0, .int .i64 0, .int .i64 9223372036854775807, .int .i64 9223372036854775807] 246 (0, 0))] → (spine Tryd.f78 36).wp Tryd.prog Q a w) : (spine Tryd.f78 35).wp Tryd.prog Q a w := by
 refine wp_seq ?_
 refine bC HF HM rfl [] [(0, .iface 178 (.slice (some ⟨b, o, none⟩) n c)), (4, aC s), (8, aC fb), (9, (aP big)), (10, aA ak), (11, .int .i64 32), (12, aA aj), (13, aA au), (14, .int .i64 40), (15, aA ah), (16, aA (ah - 1)), (26, .int .i64 40), (36, aH pd (aj * 32) (aj * 32)), (38, aA 0)] [(pd, .cells (X.map Bv).toArray 5 (0, 0)), (pg, .cells cur 136 (0, 0)), (fb, .cells #[.int .u8 1, .int .u8 dat, .int .u8 1, aV abi, aV aF, (aP big), bf aS, bf aG, aJ aB, .slice none 0 0, aH pg 0 aj, .slice none 0 0, .slice none 0 0, .slice none 0 0] 131 (0, 0)), (s, .cells #[.iface 178 (.slice (some ⟨b, o, none⟩) n c), .int .i64 0, .int .i64 0, .int .i64 9223372036854775807, .int .i64 9223372036854775807] 246 (0, 0))] (by kernel_rfl) ?_
 clear HF HM; intro a w HF HM
 refine wp_block (wp_loop_rounds (aj + 1) ?_)
 exact Iq l b o n c hl hnc big abi aF aS aG aB ak aj au ah dat b1 b2 b3 b4 b5 b6 b7 X nI sg hv v1 v2 v3 v4 v5 v6 w0 s fb pg pd K aj 0 (by omega) a w cur hcs (fun j hj => absurd hj (Nat.not_lt_zero j)) HF HM

theorem MX (l : List UInt8) (b o n c : Nat) (hl : n = l.length) (hnc : n ≤ c) (big : Bool) (abi aF aS aG aB ak aj au ah : Nat) (dat : Int) (b1 : aS < 65536) (b2 : aG < 65536) (b3 : aB ≤ 18446744073709551615) (b4 : ak < 4611686018427387904) (b5 : au < 4611686018427387904) (b6 : aj < 200) (b7 : ah < 200) (X : List UInt8) (nI : X.length = (aj * 56)) (sg : Nat → lD) (hv : ∀ i, i < aj → um (X.drop (i * 56)) true big (sg i).ty (sg i).flags (sg i).bI (sg i).bJ (sg i).bM (sg i).align (sg i).bH (sg i).off)
  (v1 : ∀ i, i < aj → (sg i).ty < 4294967296) (v2 : ∀ i, i < aj → (sg i).off + (sg i).bH < 4611686018427387904) (v3 : ∀ i, i < aj → (sg i).bI ≤ 18446744073709551615) (v4 : ∀ i, i < aj → (sg i).bJ ≤ 18446744073709551615) (v5 : ∀ i, i < aj → (sg i).bM ≤ 18446744073709551615) (v6 : ∀ i, i < aj → (sg i).align ≤ 18446744073709551615) (w0 : World) (s fb pg pd : Nat) {KK : Act → World → Prop} {QQ : Exit → Act → World → Prop} {KR : Act → World → Prop}
  (K : ∀ a w cur, cur.size = aj → lu b o n c w0.heap.size w sg aj cur → Fr 1287 a [(0, .iface 178 (.slice (some ⟨b, o, none⟩) n c)), (4, aC s), (8, aC fb), (9, (aP big)), (10, aA ak), (11, .int .i64 56), (12, aA aj), (13, aA au), (14, .int .i64 64), (15, aA ah), (16, aA (ah - 1)), (26, .int .i64 64), (36, aH pd (aj * 56) (aj * 56))] → Mm [] w0 w [(pd, .cells (X.map Bv).toArray 5 (0, 0)), (pg, .cells cur 136 (0, 0)), (fb, .cells #[.int .u8 2, .int .u8 dat, .int .u8 1, aV abi, aV aF, (aP big), bf aS, bf aG, aJ aB, .slice none 0 0, aH pg aj aj, .slice none 0 0, .slice none 0 0, .slice none 0 0] 131 (0, 0)), (s, .cells #[.iface 178 (.slice (some ⟨b, o, none⟩) n c), .int .i64 0, .int .i64 0, .int .i64 9223372036854775807, .int .i64 9223372036854775807] 246 (0, 0))] → KK a w) (a : Act) (w : World) (cur : Array Value) (hcs : cur.size = aj) (hP : lu b o n c w0.heap.size w sg aj cur) (HF : Fr 1287 a [(0, .iface 178 (.slice (some ⟨b, o, none⟩) n c)), (4, aC s), (8, aC fb), (9, (aP big)), (10, aA ak), (11, .int .i64 56), (12, aA aj), (13, aA au), (14, .int .i64 64), (15, aA ah), (16, aA (ah - 1)), (26, .int .i64 64), (36, aH pd (aj * 56) (aj * 56)), (38, aA aj)]) (HM : Mm [] w0 w [(pd, .cells (X.map Bv).toArray 5 (0, 0)), (pg, .cells cur 136 (0, 0)), (fb, .cells #[.int .u8 2, .int .u8 dat, .int .u8 1, aV abi, aV aF, (aP big), bf aS, bf aG, aJ aB, .slice none 0 0, aH pg aj aj, .slice none 0 0, .slice none 0 0, .slice none 0 0] 131 (0, 0)), (s, .cells #[.iface 178 (.slice (some ⟨b, o, none⟩) n c), .int .i64 0, .int .i64 0, .int .i64 9223372036854775807, .int .i64 9223372036854775807] 246 (0, 0))]) :
  (oG (spine Tryd.f78 35)).wp Tryd.prog (Exit.then KR (Exit.inBlock 5 (Exit.then KK QQ))) a w := by
 refine wp_seq ?_
 refine wp_seq (wp_region_lit ?_)
 refine wp_pure HF HM rfl 3 [] [(0, .iface 178 (.slice (some ⟨b, o, none⟩) n c)), (4, aC s), (8, aC fb), (9, (aP big)), (10, aA ak), (11, .int .i64 56), (12, aA aj), (13, aA au), (14, .int .i64 64), (15, aA ah), (16, aA (ah - 1)), (26, .int .i64 64), (36, aH pd (aj * 56) (aj * 56)), (38, aA aj), (593, .bool (decide (((aj : Nat) : Int) < ((aj : Nat) : Int))))] (by kernel_rfl) ?_
 clear HF; intro a HF
 rw [show decide (((aj : Nat) : Int) < ((aj : Nat) : Int)) = false from dI (by omega)] at HF
 refine aI ?_
 refine aZ HF rfl ?_
 replace HF := HF.sub [(0, .iface 178 (.slice (some ⟨b, o, none⟩) n c)), (4, aC s), (8, aC fb), (9, (aP big)), (10, aA ak), (11, .int .i64 56), (12, aA aj), (13, aA au), (14, .int .i64 64), (15, aA ah), (16, aA (ah - 1)), (26, .int .i64 64), (36, aH pd (aj * 56) (aj * 56)), (38, aA aj)] (by kernel_rfl)
 refine wp_exit (iW (iW (kL (aQ ?_))))
 replace HF := HF.sub [(0, .iface 178 (.slice (some ⟨b, o, none⟩) n c)), (4, aC s), (8, aC fb), (9, (aP big)), (10, aA ak), (11, .int .i64 56), (12, aA aj), (13, aA au), (14, .int .i64 64), (15, aA ah), (16, aA (ah - 1)), (26, .int .i64 64), (36, aH pd (aj * 56) (aj * 56))] (by kernel_rfl)
 have := HM.keep
 exact K a _ cur hcs hP HF HM
theorem Ip (l : List UInt8) (b o n c : Nat) (hl : n = l.length) (hnc : n ≤ c) (big : Bool) (abi aF aS aG aB ak aj au ah : Nat) (dat : Int) (b1 : aS < 65536) (b2 : aG < 65536) (b3 : aB ≤ 18446744073709551615) (b4 : ak < 4611686018427387904) (b5 : au < 4611686018427387904) (b6 : aj < 200) (b7 : ah < 200) (X : List UInt8) (nI : X.length = (aj * 56)) (sg : Nat → lD) (hv : ∀ i, i < aj → um (X.drop (i * 56)) true big (sg i).ty (sg i).flags (sg i).bI (sg i).bJ (sg i).bM (sg i).align (sg i).bH (sg i).off)
  (v1 : ∀ i, i < aj → (sg i).ty < 4294967296) (v2 : ∀ i, i < aj → (sg i).off + (sg i).bH < 4611686018427387904) (v3 : ∀ i, i < aj → (sg i).bI ≤ 18446744073709551615) (v4 : ∀ i, i < aj → (sg i).bJ ≤ 18446744073709551615) (v5 : ∀ i, i < aj → (sg i).bM ≤ 18446744073709551615) (v6 : ∀ i, i < aj → (sg i).align ≤ 18446744073709551615) (w0 : World) (s fb pg pd : Nat) {KK : Act → World → Prop} {QQ : Exit → Act → World → Prop}
  (K : ∀ a w cur, cur.size = aj → lu b o n c w0.heap.size w sg aj cur → Fr 1287 a [(0, .iface 178 (.slice (some ⟨b, o, none⟩) n c)), (4, aC s), (8, aC fb), (9, (aP big)), (10, aA ak), (11, ay 56), (12, aA aj), (13, aA au), (14, ay 64), (15, aA ah), (16, aA (ah - 1)), (26, ay 64), (36, aH pd (aj * 56) (aj * 56))] → Mm [] w0 w [(pd, .cells (X.map Bv).toArray 5 (0, 0)), (pg, .cells cur 136 (0, 0)), (fb, .cells #[aK 2, .int .u8 dat, aK 1, aV abi, aV aF, (aP big), bf aS, bf aG, aJ aB, aN, aH pg aj aj, aN, aN, aN] 131 (0, 0)), (s, .cells #[.iface 178 (.slice (some ⟨b, o, none⟩) n c), ay 0, ay 0, ay 9223372036854775807, ay 9223372036854775807] 246 (0, 0))] → KK a w) :
  ∀ (r i : Nat), i + r = aj → ∀ (a : Act) (w : World) (cur : Array Value), cur.size = aj → lu b o n c w0.heap.size w sg i cur → Fr 1287 a [(0, .iface 178 (.slice (some ⟨b, o, none⟩) n c)), (4, aC s), (8, aC fb), (9, (aP big)), (10, aA ak), (11, ay 56), (12, aA aj), (13, aA au), (14, ay 64), (15, aA ah), (16, aA (ah - 1)), (26, ay 64), (36, aH pd (aj * 56) (aj * 56)), (38, aA i)] → Mm [] w0 w [(pd, .cells (X.map Bv).toArray 5 (0, 0)), (pg, .cells cur 136 (0, 0)), (fb, .cells #[aK 2, .int .u8 dat, aK 1, aV abi, aV aF, (aP big), bf aS, bf aG, aJ aB, aN, aH pg i aj, aN, aN, aN] 131 (0, 0)), (s, .cells #[.iface 178 (.slice (some ⟨b, o, none⟩) n c), ay 0, ay 0, ay 9223372036854775807, ay 9223372036854775807] 246 (0, 0))] →
  Code.rounds Tryd.prog (oG (spine Tryd.f78 35)) (Exit.inBlock 5 (Exit.then KK QQ)) (r + 1) a w
 | 0, i, hr, a, w, cur, hcs, hP, HF, HM => by
  obtain rfl : i = aj := by omega
  rw [rounds_succ]
  exact MX l b o n c hl hnc big abi aF aS aG aB ak i au ah dat b1 b2 b3 b4 b5 b6 b7 X nI sg hv v1 v2 v3 v4 v5 v6 w0 s fb pg pd K a w cur hcs hP HF HM
 | r + 1, i, hr, a, w, cur, hcs, hP, HF, HM => by
  have hi : i < aj := by omega
  rw [rounds_succ]
  refine NJ l b o n c hl hnc big abi aF aS aG aB ak aj au ah dat b1 b2 b3 b4 b5 b6 b7 X nI i hi (sg i) (hv i hi) (v1 i hi) (v2 i hi) (v3 i hi) (v4 i hi) (v5 i hi) (v6 i hi) a w s fb pg pd cur hcs (HM.get (i := 2) rfl) (HM.get (i := 1) rfl) (HM.get (i := 0) rfl) (HM.ne (i := 2) (j := 1) rfl rfl (by decide)) (HM.ne (i := 2) (j := 0) rfl rfl (by decide)) (HM.ne (i := 1) (j := 0) rfl rfl (by decide)) HF ?_
  intro a' w' pb sb cur' hcs' htk BK iF
  have hk := iF.keep
  have hn : ∀ g ∈ [fb, pg, pd], g < w.heap.size := by
   intro g hg
   simp only [List.mem_cons, List.not_mem_nil, or_false] at hg
   rcases hg with rfl | rfl | rfl
   ·exact HM.lt (i := 2) rfl
   ·exact HM.lt (i := 1) rfl
   ·exact HM.lt (i := 0) rfl
  have hpb : w.heap.size ≤ pb := (iF.own (i := 1) rfl).elim id fun hm => absurd (iF.get (i := 1) rfl) (by
   intro e
   simp only [List.mem_cons, List.not_mem_nil, or_false] at hm
   rcases hm with rfl | rfl | rfl
   ·exact cu e (iF.get (i := 2) rfl) (by decide) rfl
   ·exact cu e (iF.get (i := 3) rfl) (by decide) rfl
   ·exact cu e (iF.get (i := 4) rfl) (by decide) rfl)
  have hsb : w.heap.size ≤ sb := (iF.own (i := 0) rfl).elim id fun hm => absurd (iF.get (i := 0) rfl) (by
   intro e
   simp only [List.mem_cons, List.not_mem_nil, or_false] at hm
   rcases hm with rfl | rfl | rfl
   ·exact cu e (iF.get (i := 2) rfl) (by decide) rfl
   ·exact cu e (iF.get (i := 3) rfl) (by decide) rfl
   ·exact cu e (iF.get (i := 4) rfl) (by decide) rfl)
  have hsz := HM.size
  have hP2 : lu b o n c w0.heap.size w' sg i cur := hP.keep hk (by
   intro g hg
   simp only [List.mem_cons, List.not_mem_nil, or_false] at hg
   rcases hg with rfl | rfl | rfl
   ·exact ⟨_, _, _, HM.get (i := 2) rfl, by decide, by decide⟩
   ·exact ⟨_, _, _, HM.get (i := 1) rfl, by decide, by decide⟩
   ·exact ⟨_, _, _, HM.get (i := 0) rfl, by decide, by decide⟩)
  have hP3 := hP2.next (by omega) htk (by omega) (by omega) (iF.get (i := 1) rfl) (iF.get (i := 0) rfl)
  have bU : Mm [] w0 w' [(pd, .cells (X.map Bv).toArray 5 (0, 0)), (pg, .cells cur' 136 (0, 0)), (fb, .cells #[aK 2, .int .u8 dat, aK 1, aV abi, aV aF, (aP big), bf aS, bf aG, aJ aB, aN, aH pg (i + 1) aj, aN, aN, aN] 131 (0, 0)), (s, .cells #[.iface 178 (.slice (some ⟨b, o, none⟩) n c), ay 0, ay 0, ay 9223372036854775807, ay 9223372036854775807] 246 (0, 0))] := HM.after hk (by
   intro g hg
   simp only [List.mem_cons, List.not_mem_nil, or_false] at hg
   rcases hg with rfl | rfl | rfl
   ·exact HM.own (i := 2) rfl
   ·exact HM.own (i := 1) rfl
   ·exact HM.own (i := 0) rfl) rfl (by
   intro p hp
   simp only [List.mem_cons, List.not_mem_nil, or_false] at hp
   rcases hp with rfl | rfl | rfl | rfl
   ·exact iF.get (i := 4) rfl
   ·exact iF.get (i := 3) rfl
   ·exact iF.get (i := 2) rfl
   ·refine (hk.block s (HM.lt (i := 3) rfl) ?_).trans (HM.get (i := 3) rfl)
    simp only [List.mem_cons, List.not_mem_nil, or_false, not_or]
    exact ⟨HM.ne (i := 3) (j := 2) rfl rfl (by decide), HM.ne (i := 3) (j := 1) rfl rfl (by decide), HM.ne (i := 3) (j := 0) rfl rfl (by decide)⟩)
  exact Ip l b o n c hl hnc big abi aF aS aG aB ak aj au ah dat b1 b2 b3 b4 b5 b6 b7 X nI sg hv v1 v2 v3 v4 v5 v6 w0 s fb pg pd K r (i + 1) (by omega) a' w' cur' hcs' hP3 BK bU

theorem J5 (l : List UInt8) (b o n c : Nat) (hl : n = l.length) (hnc : n ≤ c) (big : Bool) (abi aF aS aG aB ak aj au ah : Nat) (dat : Int) (b1 : aS < 65536) (b2 : aG < 65536) (b3 : aB ≤ 18446744073709551615) (b4 : ak < 4611686018427387904) (b5 : au < 4611686018427387904) (b6 : aj < 200) (b7 : ah < 200) (X : List UInt8) (nI : X.length = (aj * 56)) (sg : Nat → lD) (hv : ∀ i, i < aj → um (X.drop (i * 56)) true big (sg i).ty (sg i).flags (sg i).bI (sg i).bJ (sg i).bM (sg i).align (sg i).bH (sg i).off)
  (v1 : ∀ i, i < aj → (sg i).ty < 4294967296) (v2 : ∀ i, i < aj → (sg i).off + (sg i).bH < 4611686018427387904) (v3 : ∀ i, i < aj → (sg i).bI ≤ 18446744073709551615) (v4 : ∀ i, i < aj → (sg i).bJ ≤ 18446744073709551615) (v5 : ∀ i, i < aj → (sg i).bM ≤ 18446744073709551615) (v6 : ∀ i, i < aj → (sg i).align ≤ 18446744073709551615) (w0 : World) (s fb pg pd : Nat) {Q : Exit → Act → World → Prop} (a : Act) (w : World) (cur : Array Value) (hcs : cur.size = aj) (HF : Fr 1287 a [(0, .iface 178 (.slice (some ⟨b, o, none⟩) n c)), (4, aC s), (8, aC fb), (9, (aP big)), (10, aA ak), (11, .int .i64 56), (12, aA aj), (13, aA au), (14, .int .i64 64), (15, aA ah), (16, aA (ah - 1)), (26, .int .i64 64), (36, aH pd (aj * 56) (aj * 56))]) (HM : Mm [] w0 w [(pd, .cells (X.map Bv).toArray 5 (0, 0)), (pg, .cells cur 136 (0, 0)), (fb, .cells #[.int .u8 2, .int .u8 dat, .int .u8 1, aV abi, aV aF, (aP big), bf aS, bf aG, aJ aB, .slice none 0 0, aH pg 0 aj, .slice none 0 0, .slice none 0 0, .slice none 0 0] 131 (0, 0)), (s, .cells #[.iface 178 (.slice (some ⟨b, o, none⟩) n c), .int .i64 0, .int .i64 0, .int .i64 9223372036854775807, .int .i64 9223372036854775807] 246 (0, 0))])
  (K : ∀ a w cur, cur.size = aj → lu b o n c w0.heap.size w sg aj cur → Fr 1287 a [(0, .iface 178 (.slice (some ⟨b, o, none⟩) n c)), (4, aC s), (8, aC fb), (9, (aP big)), (10, aA ak), (11, .int .i64 56), (12, aA aj), (13, aA au), (14, .int .i64 64), (15, aA ah), (16, aA (ah - 1)), (26, .int .i64 64), (36, aH pd (aj * 56) (aj * 56))] → Mm [] w0 w [(pd, .cells (X.map Bv).toArray 5 (0, 0)), (pg, .cells cur 136 (0, 0)), (fb, .cells #[.int .u8 2, .int .u8 dat, .int .u8 1, aV abi, aV aF, (aP big), bf aS, bf aG, aJ aB, .slice none 0 0, aH pg aj aj, .slice none 0 0, .slice none 0 0, .slice none 0 0] 131 (0, 0)), (s, .cells #[.iface 178 (.slice (some ⟨b, o, none⟩) n c), .int .i64 0, .int .i64 0, .int .i64 9223372036854775807, .int .i64 9223372036854775807] 246 (0, 0))] → (spine Tryd.f78 36).wp Tryd.prog Q a w) : (spine Tryd.f78 35).wp Tryd.prog Q a w := by
 refine wp_seq ?_
 refine bC HF HM rfl [] [(0, .iface 178 (.slice (some ⟨b, o, none⟩) n c)), (4, aC s), (8, aC fb), (9, (aP big)), (10, aA ak), (11, .int .i64 56), (12, aA aj), (13, aA au), (14, .int .i64 64), (15, aA ah), (16, aA (ah - 1)), (26, .int .i64 64), (36, aH pd (aj * 56) (aj * 56)), (38, aA 0)] [(pd, .cells (X.map Bv).toArray 5 (0, 0)), (pg, .cells cur 136 (0, 0)), (fb, .cells #[.int .u8 2, .int .u8 dat, .int .u8 1, aV abi, aV aF, (aP big), bf aS, bf aG, aJ aB, .slice none 0 0, aH pg 0 aj, .slice none 0 0, .slice none 0 0, .slice none 0 0] 131 (0, 0)), (s, .cells #[.iface 178 (.slice (some ⟨b, o, none⟩) n c), .int .i64 0, .int .i64 0, .int .i64 9223372036854775807, .int .i64 9223372036854775807] 246 (0, 0))] (by kernel_rfl) ?_
 clear HF HM; intro a w HF HM
 refine wp_block (wp_loop_rounds (aj + 1) ?_)
 exact Ip l b o n c hl hnc big abi aF aS aG aB ak aj au ah dat b1 b2 b3 b4 b5 b6 b7 X nI sg hv v1 v2 v3 v4 v5 v6 w0 s fb pg pd K aj 0 (by omega) a w cur hcs (fun j hj => absurd hj (Nat.not_lt_zero j)) HF HM

end Go.Proofs.YtdgehpocmfjbiaaDoor
namespace Go.Proofs.YtdgehpocmfjbiaaDoor
open Go.RowKit

theorem wO : (Tryd.prog.info? 36).map (fun i => (i.zero, i.size, i.bytes)) = some (some (.int .u32 0), 1, 4) := by kernel_rfl

abbrev gB := fun (b : Nat) (o : Nat) (n : Nat) (c : Nat) (s : Nat) (fb : Nat) (big : Bool) (ak : Nat) (aj : Nat) (au : Nat) (ah : Nat) => ([(0, .iface 178 (.slice (some ⟨b, o, none⟩) n c)), (4, aC s), (8, aC fb), (9, (aP big)), (10, aA ak), (11, ay 32), (12, aA aj), (13, aA au), (14, ay 40), (15, aA ah), (16, aA (ah - 1)), (26, ay 40)] : Slots)
theorem Kw (l : List UInt8) (b o n c : Nat) (hl : n = l.length) (hnc : n ≤ c) (big : Bool) (abi aF aS aG aB ak aj au ah : Nat) (dat : Int) (b1 : aS < 65536) (b2 : aG < 65536) (b3 : aB ≤ 18446744073709551615) (b4 : ak < 4611686018427387904) (b5 : au < 4611686018427387904) (b6 : aj < 200) (b7 : ah < 200) (c1 : 0 < au) (c2 : 0 < ah) (c4 : au < n) (c5 : au + (ah * 40) ≤ n) {Q : Exit → Act → World → Prop} (w0 : World) (hbl : b < w0.heap.size) (hr : Row w0 (some ⟨b, o, none⟩) (l.map Bv)) (G : List Nat) (tY : b ∉ G) (a : Act) (w : World) (s fb pg : Nat) (hbs : b ≠ s) (HF : Fr 1287 a (gB b o n c s fb big ak aj au ah)) (HM : Mm G w0 w [(fb, .cells #[aK 1, .int .u8 dat, aK 1, aV abi, aV aF, (aP big), bf aS, bf aG, aJ aB, aN, aH pg aj aj, aN, aN, aN] 131 (0, 0)), (s, .cells #[.iface 178 (.slice (some ⟨b, o, none⟩) n c), ay 0, ay 0, ay 9223372036854775807, ay 9223372036854775807] 246 (0, 0))])
  (K : ∀ a w aW jZ aT kN sd, jZ.size = ah → kN.size = ah → Fr 1287 a ((gB b o n c s fb big ak aj au ah) ++ [(41, aH aT 0 ah), (42, aH sd (ah * 40) (ah * 40))]) → Mm G w0 w [(sd, .cells (((l.drop au).take (ah * 40)).map Bv).toArray 5 (0, 0)), (aT, .cells kN 36 (0, 0)), (aW, .cells jZ 133 (0, 0)), (fb, .cells #[aK 1, .int .u8 dat, aK 1, aV abi, aV aF, (aP big), bf aS, bf aG, aJ aB, aH aW 0 ah, aH pg aj aj, aN, aN, aN] 131 (0, 0)), (s, .cells #[.iface 178 (.slice (some ⟨b, o, none⟩) n c), ay 0, ay 0, ay 9223372036854775807, ay 9223372036854775807] 246 (0, 0))] → (spine Tryd.f78 44).wp Tryd.prog Q a w) : (spine Tryd.f78 36).wp Tryd.prog Q a w := by
 refine wp_seq ?_
 refine wp_seq (wp_region_lit ?_)
 refine aO HF HM rfl 2 [] ((gB b o n c s fb big ak aj au ah) ++ [(799, .bool (decide (0 < ((ah : Nat) : Int))))]) [(fb, .cells #[aK 1, .int .u8 dat, aK 1, aV abi, aV aF, (aP big), bf aS, bf aG, aJ aB, aN, aH pg aj aj, aN, aN, aN] 131 (0, 0)), (s, .cells #[.iface 178 (.slice (some ⟨b, o, none⟩) n c), ay 0, ay 0, ay 9223372036854775807, ay 9223372036854775807] 246 (0, 0))] (by kernel_rfl) ?_
 clear HF HM; intro a w HF HM
 rw [show decide (0 < ((ah : Nat) : Int)) = true from fC (by omega)] at HF
 refine aO HF HM rfl 5 [] ((gB b o n c s fb big ak aj au ah) ++ [(804, .bool false)]) [(fb, .cells #[aK 1, .int .u8 dat, aK 1, aV abi, aV aF, (aP big), bf aS, bf aG, aJ aB, aN, aH pg aj aj, aN, aN, aN] 131 (0, 0)), (s, .cells #[.iface 178 (.slice (some ⟨b, o, none⟩) n c), ay 0, ay 0, ay 9223372036854775807, ay 9223372036854775807] 246 (0, 0))] (by kernel_rfl) ?_
 clear HF HM; intro a w HF HM
 refine aI ?_
 refine aZ HF rfl ?_
 refine wp_skip ?_
 repeat (first | refine aQ ?_ | refine aU ?_)
 replace HF := HF.sub (gB b o n c s fb big ak aj au ah) (by kernel_rfl)
 refine wp_seq (wp_region_lit ?_)
 refine aO HF HM rfl 2 [] ((gB b o n c s fb big ak aj au ah) ++ [(811, bG (IntKind.u64.wrap ((ah : Nat) : Int)))]) [(fb, .cells #[aK 1, .int .u8 dat, aK 1, aV abi, aV aF, (aP big), bf aS, bf aG, aJ aB, aN, aH pg aj aj, aN, aN, aN] 131 (0, 0)), (s, .cells #[.iface 178 (.slice (some ⟨b, o, none⟩) n c), ay 0, ay 0, ay 9223372036854775807, ay 9223372036854775807] 246 (0, 0))] (by kernel_rfl) ?_
 clear HF HM; intro a w HF HM
 rw [show IntKind.u64.wrap ((ah : Nat) : Int) = ((ah : Nat) : Int) from IntWalk.u64_in _ (by omega)] at HF
 refine bn HF (by kernel_rfl) 98 #[bG 120, aJ ah] (by kernel_rfl) (fun w => by kernel_rfl) (Calls.mono (Ag ah (by omega) w) ?_)
 rintro _ w1 ⟨rfl, hq⟩
 replace HM : Mm G w0 w1 [(fb, .cells #[aK 1, .int .u8 dat, aK 1, aV abi, aV aF, (aP big), bf aS, bf aG, aJ aB, aN, aH pg aj aj, aN, aN, aN] 131 (0, 0)), (s, .cells #[.iface 178 (.slice (some ⟨b, o, none⟩) n c), ay 0, ay 0, ay 9223372036854775807, ay 9223372036854775807] 246 (0, 0))] := by first | (rw [hq]; exact HM) | (rw [← hq]; exact HM)
 clear hq
 refine ⟨_, rfl, ?_⟩; clear HF; intro a HF; replace HF := HF.sub ((gB b o n c s fb big ak aj au ah) ++ [(811, aJ ah), (812, aA ah)]) (by kernel_rfl)
 refine aO HF HM rfl 1 [] ((gB b o n c s fb big ak aj au ah) ++ [(35, aA ah)]) [(fb, .cells #[aK 1, .int .u8 dat, aK 1, aV abi, aV aF, (aP big), bf aS, bf aG, aJ aB, aN, aH pg aj aj, aN, aN, aN] 131 (0, 0)), (s, .cells #[.iface 178 (.slice (some ⟨b, o, none⟩) n c), ay 0, ay 0, ay 9223372036854775807, ay 9223372036854775807] 246 (0, 0))] (by kernel_rfl) ?_
 clear HF HM; intro a w HF HM
 refine aI ?_
 refine wp_seq ?_
 refine wp_seq (wp_region_lit ?_)
 refine aO HF HM rfl 2 [] ((gB b o n c s fb big ak aj au ah) ++ [(35, aA ah), (814, .bool (decide (((ah : Nat) : Int) < 0)))]) [(fb, .cells #[aK 1, .int .u8 dat, aK 1, aV abi, aV aF, (aP big), bf aS, bf aG, aJ aB, aN, aH pg aj aj, aN, aN, aN] 131 (0, 0)), (s, .cells #[.iface 178 (.slice (some ⟨b, o, none⟩) n c), ay 0, ay 0, ay 9223372036854775807, ay 9223372036854775807] 246 (0, 0))] (by kernel_rfl) ?_
 clear HF HM; intro a w HF HM
 rw [show decide (((ah : Nat) : Int) < 0) = false from dI (by omega)] at HF
 refine aI ?_
 refine aZ HF rfl ?_
 refine wp_skip ?_
 repeat (first | refine aQ ?_ | refine aU ?_)
 replace HF := HF.sub ((gB b o n c s fb big ak aj au ah) ++ [(35, aA ah)]) (by kernel_rfl)
 refine wp_seq ?_
 refine wp_seq (wp_region_lit ?_)
 refine aO HF HM rfl 2 [] ((gB b o n c s fb big ak aj au ah) ++ [(35, aA ah), (821, .bool (decide (0 < ((ah : Nat) : Int))))]) [(fb, .cells #[aK 1, .int .u8 dat, aK 1, aV abi, aV aF, (aP big), bf aS, bf aG, aJ aB, aN, aH pg aj aj, aN, aN, aN] 131 (0, 0)), (s, .cells #[.iface 178 (.slice (some ⟨b, o, none⟩) n c), ay 0, ay 0, ay 9223372036854775807, ay 9223372036854775807] 246 (0, 0))] (by kernel_rfl) ?_
 clear HF HM; intro a w HF HM
 rw [show decide (0 < ((ah : Nat) : Int)) = true from fC (by omega)] at HF
 refine aO HF HM rfl 3 [] ((gB b o n c s fb big ak aj au ah) ++ [(35, aA ah), (821, .bool true), (822, .bool true), (824, bG (IntKind.u64.wrap ((ah : Nat) : Int)))]) [(fb, .cells #[aK 1, .int .u8 dat, aK 1, aV abi, aV aF, (aP big), bf aS, bf aG, aJ aB, aN, aH pg aj aj, aN, aN, aN] 131 (0, 0)), (s, .cells #[.iface 178 (.slice (some ⟨b, o, none⟩) n c), ay 0, ay 0, ay 9223372036854775807, ay 9223372036854775807] 246 (0, 0))] (by kernel_rfl) ?_
 clear HF HM; intro a w HF HM
 rw [show IntKind.u64.wrap ((ah : Nat) : Int) = ((ah : Nat) : Int) from IntWalk.u64_in _ (by omega)] at HF
 refine eY HF (by kernel_rfl) (bG (IntKind.u64.wrap ((18446744073709551615 : Int).tdiv ((ah : Nat) : Int)))) (by kernel_rfl) (BP rfl rfl rfl (by omega)) ?_
 clear HF; intro a HF; replace HF := HF.sub [(0, .iface 178 (.slice (some ⟨b, o, none⟩) n c)), (4, aC s), (8, aC fb), (9, (aP big)), (10, aA ak), (11, ay 32), (12, aA aj), (13, aA au), (14, ay 40), (15, aA ah), (16, aA (ah - 1)), (26, ay 40), (35, aA ah), (821, .bool true), (822, .bool true), (824, aJ ah), (825, bG (IntKind.u64.wrap ((18446744073709551615 : Int).tdiv ((ah : Nat) : Int))))] (by kernel_rfl)
 have hq := Cb ah c2 b7
 rw [IntWalk.u64_in ((18446744073709551615 : Int).tdiv ((ah : Nat) : Int)) (by omega)] at HF
 refine aO HF HM rfl 3 [] ((gB b o n c s fb big ak aj au ah) ++ [(35, aA ah), (821, .bool true), (822, .bool true), (828, .bool (decide (((18446744073709551615 : Int).tdiv ((ah : Nat) : Int)) < 40)))]) [(fb, .cells #[aK 1, .int .u8 dat, aK 1, aV abi, aV aF, (aP big), bf aS, bf aG, aJ aB, aN, aH pg aj aj, aN, aN, aN] 131 (0, 0)), (s, .cells #[.iface 178 (.slice (some ⟨b, o, none⟩) n c), ay 0, ay 0, ay 9223372036854775807, ay 9223372036854775807] 246 (0, 0))] (by kernel_rfl) ?_
 clear HF HM; intro a w HF HM
 rw [show decide (((18446744073709551615 : Int).tdiv ((ah : Nat) : Int)) < 40) = false from dI (by omega)] at HF
 refine aO HF HM rfl 1 [] ((gB b o n c s fb big ak aj au ah) ++ [(35, aA ah), (829, .bool false)]) [(fb, .cells #[aK 1, .int .u8 dat, aK 1, aV abi, aV aF, (aP big), bf aS, bf aG, aJ aB, aN, aH pg aj aj, aN, aN, aN] 131 (0, 0)), (s, .cells #[.iface 178 (.slice (some ⟨b, o, none⟩) n c), ay 0, ay 0, ay 9223372036854775807, ay 9223372036854775807] 246 (0, 0))] (by kernel_rfl) ?_
 clear HF HM; intro a w HF HM
 refine aI ?_
 refine aZ HF rfl ?_
 refine wp_skip ?_
 repeat (first | refine aQ ?_ | refine aU ?_)
 replace HF := HF.sub ((gB b o n c s fb big ak aj au ah) ++ [(35, aA ah)]) (by kernel_rfl)
 refine wp_seq (wp_region_lit ?_)
 refine aO HF HM rfl 2 [] ((gB b o n c s fb big ak aj au ah) ++ [(35, aA ah), (835, aC fb), (836, aA ah)]) [(fb, .cells #[aK 1, .int .u8 dat, aK 1, aV abi, aV aF, (aP big), bf aS, bf aG, aJ aB, aN, aH pg aj aj, aN, aN, aN] 131 (0, 0)), (s, .cells #[.iface 178 (.slice (some ⟨b, o, none⟩) n c), ay 0, ay 0, ay 9223372036854775807, ay 9223372036854775807] 246 (0, 0))] (by kernel_rfl) ?_
 clear HF HM; intro a w HF HM
 refine nO HF HM rfl _ _ 126 rfl rfl 133 (.pointer none) 8 Tryd.underlying126 yD .i64 .i64 ah rfl rfl (by omega) (by unfold maxLen; omega) ?_
 intro a2 w2 aW jZ hgw LG bU HF2; clear HF HM hgw; have HM := bU; have HF := HF2; clear bU HF2
 replace HF := HF.sub ((gB b o n c s fb big ak aj au ah) ++ [(35, aA ah), (835, aC fb), (837, aH aW 0 ah)]) (by kernel_rfl)
 refine aO HF HM rfl 3 [[1]] ((gB b o n c s fb big ak aj au ah) ++ [(35, aA ah)]) [(aW, .cells jZ 133 (0, 0)), (fb, .cells #[aK 1, .int .u8 dat, aK 1, aV abi, aV aF, (aP big), bf aS, bf aG, aJ aB, aH aW 0 ah, aH pg aj aj, aN, aN, aN] 131 (0, 0)), (s, .cells #[.iface 178 (.slice (some ⟨b, o, none⟩) n c), ay 0, ay 0, ay 9223372036854775807, ay 9223372036854775807] 246 (0, 0))] (by kernel_rfl) ?_
 clear HF HM; intro a w HF HM
 refine aI ?_
 refine wp_seq (wp_region_lit ?_)
 refine aO HF HM rfl 1 [] ((gB b o n c s fb big ak aj au ah) ++ [(35, aA ah), (840, aA ah)]) [(aW, .cells jZ 133 (0, 0)), (fb, .cells #[aK 1, .int .u8 dat, aK 1, aV abi, aV aF, (aP big), bf aS, bf aG, aJ aB, aH aW 0 ah, aH pg aj aj, aN, aN, aN] 131 (0, 0)), (s, .cells #[.iface 178 (.slice (some ⟨b, o, none⟩) n c), ay 0, ay 0, ay 9223372036854775807, ay 9223372036854775807] 246 (0, 0))] (by kernel_rfl) ?_
 clear HF HM; intro a w HF HM
 refine nO HF HM rfl _ _ 222 rfl rfl 36 (lJ 0) 4 Tryd.underlying222 wO .i64 .i64 ah rfl rfl (by omega) (by unfold maxLen; omega) ?_
 intro a2 w3 aT kN hgw LJ bU HF2; clear HF HM hgw; have HM := bU; have HF := HF2; clear bU HF2
 replace HF := HF.sub ((gB b o n c s fb big ak aj au ah) ++ [(35, aA ah), (841, aH aT 0 ah)]) (by kernel_rfl)
 refine aO HF HM rfl 1 [] ((gB b o n c s fb big ak aj au ah) ++ [(35, aA ah), (41, aH aT 0 ah)]) [(aT, .cells kN 36 (0, 0)), (aW, .cells jZ 133 (0, 0)), (fb, .cells #[aK 1, .int .u8 dat, aK 1, aV abi, aV aF, (aP big), bf aS, bf aG, aJ aB, aH aW 0 ah, aH pg aj aj, aN, aN, aN] 131 (0, 0)), (s, .cells #[.iface 178 (.slice (some ⟨b, o, none⟩) n c), ay 0, ay 0, ay 9223372036854775807, ay 9223372036854775807] 246 (0, 0))] (by kernel_rfl) ?_
 clear HF HM; intro a w HF HM
 refine aI ?_
 refine wp_seq (wp_region_lit ?_)
 refine aO HF HM rfl 4 [] ((gB b o n c s fb big ak aj au ah) ++ [(35, aA ah), (41, aH aT 0 ah), (844, .iface 144 (aC s)), (846, bG (IntKind.u64.wrap ((ah : Nat) : Int)))]) [(aT, .cells kN 36 (0, 0)), (aW, .cells jZ 133 (0, 0)), (fb, .cells #[aK 1, .int .u8 dat, aK 1, aV abi, aV aF, (aP big), bf aS, bf aG, aJ aB, aH aW 0 ah, aH pg aj aj, aN, aN, aN] 131 (0, 0)), (s, .cells #[.iface 178 (.slice (some ⟨b, o, none⟩) n c), ay 0, ay 0, ay 9223372036854775807, ay 9223372036854775807] 246 (0, 0))] (by kernel_rfl) ?_
 clear HF HM; intro a w HF HM
 rw [show IntKind.u64.wrap ((ah : Nat) : Int) = ((ah : Nat) : Int) from IntWalk.u64_in _ (by omega)] at HF
 refine aO HF HM rfl 3 [] ((gB b o n c s fb big ak aj au ah) ++ [(35, aA ah), (41, aH aT 0 ah), (844, .iface 144 (aC s)), (849, bG (IntKind.u64.wrap (((ah : Nat) : Int) * 40)))]) [(aT, .cells kN 36 (0, 0)), (aW, .cells jZ 133 (0, 0)), (fb, .cells #[aK 1, .int .u8 dat, aK 1, aV abi, aV aF, (aP big), bf aS, bf aG, aJ aB, aH aW 0 ah, aH pg aj aj, aN, aN, aN] 131 (0, 0)), (s, .cells #[.iface 178 (.slice (some ⟨b, o, none⟩) n c), ay 0, ay 0, ay 9223372036854775807, ay 9223372036854775807] 246 (0, 0))] (by kernel_rfl) ?_
 clear HF HM; intro a w HF HM
 rw [show IntKind.u64.wrap (((ah : Nat) : Int) * 40) = (((ah * 40) : Nat) : Int) from (IntWalk.u64_in _ (by omega)).trans (by omega)] at HF
 refine aO HF HM rfl 1 [] ((gB b o n c s fb big ak aj au ah) ++ [(35, aA ah), (41, aH aT 0 ah), (844, .iface 144 (aC s)), (849, aJ (ah * 40)), (850, aA au)]) [(aT, .cells kN 36 (0, 0)), (aW, .cells jZ 133 (0, 0)), (fb, .cells #[aK 1, .int .u8 dat, aK 1, aV abi, aV aF, (aP big), bf aS, bf aG, aJ aB, aH aW 0 ah, aH pg aj aj, aN, aN, aN] 131 (0, 0)), (s, .cells #[.iface 178 (.slice (some ⟨b, o, none⟩) n c), ay 0, ay 0, ay 9223372036854775807, ay 9223372036854775807] 246 (0, 0))] (by kernel_rfl) ?_
 clear HF HM; intro a w HF HM
 refine bn HF (by kernel_rfl) 99 #[.iface 144 (aC s), aJ (ah * 40), aA au] (by kernel_rfl) (fun w => by kernel_rfl) (Calls.mono (ni l b o n c hl hnc s (ah * 40) 0 au 0 9223372036854775807 9223372036854775807 (by omega) (by omega) (by omega) (by omega) (by omega) (by omega) w (HM.row hr (by intro b' o' s' e; injection e with e; injection e with e; subst e; exact tY)) (Nat.lt_of_lt_of_le hbl HM.size) hbs (HM.get (i := 3) rfl)) ?_)
 rintro _ w4 ⟨sd, rfl, hb, hge, hgn⟩
 replace HM : Mm G w0 w4 [(sd, .cells (((l.drop (0 + au)).take (ah * 40)).map Bv).toArray 5 (0, 0)), (aT, .cells kN 36 (0, 0)), (aW, .cells jZ 133 (0, 0)), (fb, .cells #[aK 1, .int .u8 dat, aK 1, aV abi, aV aF, (aP big), bf aS, bf aG, aJ aB, aH aW 0 ah, aH pg aj aj, aN, aN, aN] 131 (0, 0)), (s, .cells #[.iface 178 (.slice (some ⟨b, o, none⟩) n c), ay 0, ay 0, ay 9223372036854775807, ay 9223372036854775807] 246 (0, 0))] := HM.push hb hge hgn
 clear hge hgn
 refine ⟨_, rfl, ?_⟩; clear HF; intro a HF; replace HF := HF.sub ((gB b o n c s fb big ak aj au ah) ++ [(35, aA ah), (41, aH aT 0 ah), (844, .iface 144 (aC s)), (849, aJ (ah * 40)), (850, aA au), (851, .tuple #[aH sd (ah * 40) (ah * 40), .nilIface])]) (by kernel_rfl)
 refine aO HF HM rfl 5 [] ((gB b o n c s fb big ak aj au ah) ++ [(35, aA ah), (41, aH aT 0 ah), (42, aH sd (ah * 40) (ah * 40)), (37, .nilIface)]) [(sd, .cells (((l.drop (0 + au)).take (ah * 40)).map Bv).toArray 5 (0, 0)), (aT, .cells kN 36 (0, 0)), (aW, .cells jZ 133 (0, 0)), (fb, .cells #[aK 1, .int .u8 dat, aK 1, aV abi, aV aF, (aP big), bf aS, bf aG, aJ aB, aH aW 0 ah, aH pg aj aj, aN, aN, aN] 131 (0, 0)), (s, .cells #[.iface 178 (.slice (some ⟨b, o, none⟩) n c), ay 0, ay 0, ay 9223372036854775807, ay 9223372036854775807] 246 (0, 0))] (by kernel_rfl) ?_
 clear HF HM; intro a w HF HM
 refine aI ?_
 refine wp_seq ?_
 refine wp_seq (wp_region_lit ?_)
 refine aO HF HM rfl 2 [] ((gB b o n c s fb big ak aj au ah) ++ [(35, aA ah), (41, aH aT 0 ah), (42, aH sd (ah * 40) (ah * 40)), (37, .nilIface), (855, .bool false)]) [(sd, .cells (((l.drop (0 + au)).take (ah * 40)).map Bv).toArray 5 (0, 0)), (aT, .cells kN 36 (0, 0)), (aW, .cells jZ 133 (0, 0)), (fb, .cells #[aK 1, .int .u8 dat, aK 1, aV abi, aV aF, (aP big), bf aS, bf aG, aJ aB, aH aW 0 ah, aH pg aj aj, aN, aN, aN] 131 (0, 0)), (s, .cells #[.iface 178 (.slice (some ⟨b, o, none⟩) n c), ay 0, ay 0, ay 9223372036854775807, ay 9223372036854775807] 246 (0, 0))] (by kernel_rfl) ?_
 clear HF HM; intro a w HF HM
 refine aI ?_
 refine aZ HF rfl ?_
 refine wp_skip ?_
 repeat (first | refine aQ ?_ | refine aU ?_)
 replace HF := HF.sub ((gB b o n c s fb big ak aj au ah) ++ [(41, aH aT 0 ah), (42, aH sd (ah * 40) (ah * 40))]) (by kernel_rfl)
 replace HF := HF.sub ((gB b o n c s fb big ak aj au ah) ++ [(41, aH aT 0 ah), (42, aH sd (ah * 40) (ah * 40))]) (by kernel_rfl)
 rw [Nat.zero_add] at HM
 exact K a w aW jZ aT kN sd LG LJ HF HM

abbrev gy := fun (b : Nat) (o : Nat) (n : Nat) (c : Nat) (s : Nat) (fb : Nat) (big : Bool) (ak : Nat) (aj : Nat) (au : Nat) (ah : Nat) => ([(0, .iface 178 (.slice (some ⟨b, o, none⟩) n c)), (4, aC s), (8, aC fb), (9, (aP big)), (10, aA ak), (11, ay 56), (12, aA aj), (13, aA au), (14, ay 64), (15, aA ah), (16, aA (ah - 1)), (26, ay 64)] : Slots)
theorem Kv (l : List UInt8) (b o n c : Nat) (hl : n = l.length) (hnc : n ≤ c) (big : Bool) (abi aF aS aG aB ak aj au ah : Nat) (dat : Int) (b1 : aS < 65536) (b2 : aG < 65536) (b3 : aB ≤ 18446744073709551615) (b4 : ak < 4611686018427387904) (b5 : au < 4611686018427387904) (b6 : aj < 200) (b7 : ah < 200) (c1 : 0 < au) (c2 : 0 < ah) (c4 : au < n) (c5 : au + (ah * 64) ≤ n) {Q : Exit → Act → World → Prop} (w0 : World) (hbl : b < w0.heap.size) (hr : Row w0 (some ⟨b, o, none⟩) (l.map Bv)) (G : List Nat) (tY : b ∉ G) (a : Act) (w : World) (s fb pg : Nat) (hbs : b ≠ s) (HF : Fr 1287 a (gy b o n c s fb big ak aj au ah)) (HM : Mm G w0 w [(fb, .cells #[aK 2, .int .u8 dat, aK 1, aV abi, aV aF, (aP big), bf aS, bf aG, aJ aB, aN, aH pg aj aj, aN, aN, aN] 131 (0, 0)), (s, .cells #[.iface 178 (.slice (some ⟨b, o, none⟩) n c), ay 0, ay 0, ay 9223372036854775807, ay 9223372036854775807] 246 (0, 0))])
  (K : ∀ a w aW jZ aT kN sd, jZ.size = ah → kN.size = ah → Fr 1287 a ((gy b o n c s fb big ak aj au ah) ++ [(41, aH aT 0 ah), (42, aH sd (ah * 64) (ah * 64))]) → Mm G w0 w [(sd, .cells (((l.drop au).take (ah * 64)).map Bv).toArray 5 (0, 0)), (aT, .cells kN 36 (0, 0)), (aW, .cells jZ 133 (0, 0)), (fb, .cells #[aK 2, .int .u8 dat, aK 1, aV abi, aV aF, (aP big), bf aS, bf aG, aJ aB, aH aW 0 ah, aH pg aj aj, aN, aN, aN] 131 (0, 0)), (s, .cells #[.iface 178 (.slice (some ⟨b, o, none⟩) n c), ay 0, ay 0, ay 9223372036854775807, ay 9223372036854775807] 246 (0, 0))] → (spine Tryd.f78 44).wp Tryd.prog Q a w) : (spine Tryd.f78 36).wp Tryd.prog Q a w := by
 refine wp_seq ?_
 refine wp_seq (wp_region_lit ?_)
 refine aO HF HM rfl 2 [] ((gy b o n c s fb big ak aj au ah) ++ [(799, .bool (decide (0 < ((ah : Nat) : Int))))]) [(fb, .cells #[aK 2, .int .u8 dat, aK 1, aV abi, aV aF, (aP big), bf aS, bf aG, aJ aB, aN, aH pg aj aj, aN, aN, aN] 131 (0, 0)), (s, .cells #[.iface 178 (.slice (some ⟨b, o, none⟩) n c), ay 0, ay 0, ay 9223372036854775807, ay 9223372036854775807] 246 (0, 0))] (by kernel_rfl) ?_
 clear HF HM; intro a w HF HM
 rw [show decide (0 < ((ah : Nat) : Int)) = true from fC (by omega)] at HF
 refine aO HF HM rfl 5 [] ((gy b o n c s fb big ak aj au ah) ++ [(804, .bool false)]) [(fb, .cells #[aK 2, .int .u8 dat, aK 1, aV abi, aV aF, (aP big), bf aS, bf aG, aJ aB, aN, aH pg aj aj, aN, aN, aN] 131 (0, 0)), (s, .cells #[.iface 178 (.slice (some ⟨b, o, none⟩) n c), ay 0, ay 0, ay 9223372036854775807, ay 9223372036854775807] 246 (0, 0))] (by kernel_rfl) ?_
 clear HF HM; intro a w HF HM
 refine aI ?_
 refine aZ HF rfl ?_
 refine wp_skip ?_
 repeat (first | refine aQ ?_ | refine aU ?_)
 replace HF := HF.sub (gy b o n c s fb big ak aj au ah) (by kernel_rfl)
 refine wp_seq (wp_region_lit ?_)
 refine aO HF HM rfl 2 [] ((gy b o n c s fb big ak aj au ah) ++ [(811, bG (IntKind.u64.wrap ((ah : Nat) : Int)))]) [(fb, .cells #[aK 2, .int .u8 dat, aK 1, aV abi, aV aF, (aP big), bf aS, bf aG, aJ aB, aN, aH pg aj aj, aN, aN, aN] 131 (0, 0)), (s, .cells #[.iface 178 (.slice (some ⟨b, o, none⟩) n c), ay 0, ay 0, ay 9223372036854775807, ay 9223372036854775807] 246 (0, 0))] (by kernel_rfl) ?_
 clear HF HM; intro a w HF HM
 rw [show IntKind.u64.wrap ((ah : Nat) : Int) = ((ah : Nat) : Int) from IntWalk.u64_in _ (by omega)] at HF
 refine bn HF (by kernel_rfl) 98 #[bG 120, aJ ah] (by kernel_rfl) (fun w => by kernel_rfl) (Calls.mono (Ag ah (by omega) w) ?_)
 rintro _ w1 ⟨rfl, hq⟩
 replace HM : Mm G w0 w1 [(fb, .cells #[aK 2, .int .u8 dat, aK 1, aV abi, aV aF, (aP big), bf aS, bf aG, aJ aB, aN, aH pg aj aj, aN, aN, aN] 131 (0, 0)), (s, .cells #[.iface 178 (.slice (some ⟨b, o, none⟩) n c), ay 0, ay 0, ay 9223372036854775807, ay 9223372036854775807] 246 (0, 0))] := by first | (rw [hq]; exact HM) | (rw [← hq]; exact HM)
 clear hq
 refine ⟨_, rfl, ?_⟩; clear HF; intro a HF; replace HF := HF.sub ((gy b o n c s fb big ak aj au ah) ++ [(811, aJ ah), (812, aA ah)]) (by kernel_rfl)
 refine aO HF HM rfl 1 [] ((gy b o n c s fb big ak aj au ah) ++ [(35, aA ah)]) [(fb, .cells #[aK 2, .int .u8 dat, aK 1, aV abi, aV aF, (aP big), bf aS, bf aG, aJ aB, aN, aH pg aj aj, aN, aN, aN] 131 (0, 0)), (s, .cells #[.iface 178 (.slice (some ⟨b, o, none⟩) n c), ay 0, ay 0, ay 9223372036854775807, ay 9223372036854775807] 246 (0, 0))] (by kernel_rfl) ?_
 clear HF HM; intro a w HF HM
 refine aI ?_
 refine wp_seq ?_
 refine wp_seq (wp_region_lit ?_)
 refine aO HF HM rfl 2 [] ((gy b o n c s fb big ak aj au ah) ++ [(35, aA ah), (814, .bool (decide (((ah : Nat) : Int) < 0)))]) [(fb, .cells #[aK 2, .int .u8 dat, aK 1, aV abi, aV aF, (aP big), bf aS, bf aG, aJ aB, aN, aH pg aj aj, aN, aN, aN] 131 (0, 0)), (s, .cells #[.iface 178 (.slice (some ⟨b, o, none⟩) n c), ay 0, ay 0, ay 9223372036854775807, ay 9223372036854775807] 246 (0, 0))] (by kernel_rfl) ?_
 clear HF HM; intro a w HF HM
 rw [show decide (((ah : Nat) : Int) < 0) = false from dI (by omega)] at HF
 refine aI ?_
 refine aZ HF rfl ?_
 refine wp_skip ?_
 repeat (first | refine aQ ?_ | refine aU ?_)
 replace HF := HF.sub ((gy b o n c s fb big ak aj au ah) ++ [(35, aA ah)]) (by kernel_rfl)
 refine wp_seq ?_
 refine wp_seq (wp_region_lit ?_)
 refine aO HF HM rfl 2 [] ((gy b o n c s fb big ak aj au ah) ++ [(35, aA ah), (821, .bool (decide (0 < ((ah : Nat) : Int))))]) [(fb, .cells #[aK 2, .int .u8 dat, aK 1, aV abi, aV aF, (aP big), bf aS, bf aG, aJ aB, aN, aH pg aj aj, aN, aN, aN] 131 (0, 0)), (s, .cells #[.iface 178 (.slice (some ⟨b, o, none⟩) n c), ay 0, ay 0, ay 9223372036854775807, ay 9223372036854775807] 246 (0, 0))] (by kernel_rfl) ?_
 clear HF HM; intro a w HF HM
 rw [show decide (0 < ((ah : Nat) : Int)) = true from fC (by omega)] at HF
 refine aO HF HM rfl 3 [] ((gy b o n c s fb big ak aj au ah) ++ [(35, aA ah), (821, .bool true), (822, .bool true), (824, bG (IntKind.u64.wrap ((ah : Nat) : Int)))]) [(fb, .cells #[aK 2, .int .u8 dat, aK 1, aV abi, aV aF, (aP big), bf aS, bf aG, aJ aB, aN, aH pg aj aj, aN, aN, aN] 131 (0, 0)), (s, .cells #[.iface 178 (.slice (some ⟨b, o, none⟩) n c), ay 0, ay 0, ay 9223372036854775807, ay 9223372036854775807] 246 (0, 0))] (by kernel_rfl) ?_
 clear HF HM; intro a w HF HM
 rw [show IntKind.u64.wrap ((ah : Nat) : Int) = ((ah : Nat) : Int) from IntWalk.u64_in _ (by omega)] at HF
 refine eY HF (by kernel_rfl) (bG (IntKind.u64.wrap ((18446744073709551615 : Int).tdiv ((ah : Nat) : Int)))) (by kernel_rfl) (BP rfl rfl rfl (by omega)) ?_
 clear HF; intro a HF; replace HF := HF.sub [(0, .iface 178 (.slice (some ⟨b, o, none⟩) n c)), (4, aC s), (8, aC fb), (9, (aP big)), (10, aA ak), (11, ay 56), (12, aA aj), (13, aA au), (14, ay 64), (15, aA ah), (16, aA (ah - 1)), (26, ay 64), (35, aA ah), (821, .bool true), (822, .bool true), (824, aJ ah), (825, bG (IntKind.u64.wrap ((18446744073709551615 : Int).tdiv ((ah : Nat) : Int))))] (by kernel_rfl)
 have hq := Cb ah c2 b7
 rw [IntWalk.u64_in ((18446744073709551615 : Int).tdiv ((ah : Nat) : Int)) (by omega)] at HF
 refine aO HF HM rfl 3 [] ((gy b o n c s fb big ak aj au ah) ++ [(35, aA ah), (821, .bool true), (822, .bool true), (828, .bool (decide (((18446744073709551615 : Int).tdiv ((ah : Nat) : Int)) < 64)))]) [(fb, .cells #[aK 2, .int .u8 dat, aK 1, aV abi, aV aF, (aP big), bf aS, bf aG, aJ aB, aN, aH pg aj aj, aN, aN, aN] 131 (0, 0)), (s, .cells #[.iface 178 (.slice (some ⟨b, o, none⟩) n c), ay 0, ay 0, ay 9223372036854775807, ay 9223372036854775807] 246 (0, 0))] (by kernel_rfl) ?_
 clear HF HM; intro a w HF HM
 rw [show decide (((18446744073709551615 : Int).tdiv ((ah : Nat) : Int)) < 64) = false from dI (by omega)] at HF
 refine aO HF HM rfl 1 [] ((gy b o n c s fb big ak aj au ah) ++ [(35, aA ah), (829, .bool false)]) [(fb, .cells #[aK 2, .int .u8 dat, aK 1, aV abi, aV aF, (aP big), bf aS, bf aG, aJ aB, aN, aH pg aj aj, aN, aN, aN] 131 (0, 0)), (s, .cells #[.iface 178 (.slice (some ⟨b, o, none⟩) n c), ay 0, ay 0, ay 9223372036854775807, ay 9223372036854775807] 246 (0, 0))] (by kernel_rfl) ?_
 clear HF HM; intro a w HF HM
 refine aI ?_
 refine aZ HF rfl ?_
 refine wp_skip ?_
 repeat (first | refine aQ ?_ | refine aU ?_)
 replace HF := HF.sub ((gy b o n c s fb big ak aj au ah) ++ [(35, aA ah)]) (by kernel_rfl)
 refine wp_seq (wp_region_lit ?_)
 refine aO HF HM rfl 2 [] ((gy b o n c s fb big ak aj au ah) ++ [(35, aA ah), (835, aC fb), (836, aA ah)]) [(fb, .cells #[aK 2, .int .u8 dat, aK 1, aV abi, aV aF, (aP big), bf aS, bf aG, aJ aB, aN, aH pg aj aj, aN, aN, aN] 131 (0, 0)), (s, .cells #[.iface 178 (.slice (some ⟨b, o, none⟩) n c), ay 0, ay 0, ay 9223372036854775807, ay 9223372036854775807] 246 (0, 0))] (by kernel_rfl) ?_
 clear HF HM; intro a w HF HM
 refine nO HF HM rfl _ _ 126 rfl rfl 133 (.pointer none) 8 Tryd.underlying126 yD .i64 .i64 ah rfl rfl (by omega) (by unfold maxLen; omega) ?_
 intro a2 w2 aW jZ hgw LG bU HF2; clear HF HM hgw; have HM := bU; have HF := HF2; clear bU HF2
 replace HF := HF.sub ((gy b o n c s fb big ak aj au ah) ++ [(35, aA ah), (835, aC fb), (837, aH aW 0 ah)]) (by kernel_rfl)
 refine aO HF HM rfl 3 [[1]] ((gy b o n c s fb big ak aj au ah) ++ [(35, aA ah)]) [(aW, .cells jZ 133 (0, 0)), (fb, .cells #[aK 2, .int .u8 dat, aK 1, aV abi, aV aF, (aP big), bf aS, bf aG, aJ aB, aH aW 0 ah, aH pg aj aj, aN, aN, aN] 131 (0, 0)), (s, .cells #[.iface 178 (.slice (some ⟨b, o, none⟩) n c), ay 0, ay 0, ay 9223372036854775807, ay 9223372036854775807] 246 (0, 0))] (by kernel_rfl) ?_
 clear HF HM; intro a w HF HM
 refine aI ?_
 refine wp_seq (wp_region_lit ?_)
 refine aO HF HM rfl 1 [] ((gy b o n c s fb big ak aj au ah) ++ [(35, aA ah), (840, aA ah)]) [(aW, .cells jZ 133 (0, 0)), (fb, .cells #[aK 2, .int .u8 dat, aK 1, aV abi, aV aF, (aP big), bf aS, bf aG, aJ aB, aH aW 0 ah, aH pg aj aj, aN, aN, aN] 131 (0, 0)), (s, .cells #[.iface 178 (.slice (some ⟨b, o, none⟩) n c), ay 0, ay 0, ay 9223372036854775807, ay 9223372036854775807] 246 (0, 0))] (by kernel_rfl) ?_
 clear HF HM; intro a w HF HM
 refine nO HF HM rfl _ _ 222 rfl rfl 36 (lJ 0) 4 Tryd.underlying222 wO .i64 .i64 ah rfl rfl (by omega) (by unfold maxLen; omega) ?_
 intro a2 w3 aT kN hgw LJ bU HF2; clear HF HM hgw; have HM := bU; have HF := HF2; clear bU HF2
 replace HF := HF.sub ((gy b o n c s fb big ak aj au ah) ++ [(35, aA ah), (841, aH aT 0 ah)]) (by kernel_rfl)
 refine aO HF HM rfl 1 [] ((gy b o n c s fb big ak aj au ah) ++ [(35, aA ah), (41, aH aT 0 ah)]) [(aT, .cells kN 36 (0, 0)), (aW, .cells jZ 133 (0, 0)), (fb, .cells #[aK 2, .int .u8 dat, aK 1, aV abi, aV aF, (aP big), bf aS, bf aG, aJ aB, aH aW 0 ah, aH pg aj aj, aN, aN, aN] 131 (0, 0)), (s, .cells #[.iface 178 (.slice (some ⟨b, o, none⟩) n c), ay 0, ay 0, ay 9223372036854775807, ay 9223372036854775807] 246 (0, 0))] (by kernel_rfl) ?_
 clear HF HM; intro a w HF HM
 refine aI ?_
 refine wp_seq (wp_region_lit ?_)
 refine aO HF HM rfl 4 [] ((gy b o n c s fb big ak aj au ah) ++ [(35, aA ah), (41, aH aT 0 ah), (844, .iface 144 (aC s)), (846, bG (IntKind.u64.wrap ((ah : Nat) : Int)))]) [(aT, .cells kN 36 (0, 0)), (aW, .cells jZ 133 (0, 0)), (fb, .cells #[aK 2, .int .u8 dat, aK 1, aV abi, aV aF, (aP big), bf aS, bf aG, aJ aB, aH aW 0 ah, aH pg aj aj, aN, aN, aN] 131 (0, 0)), (s, .cells #[.iface 178 (.slice (some ⟨b, o, none⟩) n c), ay 0, ay 0, ay 9223372036854775807, ay 9223372036854775807] 246 (0, 0))] (by kernel_rfl) ?_
 clear HF HM; intro a w HF HM
 rw [show IntKind.u64.wrap ((ah : Nat) : Int) = ((ah : Nat) : Int) from IntWalk.u64_in _ (by omega)] at HF
 refine aO HF HM rfl 3 [] ((gy b o n c s fb big ak aj au ah) ++ [(35, aA ah), (41, aH aT 0 ah), (844, .iface 144 (aC s)), (849, bG (IntKind.u64.wrap (((ah : Nat) : Int) * 64)))]) [(aT, .cells kN 36 (0, 0)), (aW, .cells jZ 133 (0, 0)), (fb, .cells #[aK 2, .int .u8 dat, aK 1, aV abi, aV aF, (aP big), bf aS, bf aG, aJ aB, aH aW 0 ah, aH pg aj aj, aN, aN, aN] 131 (0, 0)), (s, .cells #[.iface 178 (.slice (some ⟨b, o, none⟩) n c), ay 0, ay 0, ay 9223372036854775807, ay 9223372036854775807] 246 (0, 0))] (by kernel_rfl) ?_
 clear HF HM; intro a w HF HM
 rw [show IntKind.u64.wrap (((ah : Nat) : Int) * 64) = (((ah * 64) : Nat) : Int) from (IntWalk.u64_in _ (by omega)).trans (by omega)] at HF
 refine aO HF HM rfl 1 [] ((gy b o n c s fb big ak aj au ah) ++ [(35, aA ah), (41, aH aT 0 ah), (844, .iface 144 (aC s)), (849, aJ (ah * 64)), (850, aA au)]) [(aT, .cells kN 36 (0, 0)), (aW, .cells jZ 133 (0, 0)), (fb, .cells #[aK 2, .int .u8 dat, aK 1, aV abi, aV aF, (aP big), bf aS, bf aG, aJ aB, aH aW 0 ah, aH pg aj aj, aN, aN, aN] 131 (0, 0)), (s, .cells #[.iface 178 (.slice (some ⟨b, o, none⟩) n c), ay 0, ay 0, ay 9223372036854775807, ay 9223372036854775807] 246 (0, 0))] (by kernel_rfl) ?_
 clear HF HM; intro a w HF HM
 refine bn HF (by kernel_rfl) 99 #[.iface 144 (aC s), aJ (ah * 64), aA au] (by kernel_rfl) (fun w => by kernel_rfl) (Calls.mono (ni l b o n c hl hnc s (ah * 64) 0 au 0 9223372036854775807 9223372036854775807 (by omega) (by omega) (by omega) (by omega) (by omega) (by omega) w (HM.row hr (by intro b' o' s' e; injection e with e; injection e with e; subst e; exact tY)) (Nat.lt_of_lt_of_le hbl HM.size) hbs (HM.get (i := 3) rfl)) ?_)
 rintro _ w4 ⟨sd, rfl, hb, hge, hgn⟩
 replace HM : Mm G w0 w4 [(sd, .cells (((l.drop (0 + au)).take (ah * 64)).map Bv).toArray 5 (0, 0)), (aT, .cells kN 36 (0, 0)), (aW, .cells jZ 133 (0, 0)), (fb, .cells #[aK 2, .int .u8 dat, aK 1, aV abi, aV aF, (aP big), bf aS, bf aG, aJ aB, aH aW 0 ah, aH pg aj aj, aN, aN, aN] 131 (0, 0)), (s, .cells #[.iface 178 (.slice (some ⟨b, o, none⟩) n c), ay 0, ay 0, ay 9223372036854775807, ay 9223372036854775807] 246 (0, 0))] := HM.push hb hge hgn
 clear hge hgn
 refine ⟨_, rfl, ?_⟩; clear HF; intro a HF; replace HF := HF.sub ((gy b o n c s fb big ak aj au ah) ++ [(35, aA ah), (41, aH aT 0 ah), (844, .iface 144 (aC s)), (849, aJ (ah * 64)), (850, aA au), (851, .tuple #[aH sd (ah * 64) (ah * 64), .nilIface])]) (by kernel_rfl)
 refine aO HF HM rfl 5 [] ((gy b o n c s fb big ak aj au ah) ++ [(35, aA ah), (41, aH aT 0 ah), (42, aH sd (ah * 64) (ah * 64)), (37, .nilIface)]) [(sd, .cells (((l.drop (0 + au)).take (ah * 64)).map Bv).toArray 5 (0, 0)), (aT, .cells kN 36 (0, 0)), (aW, .cells jZ 133 (0, 0)), (fb, .cells #[aK 2, .int .u8 dat, aK 1, aV abi, aV aF, (aP big), bf aS, bf aG, aJ aB, aH aW 0 ah, aH pg aj aj, aN, aN, aN] 131 (0, 0)), (s, .cells #[.iface 178 (.slice (some ⟨b, o, none⟩) n c), ay 0, ay 0, ay 9223372036854775807, ay 9223372036854775807] 246 (0, 0))] (by kernel_rfl) ?_
 clear HF HM; intro a w HF HM
 refine aI ?_
 refine wp_seq ?_
 refine wp_seq (wp_region_lit ?_)
 refine aO HF HM rfl 2 [] ((gy b o n c s fb big ak aj au ah) ++ [(35, aA ah), (41, aH aT 0 ah), (42, aH sd (ah * 64) (ah * 64)), (37, .nilIface), (855, .bool false)]) [(sd, .cells (((l.drop (0 + au)).take (ah * 64)).map Bv).toArray 5 (0, 0)), (aT, .cells kN 36 (0, 0)), (aW, .cells jZ 133 (0, 0)), (fb, .cells #[aK 2, .int .u8 dat, aK 1, aV abi, aV aF, (aP big), bf aS, bf aG, aJ aB, aH aW 0 ah, aH pg aj aj, aN, aN, aN] 131 (0, 0)), (s, .cells #[.iface 178 (.slice (some ⟨b, o, none⟩) n c), ay 0, ay 0, ay 9223372036854775807, ay 9223372036854775807] 246 (0, 0))] (by kernel_rfl) ?_
 clear HF HM; intro a w HF HM
 refine aI ?_
 refine aZ HF rfl ?_
 refine wp_skip ?_
 repeat (first | refine aQ ?_ | refine aU ?_)
 replace HF := HF.sub ((gy b o n c s fb big ak aj au ah) ++ [(41, aH aT 0 ah), (42, aH sd (ah * 64) (ah * 64))]) (by kernel_rfl)
 replace HF := HF.sub ((gy b o n c s fb big ak aj au ah) ++ [(41, aH aT 0 ah), (42, aH sd (ah * 64) (ah * 64))]) (by kernel_rfl)
 rw [Nat.zero_add] at HM
 exact K a w aW jZ aT kN sd LG LJ HF HM

end Go.Proofs.YtdgehpocmfjbiaaDoor
namespace Go.Proofs.YtdgehpocmfjbiaaDoor
open Go.RowKit

theorem Jo (l : List UInt8) (hl : l.length < 4611686018427387904) (w0 : World) {KK : Act → World → Prop} {QQ : Exit → Act → World → Prop} (Kt : 0 ∉ l → ∀ a, Fr 14 a [(0, .string ⟨l.toArray⟩)] → KK a w0) (Kf : 0 ∈ l → ∀ a, Fr 14 a [(2, .bool false)] → QQ .ret a w0) (i : Nat) (hi : i = l.length) (h0 : 0 ∉ l) {KX : Act → World → Prop}  (a : Act) (HF : Fr 14 a [(0, .string ⟨l.toArray⟩), (3, aA i)]) :
  (oG (spine Tryd.f53 1)).wp Tryd.prog (Exit.then KX (Exit.inBlock 0 (Exit.then KK QQ))) a w0 := by
 have HM : Mm [] w0 w0 [] := Mm.start w0
 have hsz : ((⟨l.toArray⟩ : ByteArray).size : Nat) = l.length := by simp [ByteArray.size]
 refine wp_seq ?_
 refine wp_seq (wp_region_lit ?_)
 refine wp_pure HF HM rfl 4 [] [(0, .string ⟨l.toArray⟩), (3, aA i), (7, .bool (decide (((i : Nat) : Int) < (((⟨l.toArray⟩ : ByteArray).size : Nat) : Int))))] (by kernel_rfl) ?_
 clear HF; intro a HF
 rw [show decide (((i : Nat) : Int) < (((⟨l.toArray⟩ : ByteArray).size : Nat) : Int)) = false from dI (by omega)] at HF
 refine aI ?_
 refine aZ HF rfl ?_
 replace HF := HF.sub [(0, .string ⟨l.toArray⟩)] (by kernel_rfl)
 refine wp_exit ?_
 repeat (first | refine iW ?_ | refine kL ?_ | refine aQ ?_)
 exact Kt (by assumption) a HF

theorem Ie (l : List UInt8) (hl : l.length < 4611686018427387904) (w0 : World) {KK : Act → World → Prop} {QQ : Exit → Act → World → Prop} (Kt : 0 ∉ l → ∀ a, Fr 14 a [(0, .string ⟨l.toArray⟩)] → KK a w0) (Kf : 0 ∈ l → ∀ a, Fr 14 a [(2, .bool false)] → QQ .ret a w0) (i : Nat) (b : UInt8) (hb : l[i]? = some b) (hlt : i < l.length) (hz : (((b.toNat : Nat) : Int) == 0) = true) (h0 : 0 ∈ l) {KX : Act → World → Prop}  (a : Act) (HF : Fr 14 a [(0, .string ⟨l.toArray⟩), (3, aA i)]) :
  (oG (spine Tryd.f53 1)).wp Tryd.prog (Exit.then KX (Exit.inBlock 0 (Exit.then KK QQ))) a w0 := by
 have HM : Mm [] w0 w0 [] := Mm.start w0
 have hsz : ((⟨l.toArray⟩ : ByteArray).size : Nat) = l.length := by simp [ByteArray.size]
 refine wp_seq ?_
 refine wp_seq (wp_region_lit ?_)
 refine wp_pure HF HM rfl 4 [] [(0, .string ⟨l.toArray⟩), (3, aA i), (7, .bool (decide (((i : Nat) : Int) < (((⟨l.toArray⟩ : ByteArray).size : Nat) : Int))))] (by kernel_rfl) ?_
 clear HF; intro a HF
 rw [show decide (((i : Nat) : Int) < (((⟨l.toArray⟩ : ByteArray).size : Nat) : Int)) = true from fC (by omega)] at HF
 refine aI ?_
 refine bF HF rfl ?_
 refine wp_skip ?_
 repeat (first | refine aQ ?_ | refine aU ?_)
 replace HF := HF.sub [(0, .string ⟨l.toArray⟩), (3, aA i)] (by kernel_rfl)
 refine wp_seq (wp_block ?_)
 refine wp_seq (wp_region_lit ?_)
 refine wp_pure HF HM rfl 2 [] [(0, .string ⟨l.toArray⟩), (3, aA i), (10, .string ⟨l.toArray⟩), (11, aA i)] (by kernel_rfl) ?_
 clear HF; intro a HF
 refine eY HF (by kernel_rfl) (aV b.toNat) (by kernel_rfl) (zV Tryd.underlying9 rfl rfl rfl hb) ?_
 clear HF; intro a HF; replace HF := HF.sub [(0, .string ⟨l.toArray⟩), (3, aA i), (10, .string ⟨l.toArray⟩), (11, aA i), (12, aV b.toNat)] (by kernel_rfl)
 refine wp_pure HF HM rfl 1 [] [(0, .string ⟨l.toArray⟩), (3, aA i), (13, .bool (((b.toNat : Nat) : Int) == 0))] (by kernel_rfl) ?_
 clear HF; intro a HF
 rw [show (((b.toNat : Nat) : Int) == 0) = true from hz] at HF
 refine aI ?_
 refine bF HF rfl ?_
 replace HF := HF.sub [(0, .string ⟨l.toArray⟩), (3, aA i)] (by kernel_rfl)
 refine wp_seq (wp_region_lit ?_)
 refine wp_pure HF HM rfl 1 [] [(2, .bool false)] (by kernel_rfl) ?_
 clear HF; intro a HF
 refine aI ?_
 refine wp_ret ?_
 repeat (first | refine bV ?_ | refine dh ?_)
 exact Kf (by assumption) a HF

theorem Ig (l : List UInt8) (hl : l.length < 4611686018427387904) (w0 : World) {KK : Act → World → Prop} {QQ : Exit → Act → World → Prop} (Kt : 0 ∉ l → ∀ a, Fr 14 a [(0, .string ⟨l.toArray⟩)] → KK a w0) (Kf : 0 ∈ l → ∀ a, Fr 14 a [(2, .bool false)] → QQ .ret a w0) (i : Nat) (b : UInt8) (hb : l[i]? = some b) (hlt : i < l.length) (hz : (((b.toNat : Nat) : Int) == 0) = false) {KX : Act → World → Prop} (KR : ∀ a, Fr 14 a [(0, .string ⟨l.toArray⟩), (3, aA (i + 1))] → KX a w0) (a : Act) (HF : Fr 14 a [(0, .string ⟨l.toArray⟩), (3, aA i)]) :
  (oG (spine Tryd.f53 1)).wp Tryd.prog (Exit.then KX (Exit.inBlock 0 (Exit.then KK QQ))) a w0 := by
 have HM : Mm [] w0 w0 [] := Mm.start w0
 have hsz : ((⟨l.toArray⟩ : ByteArray).size : Nat) = l.length := by simp [ByteArray.size]
 refine wp_seq ?_
 refine wp_seq (wp_region_lit ?_)
 refine wp_pure HF HM rfl 4 [] [(0, .string ⟨l.toArray⟩), (3, aA i), (7, .bool (decide (((i : Nat) : Int) < (((⟨l.toArray⟩ : ByteArray).size : Nat) : Int))))] (by kernel_rfl) ?_
 clear HF; intro a HF
 rw [show decide (((i : Nat) : Int) < (((⟨l.toArray⟩ : ByteArray).size : Nat) : Int)) = true from fC (by omega)] at HF
 refine aI ?_
 refine bF HF rfl ?_
 refine wp_skip ?_
 repeat (first | refine aQ ?_ | refine aU ?_)
 replace HF := HF.sub [(0, .string ⟨l.toArray⟩), (3, aA i)] (by kernel_rfl)
 refine wp_seq (wp_block ?_)
 refine wp_seq (wp_region_lit ?_)
 refine wp_pure HF HM rfl 2 [] [(0, .string ⟨l.toArray⟩), (3, aA i), (10, .string ⟨l.toArray⟩), (11, aA i)] (by kernel_rfl) ?_
 clear HF; intro a HF
 refine eY HF (by kernel_rfl) (aV b.toNat) (by kernel_rfl) (zV Tryd.underlying9 rfl rfl rfl hb) ?_
 clear HF; intro a HF; replace HF := HF.sub [(0, .string ⟨l.toArray⟩), (3, aA i), (10, .string ⟨l.toArray⟩), (11, aA i), (12, aV b.toNat)] (by kernel_rfl)
 refine wp_pure HF HM rfl 1 [] [(0, .string ⟨l.toArray⟩), (3, aA i), (13, .bool (((b.toNat : Nat) : Int) == 0))] (by kernel_rfl) ?_
 clear HF; intro a HF
 rw [show (((b.toNat : Nat) : Int) == 0) = false from hz] at HF
 refine aI ?_
 refine aZ HF rfl ?_
 replace HF := HF.sub [(0, .string ⟨l.toArray⟩), (3, aA i)] (by kernel_rfl)
 refine wp_skip ?_
 repeat (first | refine aQ ?_ | refine aU ?_)
 refine wp_region_lit ?_
 refine wp_pure HF HM rfl 2 [] [(0, .string ⟨l.toArray⟩), (3, aA i), (9, .int .i64 (IntKind.i64.wrap (((i : Nat) : Int) + 1)))] (by kernel_rfl) ?_
 clear HF; intro a HF
 rw [show IntKind.i64.wrap (((i : Nat) : Int) + 1) = (((i + 1) : Nat) : Int) from (IntWalk.i64_in _ (by omega)).trans (by omega)] at HF
 refine wp_pure HF HM rfl 1 [] [(0, .string ⟨l.toArray⟩), (3, aA (i + 1))] (by kernel_rfl) ?_
 clear HF; intro a HF
 refine wpList_nil ?_
 repeat (first | refine aQ ?_ | refine aU ?_)
 exact KR a HF
theorem zY (l : List UInt8) (hl : l.length < 4611686018427387904) (w0 : World) {KK : Act → World → Prop} {QQ : Exit → Act → World → Prop} (Kt : 0 ∉ l → ∀ a, Fr 14 a [(0, .string ⟨l.toArray⟩)] → KK a w0) (Kf : 0 ∈ l → ∀ a, Fr 14 a [(2, .bool false)] → QQ .ret a w0) : ∀ (r i : Nat), i + r = l.length → (∀ j, j < i → l[j]? ≠ some 0) → ∀ a, Fr 14 a [(0, .string ⟨l.toArray⟩), (3, aA i)] →
  Code.rounds Tryd.prog (oG (spine Tryd.f53 1)) (Exit.inBlock 0 (Exit.then KK QQ)) (r + 1) a w0
 | 0, i, hr, hp, a, HF => by
  rw [rounds_succ]
  refine Jo l hl w0 Kt Kf i (by omega) (fun hm => ?_) a HF
  obtain ⟨j, hj, e⟩ := List.getElem_of_mem hm
  exact hp j (by omega) (by rw [List.getElem?_eq_getElem hj, e])
 | r + 1, i, hr, hp, a, HF => by
  rw [rounds_succ]
  have hlt : i < l.length := by omega
  have hb : l[i]? = some l[i] := List.getElem?_eq_getElem hlt
  by_cases hz : l[i] = 0
  ·exact Ie l hl w0 Kt Kf i l[i] hb hlt (by rw [hz]; rfl) (hz ▸ List.getElem_mem hlt) a HF
  ·refine Ig l hl w0 Kt Kf i l[i] hb hlt (beq_eq_false_iff_ne.2 fun e => hz (UInt8.toNat_inj.1 (by simpa using e))) (fun a HF => ?_) a HF
   refine zY l hl w0 Kt Kf r (i + 1) (by omega) (fun j hj => ?_) a HF
   rcases Nat.lt_or_ge j i with h | h
   ·exact hp j h
   ·obtain rfl : j = i := by omega
    rw [hb]
    exact fun e => hz (Option.some.inj e)

theorem Jp (l : List UInt8) (hl : l.length < 4611686018427387904) (w0 : World) : Calls Tryd.prog 53 #[.string ⟨l.toArray⟩] w0 fun e w' => e = .returned (.bool (decide (0 ∉ l))) ∧ w' = w0 := by
 have HM : Mm [] w0 w0 [] := Mm.start w0
 refine dD Tryd.func53 rfl Tryd.ntmps53 [(0, .string ⟨l.toArray⟩)] (by kernel_rfl) (Nat.le_of_ble_eq_true rfl) ?_
 intro a HF
 refine nG HF HM rfl [] [(0, .string ⟨l.toArray⟩), (2, .bool false)] (by kernel_rfl) ?_
 clear HF; intro a HF
 replace HF := HF.sub [(0, .string ⟨l.toArray⟩)] (by kernel_rfl)
 refine wp_seq ?_
 refine nG HF HM rfl [] [(0, .string ⟨l.toArray⟩), (3, aA 0)] (by kernel_rfl) ?_
 clear HF; intro a HF
 refine wp_block (wp_loop_rounds (l.length + 1) ?_)
 refine zY l hl w0 (fun h a HF => ?_) (fun h a HF => ?_) l.length 0 (by omega) (fun j hj => absurd hj (Nat.not_lt_zero j)) a HF
 ·have _ := h
  refine wp_seq (wp_region_lit ?_)
  refine wp_pure HF HM rfl 1 [] [(2, .bool true)] (by kernel_rfl) ?_
  clear HF; intro a HF
  refine aI ?_
  refine wp_ret ?_
  exact dH HF rfl rfl ⟨by rw [decide_eq_true h], rfl⟩
 ·exact dH HF rfl rfl ⟨by rw [decide_eq_false (by simpa using h)], rfl⟩
end Go.Proofs.YtdgehpocmfjbiaaDoor
namespace Go.Proofs.YtdgehpocmfjbiaaDoor
open Go.RowKit

theorem oz {α : Type} [BEq α] [LawfulBEq α] {x y : α} (h : x = y) : (x == y) = true := by simpa using h
theorem oO {α : Type} [BEq α] [LawfulBEq α] {x y : α} (h : ¬ x = y) : (x == y) = false := by simpa using h
theorem uI {α : Type} [BEq α] [LawfulBEq α] {x y : α} (h : x ≠ y) : (x != y) = true := by simpa using h
theorem B_ {α : Type} [BEq α] [LawfulBEq α] {x y : α} (h : ¬ x ≠ y) : (x != y) = false := by simpa using h
theorem kY (b : Bool) : b = false ∨ b = true := by cases b <;> simp

/-- a loop of n rounds, by an invariant -/
theorem oM {P : Program} {body : Code} {Q : Exit → Act → World → Prop} {a : Act} {w : World} (n : Nat) (Inv : Nat → Act → World → Prop) (h0 : Inv 0 a w)
  (step : ∀ i a w (KX : Act → World → Prop), i < n → Inv i a w → (∀ a w, Inv (i + 1) a w → KX a w) → body.wp P (Exit.then KX Q) a w)
  (last : ∀ a w (KX : Act → World → Prop), Inv n a w → body.wp P (Exit.then KX Q) a w) : (Code.loop body).wp P Q a w := by
 refine wp_loop_rounds (n + 1) ?_
 have key : ∀ r i a w, i + r = n → Inv i a w → Code.rounds P body Q (r + 1) a w := by
  intro r
  induction r with
  | zero =>
   intro i a w hi h
   rw [rounds_succ]
   obtain rfl : i = n := by omega
   exact last a w _ h
  | succ r ih =>
   intro i a w hi h
   rw [rounds_succ]
   exact step i a w _ (by omega) h fun a w h => ih (i + 1) a w (by omega) h
 exact key n 0 a w (by omega) h0

/-- the ways through a piece of code meet again -/
theorem yI {P : Program} {c : Code} {Q : Exit → Act → World → Prop} {a : Act} {w : World} (I : Act → World → Prop) (h : c.wp P (Exit.then I Q) a w) (hr : ∀ a w, I a w → Q .normal a w) : c.wp P Q a w :=
 Code.wp_mono (fun e a w h => by
  cases e with
  | normal => exact hr a w h
  | _ => exact h) h

section
variable {P : Program} {N : Nat} {G : List Nat} {w0 w : World} {a : Act} {L : List (Nat × Obj)} {ops : Array Oper}
theorem Fr.tell {S : Slots} (h : Fr N a S) (t : Nat) {v u : Value} (e : Go.Proofs.YtdgehpocmfjbiaaDoor.lk S t = some v) (hv : v = u) : Fr N a ((t, u) :: S) :=
 ⟨h.1, h.2.1, fun p hp => by
  rcases List.mem_cons.1 hp with rfl | hp
  ·exact hv ▸ h.lk e
  ·exact h.2.2 p hp⟩
theorem Mm.oW {w' : World} {g : Nat} (h : Mm G w0 w L) (hb : Below g w w') (hL : ∀ p ∈ L, p.1 < g) (hg : w0.heap.size ≤ g) : Mm G w0 w' L :=
 ⟨⟨hb.os.trans h.1.os, hb.tape.trans h.1.tape, hb.output.trans h.1.output, Nat.le_trans h.1.size hb.size, fun k hk hn => (hb.block k (Nat.lt_of_lt_of_le hk hg)).trans (h.1.block k hk hn)⟩,
  fun p hp => ⟨(hb.block p.1 (hL p hp)).trans (h.2.1 p hp).1, (h.2.1 p hp).2⟩, h.2.2⟩
theorem Mm.pick (h : Mm G w0 w L) (idx : List Nat) (K : List (Nat × Obj)) (e : idx.map (fun i => L[i]?) = K.map some) (hd : idx.Pairwise (· ≠ ·)) : Mm G w0 w K := by
 have hlen : idx.length = K.length := by simpa using congrArg List.length e
 have hat : ∀ (j : Nat) (hj : j < idx.length) (hk : j < K.length), L[idx[j]]? = some K[j] := by
  intro j hj hk
  have := congrArg (fun l => l[j]?) e
  simp only [List.getElem?_map, List.getElem?_eq_getElem hj, List.getElem?_eq_getElem hk, Option.map_some] at this
  exact Option.some.inj this
 refine ⟨h.1, fun p hp => ?_, ?_⟩
 ·obtain ⟨j, hj, e2⟩ := List.getElem_of_mem hp
  have := hat j (by omega) hj
  rw [e2] at this
  exact h.2.1 p (List.mem_of_getElem? this)
 ·rw [List.pairwise_iff_getElem]
  intro i j hi hj hij
  simp only [List.length_map] at hi hj
  simp only [List.getElem_map]
  have h1 := hat i (by omega) hi
  have h2 := hat j (by omega) hj
  have hne : idx[i]'(by omega) ≠ idx[j]'(by omega) := List.pairwise_iff_getElem.1 hd i j (by omega) (by omega) hij
  exact h.ne (b := K[i].1) (c := K[j].1) (o := K[i].2) (p := K[j].2) h1 h2 hne

/-- append, there is room, onto a told block -/
theorem yP (t tx ty e : TypeId) (i : TypeInfo) (ht : P.underlying t = some (.slice e)) (hi : P.info? e = some i) (g n cap : Nat) (x : Value) (m : Nat) (news : List Value) (hs : Src P i.size tx x m news w)
  (cur : Array Value) (hg : w.heap[g]? = some (.cells cur e (0, 0))) (hroom : n + m ≤ cap) (hfit : n * i.size + news.length ≤ cur.size) :
  (Builtin.append_ #[t, tx] ty #[.slice (some ⟨g, 0, none⟩) n cap, x]).run P w = .ok (.slice (some ⟨g, 0, none⟩) (n + m) cap) (w.setRow g (cur.toList.take (n * i.size) ++ news ++ cur.toList.drop (n * i.size + news.length)).toArray) := by
 have hst := run_storeCells_at P g (n * i.size) e news 0 cur w hg (by simpa using hfit) hs.one
 rw [Nat.add_zero] at hst
 have ha : (⟨g, 0, none⟩ : Addr).add (n * i.size) = ⟨g, n * i.size, none⟩ := by rw [addr_add, Nat.zero_add]
 rcases hs.kind with ⟨e', hk⟩ | hk <;> simp [Builtin.append_, run_underlying ht, run_underlying hk, sizeOf, typeInfo, hi, hs.len, hroom, hs.cells, ha, hst]

theorem iG {Q : Exit → Act → World → Prop} {rest : List Oper} {o : Oper} {S : Slots} (HF : Fr N a S) (HM : Mm G w0 w L) (hgd : o.guard = none) (s x : Operand) (t tx : TypeId)
  (ho : o.op = .call { callee := .builtin .append, args := #[s, x], argTypes := #[t, tx] }) (hd : okD N o.dst = true)
  (e : TypeId) {z : Value} {size bytes : Nat} (ht : P.underlying t = some (.slice e)) (hi : (P.info? e).map (fun i => (i.zero, i.size, i.bytes)) = some (some z, size, bytes)) (hzs : z.cells.size = size) (hsz : 0 < size)
  (i g n cap : Nat) (cur : Array Value) (hL : L[i]? = some (g, .cells cur e (0, 0))) (hs : ev S s = some (.slice (some ⟨g, 0, none⟩) n cap)) (hnc : n ≤ cap) (hcm : cap ≤ maxLen) (hcs : cur.size = cap * size) (xs : List Value) (hxs : cur.toList.take (n * size) = xs)
  (xv : Value) (m : Nat) (news : List Value) (hx : ev S x = some xv) (hsrc : Src P size tx xv m news w)
  (h63 : n + m ≤ maxLen) (hbytes : (n + m) * bytes ≤ 140737488355328)
  (hK : ∀ a' w' g' cap' cur', Mm G w0 w' (L.set i (g', .cells cur' e (0, 0))) → cur'.toList.take ((n + m) * size) = xs ++ news → cur'.size = cap' * size → n + m ≤ cap' → cap' ≤ maxLen → Fr N a' (rE S o.dst (.slice (some ⟨g', 0, none⟩) (n + m) cap')) → wpList P ops Q rest a' w') : wpList P ops Q (o :: rest) a w := by
 obtain ⟨inf, hi0, hz0, hz1, hz2⟩ := info_parts hi
 have hsx : Src P inf.size tx xv m news w := by rw [hz1]; exact hsrc
 have hnl := hsrc.newsLen
 have hnn : (n + m) * size = n * size + m * size := Nat.add_mul _ _ _
 have hle : n * size ≤ cap * size := Nat.mul_le_mul_right _ hnc
 have hxl : xs.length = n * size := by rw [← hxs, List.length_take, Array.length_toList, hcs]; omega
 have hg := HM.get hL
 refine wpList_plain hgd fun K hK' => ?_
 unfold Oper.wp execOp
 have hd1 := HF.ev hs
 have hd2 := HF.ev hx
 by_cases hroom : n + m ≤ cap
 ·have hlm : (n + m) * size ≤ cap * size := Nat.mul_le_mul_right _ hroom
  have hr := yP (P := P) t tx o.type e inf ht hi0 g n cap xv m news hsx cur hg hroom (by rw [hz1, hcs, hnl]; omega)
  rw [hz1] at hr
  simp only [ho, resolve, invoke, builtin, Sem.run_bind, Sem.run_pure, Result.andThen_ok, List.map_toArray, List.map_cons, List.map_nil, hd1, hd2, hr]
  refine hK' _ _ (hK _ _ g cap _ (HM.set hL _) ?_ ?_ hroom hcm (HF.put _ _ (j_ hd)))
  ·simp only [hxs]
   rw [hnn, ← hxl, ← hnl, ← List.length_append, List.take_left]
  ·simp only [List.size_toArray, List.length_append, List.length_take, List.length_drop, Array.length_toList]
   omega
 ·have holds : (Builtin.firstCells inf.size n (.slice (some ⟨g, 0, none⟩) n cap)).run P w.drew = .ok xs.toArray w.drew := by
   refine run_firstCells_some w.drew inf.size n ⟨g, 0, none⟩ n cap xs (by rw [hz1]; exact hxl) fun j u hj => ?_
   rw [addr_add]
   have hc := cell_of_row w.drew g (0 + j) cur e (0, 0) hg
   rw [hc, Nat.zero_add]
   have : (cur.toList.take (n * size))[j]? = some u := by rw [hxs]; exact hj
   rw [List.getElem?_take] at this
   split at this
   ·simpa using this
   ·cases this
  have hr := run_append_grow_src (P := P) w t tx o.type e inf z ht hi0 hz0 (some ⟨g, 0, none⟩) n cap xs holds xv m news hsx (by omega) (by simp only [maxLen] at h63; omega) (growslice_fits (by omega) (by rw [hz2]; exact hbytes))
  simp only [ho, resolve, invoke, builtin, Sem.run_bind, Sem.run_pure, Result.andThen_ok, List.map_toArray, List.map_cons, List.map_nil, hd1, hd2, hr]
  have hge := grownCap_ge w (n + m) cap e
  have hcm2 : grownCap w (n + m) cap e ≤ maxLen := grownCap_le_maxLen w (n + m) cap e h63
  have hM2 := (HM.drewN 1).alloc (.cells ((xs ++ news).toArray ++ Builtin.zeroCells z.cells (grownCap w (n + m) cap e - (n + m))) e)
  refine hK' _ _ (hK _ _ w.heap.size (grownCap w (n + m) cap e) ((xs ++ news).toArray ++ Builtin.zeroCells z.cells (grownCap w (n + m) cap e - (n + m))) ?_ ?_ ?_ hge hcm2 (HF.put _ _ (j_ hd)))
  ·refine ⟨hM2.1, fun p hp => ?_, ?_⟩
   ·obtain ⟨j, hj⟩ := List.getElem?_of_mem hp
    rw [List.getElem?_set] at hj
    split at hj
    ·split at hj
     ·injection hj with hj
      subst hj
      exact hM2.2.1 _ List.mem_cons_self
     ·cases hj
    ·exact hM2.2.1 _ (List.mem_cons_of_mem _ (List.mem_of_getElem? hj))
   ·have hp := hM2.2.2
    rw [List.map_cons, List.pairwise_cons] at hp
    rw [List.map_set, List.pairwise_iff_getElem]
    intro j k hj hk hjk
    simp only [List.length_set, List.length_map] at hj hk
    simp only [List.getElem_set, List.getElem_map]
    have h2 := List.pairwise_iff_getElem.1 hp.2 j k (by simpa using hj) (by simpa using hk) hjk
    simp only [List.getElem_map] at h2
    have hm1 : ∀ q (hq : q < L.length), w.heap.size ≠ (L[q]'hq).1 := fun q hq => hp.1 _ (List.mem_map.2 ⟨_, List.getElem_mem hq, rfl⟩)
    split
    ·split
     ·omega
     ·exact hm1 k hk
    ·split
     ·exact (hm1 j hj).symm
     ·exact h2
  ·rw [Array.toList_append, List.toList_toArray, hnn, ← hxl, ← hnl, ← List.length_append, List.take_left]
  ·simp only [Array.size_append, List.size_toArray, size_zeroCells, hzs, List.length_append, hxl, hnl, ← Nat.add_mul]
   congr 1
   omega

/-- append of zeros ('append(x, make([]byte, m)...)') onto a full told block: a new row -/
theorem Dn {Q : Exit → Act → World → Prop} {rest : List Oper} {o : Oper} {S : Slots} (HF : Fr N a S) (HM : Mm G w0 w L) (hgd : o.guard = none) (s x : Operand) (t tx : TypeId)
  (ho : o.op = .call { callee := .builtin .append, args := #[s, x], argTypes := #[t, tx] }) (hd : okD N o.dst = true)
  (e : TypeId) (ht : P.underlying t = some (.slice e)) (htx : P.underlying tx = some (.int .i64)) (hi : (P.info? e).map (fun i => (i.zero, i.size, i.bytes)) = some (some (.int .u8 0), 1, 1))
  (i g n : Nat) (cur : Array Value) (hL : L[i]? = some (g, .cells cur e (0, 0))) (hs : ev S s = some (.slice (some ⟨g, 0, none⟩) n n)) (hcs : cur.size = n)
  (m : Nat) (hm0 : 0 < m) (hm : m ≤ 1000) (hn : n ≤ 1000) (hx : ev S x = some (.int .i64 (m : Int)))
  (hK : ∀ a' w' g' cap' cur', Mm G w0 w' ((g', .cells cur' e (0, 0)) :: L) → w.heap.size ≤ g' → cur'.toList.take ((n + m) * 1) = cur.toList ++ List.replicate m (.int .u8 0) → cur'.size = cap' * 1 → n + m ≤ cap' → cap' ≤ maxLen → Fr N a' (rE S o.dst (.slice (some ⟨g', 0, none⟩) (n + m) cap')) → wpList P ops Q rest a' w') : wpList P ops Q (o :: rest) a w := by
 obtain ⟨inf, hi0, hz0, hz1, hz2⟩ := info_parts hi
 have hg := HM.get hL
 refine wpList_plain hgd fun K hK' => ?_
 unfold Oper.wp execOp
 have hd1 := HF.ev hs
 have hd2 := HF.ev hx
 have holds : (Builtin.firstCells inf.size n (.slice (some ⟨g, 0, none⟩) n n)).run P w.drew = .ok cur.toList.toArray w.drew := by
  refine run_firstCells_some w.drew inf.size n ⟨g, 0, none⟩ n n cur.toList (by rw [hz1, Array.length_toList, hcs, Nat.mul_one]) fun j u hj => ?_
  rw [addr_add]
  have hc := cell_of_row w.drew g (0 + j) cur e (0, 0) hg
  rw [hc, Nat.zero_add]
  simpa using hj
 have hw : IntKind.i64.wrap (m : Int) = (m : Int) := IntWalk.i64_in _ (by omega)
 have hc1 : ¬ (n + m ≤ n) := by omega
 have hge := grownCap_ge w (n + m) n e
 have h63 : n + m ≤ maxLen := by unfold maxLen; omega
 have hcm2 : grownCap w (n + m) n e ≤ maxLen := grownCap_le_maxLen w (n + m) n e h63
 have hfit := growslice_fits (need := n + m) (old := n) (bytes := 1) (by omega) (by omega)
 have hr : (Builtin.append_ #[t, tx] o.type #[.slice (some ⟨g, 0, none⟩) n n, .int .i64 (m : Int)]).run P w = .ok (.slice (some ⟨w.heap.size, 0, none⟩) (n + m) (grownCap w (n + m) n e))
    (w.drew.alloc (.cells ((cur.toList ++ List.replicate m (Value.int .u8 0)).toArray ++ Builtin.zeroCells #[Value.int .u8 0] (grownCap w (n + m) n e - (n + m))) e)) := by
  have h1 : ¬ ((m : Int) < 0) := by omega
  have h2 : ¬ (281474976710656 < (m : Int)) := by omega
  have h3 : ¬ (9223372036854775807 < ((n : Int) + (m : Int))) := by omega
  have h4 : ¬ (281474976710656 < Builtin.nextslicecap (n + m) n * 1) := by omega
  have h4' : ¬ (281474976710656 < Builtin.nextslicecap (n + m) n) := by omega
  have h5 : ¬ (m = 0) := by omega
  rw [hz1] at holds
  have hzc : Builtin.zeroCells #[Value.int .u8 0] m = (List.replicate m (Value.int .u8 0)).toArray := by
   apply Array.ext'
   apply List.ext_getElem
   ·simp [Builtin.zeroCells]
   ·intro j h1 h2
    simp [Builtin.zeroCells, Nat.mod_one]
  simp [Builtin.append_, run_underlying ht, run_underlying htx, sizeOf, typeInfo, zeroValue, hi0, hz0, hz1, hz2, asInt, asIntOf, hw, h1, h2, h3, h4, h5, hc1, Question.forced, newRow, grownCap, Value.cells, hzc, h4', holds]
  congr 2
  apply Array.ext'
  simp [List.append_assoc]
 simp only [ho, resolve, invoke, builtin, Sem.run_bind, Sem.run_pure, Result.andThen_ok, List.map_toArray, List.map_cons, List.map_nil, hd1, hd2, hr]
 refine hK' _ _ (hK _ _ w.heap.size (grownCap w (n + m) n e) _ ((HM.drewN 1).alloc _) (Nat.le_refl _) ?_ ?_ hge hcm2 (HF.put _ _ (j_ hd)))
 ·rw [Array.toList_append, List.toList_toArray, Nat.mul_one]
  have hl : (cur.toList ++ List.replicate m (Value.int .u8 0)).length = n + m := by simp [hcs]
  rw [← hl, List.take_left]
 ·simp only [Array.size_append, List.size_toArray, size_zeroCells, List.length_append, Array.length_toList, List.length_replicate, hcs]
  simp
  omega
theorem mY {size : Nat} {tx e' : TypeId} (hk : P.underlying tx = some (.slice e')) {A : Option Addr} {m c : Nat} {news : List Value} (hm : news.length = m * size) (hsz : 0 < size) (hr : Row w A news) (h1 : ∀ u ∈ news, u.oneCell' = true) :
  Src P size tx (.slice A m c) m news w := by
 rcases A with _ | ad
 ·have hn : news = [] := by
   rcases news with _ | ⟨x, l⟩
   ·rfl
   ·obtain ⟨b, off, e, _⟩ := hr 0 x rfl
    cases e
  subst hn
  have hm0 : m = 0 := by
   rcases Nat.eq_zero_or_pos m with h0 | h0
   ·exact h0
   ·have := Nat.mul_pos h0 hsz
    simp at hm
    omega
  subst hm0
  exact Src.ofNil w hk c
 ·refine Src.ofSlice w hk ad m c news hm (fun j u hu => ?_) h1
  obtain ⟨b, off, e, hc⟩ := hr j u hu
  injection e with e
  subst e
  rw [addr_add]
  exact hc
theorem Aj {w : World} {A : Option Addr} {cs : List Value} (h : Row w A cs) (k : Nat) : Row w A (cs.take k) := fun i v hv => by
 rw [List.getElem?_take] at hv
 split at hv
 ·exact h i v hv
 ·cases hv
theorem o9 {l : List Value} (h : l.all (·.oneCell') = true) : ∀ u ∈ l, u.oneCell' = true := fun u hu => List.all_eq_true.1 h u hu
theorem D9 {cur : Array Value} {n size cap : Nat} {xs : List Value} (tk : cur.toList.take (n * size) = xs) (sz : cur.size = cap * size) (nc : n ≤ cap) : xs.length = n * size := by
 have hle : n * size ≤ cap * size := Nat.mul_le_mul_right _ nc
 rw [← tk, List.length_take, Array.length_toList, sz]
 omega
theorem GL {α : Type} {f : α → List Value} {k : Nat} (hk : ∀ a, (f a).length = k) : ∀ l : List α, (l.flatMap f).length = l.length * k
 | [] => by simp
 | x :: l => by rw [List.flatMap_cons, List.length_append, hk, GL hk l, List.length_cons, Nat.succ_mul, Nat.add_comm]
theorem LU {α : Type} {f : α → List Value} (h : ∀ a, (f a).all (·.oneCell') = true) (l : List α) : ∀ u ∈ l.flatMap f, u.oneCell' = true := fun u hu => by
 obtain ⟨a, _, ha⟩ := List.mem_flatMap.1 hu
 exact List.all_eq_true.1 (h a) u ha
/-- a row of a callee's own, as its contract tells it -/
structure Own (B : Nat) (w : World) (e : TypeId) (size g n cap : Nat) (cur : Array Value) (xs : List Value) : Prop where
 new : B ≤ g
 obj : w.heap[g]? = some (.cells cur e (0, 0))
 tk : cur.toList.take (n * size) = xs
 sz : cur.size = cap * size
 nc : n ≤ cap
 cm : cap ≤ maxLen
theorem Own.row {B : Nat} {w : World} {e : TypeId} {size g n cap : Nat} {cur : Array Value} {xs : List Value} (h : Own B w e size g n cap cur xs) : Row w (some ⟨g, 0, none⟩) xs := by
 have hr : Row w (some ⟨g, 0, none⟩) cur.toList := Row.of_cells fun j hj => by
  rw [cell_of_row w g (0 + j) cur e (0, 0) h.obj, Nat.zero_add]
  have : j < cur.size := by simpa using hj
  simp [this]
 have := Aj hr (n * size)
 rwa [h.tk] at this
theorem Own.below {B : Nat} {w w' : World} {e : TypeId} {size g n cap : Nat} {cur : Array Value} {xs : List Value} (h : Own B w e size g n cap cur xs) (hb : Below w.heap.size w w') : Own B w' e size g n cap cur xs :=
 { h with obj := (hb.block g (jL h.obj)).trans h.obj }
theorem Mm.push2 {w' : World} (h : Mm G w0 w L) (hb : Below w.heap.size w w') {b c : Nat} {o p : Obj} (hg : w.heap.size ≤ b) (ho : w'.heap[b]? = some o) (hc : w.heap.size ≤ c) (hp : w'.heap[c]? = some p) (hne : c ≠ b) : Mm G w0 w' ((c, p) :: (b, o) :: L) := by
 have h1 := h.push hb hg ho
 refine ⟨h1.1, fun q hq => ?_, ?_⟩
 ·rcases List.mem_cons.1 hq with rfl | hq
  ·exact ⟨hp, .inl (Nat.le_trans h.size hc)⟩
  ·exact h1.2.1 q hq
 ·rw [List.map_cons, List.pairwise_cons]
  refine ⟨fun d hd => ?_, h1.2.2⟩
  rw [List.map_cons, List.mem_cons] at hd
  rcases hd with rfl | hd
  ·exact hne
  ·obtain ⟨q, hq, rfl⟩ := List.mem_map.1 hd
   have := jL (h.2.1 q hq).1
   show c ≠ q.1
   omega
theorem I_ {tx : TypeId} (hk : P.underlying tx = some .string) (l : List UInt8) : Src P 1 tx (.string ⟨l.toArray⟩) l.length (l.map Bv) w := by
 have h := Src.ofString (P := P) w hk (⟨l.toArray⟩ : ByteArray)
 have e : byteCells ⟨l.toArray⟩ = l.map Bv := by simp [byteCells, Bv]
 rw [e] at h
 exact h
/-- the row that a told block of the call's own holds -/
theorem Mm.lI (h : Mm G w0 w L) {i g k : Nat} {cur : Array Value} {t : TypeId} {f : Nat × Nat} {xs : List Value} (e : L[i]? = some (g, .cells cur t f)) (hx : cur.toList.take k = xs) : Row w (some ⟨g, 0, none⟩) xs := by
 have := Aj (h.rowAt e) k
 rwa [hx] at this
theorem Told.lI {LS : List (Nat × Obj)} (h : Told LS w) {i g k : Nat} {cur : Array Value} {t : TypeId} {f : Nat × Nat} {xs : List Value} (e : LS[i]? = some (g, .cells cur t f)) (hx : cur.toList.take k = xs) : Row w (some ⟨g, 0, none⟩) xs := by
 have hg : w.heap[g]? = some (.cells cur t f) := h _ (List.mem_of_getElem? e)
 have hr : Row w (some ⟨g, 0, none⟩) cur.toList := Row.of_cells fun j hj => by
  rw [cell_of_row w g (0 + j) cur t f hg, Nat.zero_add]
  have : j < cur.size := by simpa using hj
  simp [this]
 have := Aj hr k
 rwa [hx] at this
/-- a cell of an own row is stored -/
theorem qy {Q : Exit → Act → World → Prop} {rest : List Oper} {o : Oper} {S : Slots} (HF : Fr N a S) (HM : Mm G w0 w L) (hgd : o.guard = none) (ty : TypeId) (x y : Operand) (ho : o.op = .store ty x y) (hd : okD N o.dst = true)
  (i g j : Nat) (cur : Array Value) (e : TypeId) (hL : L[i]? = some (g, .cells cur e (0, 0))) (hx : ev S x = some (.pointer (some ⟨g, j, none⟩))) (v : Value) (hy : ev S y = some v) (hv : v.cells = #[v]) (h1 : v.oneCell' = true) (hj : j < cur.size) (hi : (P.info? ty).map (·.size) = some 1)
  (hK : ∀ a' w' cur', Mm G w0 w' (L.set i (g, .cells cur' e (0, 0))) → cur'.toList = cur.toList.set j v → Fr N a' (rE S o.dst undef) → wpList P ops Q rest a' w') : wpList P ops Q (o :: rest) a w := by
 have hn : ((cur.toList.take j ++ v.cells.toList ++ cur.toList.drop (j + v.cells.size)).toArray).toList = cur.toList.take j ++ v.cells.toList ++ cur.toList.drop (j + v.cells.size) := rfl
 refine JG HM hgd ty x y ho g j (HF.ev hx) v (HF.ev hy) i cur e hL _ hn (by rw [hi, hv]; rfl) (Nat.ble_eq_true_of_le (by rw [hv]; show j + 1 ≤ _; omega)) (by rw [hv]; simp [h1]) fun w' iF => ?_
 refine hK _ _ _ iF ?_ (HF.put _ _ (j_ hd))
 rw [hn, hv]
 have hl : j < cur.toList.length := by simpa using hj
 rw [List.set_eq_take_append_cons_drop, if_pos hl, List.append_assoc]
 rfl
/-- element j of a row of structs -/
theorem lC {α : Type} {A : Option Addr} {f : α → List Value} {k : Nat} {l : List α} (hk : ∀ a, (f a).length = k) (hr : Row w A (l.flatMap f)) (j : Nat) {m : α} (hj : l[j]? = some m) : Row w (A.map (·.add (j * k))) (f m) := by
 obtain ⟨hlt, e⟩ := List.getElem?_eq_some_iff.1 hj
 have hl : ∀ l : List α, (l.flatMap f).length = l.length * k := fun l => by
  induction l with
  | nil => simp
  | cons x l ih => rw [List.flatMap_cons, List.length_append, hk, ih, List.length_cons, Nat.succ_mul, Nat.add_comm]
 have h1 : l.flatMap f = (l.take j).flatMap f ++ (f m ++ (l.drop (j + 1)).flatMap f) := by
  have : l = l.take j ++ (l[j] :: l.drop (j + 1)) := by rw [← List.drop_eq_getElem_cons hlt, List.take_append_drop]
  have h2 : l.flatMap f = (l.take j ++ (l[j] :: l.drop (j + 1))).flatMap f := by rw [← this]
  rw [h2, List.flatMap_append, List.flatMap_cons, e]
 have h3 : ((l.take j).flatMap f).length = j * k := by rw [hl, List.length_take]; congr 1; omega
 have h4 := (hr.drop (j * k)).take k
 rw [h1, ← h3, List.drop_left, ← hk m, List.take_left, h3] at h4
 exact h4
theorem rP {α : Type} {A : Option Addr} {f : α → Value} {l : List α} (hr : Row w A (l.map f)) (j : Nat) {m : α} (hj : l[j]? = some m) : Row w (A.map (·.add (j * 1))) [f m] := by
 have := lC (f := fun a => [f a]) (k := 1) (fun _ => rfl) (l := l) (by rw [← List.map_eq_flatMap]; exact hr) j hj
 exact this
theorem FW {A : Option Addr} {cs : List Value} (hr : Row w A cs) (h : 0 < cs.length) : ∃ b off, A = some ⟨b, off, none⟩ := by
 obtain ⟨b, off, e, _⟩ := hr 0 cs[0] (List.getElem?_eq_getElem h)
 exact ⟨b, off, e⟩
theorem nC {A : Option Addr} {k : Nat} {cs : List Value} (hr : Row w (A.map (·.add k)) cs) (h : 0 < cs.length) : A ≠ none := by
 obtain ⟨b, off, e⟩ := FW hr h
 intro h0; subst h0; cases e
/-- the address of element j -/
theorem ig {t e : TypeId} {k : Nat} (ht : P.underlying t = some (.slice e)) (hi : (P.info? e).map (·.size) = some k) {ρ : Operand → Value} {o : Oper} {x ix : Operand} (ho : o.op = .indexAddr t x ix) {A : Option Addr} {n c : Nat} (j : Nat) {kk : IntKind} (hx : ρ x = .slice A n c) (hj : ρ ix = .int kk (j : Int)) (h : j < n) (hA : A ≠ none) :
  (execOp ρ o).run P w = .ok (.value (.pointer (A.map (·.add (j * k))))) w := by
 obtain ⟨inf, hi1, hi2⟩ := Option.map_eq_some_iff.1 hi
 obtain ⟨ad, rfl⟩ := Option.ne_none_iff_exists'.1 hA
 unfold execOp
 simp only [ho, hx, hj]
 simp [Instr.indexAt, asIntOf, run_underlying ht, sizeOf, typeInfo, hi1, hi2, h]
/-- a struct that lies in a row -/
theorem lT {ρ : Operand → Value} {o : Oper} {ty : TypeId} {x : Operand} (ho : o.op = .load ty x) {A : Option Addr} (hx : ρ x = .pointer A) {cs : List Value} (hr : Row w A cs) (h0 : 0 < cs.length) {d : TypeDesc} (hu : P.underlying ty = some d) (hd : (match d with | .struct _ | .array _ _ => true | _ => false) = true) (hi : (P.info? ty).map (·.size) = some cs.length) :
  (execOp ρ o).run P w = .ok (.value (.agg cs.toArray)) w := by
 obtain ⟨b, off, rfl⟩ := FW hr h0
 have hl : (loadCells ⟨b, off, none⟩ cs.length).run P w = .ok cs.toArray w :=
  run_loadCells_list (P := P) w ⟨b, off, none⟩ cs (fun j v hv => by
   obtain ⟨b', off', e, hc⟩ := hr j v hv
   injection e with e; injection e with e1 e2
   subst e1; subst e2
   rw [Bg]; exact hc)
 cases hq : P.info? ty with
 | none => simp [hq] at hi
 | some i =>
  have hs : i.size = cs.length := by simpa [hq] using hi
  have hagg : (isAgg ty).run P w = .ok true w := by
   unfold isAgg
   rw [Sem.run_bind, run_underlying hu w]
   cases d <;> simp_all
  unfold execOp
  simp only [ho, hx, Instr.loadAt, Instr.sureAddr, Sem.run_bind, Sem.run_pure, Result.andThen_ok]
  simp [loadVar, Sem.run_bind, hagg, sizeOf, typeInfo, hq, hs, hl]
theorem pW {ρ : Operand → Value} {o : Oper} {ty : TypeId} {x : Operand} (ho : o.op = .load ty x) {A : Option Addr} (hx : ρ x = .pointer A) {v : Value} (hr : Row w A [v]) (hf : Fq P ty = true) :
  (execOp ρ o).run P w = .ok (.value v) w := by
 obtain ⟨b, off, rfl, hc⟩ := hr 0 v rfl
 exact iE ho hx hf hc
end
end Go.Proofs.YtdgehpocmfjbiaaDoor
namespace Go.Proofs.YtdgehpocmfjbiaaDoor
open Go.RowKit

section
variable {P : Program} {N : Nat} {G : List Nat} {w0 w : World} {a : Act} {L : List (Nat × Obj)} {ops : Array Oper}
theorem Mm.old (h : Mm [] w0 w L) {b : Nat} {o : Obj} (e : w0.heap[b]? = some o) : w.heap[b]? = some o := (h.1.block b (jL e) (by simp)).trans e
end
end Go.Proofs.YtdgehpocmfjbiaaDoor
