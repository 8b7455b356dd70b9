/- elf.NewFile: one round of the loop over the program headers. · elf.NewFile: the loop over the program headers. · elf.NewFile: the table of sections is -/
import Derived.Test.YtdgehpocmfjbiaaDoorUc
import Derived.Test.YtdgehpocmfjbiaaDoorUb
import Derived.Deep.AppendSrc
set_option linter.unusedVariables false
set_option linter.unusedSimpArgs false
set_option maxRecDepth 100000
set_option maxHeartbeats 2000000
namespace Go.Proofs.YtdgehpocmfjbiaaDoor
open Go.RowKit

/-- the body of the loop that begins a piece of a spine -/
def oD : Code → Code
 | .seq (.seq _ (.block _ (.loop c))) _ => c
 | c => c
theorem eF {P : Program} {t e : TypeId} {info : TypeInfo} (ht : P.underlying t = some (.slice e)) (hi : P.info? e = some info) (hs : info.size = 1) {ρ : Operand → Value} {o : Oper} {x lo : Operand} (ho : o.op = .slice t x (some lo) none none)
  {b n c : Nat} (k : Nat) {kk : IntKind} (hx : ρ x = aH b n c) (hl : ρ lo = .int kk (k : Int)) (h1 : k ≤ n) (h2 : n ≤ c) (h3 : k < c) (w : World) :
  (execOp ρ o).run P w = .ok (.value (.slice (some ⟨b, k, none⟩) (n - k) (c - k))) w := by
 have := zn ht hi hs ho k hx hl h1 h2 h3 w
 rwa [Nat.zero_add] at this
structure jQ where
 ty : Nat
 flags : Nat
 off : Nat
 bJ : Nat
 bK : Nat
 bG : Nat
 bP : Nat
 align : Nat

abbrev nU := fun (b : Nat) (o : Nat) (n : Nat) (c : Nat) (s : Nat) (fb : Nat) (big : Bool) (ak : Nat) (aj : Nat) (au : Nat) (ah : Nat) (pd : Nat) => ([(0, .iface 178 (.slice (some ⟨b, o, none⟩) n c)), (4, aG s), (8, aG fb), (9, (aP big)), (10, aB ak), (11, aA 32), (12, aB aj), (13, aB au), (14, aA 40), (15, aB ah), (16, aB (ah - 1)), (26, aA 40), (36, aH pd (aj * 32) (aj * 32))] : Slots)
abbrev xZ := fun (fb : Nat) (dat : Int) (abi : Nat) (aC : Nat) (big : Bool) (aQ : Nat) (aF : Nat) (ay : Nat) (pg : Nat) (i : Nat) (aj : Nat) => ((fb, .cells #[aN 1, .int .u8 dat, aN 1, aV abi, aV aC, (aP big), aZ aQ, aZ aF, aJ ay, aK, aH pg (i + 1) aj, aK, aK, aK] 131 (0, 0)) : Nat × Obj)
abbrev oN := fun sb (b : Nat) (o : Nat) (n : Nat) (c : Nat) (v : jQ) => ((sb, .cells #[.iface 178 (.slice (some ⟨b, o, none⟩) n c), aB v.off, aB v.off, aA (((v.bG : Nat) : Int) + ((v.off : Nat) : Int)), aB v.bG] 246 (0, 0)) : Nat × Obj)
abbrev gW := fun (fb : Nat) (dat : Int) (abi : Nat) (aC : Nat) (big : Bool) (aQ : Nat) (aF : Nat) (ay : Nat) (pg : Nat) (i : Nat) (aj : Nat) => ((fb, .cells #[aN 1, .int .u8 dat, aN 1, aV abi, aV aC, (aP big), aZ aQ, aZ aF, aJ ay, aK, aH pg i aj, aK, aK, aK] 131 (0, 0)) : Nat × Obj)
abbrev mV := fun z5 => ((z5, .cells #[aA 0, lu 0, bD 0, bD 0, bD 0, bD 0, bD 0, bD 0, .nilIface, .pointer none] 146 (0, 0)) : Nat × Obj)
abbrev eY := fun (b : Nat) (o : Nat) (n : Nat) (c : Nat) (s : Nat) (fb : Nat) (big : Bool) (ak : Nat) (aj : Nat) (au : Nat) (ah : Nat) (pd : Nat) (i : Nat) z5 => ((nU b o n c s fb big ak aj au ah pd) ++ [(38, aB i), (39, aJ (i * 32)), (40, aG z5)] : Slots)
abbrev LP := fun (pd : Nat) (i : Nat) (aj : Nat) => ((614, .slice (some ⟨pd, ((i * 32) + 0), none⟩) ((aj * 32) - ((i * 32) + 0)) ((aj * 32) - ((i * 32) + 0))) : Nat × Value)
abbrev xY := fun (b : Nat) (o : Nat) (n : Nat) (c : Nat) (s : Nat) (fb : Nat) (big : Bool) (ak : Nat) (aj : Nat) (au : Nat) (ah : Nat) (pd : Nat) (i : Nat) z5 => ((eY b o n c s fb big ak aj au ah pd i z5) ++ [(609, aG z5), (610, (aP big)), (614, .slice (some ⟨pd, ((i * 32) + 0), none⟩) ((aj * 32) - ((i * 32) + 0)) ((aj * 32) - ((i * 32) + 0)))] : Slots)
abbrev LM := fun (pd : Nat) (i : Nat) (aj : Nat) => ((621, .slice (some ⟨pd, ((i * 32) + 24), none⟩) ((aj * 32) - ((i * 32) + 24)) ((aj * 32) - ((i * 32) + 24))) : Nat × Value)
abbrev xX := fun (b : Nat) (o : Nat) (n : Nat) (c : Nat) (s : Nat) (fb : Nat) (big : Bool) (ak : Nat) (aj : Nat) (au : Nat) (ah : Nat) (pd : Nat) (i : Nat) z5 => ((xY b o n c s fb big ak aj au ah pd i z5) ++ [(617, (aP big)), (621, .slice (some ⟨pd, ((i * 32) + 24), none⟩) ((aj * 32) - ((i * 32) + 24)) ((aj * 32) - ((i * 32) + 24)))] : Slots)
abbrev zY := fun (pd : Nat) (i : Nat) (aj : Nat) => ((627, .slice (some ⟨pd, ((i * 32) + 4), none⟩) ((aj * 32) - ((i * 32) + 4)) ((aj * 32) - ((i * 32) + 4))) : Nat × Value)
abbrev wH := fun (b : Nat) (o : Nat) (n : Nat) (c : Nat) (s : Nat) (fb : Nat) (big : Bool) (ak : Nat) (aj : Nat) (au : Nat) (ah : Nat) (pd : Nat) (i : Nat) z5 => ((xX b o n c s fb big ak aj au ah pd i z5) ++ [(623, (aP big)), (627, .slice (some ⟨pd, ((i * 32) + 4), none⟩) ((aj * 32) - ((i * 32) + 4)) ((aj * 32) - ((i * 32) + 4)))] : Slots)
abbrev zX := fun (pd : Nat) (i : Nat) (aj : Nat) => ((634, .slice (some ⟨pd, ((i * 32) + 8), none⟩) ((aj * 32) - ((i * 32) + 8)) ((aj * 32) - ((i * 32) + 8))) : Nat × Value)
abbrev wG := fun (b : Nat) (o : Nat) (n : Nat) (c : Nat) (s : Nat) (fb : Nat) (big : Bool) (ak : Nat) (aj : Nat) (au : Nat) (ah : Nat) (pd : Nat) (i : Nat) z5 => ((wH b o n c s fb big ak aj au ah pd i z5) ++ [(630, (aP big)), (634, .slice (some ⟨pd, ((i * 32) + 8), none⟩) ((aj * 32) - ((i * 32) + 8)) ((aj * 32) - ((i * 32) + 8)))] : Slots)
abbrev zW := fun (pd : Nat) (i : Nat) (aj : Nat) => ((641, .slice (some ⟨pd, ((i * 32) + 12), none⟩) ((aj * 32) - ((i * 32) + 12)) ((aj * 32) - ((i * 32) + 12))) : Nat × Value)
abbrev wF := fun (b : Nat) (o : Nat) (n : Nat) (c : Nat) (s : Nat) (fb : Nat) (big : Bool) (ak : Nat) (aj : Nat) (au : Nat) (ah : Nat) (pd : Nat) (i : Nat) z5 => ((wG b o n c s fb big ak aj au ah pd i z5) ++ [(637, (aP big)), (641, .slice (some ⟨pd, ((i * 32) + 12), none⟩) ((aj * 32) - ((i * 32) + 12)) ((aj * 32) - ((i * 32) + 12)))] : Slots)
abbrev zV := fun (pd : Nat) (i : Nat) (aj : Nat) => ((648, .slice (some ⟨pd, ((i * 32) + 16), none⟩) ((aj * 32) - ((i * 32) + 16)) ((aj * 32) - ((i * 32) + 16))) : Nat × Value)
abbrev wE := fun (b : Nat) (o : Nat) (n : Nat) (c : Nat) (s : Nat) (fb : Nat) (big : Bool) (ak : Nat) (aj : Nat) (au : Nat) (ah : Nat) (pd : Nat) (i : Nat) z5 => ((wF b o n c s fb big ak aj au ah pd i z5) ++ [(644, (aP big)), (648, .slice (some ⟨pd, ((i * 32) + 16), none⟩) ((aj * 32) - ((i * 32) + 16)) ((aj * 32) - ((i * 32) + 16)))] : Slots)
abbrev zU := fun (pd : Nat) (i : Nat) (aj : Nat) => ((655, .slice (some ⟨pd, ((i * 32) + 20), none⟩) ((aj * 32) - ((i * 32) + 20)) ((aj * 32) - ((i * 32) + 20))) : Nat × Value)
abbrev tX := fun (b : Nat) (o : Nat) (n : Nat) (c : Nat) (s : Nat) (fb : Nat) (big : Bool) (ak : Nat) (aj : Nat) (au : Nat) (ah : Nat) (pd : Nat) (i : Nat) z5 => ((wE b o n c s fb big ak aj au ah pd i z5) ++ [(651, (aP big)), (655, .slice (some ⟨pd, ((i * 32) + 20), none⟩) ((aj * 32) - ((i * 32) + 20)) ((aj * 32) - ((i * 32) + 20)))] : Slots)
abbrev tY := fun (pd : Nat) (i : Nat) (aj : Nat) => ((662, .slice (some ⟨pd, ((i * 32) + 28), none⟩) ((aj * 32) - ((i * 32) + 28)) ((aj * 32) - ((i * 32) + 28))) : Nat × Value)
abbrev zT := fun (b : Nat) (o : Nat) (n : Nat) (c : Nat) (s : Nat) (fb : Nat) (big : Bool) (ak : Nat) (aj : Nat) (au : Nat) (ah : Nat) (pd : Nat) (i : Nat) z5 => ((eY b o n c s fb big ak aj au ah pd i z5) ++ [(609, aG z5), (617, (aP big)), (621, .slice (some ⟨pd, ((i * 32) + 24), none⟩) ((aj * 32) - ((i * 32) + 24)) ((aj * 32) - ((i * 32) + 24))), (623, (aP big)), (627, .slice (some ⟨pd, ((i * 32) + 4), none⟩) ((aj * 32) - ((i * 32) + 4)) ((aj * 32) - ((i * 32) + 4))), (630, (aP big)), (634, .slice (some ⟨pd, ((i * 32) + 8), none⟩) ((aj * 32) - ((i * 32) + 8)) ((aj * 32) - ((i * 32) + 8))), (637, (aP big)), (641, .slice (some ⟨pd, ((i * 32) + 12), none⟩) ((aj * 32) - ((i * 32) + 12)) ((aj * 32) - ((i * 32) + 12))), (644, (aP big)), (648, .slice (some ⟨pd, ((i * 32) + 16), none⟩) ((aj * 32) - ((i * 32) + 16)) ((aj * 32) - ((i * 32) + 16))), (651, (aP big)), (655, .slice (some ⟨pd, ((i * 32) + 20), none⟩) ((aj * 32) - ((i * 32) + 20)) ((aj * 32) - ((i * 32) + 20))), (658, (aP big)), (662, .slice (some ⟨pd, ((i * 32) + 28), none⟩) ((aj * 32) - ((i * 32) + 28)) ((aj * 32) - ((i * 32) + 28)))] : Slots)
abbrev zS := fun (b : Nat) (o : Nat) (n : Nat) (c : Nat) (s : Nat) (fb : Nat) (big : Bool) (ak : Nat) (aj : Nat) (au : Nat) (ah : Nat) (pd : Nat) (i : Nat) z5 (v : jQ) => ((eY b o n c s fb big ak aj au ah pd i z5) ++ [(609, aG z5), (630, (aP big)), (634, .slice (some ⟨pd, ((i * 32) + 8), none⟩) ((aj * 32) - ((i * 32) + 8)) ((aj * 32) - ((i * 32) + 8))), (637, (aP big)), (641, .slice (some ⟨pd, ((i * 32) + 12), none⟩) ((aj * 32) - ((i * 32) + 12)) ((aj * 32) - ((i * 32) + 12))), (644, (aP big)), (648, .slice (some ⟨pd, ((i * 32) + 16), none⟩) ((aj * 32) - ((i * 32) + 16)) ((aj * 32) - ((i * 32) + 16))), (651, (aP big)), (655, .slice (some ⟨pd, ((i * 32) + 20), none⟩) ((aj * 32) - ((i * 32) + 20)) ((aj * 32) - ((i * 32) + 20))), (658, (aP big)), (662, .slice (some ⟨pd, ((i * 32) + 28), none⟩) ((aj * 32) - ((i * 32) + 28)) ((aj * 32) - ((i * 32) + 28))), (616, aB v.ty), (622, aY v.flags)] : Slots)
abbrev zQ := fun (b : Nat) (o : Nat) (n : Nat) (c : Nat) (s : Nat) (fb : Nat) (big : Bool) (ak : Nat) (aj : Nat) (au : Nat) (ah : Nat) (pd : Nat) (i : Nat) z5 (v : jQ) => ((eY b o n c s fb big ak aj au ah pd i z5) ++ [(609, aG z5), (637, (aP big)), (641, .slice (some ⟨pd, ((i * 32) + 12), none⟩) ((aj * 32) - ((i * 32) + 12)) ((aj * 32) - ((i * 32) + 12))), (644, (aP big)), (648, .slice (some ⟨pd, ((i * 32) + 16), none⟩) ((aj * 32) - ((i * 32) + 16)) ((aj * 32) - ((i * 32) + 16))), (651, (aP big)), (655, .slice (some ⟨pd, ((i * 32) + 20), none⟩) ((aj * 32) - ((i * 32) + 20)) ((aj * 32) - ((i * 32) + 20))), (658, (aP big)), (662, .slice (some ⟨pd, ((i * 32) + 28), none⟩) ((aj * 32) - ((i * 32) + 28)) ((aj * 32) - ((i * 32) + 28))), (616, aB v.ty), (622, aY v.flags), (629, aJ v.off)] : Slots)
abbrev zO := fun (b : Nat) (o : Nat) (n : Nat) (c : Nat) (s : Nat) (fb : Nat) (big : Bool) (ak : Nat) (aj : Nat) (au : Nat) (ah : Nat) (pd : Nat) (i : Nat) z5 (v : jQ) => ((eY b o n c s fb big ak aj au ah pd i z5) ++ [(609, aG z5), (644, (aP big)), (648, .slice (some ⟨pd, ((i * 32) + 16), none⟩) ((aj * 32) - ((i * 32) + 16)) ((aj * 32) - ((i * 32) + 16))), (651, (aP big)), (655, .slice (some ⟨pd, ((i * 32) + 20), none⟩) ((aj * 32) - ((i * 32) + 20)) ((aj * 32) - ((i * 32) + 20))), (658, (aP big)), (662, .slice (some ⟨pd, ((i * 32) + 28), none⟩) ((aj * 32) - ((i * 32) + 28)) ((aj * 32) - ((i * 32) + 28))), (616, aB v.ty), (622, aY v.flags), (629, aJ v.off), (636, aJ v.bJ)] : Slots)
abbrev zN := fun (b : Nat) (o : Nat) (n : Nat) (c : Nat) (s : Nat) (fb : Nat) (big : Bool) (ak : Nat) (aj : Nat) (au : Nat) (ah : Nat) (pd : Nat) (i : Nat) z5 (v : jQ) => ((eY b o n c s fb big ak aj au ah pd i z5) ++ [(609, aG z5), (651, (aP big)), (655, .slice (some ⟨pd, ((i * 32) + 20), none⟩) ((aj * 32) - ((i * 32) + 20)) ((aj * 32) - ((i * 32) + 20))), (658, (aP big)), (662, .slice (some ⟨pd, ((i * 32) + 28), none⟩) ((aj * 32) - ((i * 32) + 28)) ((aj * 32) - ((i * 32) + 28))), (616, aB v.ty), (622, aY v.flags), (629, aJ v.off), (636, aJ v.bJ), (643, aJ v.bK)] : Slots)
abbrev zM := fun (b : Nat) (o : Nat) (n : Nat) (c : Nat) (s : Nat) (fb : Nat) (big : Bool) (ak : Nat) (aj : Nat) (au : Nat) (ah : Nat) (pd : Nat) (i : Nat) z5 (v : jQ) => ((eY b o n c s fb big ak aj au ah pd i z5) ++ [(609, aG z5), (658, (aP big)), (662, .slice (some ⟨pd, ((i * 32) + 28), none⟩) ((aj * 32) - ((i * 32) + 28)) ((aj * 32) - ((i * 32) + 28))), (616, aB v.ty), (622, aY v.flags), (629, aJ v.off), (636, aJ v.bJ), (643, aJ v.bK), (650, aJ v.bG)] : Slots)
abbrev rF := fun z5 (v : jQ) => ((z5, .cells #[aB v.ty, aY v.flags, aJ v.off, aJ v.bJ, aJ v.bK, aJ v.bG, aJ v.bP, aJ v.align, .nilIface, .pointer none] 146 (0, 0)) : Nat × Obj)
abbrev qj := fun (b : Nat) (o : Nat) (n : Nat) (c : Nat) (s : Nat) (fb : Nat) (big : Bool) (ak : Nat) (aj : Nat) (au : Nat) (ah : Nat) (pd : Nat) (i : Nat) z5 => ((eY b o n c s fb big ak aj au ah pd i z5) ++ [(763, aG z5), (764, .iface 178 (.slice (some ⟨b, o, none⟩) n c))] : Slots)
abbrev rE := fun z5 (v : jQ) sb => ((z5, .cells #[aB v.ty, aY v.flags, aJ v.off, aJ v.bJ, aJ v.bK, aJ v.bG, aJ v.bP, aJ v.align, .iface 144 (aG sb), aG sb] 146 (0, 0)) : Nat × Obj)
theorem OA (l : List UInt8) (b o n c : Nat) (hl : n = l.length) (hnc : n ≤ c) (big : Bool) (abi aC aQ aF ay ak aj au ah : Nat) (dat : Int) (b1 : aQ < 65536) (b2 : aF < 65536) (b3 : ay ≤ 18446744073709551615) (b4 : ak < 4611686018427387904) (b5 : au < 4611686018427387904) (b6 : aj < 200) (b7 : ah < 200) (X : List UInt8) (nI : X.length = (aj * 32)) (i : Nat) (hi : i < aj) (v : jQ) (hv : uG (X.drop (i * 32)) false big v.ty v.flags v.bJ v.bK v.bP v.align v.bG v.off)
  (v1 : v.ty < 4294967296) (v2 : v.off + v.bG < 4611686018427387904) (v3 : v.bJ ≤ 18446744073709551615) (v4 : v.bK ≤ 18446744073709551615) (v5 : v.bP ≤ 18446744073709551615) (v6 : v.align ≤ 18446744073709551615) {K0 : Act → World → Prop} {Q : Exit → Act → World → Prop} (a : Act) (W1 : World) (s fb pg pd : Nat) (cur : Array Value) (hcs : cur.size = aj)
  (h1 : W1.heap[fb]? = some (.cells #[aN 1, .int .u8 dat, aN 1, aV abi, aV aC, (aP big), aZ aQ, aZ aF, aJ ay, aK, aH pg i aj, aK, aK, aK] 131 (0, 0))) (h2 : W1.heap[pg]? = some (.cells cur 136 (0, 0))) (h3 : W1.heap[pd]? = some (.cells (X.map Bv).toArray 5 (0, 0))) (n1 : fb ≠ pg) (n2 : fb ≠ pd) (n3 : pg ≠ pd) (HF : Fr 1287 a ((nU b o n c s fb big ak aj au ah pd) ++ [(38, aB i)]))
  (K : ∀ a w' pb sb cur', cur'.size = aj → cur'.toList.take (i + 1) = cur.toList.take i ++ [aG pb] → Fr 1287 a ((nU b o n c s fb big ak aj au ah pd) ++ [(38, aB (i + 1))]) → Mm [fb, pg, pd] W1 w' [oN sb b o n c v, (pb, .cells #[aB v.ty, aY v.flags, aJ v.off, aJ v.bJ, aJ v.bK, aJ v.bG, aJ v.bP, aJ v.align, .iface 144 (aG sb), aG sb] 146 (0, 0)), xZ fb dat abi aC big aQ aF ay pg i aj, (pg, .cells cur' 136 (0, 0)), (pd, .cells (X.map Bv).toArray 5 (0, 0))] → K0 a w') : (oD (spine Tryd.f78 35)).wp Tryd.prog (Exit.then K0 Q) a W1 := by
 obtain ⟨i0, hi0, hs0⟩ := qV
 have e0 : num big X ((i * 32) + 0) 4 = v.ty := (fF big X (i * 32) 0 4).symm.trans hv.ty
 have e1 : num big X ((i * 32) + 24) 4 = v.flags := (fF big X (i * 32) 24 4).symm.trans hv.flags
 have e2 : num big X ((i * 32) + 4) 4 = v.off := (fF big X (i * 32) 4 4).symm.trans hv.off
 have e3 : num big X ((i * 32) + 8) 4 = v.bJ := (fF big X (i * 32) 8 4).symm.trans hv.bJ
 have e4 : num big X ((i * 32) + 12) 4 = v.bK := (fF big X (i * 32) 12 4).symm.trans hv.bK
 have e5 : num big X ((i * 32) + 16) 4 = v.bG := (fF big X (i * 32) 16 4).symm.trans hv.Md
 have e6 : num big X ((i * 32) + 20) 4 = v.bP := (fF big X (i * 32) 20 4).symm.trans hv.bP
 have e7 : num big X ((i * 32) + 28) 4 = v.align := (fF big X (i * 32) 28 4).symm.trans hv.align
 obtain ⟨w, hw⟩ : ∃ w, W1 = w := ⟨_, rfl⟩
 have HM : Mm [fb, pg, pd] W1 w [gW fb dat abi aC big aQ aF ay pg i aj, (pg, .cells cur 136 (0, 0)), (pd, .cells (X.map Bv).toArray 5 (0, 0))] := hw ▸ Mm.start3 h1 h2 h3 n1 n2 n3
 conv => arg 5; rw [hw]
 clear hw
 refine wp_seq ?_
 refine wp_seq (wp_region_lit ?_)
 refine aO HF HM rfl 3 [] ((nU b o n c s fb big ak aj au ah pd) ++ [(38, aB i), (593, .bool (decide (((i : Nat) : Int) < ((aj : Nat) : Int))))]) [gW fb dat abi aC big aQ aF ay pg i aj, (pg, .cells cur 136 (0, 0)), (pd, .cells (X.map Bv).toArray 5 (0, 0))] (by kernel_rfl) ?_
 clear HF HM; intro a w HF HM
 rw [show decide (((i : Nat) : Int) < ((aj : Nat) : Int)) = true from dM (by omega)] at HF
 refine aI ?_
 refine bF HF rfl ?_
 refine wp_skip ?_
 repeat (first | refine aS ?_ | refine aU ?_)
 replace HF := HF.sub ((nU b o n c s fb big ak aj au ah pd) ++ [(38, aB i)]) (by kernel_rfl)
 refine wp_seq (wp_block ?_)
 refine wp_seq (wp_region_lit ?_)
 refine aO HF HM rfl 2 [] ((nU b o n c s fb big ak aj au ah pd) ++ [(38, aB i), (597, bD (IntKind.u64.wrap ((i : Nat) : Int)))]) [gW fb dat abi aC big aQ aF ay pg i aj, (pg, .cells cur 136 (0, 0)), (pd, .cells (X.map Bv).toArray 5 (0, 0))] (by kernel_rfl) ?_
 clear HF HM; intro a w HF HM
 rw [show IntKind.u64.wrap ((i : Nat) : Int) = ((i : Nat) : Int) from IntWalk.u64_in _ (by omega)] at HF
 refine aO HF HM rfl 3 [] ((nU b o n c s fb big ak aj au ah pd) ++ [(38, aB i), (600, bD (IntKind.u64.wrap (((i : Nat) : Int) * 32)))]) [gW fb dat abi aC big aQ aF ay pg i aj, (pg, .cells cur 136 (0, 0)), (pd, .cells (X.map Bv).toArray 5 (0, 0))] (by kernel_rfl) ?_
 clear HF HM; intro a w HF HM
 rw [show IntKind.u64.wrap (((i : Nat) : Int) * 32) = (((i * 32) : Nat) : Int) from (IntWalk.u64_in _ (by omega)).trans (by omega)] at HF
 refine aO HF HM rfl 1 [] ((nU b o n c s fb big ak aj au ah pd) ++ [(38, aB i), (39, aJ (i * 32))]) [gW fb dat abi aC big aQ aF ay pg i aj, (pg, .cells cur 136 (0, 0)), (pd, .cells (X.map Bv).toArray 5 (0, 0))] (by kernel_rfl) ?_
 clear HF HM; intro a w HF HM
 refine aI ?_
 obtain ⟨z5, vF⟩ : ∃ z, w.heap.size = z := ⟨_, rfl⟩
 refine bC HF HM vF [] (eY b o n c s fb big ak aj au ah pd i z5) [mV z5, gW fb dat abi aC big aQ aF ay pg i aj, (pg, .cells cur 136 (0, 0)), (pd, .cells (X.map Bv).toArray 5 (0, 0))] (by kernel_rfl) ?_
 clear HF HM vF; intro a w HF HM
 refine wp_seq ?_
 refine bC HF HM rfl [[2]] ((eY b o n c s fb big ak aj au ah pd i z5) ++ [(606, aN 1)]) [mV z5, gW fb dat abi aC big aQ aF ay pg i aj, (pg, .cells cur 136 (0, 0)), (pd, .cells (X.map Bv).toArray 5 (0, 0))] (by kernel_rfl) ?_
 clear HF HM; intro a w HF HM
 refine wp_block ?_
 refine bC HF HM rfl [] ((eY b o n c s fb big ak aj au ah pd i z5) ++ [(606, aN 1), (607, .bool true)]) [mV z5, gW fb dat abi aC big aQ aF ay pg i aj, (pg, .cells cur 136 (0, 0)), (pd, .cells (X.map Bv).toArray 5 (0, 0))] (by kernel_rfl) ?_
 clear HF HM; intro a w HF HM
 refine bF HF rfl ?_
 replace HF := HF.sub (eY b o n c s fb big ak aj au ah pd i z5) (by kernel_rfl)
 refine sG HM (by kernel_rfl) [(pd, .cells (X.map Bv).toArray 5 (0, 0))] [(0, false), (1, false), (2, false), (3, false), (4, false), (5, false), (8, false), (9, false), (10, false), (11, false), (12, false), (14, false), (15, false), (16, false), (17, false), (18, false), (21, false), (22, false), (23, false), (24, false), (25, false), (28, false), (29, false), (30, false), (31, false), (32, false), (35, false), (36, false), (37, false), (38, false), (39, false), (42, false), (43, false), (44, false), (45, false), (46, false), (49, false), (50, false), (51, false), (52, false), (53, false), (6, true), (7, false), (13, true), (19, true), (20, false), (26, true), (27, false), (33, true), (34, false), (40, true), (41, false), (47, true), (48, false), (54, true), (55, false), (56, false), (57, false), (58, false), (59, true)] (by kernel_rfl) ?_
 clear HM; intro w1 HM
 refine bH HF (HM.told [3] rfl) 1 [] ((eY b o n c s fb big ak aj au ah pd i z5) ++ [(609, aG z5)]) (by kernel_rfl) ?_
 clear HF; intro a HF
 refine bH HF (HM.told [3] rfl) 4 [] ((eY b o n c s fb big ak aj au ah pd i z5) ++ [(609, aG z5), (610, (aP big)), (611, aH pd (aj * 32) (aj * 32)), (613, bD (IntKind.u64.wrap ((((i * 32) : Nat) : Int) + 0)))]) (by kernel_rfl) ?_
 clear HF; intro a HF
 rw [show IntKind.u64.wrap ((((i * 32) : Nat) : Int) + 0) = ((((i * 32) + 0) : Nat) : Int) from (IntWalk.u64_in _ (by omega)).trans (by omega)] at HF
 refine dZ rfl HF (HM.told [3] rfl) rfl (.slice (some ⟨pd, ((i * 32) + 0), none⟩) ((aj * 32) - ((i * 32) + 0)) ((aj * 32) - ((i * 32) + 0))) (by kernel_rfl) (fun w hw => eF (t := 33) Tryd.underlying33 hi0 hs0 rfl ((i * 32) + 0) (kk := .u64) rfl rfl (by omega) (by omega) (by omega) w) ?_
 clear HF; intro a HF; replace HF := HF.sub ((eY b o n c s fb big ak aj au ah pd i z5) ++ [(609, aG z5), (610, (aP big)), (611, aH pd (aj * 32) (aj * 32)), (613, aJ ((i * 32) + 0)), LP pd i aj]) (by kernel_rfl)
 replace HF := HF.sub (xY b o n c s fb big ak aj au ah pd i z5) (by kernel_rfl)
 refine bH HF (HM.told [3] rfl) 4 [] ((xY b o n c s fb big ak aj au ah pd i z5) ++ [(617, (aP big)), (618, aH pd (aj * 32) (aj * 32)), (620, bD (IntKind.u64.wrap ((((i * 32) : Nat) : Int) + 24)))]) (by kernel_rfl) ?_
 clear HF; intro a HF
 rw [show IntKind.u64.wrap ((((i * 32) : Nat) : Int) + 24) = ((((i * 32) + 24) : Nat) : Int) from (IntWalk.u64_in _ (by omega)).trans (by omega)] at HF
 refine dZ rfl HF (HM.told [3] rfl) rfl (.slice (some ⟨pd, ((i * 32) + 24), none⟩) ((aj * 32) - ((i * 32) + 24)) ((aj * 32) - ((i * 32) + 24))) (by kernel_rfl) (fun w hw => eF (t := 33) Tryd.underlying33 hi0 hs0 rfl ((i * 32) + 24) (kk := .u64) rfl rfl (by omega) (by omega) (by omega) w) ?_
 clear HF; intro a HF; replace HF := HF.sub ((xY b o n c s fb big ak aj au ah pd i z5) ++ [(617, (aP big)), (618, aH pd (aj * 32) (aj * 32)), (620, aJ ((i * 32) + 24)), LM pd i aj]) (by kernel_rfl)
 replace HF := HF.sub (xX b o n c s fb big ak aj au ah pd i z5) (by kernel_rfl)
 refine bH HF (HM.told [3] rfl) 4 [] ((xX b o n c s fb big ak aj au ah pd i z5) ++ [(623, (aP big)), (624, aH pd (aj * 32) (aj * 32)), (626, bD (IntKind.u64.wrap ((((i * 32) : Nat) : Int) + 4)))]) (by kernel_rfl) ?_
 clear HF; intro a HF
 rw [show IntKind.u64.wrap ((((i * 32) : Nat) : Int) + 4) = ((((i * 32) + 4) : Nat) : Int) from (IntWalk.u64_in _ (by omega)).trans (by omega)] at HF
 refine dZ rfl HF (HM.told [3] rfl) rfl (.slice (some ⟨pd, ((i * 32) + 4), none⟩) ((aj * 32) - ((i * 32) + 4)) ((aj * 32) - ((i * 32) + 4))) (by kernel_rfl) (fun w hw => eF (t := 33) Tryd.underlying33 hi0 hs0 rfl ((i * 32) + 4) (kk := .u64) rfl rfl (by omega) (by omega) (by omega) w) ?_
 clear HF; intro a HF; replace HF := HF.sub ((xX b o n c s fb big ak aj au ah pd i z5) ++ [(623, (aP big)), (624, aH pd (aj * 32) (aj * 32)), (626, aJ ((i * 32) + 4)), zY pd i aj]) (by kernel_rfl)
 replace HF := HF.sub (wH b o n c s fb big ak aj au ah pd i z5) (by kernel_rfl)
 refine bH HF (HM.told [3] rfl) 4 [] ((wH b o n c s fb big ak aj au ah pd i z5) ++ [(630, (aP big)), (631, aH pd (aj * 32) (aj * 32)), (633, bD (IntKind.u64.wrap ((((i * 32) : Nat) : Int) + 8)))]) (by kernel_rfl) ?_
 clear HF; intro a HF
 rw [show IntKind.u64.wrap ((((i * 32) : Nat) : Int) + 8) = ((((i * 32) + 8) : Nat) : Int) from (IntWalk.u64_in _ (by omega)).trans (by omega)] at HF
 refine dZ rfl HF (HM.told [3] rfl) rfl (.slice (some ⟨pd, ((i * 32) + 8), none⟩) ((aj * 32) - ((i * 32) + 8)) ((aj * 32) - ((i * 32) + 8))) (by kernel_rfl) (fun w hw => eF (t := 33) Tryd.underlying33 hi0 hs0 rfl ((i * 32) + 8) (kk := .u64) rfl rfl (by omega) (by omega) (by omega) w) ?_
 clear HF; intro a HF; replace HF := HF.sub ((wH b o n c s fb big ak aj au ah pd i z5) ++ [(630, (aP big)), (631, aH pd (aj * 32) (aj * 32)), (633, aJ ((i * 32) + 8)), zX pd i aj]) (by kernel_rfl)
 replace HF := HF.sub (wG b o n c s fb big ak aj au ah pd i z5) (by kernel_rfl)
 refine bH HF (HM.told [3] rfl) 4 [] ((wG b o n c s fb big ak aj au ah pd i z5) ++ [(637, (aP big)), (638, aH pd (aj * 32) (aj * 32)), (640, bD (IntKind.u64.wrap ((((i * 32) : Nat) : Int) + 12)))]) (by kernel_rfl) ?_
 clear HF; intro a HF
 rw [show IntKind.u64.wrap ((((i * 32) : Nat) : Int) + 12) = ((((i * 32) + 12) : Nat) : Int) from (IntWalk.u64_in _ (by omega)).trans (by omega)] at HF
 refine dZ rfl HF (HM.told [3] rfl) rfl (.slice (some ⟨pd, ((i * 32) + 12), none⟩) ((aj * 32) - ((i * 32) + 12)) ((aj * 32) - ((i * 32) + 12))) (by kernel_rfl) (fun w hw => eF (t := 33) Tryd.underlying33 hi0 hs0 rfl ((i * 32) + 12) (kk := .u64) rfl rfl (by omega) (by omega) (by omega) w) ?_
 clear HF; intro a HF; replace HF := HF.sub ((wG b o n c s fb big ak aj au ah pd i z5) ++ [(637, (aP big)), (638, aH pd (aj * 32) (aj * 32)), (640, aJ ((i * 32) + 12)), zW pd i aj]) (by kernel_rfl)
 replace HF := HF.sub (wF b o n c s fb big ak aj au ah pd i z5) (by kernel_rfl)
 refine bH HF (HM.told [3] rfl) 4 [] ((wF b o n c s fb big ak aj au ah pd i z5) ++ [(644, (aP big)), (645, aH pd (aj * 32) (aj * 32)), (647, bD (IntKind.u64.wrap ((((i * 32) : Nat) : Int) + 16)))]) (by kernel_rfl) ?_
 clear HF; intro a HF
 rw [show IntKind.u64.wrap ((((i * 32) : Nat) : Int) + 16) = ((((i * 32) + 16) : Nat) : Int) from (IntWalk.u64_in _ (by omega)).trans (by omega)] at HF
 refine dZ rfl HF (HM.told [3] rfl) rfl (.slice (some ⟨pd, ((i * 32) + 16), none⟩) ((aj * 32) - ((i * 32) + 16)) ((aj * 32) - ((i * 32) + 16))) (by kernel_rfl) (fun w hw => eF (t := 33) Tryd.underlying33 hi0 hs0 rfl ((i * 32) + 16) (kk := .u64) rfl rfl (by omega) (by omega) (by omega) w) ?_
 clear HF; intro a HF; replace HF := HF.sub ((wF b o n c s fb big ak aj au ah pd i z5) ++ [(644, (aP big)), (645, aH pd (aj * 32) (aj * 32)), (647, aJ ((i * 32) + 16)), zV pd i aj]) (by kernel_rfl)
 replace HF := HF.sub (wE b o n c s fb big ak aj au ah pd i z5) (by kernel_rfl)
 refine bH HF (HM.told [3] rfl) 4 [] ((wE b o n c s fb big ak aj au ah pd i z5) ++ [(651, (aP big)), (652, aH pd (aj * 32) (aj * 32)), (654, bD (IntKind.u64.wrap ((((i * 32) : Nat) : Int) + 20)))]) (by kernel_rfl) ?_
 clear HF; intro a HF
 rw [show IntKind.u64.wrap ((((i * 32) : Nat) : Int) + 20) = ((((i * 32) + 20) : Nat) : Int) from (IntWalk.u64_in _ (by omega)).trans (by omega)] at HF
 refine dZ rfl HF (HM.told [3] rfl) rfl (.slice (some ⟨pd, ((i * 32) + 20), none⟩) ((aj * 32) - ((i * 32) + 20)) ((aj * 32) - ((i * 32) + 20))) (by kernel_rfl) (fun w hw => eF (t := 33) Tryd.underlying33 hi0 hs0 rfl ((i * 32) + 20) (kk := .u64) rfl rfl (by omega) (by omega) (by omega) w) ?_
 clear HF; intro a HF; replace HF := HF.sub ((wE b o n c s fb big ak aj au ah pd i z5) ++ [(651, (aP big)), (652, aH pd (aj * 32) (aj * 32)), (654, aJ ((i * 32) + 20)), zU pd i aj]) (by kernel_rfl)
 replace HF := HF.sub (tX b o n c s fb big ak aj au ah pd i z5) (by kernel_rfl)
 refine bH HF (HM.told [3] rfl) 4 [] ((tX b o n c s fb big ak aj au ah pd i z5) ++ [(658, (aP big)), (659, aH pd (aj * 32) (aj * 32)), (661, bD (IntKind.u64.wrap ((((i * 32) : Nat) : Int) + 28)))]) (by kernel_rfl) ?_
 clear HF; intro a HF
 rw [show IntKind.u64.wrap ((((i * 32) : Nat) : Int) + 28) = ((((i * 32) + 28) : Nat) : Int) from (IntWalk.u64_in _ (by omega)).trans (by omega)] at HF
 refine dZ rfl HF (HM.told [3] rfl) rfl (.slice (some ⟨pd, ((i * 32) + 28), none⟩) ((aj * 32) - ((i * 32) + 28)) ((aj * 32) - ((i * 32) + 28))) (by kernel_rfl) (fun w hw => eF (t := 33) Tryd.underlying33 hi0 hs0 rfl ((i * 32) + 28) (kk := .u64) rfl rfl (by omega) (by omega) (by omega) w) ?_
 clear HF; intro a HF; replace HF := HF.sub ((tX b o n c s fb big ak aj au ah pd i z5) ++ [(658, (aP big)), (659, aH pd (aj * 32) (aj * 32)), (661, aJ ((i * 32) + 28)), tY pd i aj]) (by kernel_rfl)
 replace HF := HF.sub ((tX b o n c s fb big ak aj au ah pd i z5) ++ [(658, (aP big)), tY pd i aj]) (by kernel_rfl)
 refine b_ rfl ?_
 refine bn HF (by kernel_rfl) 87 #[(aP big), .slice (some ⟨pd, ((i * 32) + 0), none⟩) ((aj * 32) - ((i * 32) + 0)) ((aj * 32) - ((i * 32) + 0))] (by kernel_rfl) (fun w => by kernel_rfl) (Calls.mono (jB (HM.get (i := 3) rfl) (by unfold maxLen; omega) big ((i * 32) + 0) ((aj * 32) - ((i * 32) + 0)) (by omega) (by omega) ((v.ty : Nat) : Int) (by rw [e0])) ?_)
 rintro _ w2 ⟨rfl, jG, hq⟩
 replace HM : Mm [fb, pg, pd] W1 w2 [mV z5, gW fb dat abi aC big aQ aF ay pg i aj, (pg, .cells cur 136 (0, 0)), (pd, .cells (X.map Bv).toArray 5 (0, 0))] := by rw [hq]; exact HM.drewN _
 clear hq
 refine ⟨_, rfl, ?_⟩; clear HF; intro a HF; replace HF := HF.sub ((tX b o n c s fb big ak aj au ah pd i z5) ++ [(658, (aP big)), tY pd i aj, (615, aY v.ty)]) (by kernel_rfl)
 refine dF (HM.told [3] rfl) ?_
 replace HF := HF.sub ((zT b o n c s fb big ak aj au ah pd i z5) ++ [(615, aY v.ty)]) (by kernel_rfl)
 refine bH HF (HM.told [3] rfl) 1 [] ((zT b o n c s fb big ak aj au ah pd i z5) ++ [(616, aA (IntKind.i64.wrap ((v.ty : Nat) : Int)))]) (by kernel_rfl) ?_
 clear HF; intro a HF
 rw [show IntKind.i64.wrap ((v.ty : Nat) : Int) = ((v.ty : Nat) : Int) from IntWalk.i64_in _ (by omega)] at HF
 refine b_ rfl ?_
 refine bn HF (by kernel_rfl) 87 #[(aP big), .slice (some ⟨pd, ((i * 32) + 24), none⟩) ((aj * 32) - ((i * 32) + 24)) ((aj * 32) - ((i * 32) + 24))] (by kernel_rfl) (fun w => by kernel_rfl) (Calls.mono (jB (HM.get (i := 3) rfl) (by unfold maxLen; omega) big ((i * 32) + 24) ((aj * 32) - ((i * 32) + 24)) (by omega) (by omega) ((v.flags : Nat) : Int) (by rw [e1])) ?_)
 rintro _ w3 ⟨rfl, jG, hq⟩
 replace HM : Mm [fb, pg, pd] W1 w3 [mV z5, gW fb dat abi aC big aQ aF ay pg i aj, (pg, .cells cur 136 (0, 0)), (pd, .cells (X.map Bv).toArray 5 (0, 0))] := by rw [hq]; exact HM.drewN _
 clear hq
 refine ⟨_, rfl, ?_⟩; clear HF; intro a HF; replace HF := HF.sub ((zT b o n c s fb big ak aj au ah pd i z5) ++ [(616, aB v.ty), (622, aY v.flags)]) (by kernel_rfl)
 refine dF (HM.told [3] rfl) ?_
 replace HF := HF.sub ((eY b o n c s fb big ak aj au ah pd i z5) ++ [(609, aG z5), (623, (aP big)), zY pd i aj, (630, (aP big)), zX pd i aj, (637, (aP big)), zW pd i aj, (644, (aP big)), zV pd i aj, (651, (aP big)), zU pd i aj, (658, (aP big)), tY pd i aj, (616, aB v.ty), (622, aY v.flags)]) (by kernel_rfl)
 refine b_ rfl ?_
 refine bn HF (by kernel_rfl) 87 #[(aP big), .slice (some ⟨pd, ((i * 32) + 4), none⟩) ((aj * 32) - ((i * 32) + 4)) ((aj * 32) - ((i * 32) + 4))] (by kernel_rfl) (fun w => by kernel_rfl) (Calls.mono (jB (HM.get (i := 3) rfl) (by unfold maxLen; omega) big ((i * 32) + 4) ((aj * 32) - ((i * 32) + 4)) (by omega) (by omega) ((v.off : Nat) : Int) (by rw [e2])) ?_)
 rintro _ w4 ⟨rfl, jG, hq⟩
 replace HM : Mm [fb, pg, pd] W1 w4 [mV z5, gW fb dat abi aC big aQ aF ay pg i aj, (pg, .cells cur 136 (0, 0)), (pd, .cells (X.map Bv).toArray 5 (0, 0))] := by rw [hq]; exact HM.drewN _
 clear hq
 refine ⟨_, rfl, ?_⟩; clear HF; intro a HF; replace HF := HF.sub ((eY b o n c s fb big ak aj au ah pd i z5) ++ [(609, aG z5), (623, (aP big)), zY pd i aj, (630, (aP big)), zX pd i aj, (637, (aP big)), zW pd i aj, (644, (aP big)), zV pd i aj, (651, (aP big)), zU pd i aj, (658, (aP big)), tY pd i aj, (616, aB v.ty), (622, aY v.flags), (628, aY v.off)]) (by kernel_rfl)
 refine dF (HM.told [3] rfl) ?_
 replace HF := HF.sub ((zS b o n c s fb big ak aj au ah pd i z5 v) ++ [(628, aY v.off)]) (by kernel_rfl)
 refine bH HF (HM.told [3] rfl) 1 [] ((zS b o n c s fb big ak aj au ah pd i z5 v) ++ [(629, bD (IntKind.u64.wrap ((v.off : Nat) : Int)))]) (by kernel_rfl) ?_
 clear HF; intro a HF
 rw [show IntKind.u64.wrap ((v.off : Nat) : Int) = ((v.off : Nat) : Int) from IntWalk.u64_in _ (by omega)] at HF
 refine b_ rfl ?_
 refine bn HF (by kernel_rfl) 87 #[(aP big), .slice (some ⟨pd, ((i * 32) + 8), none⟩) ((aj * 32) - ((i * 32) + 8)) ((aj * 32) - ((i * 32) + 8))] (by kernel_rfl) (fun w => by kernel_rfl) (Calls.mono (jB (HM.get (i := 3) rfl) (by unfold maxLen; omega) big ((i * 32) + 8) ((aj * 32) - ((i * 32) + 8)) (by omega) (by omega) ((v.bJ : Nat) : Int) (by rw [e3])) ?_)
 rintro _ w5 ⟨rfl, jG, hq⟩
 replace HM : Mm [fb, pg, pd] W1 w5 [mV z5, gW fb dat abi aC big aQ aF ay pg i aj, (pg, .cells cur 136 (0, 0)), (pd, .cells (X.map Bv).toArray 5 (0, 0))] := by rw [hq]; exact HM.drewN _
 clear hq
 refine ⟨_, rfl, ?_⟩; clear HF; intro a HF; replace HF := HF.sub ((zS b o n c s fb big ak aj au ah pd i z5 v) ++ [(629, aJ v.off), (635, aY v.bJ)]) (by kernel_rfl)
 refine dF (HM.told [3] rfl) ?_
 replace HF := HF.sub ((zQ b o n c s fb big ak aj au ah pd i z5 v) ++ [(635, aY v.bJ)]) (by kernel_rfl)
 refine bH HF (HM.told [3] rfl) 1 [] ((zQ b o n c s fb big ak aj au ah pd i z5 v) ++ [(636, bD (IntKind.u64.wrap ((v.bJ : Nat) : Int)))]) (by kernel_rfl) ?_
 clear HF; intro a HF
 rw [show IntKind.u64.wrap ((v.bJ : Nat) : Int) = ((v.bJ : Nat) : Int) from IntWalk.u64_in _ (by omega)] at HF
 refine b_ rfl ?_
 refine bn HF (by kernel_rfl) 87 #[(aP big), .slice (some ⟨pd, ((i * 32) + 12), none⟩) ((aj * 32) - ((i * 32) + 12)) ((aj * 32) - ((i * 32) + 12))] (by kernel_rfl) (fun w => by kernel_rfl) (Calls.mono (jB (HM.get (i := 3) rfl) (by unfold maxLen; omega) big ((i * 32) + 12) ((aj * 32) - ((i * 32) + 12)) (by omega) (by omega) ((v.bK : Nat) : Int) (by rw [e4])) ?_)
 rintro _ w6 ⟨rfl, jG, hq⟩
 replace HM : Mm [fb, pg, pd] W1 w6 [mV z5, gW fb dat abi aC big aQ aF ay pg i aj, (pg, .cells cur 136 (0, 0)), (pd, .cells (X.map Bv).toArray 5 (0, 0))] := by rw [hq]; exact HM.drewN _
 clear hq
 refine ⟨_, rfl, ?_⟩; clear HF; intro a HF; replace HF := HF.sub ((zQ b o n c s fb big ak aj au ah pd i z5 v) ++ [(636, aJ v.bJ), (642, aY v.bK)]) (by kernel_rfl)
 refine dF (HM.told [3] rfl) ?_
 replace HF := HF.sub ((zO b o n c s fb big ak aj au ah pd i z5 v) ++ [(642, aY v.bK)]) (by kernel_rfl)
 refine bH HF (HM.told [3] rfl) 1 [] ((zO b o n c s fb big ak aj au ah pd i z5 v) ++ [(643, bD (IntKind.u64.wrap ((v.bK : Nat) : Int)))]) (by kernel_rfl) ?_
 clear HF; intro a HF
 rw [show IntKind.u64.wrap ((v.bK : Nat) : Int) = ((v.bK : Nat) : Int) from IntWalk.u64_in _ (by omega)] at HF
 refine b_ rfl ?_
 refine bn HF (by kernel_rfl) 87 #[(aP big), .slice (some ⟨pd, ((i * 32) + 16), none⟩) ((aj * 32) - ((i * 32) + 16)) ((aj * 32) - ((i * 32) + 16))] (by kernel_rfl) (fun w => by kernel_rfl) (Calls.mono (jB (HM.get (i := 3) rfl) (by unfold maxLen; omega) big ((i * 32) + 16) ((aj * 32) - ((i * 32) + 16)) (by omega) (by omega) ((v.bG : Nat) : Int) (by rw [e5])) ?_)
 rintro _ w7 ⟨rfl, jG, hq⟩
 replace HM : Mm [fb, pg, pd] W1 w7 [mV z5, gW fb dat abi aC big aQ aF ay pg i aj, (pg, .cells cur 136 (0, 0)), (pd, .cells (X.map Bv).toArray 5 (0, 0))] := by rw [hq]; exact HM.drewN _
 clear hq
 refine ⟨_, rfl, ?_⟩; clear HF; intro a HF; replace HF := HF.sub ((zO b o n c s fb big ak aj au ah pd i z5 v) ++ [(643, aJ v.bK), (649, aY v.bG)]) (by kernel_rfl)
 refine dF (HM.told [3] rfl) ?_
 replace HF := HF.sub ((zN b o n c s fb big ak aj au ah pd i z5 v) ++ [(649, aY v.bG)]) (by kernel_rfl)
 refine bH HF (HM.told [3] rfl) 1 [] ((zN b o n c s fb big ak aj au ah pd i z5 v) ++ [(650, bD (IntKind.u64.wrap ((v.bG : Nat) : Int)))]) (by kernel_rfl) ?_
 clear HF; intro a HF
 rw [show IntKind.u64.wrap ((v.bG : Nat) : Int) = ((v.bG : Nat) : Int) from IntWalk.u64_in _ (by omega)] at HF
 refine b_ rfl ?_
 refine bn HF (by kernel_rfl) 87 #[(aP big), .slice (some ⟨pd, ((i * 32) + 20), none⟩) ((aj * 32) - ((i * 32) + 20)) ((aj * 32) - ((i * 32) + 20))] (by kernel_rfl) (fun w => by kernel_rfl) (Calls.mono (jB (HM.get (i := 3) rfl) (by unfold maxLen; omega) big ((i * 32) + 20) ((aj * 32) - ((i * 32) + 20)) (by omega) (by omega) ((v.bP : Nat) : Int) (by rw [e6])) ?_)
 rintro _ w8 ⟨rfl, jG, hq⟩
 replace HM : Mm [fb, pg, pd] W1 w8 [mV z5, gW fb dat abi aC big aQ aF ay pg i aj, (pg, .cells cur 136 (0, 0)), (pd, .cells (X.map Bv).toArray 5 (0, 0))] := by rw [hq]; exact HM.drewN _
 clear hq
 refine ⟨_, rfl, ?_⟩; clear HF; intro a HF; replace HF := HF.sub ((zN b o n c s fb big ak aj au ah pd i z5 v) ++ [(650, aJ v.bG), (656, aY v.bP)]) (by kernel_rfl)
 refine dF (HM.told [3] rfl) ?_
 replace HF := HF.sub ((zM b o n c s fb big ak aj au ah pd i z5 v) ++ [(656, aY v.bP)]) (by kernel_rfl)
 refine bH HF (HM.told [3] rfl) 1 [] ((zM b o n c s fb big ak aj au ah pd i z5 v) ++ [(657, bD (IntKind.u64.wrap ((v.bP : Nat) : Int)))]) (by kernel_rfl) ?_
 clear HF; intro a HF
 rw [show IntKind.u64.wrap ((v.bP : Nat) : Int) = ((v.bP : Nat) : Int) from IntWalk.u64_in _ (by omega)] at HF
 refine b_ rfl ?_
 refine bn HF (by kernel_rfl) 87 #[(aP big), .slice (some ⟨pd, ((i * 32) + 28), none⟩) ((aj * 32) - ((i * 32) + 28)) ((aj * 32) - ((i * 32) + 28))] (by kernel_rfl) (fun w => by kernel_rfl) (Calls.mono (jB (HM.get (i := 3) rfl) (by unfold maxLen; omega) big ((i * 32) + 28) ((aj * 32) - ((i * 32) + 28)) (by omega) (by omega) ((v.align : Nat) : Int) (by rw [e7])) ?_)
 rintro _ w9 ⟨rfl, jG, hq⟩
 replace HM : Mm [fb, pg, pd] W1 w9 [mV z5, gW fb dat abi aC big aQ aF ay pg i aj, (pg, .cells cur 136 (0, 0)), (pd, .cells (X.map Bv).toArray 5 (0, 0))] := by rw [hq]; exact HM.drewN _
 clear hq
 refine ⟨_, rfl, ?_⟩; clear HF; intro a HF; replace HF := HF.sub ((zM b o n c s fb big ak aj au ah pd i z5 v) ++ [(657, aJ v.bP), (663, aY v.align)]) (by kernel_rfl)
 refine dF (HM.told [3] rfl) ?_
 replace HF := HF.sub ((eY b o n c s fb big ak aj au ah pd i z5) ++ [(609, aG z5), (616, aB v.ty), (622, aY v.flags), (629, aJ v.off), (636, aJ v.bJ), (643, aJ v.bK), (650, aJ v.bG), (657, aJ v.bP), (663, aY v.align)]) (by kernel_rfl)
 refine bH HF (HM.told [3] rfl) 1 [] ((eY b o n c s fb big ak aj au ah pd i z5) ++ [(609, aG z5), (616, aB v.ty), (622, aY v.flags), (629, aJ v.off), (636, aJ v.bJ), (643, aJ v.bK), (650, aJ v.bG), (657, aJ v.bP), (664, bD (IntKind.u64.wrap ((v.align : Nat) : Int)))]) (by kernel_rfl) ?_
 clear HF; intro a HF
 rw [show IntKind.u64.wrap ((v.align : Nat) : Int) = ((v.align : Nat) : Int) from IntWalk.u64_in _ (by omega)] at HF
 refine bH HF (HM.told [3] rfl) 3 [] ((eY b o n c s fb big ak aj au ah pd i z5) ++ [(609, aG z5), (616, aB v.ty), (622, aY v.flags), (629, aJ v.off), (636, aJ v.bJ), (643, aJ v.bK), (650, aJ v.bG), (657, aJ v.bP), (664, aJ v.align), (665, .agg #[aB v.ty, aY v.flags, aJ v.off, aJ v.bJ, aJ v.bK, aJ v.bG, aJ v.bP, aJ v.align]), (667, aG z5)]) (by kernel_rfl) ?_
 clear HF; intro a HF
 replace HF := HF.sub ((eY b o n c s fb big ak aj au ah pd i z5) ++ [(665, .agg #[aB v.ty, aY v.flags, aJ v.off, aJ v.bJ, aJ v.bK, aJ v.bG, aJ v.bP, aJ v.align]), (667, aG z5)]) (by kernel_rfl)
 refine b_ rfl ?_
 refine aO HF HM rfl 1 [[3, 3, 3, 3, 3, 3, 3, 3]] (eY b o n c s fb big ak aj au ah pd i z5) [rF z5 v, gW fb dat abi aC big aQ aF ay pg i aj, (pg, .cells cur 136 (0, 0)), (pd, .cells (X.map Bv).toArray 5 (0, 0))] (by kernel_rfl) ?_
 clear HF HM; intro a w HF HM
 refine dF (HM.told [3] rfl) ?_
 refine lI ?_
 repeat (first | refine aS ?_ | refine aU ?_)
 refine wp_seq ?_
 refine wp_seq (wp_region_lit ?_)
 refine aO HF HM rfl 6 [[3]] ((eY b o n c s fb big ak aj au ah pd i z5) ++ [(728, aA (IntKind.i64.wrap ((v.off : Nat) : Int)))]) [rF z5 v, gW fb dat abi aC big aQ aF ay pg i aj, (pg, .cells cur 136 (0, 0)), (pd, .cells (X.map Bv).toArray 5 (0, 0))] (by kernel_rfl) ?_
 clear HF HM; intro a w HF HM
 rw [show IntKind.i64.wrap ((v.off : Nat) : Int) = ((v.off : Nat) : Int) from IntWalk.i64_in _ (by omega)] at HF
 refine aO HF HM rfl 1 [] ((eY b o n c s fb big ak aj au ah pd i z5) ++ [(729, .bool (decide (((v.off : Nat) : Int) < 0)))]) [rF z5 v, gW fb dat abi aC big aQ aF ay pg i aj, (pg, .cells cur 136 (0, 0)), (pd, .cells (X.map Bv).toArray 5 (0, 0))] (by kernel_rfl) ?_
 clear HF HM; intro a w HF HM
 rw [show decide (((v.off : Nat) : Int) < 0) = false from bZ (by omega)] at HF
 refine aI ?_
 refine bf HF rfl ?_
 refine wp_skip ?_
 repeat (first | refine aS ?_ | refine aU ?_)
 replace HF := HF.sub (eY b o n c s fb big ak aj au ah pd i z5) (by kernel_rfl)
 refine wp_seq ?_
 refine wp_seq (wp_region_lit ?_)
 refine aO HF HM rfl 6 [[3]] ((eY b o n c s fb big ak aj au ah pd i z5) ++ [(748, aA (IntKind.i64.wrap ((v.bG : Nat) : Int)))]) [rF z5 v, gW fb dat abi aC big aQ aF ay pg i aj, (pg, .cells cur 136 (0, 0)), (pd, .cells (X.map Bv).toArray 5 (0, 0))] (by kernel_rfl) ?_
 clear HF HM; intro a w HF HM
 rw [show IntKind.i64.wrap ((v.bG : Nat) : Int) = ((v.bG : Nat) : Int) from IntWalk.i64_in _ (by omega)] at HF
 refine aO HF HM rfl 1 [] ((eY b o n c s fb big ak aj au ah pd i z5) ++ [(749, .bool (decide (((v.bG : Nat) : Int) < 0)))]) [rF z5 v, gW fb dat abi aC big aQ aF ay pg i aj, (pg, .cells cur 136 (0, 0)), (pd, .cells (X.map Bv).toArray 5 (0, 0))] (by kernel_rfl) ?_
 clear HF HM; intro a w HF HM
 rw [show decide (((v.bG : Nat) : Int) < 0) = false from bZ (by omega)] at HF
 refine aI ?_
 refine bf HF rfl ?_
 refine wp_skip ?_
 repeat (first | refine aS ?_ | refine aU ?_)
 replace HF := HF.sub (eY b o n c s fb big ak aj au ah pd i z5) (by kernel_rfl)
 refine xG HM (by kernel_rfl) (fun w => w.cell? ⟨z5, 2, none⟩ = some (aJ v.off) ∧ w.cell? ⟨z5, 5, none⟩ = some (aJ v.bG)) [(0, false), (1, false), (2, false), (3, false), (4, false), (5, false), (6, false), (7, false), (8, false), (9, false), (10, false), (11, false), (12, false), (13, false), (14, true), (15, false), (16, false), (17, true)] (by kernel_rfl) ?_
 clear HM; intro w10 HM
 refine jk (LS := []) (fun _ _ => jM _) HF ⟨HM.cellAt (i := 0) (k := 2) rfl rfl, HM.cellAt (i := 0) (k := 5) rfl rfl⟩ 6 [] ((qj b o n c s fb big ak aj au ah pd i z5) ++ [(768, .pointer (some ⟨z5, 2, none⟩))]) (by kernel_rfl) ?_
 clear HF; intro a HF
 refine pz rfl HF ⟨HM.cellAt (i := 0) (k := 2) rfl rfl, HM.cellAt (i := 0) (k := 5) rfl rfl⟩ rfl (aJ v.off) (by kernel_rfl) (fun w hw => gJ rfl rfl (by kernel_rfl) hw.1) ?_
 clear HF; intro a HF; replace HF := HF.sub ((qj b o n c s fb big ak aj au ah pd i z5) ++ [(768, .pointer (some ⟨z5, 2, none⟩)), (769, aJ v.off)]) (by kernel_rfl)
 refine jk (LS := []) (fun _ _ => jM _) HF ⟨HM.cellAt (i := 0) (k := 2) rfl rfl, HM.cellAt (i := 0) (k := 5) rfl rfl⟩ 1 [] ((qj b o n c s fb big ak aj au ah pd i z5) ++ [(770, aA (IntKind.i64.wrap ((v.off : Nat) : Int)))]) (by kernel_rfl) ?_
 clear HF; intro a HF
 rw [show IntKind.i64.wrap ((v.off : Nat) : Int) = ((v.off : Nat) : Int) from IntWalk.i64_in _ (by omega)] at HF
 refine jk (LS := []) (fun _ _ => jM _) HF ⟨HM.cellAt (i := 0) (k := 2) rfl rfl, HM.cellAt (i := 0) (k := 5) rfl rfl⟩ 4 [] ((qj b o n c s fb big ak aj au ah pd i z5) ++ [(770, aB v.off), (774, .pointer (some ⟨z5, 5, none⟩))]) (by kernel_rfl) ?_
 clear HF; intro a HF
 refine pz rfl HF ⟨HM.cellAt (i := 0) (k := 2) rfl rfl, HM.cellAt (i := 0) (k := 5) rfl rfl⟩ rfl (aJ v.bG) (by kernel_rfl) (fun w hw => gJ rfl rfl (by kernel_rfl) hw.2) ?_
 clear HF; intro a HF; replace HF := HF.sub ((qj b o n c s fb big ak aj au ah pd i z5) ++ [(770, aB v.off), (774, .pointer (some ⟨z5, 5, none⟩)), (775, aJ v.bG)]) (by kernel_rfl)
 refine jk (LS := []) (fun _ _ => jM _) HF ⟨HM.cellAt (i := 0) (k := 2) rfl rfl, HM.cellAt (i := 0) (k := 5) rfl rfl⟩ 1 [] ((qj b o n c s fb big ak aj au ah pd i z5) ++ [(770, aB v.off), (776, aA (IntKind.i64.wrap ((v.bG : Nat) : Int)))]) (by kernel_rfl) ?_
 clear HF; intro a HF
 rw [show IntKind.i64.wrap ((v.bG : Nat) : Int) = ((v.bG : Nat) : Int) from IntWalk.i64_in _ (by omega)] at HF
 refine nS rfl ?_
 refine bn HF (by kernel_rfl) 92 #[.iface 178 (.slice (some ⟨b, o, none⟩) n c), aB v.off, aB v.bG] (by kernel_rfl) (fun w => by kernel_rfl) (Calls.mono (nX 178 (.slice (some ⟨b, o, none⟩) n c) ((v.off : Nat) : Int) ((v.bG : Nat) : Int) (by omega) (by omega) (by omega) w10) ?_)
 rintro _ wS ⟨sb, rfl, hb, hge, hgn⟩
 replace HM : Mm [fb, pg, pd] W1 wS [oN sb b o n c v, rF z5 v, gW fb dat abi aC big aQ aF ay pg i aj, (pg, .cells cur 136 (0, 0)), (pd, .cells (X.map Bv).toArray 5 (0, 0))] := HM.push hb hge hgn
 clear hb hge hgn
 refine ⟨_, rfl, ?_⟩; clear HF; intro a HF; replace HF := HF.sub ((qj b o n c s fb big ak aj au ah pd i z5) ++ [(770, aB v.off), (776, aB v.bG), (777, aG sb)]) (by kernel_rfl)
 refine pF ⟨HM.cellAt (i := 1) (k := 2) rfl rfl, HM.cellAt (i := 1) (k := 5) rfl rfl⟩ ?_
 refine jk (LS := []) (fun _ _ => jM _) HF ⟨HM.cellAt (i := 1) (k := 2) rfl rfl, HM.cellAt (i := 1) (k := 5) rfl rfl⟩ 2 [] ((eY b o n c s fb big ak aj au ah pd i z5) ++ [(777, aG sb), (779, .pointer (some ⟨z5, 9, none⟩))]) (by kernel_rfl) ?_
 clear HF; intro a HF
 refine nS rfl ?_
 refine aO HF HM rfl 1 [[3]] (eY b o n c s fb big ak aj au ah pd i z5) [oN sb b o n c v, (z5, .cells #[aB v.ty, aY v.flags, aJ v.off, aJ v.bJ, aJ v.bK, aJ v.bG, aJ v.bP, aJ v.align, .nilIface, aG sb] 146 (0, 0)), gW fb dat abi aC big aQ aF ay pg i aj, (pg, .cells cur 136 (0, 0)), (pd, .cells (X.map Bv).toArray 5 (0, 0))] (by kernel_rfl) ?_
 clear HF HM; intro a w HF HM
 refine pF ⟨HM.cellAt (i := 1) (k := 2) rfl rfl, HM.cellAt (i := 1) (k := 5) rfl rfl⟩ ?_
 refine xI (aS ?_)
 refine bC HF HM rfl [[3], [3]] (eY b o n c s fb big ak aj au ah pd i z5) [oN sb b o n c v, rE z5 v sb, gW fb dat abi aC big aQ aF ay pg i aj, (pg, .cells cur 136 (0, 0)), (pd, .cells (X.map Bv).toArray 5 (0, 0))] (by kernel_rfl) ?_
 clear HF HM; intro a w HF HM
 refine wp_region_lit ?_
 obtain ⟨sO, BF⟩ : ∃ z, w.heap.size = z := ⟨_, rfl⟩
 refine aO HF HM BF 7 [[2]] ((eY b o n c s fb big ak aj au ah pd i z5) ++ [(788, aG fb), (792, aH pg i aj), (794, aH sO 1 1)]) [(sO, .cells #[aG z5] 136 (0, 0)), oN sb b o n c v, rE z5 v sb, gW fb dat abi aC big aQ aF ay pg i aj, (pg, .cells cur 136 (0, 0)), (pd, .cells (X.map Bv).toArray 5 (0, 0))] (by kernel_rfl) ?_
 clear HF HM BF; intro a w HF HM
 refine oW HF HM rfl _ _ 127 rfl rfl 136 (.pointer none) 8 Tryd.underlying127 qy 4 0 pg _ i aj cur _ _ rfl hcs (by omega) (by unfold maxLen; omega) rfl rfl rfl rfl ?_
 intro a2 w12 cur' hcs' htk bI HF2; clear HF HM; have HM : Mm [fb, pg, pd] W1 w12 [(sO, .cells #[aG z5] 136 (0, 0)), oN sb b o n c v, rE z5 v sb, gW fb dat abi aC big aQ aF ay pg i aj, (pg, .cells cur' 136 (0, 0)), (pd, .cells (X.map Bv).toArray 5 (0, 0))] := bI; have HF := HF2; clear bI HF2
 replace HF := HF.sub ((eY b o n c s fb big ak aj au ah pd i z5) ++ [(788, aG fb), (795, aH pg (i + 1) aj)]) (by kernel_rfl)
 refine aO HF HM rfl 3 [[2]] (eY b o n c s fb big ak aj au ah pd i z5) [(sO, .cells #[aG z5] 136 (0, 0)), oN sb b o n c v, rE z5 v sb, xZ fb dat abi aC big aQ aF ay pg i aj, (pg, .cells cur' 136 (0, 0)), (pd, .cells (X.map Bv).toArray 5 (0, 0))] (by kernel_rfl) ?_
 clear HF HM; intro a w HF HM
 refine wpList_nil ?_
 repeat (first | refine aS ?_ | refine aU ?_)
 refine wp_region_lit ?_
 refine aO HF HM rfl 2 [] ((eY b o n c s fb big ak aj au ah pd i z5) ++ [(595, aA (IntKind.i64.wrap (((i : Nat) : Int) + 1)))]) [(sO, .cells #[aG z5] 136 (0, 0)), oN sb b o n c v, rE z5 v sb, xZ fb dat abi aC big aQ aF ay pg i aj, (pg, .cells cur' 136 (0, 0)), (pd, .cells (X.map Bv).toArray 5 (0, 0))] (by kernel_rfl) ?_
 clear HF HM; intro a w HF HM
 rw [show IntKind.i64.wrap (((i : Nat) : Int) + 1) = (((i + 1) : Nat) : Int) from (IntWalk.i64_in _ (by omega)).trans (by omega)] at HF
 refine aO HF HM rfl 1 [] ((nU b o n c s fb big ak aj au ah pd) ++ [(39, aJ (i * 32)), (40, aG z5), (38, aB (i + 1))]) [(sO, .cells #[aG z5] 136 (0, 0)), oN sb b o n c v, rE z5 v sb, xZ fb dat abi aC big aQ aF ay pg i aj, (pg, .cells cur' 136 (0, 0)), (pd, .cells (X.map Bv).toArray 5 (0, 0))] (by kernel_rfl) ?_
 clear HF HM; intro a w HF HM
 refine wpList_nil ?_
 repeat (first | refine aS ?_ | refine aU ?_)
 replace HF := HF.sub ((nU b o n c s fb big ak aj au ah pd) ++ [(38, aB (i + 1))]) (by kernel_rfl)
 exact K a w z5 sb cur' hcs' htk HF (HM.sub (List.Sublist.cons _ (List.Sublist.refl _)))

abbrev nT := fun (b : Nat) (o : Nat) (n : Nat) (c : Nat) (s : Nat) (fb : Nat) (big : Bool) (ak : Nat) (aj : Nat) (au : Nat) (ah : Nat) (pd : Nat) => ([(0, .iface 178 (.slice (some ⟨b, o, none⟩) n c)), (4, aG s), (8, aG fb), (9, (aP big)), (10, aB ak), (11, aA 56), (12, aB aj), (13, aB au), (14, aA 64), (15, aB ah), (16, aB (ah - 1)), (26, aA 64), (36, aH pd (aj * 56) (aj * 56))] : Slots)
abbrev xW := fun (fb : Nat) (dat : Int) (abi : Nat) (aC : Nat) (big : Bool) (aQ : Nat) (aF : Nat) (ay : Nat) (pg : Nat) (i : Nat) (aj : Nat) => ((fb, .cells #[aN 2, .int .u8 dat, aN 1, aV abi, aV aC, (aP big), aZ aQ, aZ aF, aJ ay, aK, aH pg (i + 1) aj, aK, aK, aK] 131 (0, 0)) : Nat × Obj)
abbrev oM := fun sb (b : Nat) (o : Nat) (n : Nat) (c : Nat) (v : jQ) => ((sb, .cells #[.iface 178 (.slice (some ⟨b, o, none⟩) n c), aB v.off, aB v.off, aA (((v.bG : Nat) : Int) + ((v.off : Nat) : Int)), aB v.bG] 246 (0, 0)) : Nat × Obj)
abbrev gK := fun (fb : Nat) (dat : Int) (abi : Nat) (aC : Nat) (big : Bool) (aQ : Nat) (aF : Nat) (ay : Nat) (pg : Nat) (i : Nat) (aj : Nat) => ((fb, .cells #[aN 2, .int .u8 dat, aN 1, aV abi, aV aC, (aP big), aZ aQ, aZ aF, aJ ay, aK, aH pg i aj, aK, aK, aK] 131 (0, 0)) : Nat × Obj)
abbrev lZ := fun z5 => ((z5, .cells #[aA 0, lu 0, bD 0, bD 0, bD 0, bD 0, bD 0, bD 0, .nilIface, .pointer none] 146 (0, 0)) : Nat × Obj)
abbrev dO := fun (b : Nat) (o : Nat) (n : Nat) (c : Nat) (s : Nat) (fb : Nat) (big : Bool) (ak : Nat) (aj : Nat) (au : Nat) (ah : Nat) (pd : Nat) (i : Nat) z5 => ((nT b o n c s fb big ak aj au ah pd) ++ [(38, aB i), (39, aJ (i * 56)), (40, aG z5)] : Slots)
abbrev LK := fun (pd : Nat) (i : Nat) (aj : Nat) => ((675, .slice (some ⟨pd, ((i * 56) + 0), none⟩) ((aj * 56) - ((i * 56) + 0)) ((aj * 56) - ((i * 56) + 0))) : Nat × Value)
abbrev xU := fun (b : Nat) (o : Nat) (n : Nat) (c : Nat) (s : Nat) (fb : Nat) (big : Bool) (ak : Nat) (aj : Nat) (au : Nat) (ah : Nat) (pd : Nat) (i : Nat) z5 => ((dO b o n c s fb big ak aj au ah pd i z5) ++ [(670, aG z5), (671, (aP big)), (675, .slice (some ⟨pd, ((i * 56) + 0), none⟩) ((aj * 56) - ((i * 56) + 0)) ((aj * 56) - ((i * 56) + 0)))] : Slots)
abbrev LJ := fun (pd : Nat) (i : Nat) (aj : Nat) => ((682, .slice (some ⟨pd, ((i * 56) + 4), none⟩) ((aj * 56) - ((i * 56) + 4)) ((aj * 56) - ((i * 56) + 4))) : Nat × Value)
abbrev xR := fun (b : Nat) (o : Nat) (n : Nat) (c : Nat) (s : Nat) (fb : Nat) (big : Bool) (ak : Nat) (aj : Nat) (au : Nat) (ah : Nat) (pd : Nat) (i : Nat) z5 => ((xU b o n c s fb big ak aj au ah pd i z5) ++ [(678, (aP big)), (682, .slice (some ⟨pd, ((i * 56) + 4), none⟩) ((aj * 56) - ((i * 56) + 4)) ((aj * 56) - ((i * 56) + 4)))] : Slots)
abbrev zL := fun (pd : Nat) (i : Nat) (aj : Nat) => ((688, .slice (some ⟨pd, ((i * 56) + 8), none⟩) ((aj * 56) - ((i * 56) + 8)) ((aj * 56) - ((i * 56) + 8))) : Nat × Value)
abbrev wC := fun (b : Nat) (o : Nat) (n : Nat) (c : Nat) (s : Nat) (fb : Nat) (big : Bool) (ak : Nat) (aj : Nat) (au : Nat) (ah : Nat) (pd : Nat) (i : Nat) z5 => ((xR b o n c s fb big ak aj au ah pd i z5) ++ [(684, (aP big)), (688, .slice (some ⟨pd, ((i * 56) + 8), none⟩) ((aj * 56) - ((i * 56) + 8)) ((aj * 56) - ((i * 56) + 8)))] : Slots)
abbrev tV := fun (pd : Nat) (i : Nat) (aj : Nat) => ((694, .slice (some ⟨pd, ((i * 56) + 16), none⟩) ((aj * 56) - ((i * 56) + 16)) ((aj * 56) - ((i * 56) + 16))) : Nat × Value)
abbrev wB := fun (b : Nat) (o : Nat) (n : Nat) (c : Nat) (s : Nat) (fb : Nat) (big : Bool) (ak : Nat) (aj : Nat) (au : Nat) (ah : Nat) (pd : Nat) (i : Nat) z5 => ((wC b o n c s fb big ak aj au ah pd i z5) ++ [(690, (aP big)), (694, .slice (some ⟨pd, ((i * 56) + 16), none⟩) ((aj * 56) - ((i * 56) + 16)) ((aj * 56) - ((i * 56) + 16)))] : Slots)
abbrev qh := fun (pd : Nat) (i : Nat) (aj : Nat) => ((700, .slice (some ⟨pd, ((i * 56) + 24), none⟩) ((aj * 56) - ((i * 56) + 24)) ((aj * 56) - ((i * 56) + 24))) : Nat × Value)
abbrev wu := fun (b : Nat) (o : Nat) (n : Nat) (c : Nat) (s : Nat) (fb : Nat) (big : Bool) (ak : Nat) (aj : Nat) (au : Nat) (ah : Nat) (pd : Nat) (i : Nat) z5 => ((wB b o n c s fb big ak aj au ah pd i z5) ++ [(696, (aP big)), (700, .slice (some ⟨pd, ((i * 56) + 24), none⟩) ((aj * 56) - ((i * 56) + 24)) ((aj * 56) - ((i * 56) + 24)))] : Slots)
abbrev nN := fun (pd : Nat) (i : Nat) (aj : Nat) => ((706, .slice (some ⟨pd, ((i * 56) + 32), none⟩) ((aj * 56) - ((i * 56) + 32)) ((aj * 56) - ((i * 56) + 32))) : Nat × Value)
abbrev wo := fun (b : Nat) (o : Nat) (n : Nat) (c : Nat) (s : Nat) (fb : Nat) (big : Bool) (ak : Nat) (aj : Nat) (au : Nat) (ah : Nat) (pd : Nat) (i : Nat) z5 => ((wu b o n c s fb big ak aj au ah pd i z5) ++ [(702, (aP big)), (706, .slice (some ⟨pd, ((i * 56) + 32), none⟩) ((aj * 56) - ((i * 56) + 32)) ((aj * 56) - ((i * 56) + 32)))] : Slots)
abbrev lU := fun (pd : Nat) (i : Nat) (aj : Nat) => ((712, .slice (some ⟨pd, ((i * 56) + 40), none⟩) ((aj * 56) - ((i * 56) + 40)) ((aj * 56) - ((i * 56) + 40))) : Nat × Value)
abbrev tN := fun (b : Nat) (o : Nat) (n : Nat) (c : Nat) (s : Nat) (fb : Nat) (big : Bool) (ak : Nat) (aj : Nat) (au : Nat) (ah : Nat) (pd : Nat) (i : Nat) z5 => ((wo b o n c s fb big ak aj au ah pd i z5) ++ [(708, (aP big)), (712, .slice (some ⟨pd, ((i * 56) + 40), none⟩) ((aj * 56) - ((i * 56) + 40)) ((aj * 56) - ((i * 56) + 40)))] : Slots)
abbrev jV := fun (pd : Nat) (i : Nat) (aj : Nat) => ((718, .slice (some ⟨pd, ((i * 56) + 48), none⟩) ((aj * 56) - ((i * 56) + 48)) ((aj * 56) - ((i * 56) + 48))) : Nat × Value)
abbrev zK := fun (b : Nat) (o : Nat) (n : Nat) (c : Nat) (s : Nat) (fb : Nat) (big : Bool) (ak : Nat) (aj : Nat) (au : Nat) (ah : Nat) (pd : Nat) (i : Nat) z5 => ((dO b o n c s fb big ak aj au ah pd i z5) ++ [(670, aG z5), (678, (aP big)), (682, .slice (some ⟨pd, ((i * 56) + 4), none⟩) ((aj * 56) - ((i * 56) + 4)) ((aj * 56) - ((i * 56) + 4))), (684, (aP big)), (688, .slice (some ⟨pd, ((i * 56) + 8), none⟩) ((aj * 56) - ((i * 56) + 8)) ((aj * 56) - ((i * 56) + 8))), (690, (aP big)), (694, .slice (some ⟨pd, ((i * 56) + 16), none⟩) ((aj * 56) - ((i * 56) + 16)) ((aj * 56) - ((i * 56) + 16))), (696, (aP big)), (700, .slice (some ⟨pd, ((i * 56) + 24), none⟩) ((aj * 56) - ((i * 56) + 24)) ((aj * 56) - ((i * 56) + 24))), (702, (aP big)), (706, .slice (some ⟨pd, ((i * 56) + 32), none⟩) ((aj * 56) - ((i * 56) + 32)) ((aj * 56) - ((i * 56) + 32))), (708, (aP big)), (712, .slice (some ⟨pd, ((i * 56) + 40), none⟩) ((aj * 56) - ((i * 56) + 40)) ((aj * 56) - ((i * 56) + 40))), (714, (aP big)), (718, .slice (some ⟨pd, ((i * 56) + 48), none⟩) ((aj * 56) - ((i * 56) + 48)) ((aj * 56) - ((i * 56) + 48)))] : Slots)
abbrev rD := fun z5 (v : jQ) => ((z5, .cells #[aB v.ty, aY v.flags, aJ v.off, aJ v.bJ, aJ v.bK, aJ v.bG, aJ v.bP, aJ v.align, .nilIface, .pointer none] 146 (0, 0)) : Nat × Obj)
abbrev pY := fun (b : Nat) (o : Nat) (n : Nat) (c : Nat) (s : Nat) (fb : Nat) (big : Bool) (ak : Nat) (aj : Nat) (au : Nat) (ah : Nat) (pd : Nat) (i : Nat) z5 => ((dO b o n c s fb big ak aj au ah pd i z5) ++ [(763, aG z5), (764, .iface 178 (.slice (some ⟨b, o, none⟩) n c))] : Slots)
abbrev rC := fun z5 (v : jQ) sb => ((z5, .cells #[aB v.ty, aY v.flags, aJ v.off, aJ v.bJ, aJ v.bK, aJ v.bG, aJ v.bP, aJ v.align, .iface 144 (aG sb), aG sb] 146 (0, 0)) : Nat × Obj)
theorem Oz (l : List UInt8) (b o n c : Nat) (hl : n = l.length) (hnc : n ≤ c) (big : Bool) (abi aC aQ aF ay ak aj au ah : Nat) (dat : Int) (b1 : aQ < 65536) (b2 : aF < 65536) (b3 : ay ≤ 18446744073709551615) (b4 : ak < 4611686018427387904) (b5 : au < 4611686018427387904) (b6 : aj < 200) (b7 : ah < 200) (X : List UInt8) (nI : X.length = (aj * 56)) (i : Nat) (hi : i < aj) (v : jQ) (hv : uG (X.drop (i * 56)) true big v.ty v.flags v.bJ v.bK v.bP v.align v.bG v.off)
  (v1 : v.ty < 4294967296) (v2 : v.off + v.bG < 4611686018427387904) (v3 : v.bJ ≤ 18446744073709551615) (v4 : v.bK ≤ 18446744073709551615) (v5 : v.bP ≤ 18446744073709551615) (v6 : v.align ≤ 18446744073709551615) {K0 : Act → World → Prop} {Q : Exit → Act → World → Prop} (a : Act) (W1 : World) (s fb pg pd : Nat) (cur : Array Value) (hcs : cur.size = aj)
  (h1 : W1.heap[fb]? = some (.cells #[aN 2, .int .u8 dat, aN 1, aV abi, aV aC, (aP big), aZ aQ, aZ aF, aJ ay, aK, aH pg i aj, aK, aK, aK] 131 (0, 0))) (h2 : W1.heap[pg]? = some (.cells cur 136 (0, 0))) (h3 : W1.heap[pd]? = some (.cells (X.map Bv).toArray 5 (0, 0))) (n1 : fb ≠ pg) (n2 : fb ≠ pd) (n3 : pg ≠ pd) (HF : Fr 1287 a ((nT b o n c s fb big ak aj au ah pd) ++ [(38, aB i)]))
  (K : ∀ a w' pb sb cur', cur'.size = aj → cur'.toList.take (i + 1) = cur.toList.take i ++ [aG pb] → Fr 1287 a ((nT b o n c s fb big ak aj au ah pd) ++ [(38, aB (i + 1))]) → Mm [fb, pg, pd] W1 w' [oM sb b o n c v, (pb, .cells #[aB v.ty, aY v.flags, aJ v.off, aJ v.bJ, aJ v.bK, aJ v.bG, aJ v.bP, aJ v.align, .iface 144 (aG sb), aG sb] 146 (0, 0)), xW fb dat abi aC big aQ aF ay pg i aj, (pg, .cells cur' 136 (0, 0)), (pd, .cells (X.map Bv).toArray 5 (0, 0))] → K0 a w') : (oD (spine Tryd.f78 35)).wp Tryd.prog (Exit.then K0 Q) a W1 := by
 obtain ⟨i0, hi0, hs0⟩ := qV
 have e0 : num big X ((i * 56) + 0) 4 = v.ty := (fF big X (i * 56) 0 4).symm.trans hv.ty
 have e1 : num big X ((i * 56) + 4) 4 = v.flags := (fF big X (i * 56) 4 4).symm.trans hv.flags
 have e2 : num big X ((i * 56) + 8) 8 = v.off := (fF big X (i * 56) 8 8).symm.trans hv.off
 have e3 : num big X ((i * 56) + 16) 8 = v.bJ := (fF big X (i * 56) 16 8).symm.trans hv.bJ
 have e4 : num big X ((i * 56) + 24) 8 = v.bK := (fF big X (i * 56) 24 8).symm.trans hv.bK
 have e5 : num big X ((i * 56) + 32) 8 = v.bG := (fF big X (i * 56) 32 8).symm.trans hv.Md
 have e6 : num big X ((i * 56) + 40) 8 = v.bP := (fF big X (i * 56) 40 8).symm.trans hv.bP
 have e7 : num big X ((i * 56) + 48) 8 = v.align := (fF big X (i * 56) 48 8).symm.trans hv.align
 obtain ⟨w, hw⟩ : ∃ w, W1 = w := ⟨_, rfl⟩
 have HM : Mm [fb, pg, pd] W1 w [gK fb dat abi aC big aQ aF ay pg i aj, (pg, .cells cur 136 (0, 0)), (pd, .cells (X.map Bv).toArray 5 (0, 0))] := hw ▸ Mm.start3 h1 h2 h3 n1 n2 n3
 conv => arg 5; rw [hw]
 clear hw
 refine wp_seq ?_
 refine wp_seq (wp_region_lit ?_)
 refine aO HF HM rfl 3 [] ((nT b o n c s fb big ak aj au ah pd) ++ [(38, aB i), (593, .bool (decide (((i : Nat) : Int) < ((aj : Nat) : Int))))]) [gK fb dat abi aC big aQ aF ay pg i aj, (pg, .cells cur 136 (0, 0)), (pd, .cells (X.map Bv).toArray 5 (0, 0))] (by kernel_rfl) ?_
 clear HF HM; intro a w HF HM
 rw [show decide (((i : Nat) : Int) < ((aj : Nat) : Int)) = true from dM (by omega)] at HF
 refine aI ?_
 refine bF HF rfl ?_
 refine wp_skip ?_
 repeat (first | refine aS ?_ | refine aU ?_)
 replace HF := HF.sub ((nT b o n c s fb big ak aj au ah pd) ++ [(38, aB i)]) (by kernel_rfl)
 refine wp_seq (wp_block ?_)
 refine wp_seq (wp_region_lit ?_)
 refine aO HF HM rfl 2 [] ((nT b o n c s fb big ak aj au ah pd) ++ [(38, aB i), (597, bD (IntKind.u64.wrap ((i : Nat) : Int)))]) [gK fb dat abi aC big aQ aF ay pg i aj, (pg, .cells cur 136 (0, 0)), (pd, .cells (X.map Bv).toArray 5 (0, 0))] (by kernel_rfl) ?_
 clear HF HM; intro a w HF HM
 rw [show IntKind.u64.wrap ((i : Nat) : Int) = ((i : Nat) : Int) from IntWalk.u64_in _ (by omega)] at HF
 refine aO HF HM rfl 3 [] ((nT b o n c s fb big ak aj au ah pd) ++ [(38, aB i), (600, bD (IntKind.u64.wrap (((i : Nat) : Int) * 56)))]) [gK fb dat abi aC big aQ aF ay pg i aj, (pg, .cells cur 136 (0, 0)), (pd, .cells (X.map Bv).toArray 5 (0, 0))] (by kernel_rfl) ?_
 clear HF HM; intro a w HF HM
 rw [show IntKind.u64.wrap (((i : Nat) : Int) * 56) = (((i * 56) : Nat) : Int) from (IntWalk.u64_in _ (by omega)).trans (by omega)] at HF
 refine aO HF HM rfl 1 [] ((nT b o n c s fb big ak aj au ah pd) ++ [(38, aB i), (39, aJ (i * 56))]) [gK fb dat abi aC big aQ aF ay pg i aj, (pg, .cells cur 136 (0, 0)), (pd, .cells (X.map Bv).toArray 5 (0, 0))] (by kernel_rfl) ?_
 clear HF HM; intro a w HF HM
 refine aI ?_
 obtain ⟨z5, vF⟩ : ∃ z, w.heap.size = z := ⟨_, rfl⟩
 refine bC HF HM vF [] (dO b o n c s fb big ak aj au ah pd i z5) [lZ z5, gK fb dat abi aC big aQ aF ay pg i aj, (pg, .cells cur 136 (0, 0)), (pd, .cells (X.map Bv).toArray 5 (0, 0))] (by kernel_rfl) ?_
 clear HF HM vF; intro a w HF HM
 refine wp_seq ?_
 refine bC HF HM rfl [[2]] ((dO b o n c s fb big ak aj au ah pd i z5) ++ [(606, aN 2)]) [lZ z5, gK fb dat abi aC big aQ aF ay pg i aj, (pg, .cells cur 136 (0, 0)), (pd, .cells (X.map Bv).toArray 5 (0, 0))] (by kernel_rfl) ?_
 clear HF HM; intro a w HF HM
 refine wp_block ?_
 refine bC HF HM rfl [] ((dO b o n c s fb big ak aj au ah pd i z5) ++ [(606, aN 2), (607, .bool false)]) [lZ z5, gK fb dat abi aC big aQ aF ay pg i aj, (pg, .cells cur 136 (0, 0)), (pd, .cells (X.map Bv).toArray 5 (0, 0))] (by kernel_rfl) ?_
 clear HF HM; intro a w HF HM
 refine bf HF rfl ?_
 refine bC HF HM rfl [] ((dO b o n c s fb big ak aj au ah pd i z5) ++ [(606, aN 2), (668, .bool true)]) [lZ z5, gK fb dat abi aC big aQ aF ay pg i aj, (pg, .cells cur 136 (0, 0)), (pd, .cells (X.map Bv).toArray 5 (0, 0))] (by kernel_rfl) ?_
 clear HF HM; intro a w HF HM
 refine bF HF rfl ?_
 replace HF := HF.sub (dO b o n c s fb big ak aj au ah pd i z5) (by kernel_rfl)
 refine sG HM (by kernel_rfl) [(pd, .cells (X.map Bv).toArray 5 (0, 0))] [(0, false), (1, false), (2, false), (3, false), (4, false), (5, false), (8, false), (9, false), (10, false), (11, false), (12, false), (14, false), (15, false), (16, false), (17, false), (18, false), (20, false), (21, false), (22, false), (23, false), (24, false), (26, false), (27, false), (28, false), (29, false), (30, false), (32, false), (33, false), (34, false), (35, false), (36, false), (38, false), (39, false), (40, false), (41, false), (42, false), (44, false), (45, false), (46, false), (47, false), (48, false), (6, true), (7, false), (13, true), (19, true), (25, true), (31, true), (37, true), (43, true), (49, true), (50, false), (51, false), (52, false), (53, true)] (by kernel_rfl) ?_
 clear HM; intro w1 HM
 refine bH HF (HM.told [3] rfl) 1 [] ((dO b o n c s fb big ak aj au ah pd i z5) ++ [(670, aG z5)]) (by kernel_rfl) ?_
 clear HF; intro a HF
 refine bH HF (HM.told [3] rfl) 4 [] ((dO b o n c s fb big ak aj au ah pd i z5) ++ [(670, aG z5), (671, (aP big)), (672, aH pd (aj * 56) (aj * 56)), (674, bD (IntKind.u64.wrap ((((i * 56) : Nat) : Int) + 0)))]) (by kernel_rfl) ?_
 clear HF; intro a HF
 rw [show IntKind.u64.wrap ((((i * 56) : Nat) : Int) + 0) = ((((i * 56) + 0) : Nat) : Int) from (IntWalk.u64_in _ (by omega)).trans (by omega)] at HF
 refine dZ rfl HF (HM.told [3] rfl) rfl (.slice (some ⟨pd, ((i * 56) + 0), none⟩) ((aj * 56) - ((i * 56) + 0)) ((aj * 56) - ((i * 56) + 0))) (by kernel_rfl) (fun w hw => eF (t := 33) Tryd.underlying33 hi0 hs0 rfl ((i * 56) + 0) (kk := .u64) rfl rfl (by omega) (by omega) (by omega) w) ?_
 clear HF; intro a HF; replace HF := HF.sub ((dO b o n c s fb big ak aj au ah pd i z5) ++ [(670, aG z5), (671, (aP big)), (672, aH pd (aj * 56) (aj * 56)), (674, aJ ((i * 56) + 0)), LK pd i aj]) (by kernel_rfl)
 replace HF := HF.sub (xU b o n c s fb big ak aj au ah pd i z5) (by kernel_rfl)
 refine bH HF (HM.told [3] rfl) 4 [] ((xU b o n c s fb big ak aj au ah pd i z5) ++ [(678, (aP big)), (679, aH pd (aj * 56) (aj * 56)), (681, bD (IntKind.u64.wrap ((((i * 56) : Nat) : Int) + 4)))]) (by kernel_rfl) ?_
 clear HF; intro a HF
 rw [show IntKind.u64.wrap ((((i * 56) : Nat) : Int) + 4) = ((((i * 56) + 4) : Nat) : Int) from (IntWalk.u64_in _ (by omega)).trans (by omega)] at HF
 refine dZ rfl HF (HM.told [3] rfl) rfl (.slice (some ⟨pd, ((i * 56) + 4), none⟩) ((aj * 56) - ((i * 56) + 4)) ((aj * 56) - ((i * 56) + 4))) (by kernel_rfl) (fun w hw => eF (t := 33) Tryd.underlying33 hi0 hs0 rfl ((i * 56) + 4) (kk := .u64) rfl rfl (by omega) (by omega) (by omega) w) ?_
 clear HF; intro a HF; replace HF := HF.sub ((xU b o n c s fb big ak aj au ah pd i z5) ++ [(678, (aP big)), (679, aH pd (aj * 56) (aj * 56)), (681, aJ ((i * 56) + 4)), LJ pd i aj]) (by kernel_rfl)
 replace HF := HF.sub (xR b o n c s fb big ak aj au ah pd i z5) (by kernel_rfl)
 refine bH HF (HM.told [3] rfl) 4 [] ((xR b o n c s fb big ak aj au ah pd i z5) ++ [(684, (aP big)), (685, aH pd (aj * 56) (aj * 56)), (687, bD (IntKind.u64.wrap ((((i * 56) : Nat) : Int) + 8)))]) (by kernel_rfl) ?_
 clear HF; intro a HF
 rw [show IntKind.u64.wrap ((((i * 56) : Nat) : Int) + 8) = ((((i * 56) + 8) : Nat) : Int) from (IntWalk.u64_in _ (by omega)).trans (by omega)] at HF
 refine dZ rfl HF (HM.told [3] rfl) rfl (.slice (some ⟨pd, ((i * 56) + 8), none⟩) ((aj * 56) - ((i * 56) + 8)) ((aj * 56) - ((i * 56) + 8))) (by kernel_rfl) (fun w hw => eF (t := 33) Tryd.underlying33 hi0 hs0 rfl ((i * 56) + 8) (kk := .u64) rfl rfl (by omega) (by omega) (by omega) w) ?_
 clear HF; intro a HF; replace HF := HF.sub ((xR b o n c s fb big ak aj au ah pd i z5) ++ [(684, (aP big)), (685, aH pd (aj * 56) (aj * 56)), (687, aJ ((i * 56) + 8)), zL pd i aj]) (by kernel_rfl)
 replace HF := HF.sub (wC b o n c s fb big ak aj au ah pd i z5) (by kernel_rfl)
 refine bH HF (HM.told [3] rfl) 4 [] ((wC b o n c s fb big ak aj au ah pd i z5) ++ [(690, (aP big)), (691, aH pd (aj * 56) (aj * 56)), (693, bD (IntKind.u64.wrap ((((i * 56) : Nat) : Int) + 16)))]) (by kernel_rfl) ?_
 clear HF; intro a HF
 rw [show IntKind.u64.wrap ((((i * 56) : Nat) : Int) + 16) = ((((i * 56) + 16) : Nat) : Int) from (IntWalk.u64_in _ (by omega)).trans (by omega)] at HF
 refine dZ rfl HF (HM.told [3] rfl) rfl (.slice (some ⟨pd, ((i * 56) + 16), none⟩) ((aj * 56) - ((i * 56) + 16)) ((aj * 56) - ((i * 56) + 16))) (by kernel_rfl) (fun w hw => eF (t := 33) Tryd.underlying33 hi0 hs0 rfl ((i * 56) + 16) (kk := .u64) rfl rfl (by omega) (by omega) (by omega) w) ?_
 clear HF; intro a HF; replace HF := HF.sub ((wC b o n c s fb big ak aj au ah pd i z5) ++ [(690, (aP big)), (691, aH pd (aj * 56) (aj * 56)), (693, aJ ((i * 56) + 16)), tV pd i aj]) (by kernel_rfl)
 replace HF := HF.sub (wB b o n c s fb big ak aj au ah pd i z5) (by kernel_rfl)
 refine bH HF (HM.told [3] rfl) 4 [] ((wB b o n c s fb big ak aj au ah pd i z5) ++ [(696, (aP big)), (697, aH pd (aj * 56) (aj * 56)), (699, bD (IntKind.u64.wrap ((((i * 56) : Nat) : Int) + 24)))]) (by kernel_rfl) ?_
 clear HF; intro a HF
 rw [show IntKind.u64.wrap ((((i * 56) : Nat) : Int) + 24) = ((((i * 56) + 24) : Nat) : Int) from (IntWalk.u64_in _ (by omega)).trans (by omega)] at HF
 refine dZ rfl HF (HM.told [3] rfl) rfl (.slice (some ⟨pd, ((i * 56) + 24), none⟩) ((aj * 56) - ((i * 56) + 24)) ((aj * 56) - ((i * 56) + 24))) (by kernel_rfl) (fun w hw => eF (t := 33) Tryd.underlying33 hi0 hs0 rfl ((i * 56) + 24) (kk := .u64) rfl rfl (by omega) (by omega) (by omega) w) ?_
 clear HF; intro a HF; replace HF := HF.sub ((wB b o n c s fb big ak aj au ah pd i z5) ++ [(696, (aP big)), (697, aH pd (aj * 56) (aj * 56)), (699, aJ ((i * 56) + 24)), qh pd i aj]) (by kernel_rfl)
 replace HF := HF.sub (wu b o n c s fb big ak aj au ah pd i z5) (by kernel_rfl)
 refine bH HF (HM.told [3] rfl) 4 [] ((wu b o n c s fb big ak aj au ah pd i z5) ++ [(702, (aP big)), (703, aH pd (aj * 56) (aj * 56)), (705, bD (IntKind.u64.wrap ((((i * 56) : Nat) : Int) + 32)))]) (by kernel_rfl) ?_
 clear HF; intro a HF
 rw [show IntKind.u64.wrap ((((i * 56) : Nat) : Int) + 32) = ((((i * 56) + 32) : Nat) : Int) from (IntWalk.u64_in _ (by omega)).trans (by omega)] at HF
 refine dZ rfl HF (HM.told [3] rfl) rfl (.slice (some ⟨pd, ((i * 56) + 32), none⟩) ((aj * 56) - ((i * 56) + 32)) ((aj * 56) - ((i * 56) + 32))) (by kernel_rfl) (fun w hw => eF (t := 33) Tryd.underlying33 hi0 hs0 rfl ((i * 56) + 32) (kk := .u64) rfl rfl (by omega) (by omega) (by omega) w) ?_
 clear HF; intro a HF; replace HF := HF.sub ((wu b o n c s fb big ak aj au ah pd i z5) ++ [(702, (aP big)), (703, aH pd (aj * 56) (aj * 56)), (705, aJ ((i * 56) + 32)), nN pd i aj]) (by kernel_rfl)
 replace HF := HF.sub (wo b o n c s fb big ak aj au ah pd i z5) (by kernel_rfl)
 refine bH HF (HM.told [3] rfl) 4 [] ((wo b o n c s fb big ak aj au ah pd i z5) ++ [(708, (aP big)), (709, aH pd (aj * 56) (aj * 56)), (711, bD (IntKind.u64.wrap ((((i * 56) : Nat) : Int) + 40)))]) (by kernel_rfl) ?_
 clear HF; intro a HF
 rw [show IntKind.u64.wrap ((((i * 56) : Nat) : Int) + 40) = ((((i * 56) + 40) : Nat) : Int) from (IntWalk.u64_in _ (by omega)).trans (by omega)] at HF
 refine dZ rfl HF (HM.told [3] rfl) rfl (.slice (some ⟨pd, ((i * 56) + 40), none⟩) ((aj * 56) - ((i * 56) + 40)) ((aj * 56) - ((i * 56) + 40))) (by kernel_rfl) (fun w hw => eF (t := 33) Tryd.underlying33 hi0 hs0 rfl ((i * 56) + 40) (kk := .u64) rfl rfl (by omega) (by omega) (by omega) w) ?_
 clear HF; intro a HF; replace HF := HF.sub ((wo b o n c s fb big ak aj au ah pd i z5) ++ [(708, (aP big)), (709, aH pd (aj * 56) (aj * 56)), (711, aJ ((i * 56) + 40)), lU pd i aj]) (by kernel_rfl)
 replace HF := HF.sub (tN b o n c s fb big ak aj au ah pd i z5) (by kernel_rfl)
 refine bH HF (HM.told [3] rfl) 4 [] ((tN b o n c s fb big ak aj au ah pd i z5) ++ [(714, (aP big)), (715, aH pd (aj * 56) (aj * 56)), (717, bD (IntKind.u64.wrap ((((i * 56) : Nat) : Int) + 48)))]) (by kernel_rfl) ?_
 clear HF; intro a HF
 rw [show IntKind.u64.wrap ((((i * 56) : Nat) : Int) + 48) = ((((i * 56) + 48) : Nat) : Int) from (IntWalk.u64_in _ (by omega)).trans (by omega)] at HF
 refine dZ rfl HF (HM.told [3] rfl) rfl (.slice (some ⟨pd, ((i * 56) + 48), none⟩) ((aj * 56) - ((i * 56) + 48)) ((aj * 56) - ((i * 56) + 48))) (by kernel_rfl) (fun w hw => eF (t := 33) Tryd.underlying33 hi0 hs0 rfl ((i * 56) + 48) (kk := .u64) rfl rfl (by omega) (by omega) (by omega) w) ?_
 clear HF; intro a HF; replace HF := HF.sub ((tN b o n c s fb big ak aj au ah pd i z5) ++ [(714, (aP big)), (715, aH pd (aj * 56) (aj * 56)), (717, aJ ((i * 56) + 48)), jV pd i aj]) (by kernel_rfl)
 replace HF := HF.sub ((tN b o n c s fb big ak aj au ah pd i z5) ++ [(714, (aP big)), jV pd i aj]) (by kernel_rfl)
 refine b_ rfl ?_
 refine bn HF (by kernel_rfl) 87 #[(aP big), .slice (some ⟨pd, ((i * 56) + 0), none⟩) ((aj * 56) - ((i * 56) + 0)) ((aj * 56) - ((i * 56) + 0))] (by kernel_rfl) (fun w => by kernel_rfl) (Calls.mono (jB (HM.get (i := 3) rfl) (by unfold maxLen; omega) big ((i * 56) + 0) ((aj * 56) - ((i * 56) + 0)) (by omega) (by omega) ((v.ty : Nat) : Int) (by rw [e0])) ?_)
 rintro _ w2 ⟨rfl, jG, hq⟩
 replace HM : Mm [fb, pg, pd] W1 w2 [lZ z5, gK fb dat abi aC big aQ aF ay pg i aj, (pg, .cells cur 136 (0, 0)), (pd, .cells (X.map Bv).toArray 5 (0, 0))] := by rw [hq]; exact HM.drewN _
 clear hq
 refine ⟨_, rfl, ?_⟩; clear HF; intro a HF; replace HF := HF.sub ((tN b o n c s fb big ak aj au ah pd i z5) ++ [(714, (aP big)), jV pd i aj, (676, aY v.ty)]) (by kernel_rfl)
 refine dF (HM.told [3] rfl) ?_
 replace HF := HF.sub ((zK b o n c s fb big ak aj au ah pd i z5) ++ [(676, aY v.ty)]) (by kernel_rfl)
 refine bH HF (HM.told [3] rfl) 1 [] ((zK b o n c s fb big ak aj au ah pd i z5) ++ [(677, aA (IntKind.i64.wrap ((v.ty : Nat) : Int)))]) (by kernel_rfl) ?_
 clear HF; intro a HF
 rw [show IntKind.i64.wrap ((v.ty : Nat) : Int) = ((v.ty : Nat) : Int) from IntWalk.i64_in _ (by omega)] at HF
 refine b_ rfl ?_
 refine bn HF (by kernel_rfl) 87 #[(aP big), .slice (some ⟨pd, ((i * 56) + 4), none⟩) ((aj * 56) - ((i * 56) + 4)) ((aj * 56) - ((i * 56) + 4))] (by kernel_rfl) (fun w => by kernel_rfl) (Calls.mono (jB (HM.get (i := 3) rfl) (by unfold maxLen; omega) big ((i * 56) + 4) ((aj * 56) - ((i * 56) + 4)) (by omega) (by omega) ((v.flags : Nat) : Int) (by rw [e1])) ?_)
 rintro _ w3 ⟨rfl, jG, hq⟩
 replace HM : Mm [fb, pg, pd] W1 w3 [lZ z5, gK fb dat abi aC big aQ aF ay pg i aj, (pg, .cells cur 136 (0, 0)), (pd, .cells (X.map Bv).toArray 5 (0, 0))] := by rw [hq]; exact HM.drewN _
 clear hq
 refine ⟨_, rfl, ?_⟩; clear HF; intro a HF; replace HF := HF.sub ((zK b o n c s fb big ak aj au ah pd i z5) ++ [(677, aB v.ty), (683, aY v.flags)]) (by kernel_rfl)
 refine dF (HM.told [3] rfl) ?_
 replace HF := HF.sub ((dO b o n c s fb big ak aj au ah pd i z5) ++ [(670, aG z5), (684, (aP big)), zL pd i aj, (690, (aP big)), tV pd i aj, (696, (aP big)), qh pd i aj, (702, (aP big)), nN pd i aj, (708, (aP big)), lU pd i aj, (714, (aP big)), jV pd i aj, (677, aB v.ty), (683, aY v.flags)]) (by kernel_rfl)
 refine b_ rfl ?_
 refine bn HF (by kernel_rfl) 88 #[(aP big), .slice (some ⟨pd, ((i * 56) + 8), none⟩) ((aj * 56) - ((i * 56) + 8)) ((aj * 56) - ((i * 56) + 8))] (by kernel_rfl) (fun w => by kernel_rfl) (Calls.mono (nZ (HM.get (i := 3) rfl) (by unfold maxLen; omega) big ((i * 56) + 8) ((aj * 56) - ((i * 56) + 8)) (by omega) (by omega) ((v.off : Nat) : Int) (by rw [e2])) ?_)
 rintro _ w4 ⟨rfl, jG, hq⟩
 replace HM : Mm [fb, pg, pd] W1 w4 [lZ z5, gK fb dat abi aC big aQ aF ay pg i aj, (pg, .cells cur 136 (0, 0)), (pd, .cells (X.map Bv).toArray 5 (0, 0))] := by rw [hq]; exact HM.drewN _
 clear hq
 refine ⟨_, rfl, ?_⟩; clear HF; intro a HF; replace HF := HF.sub ((dO b o n c s fb big ak aj au ah pd i z5) ++ [(670, aG z5), (684, (aP big)), zL pd i aj, (690, (aP big)), tV pd i aj, (696, (aP big)), qh pd i aj, (702, (aP big)), nN pd i aj, (708, (aP big)), lU pd i aj, (714, (aP big)), jV pd i aj, (677, aB v.ty), (683, aY v.flags), (689, aJ v.off)]) (by kernel_rfl)
 refine dF (HM.told [3] rfl) ?_
 replace HF := HF.sub ((dO b o n c s fb big ak aj au ah pd i z5) ++ [(670, aG z5), (690, (aP big)), tV pd i aj, (696, (aP big)), qh pd i aj, (702, (aP big)), nN pd i aj, (708, (aP big)), lU pd i aj, (714, (aP big)), jV pd i aj, (677, aB v.ty), (683, aY v.flags), (689, aJ v.off)]) (by kernel_rfl)
 refine b_ rfl ?_
 refine bn HF (by kernel_rfl) 88 #[(aP big), .slice (some ⟨pd, ((i * 56) + 16), none⟩) ((aj * 56) - ((i * 56) + 16)) ((aj * 56) - ((i * 56) + 16))] (by kernel_rfl) (fun w => by kernel_rfl) (Calls.mono (nZ (HM.get (i := 3) rfl) (by unfold maxLen; omega) big ((i * 56) + 16) ((aj * 56) - ((i * 56) + 16)) (by omega) (by omega) ((v.bJ : Nat) : Int) (by rw [e3])) ?_)
 rintro _ w5 ⟨rfl, jG, hq⟩
 replace HM : Mm [fb, pg, pd] W1 w5 [lZ z5, gK fb dat abi aC big aQ aF ay pg i aj, (pg, .cells cur 136 (0, 0)), (pd, .cells (X.map Bv).toArray 5 (0, 0))] := by rw [hq]; exact HM.drewN _
 clear hq
 refine ⟨_, rfl, ?_⟩; clear HF; intro a HF; replace HF := HF.sub ((dO b o n c s fb big ak aj au ah pd i z5) ++ [(670, aG z5), (690, (aP big)), tV pd i aj, (696, (aP big)), qh pd i aj, (702, (aP big)), nN pd i aj, (708, (aP big)), lU pd i aj, (714, (aP big)), jV pd i aj, (677, aB v.ty), (683, aY v.flags), (689, aJ v.off), (695, aJ v.bJ)]) (by kernel_rfl)
 refine dF (HM.told [3] rfl) ?_
 replace HF := HF.sub ((dO b o n c s fb big ak aj au ah pd i z5) ++ [(670, aG z5), (696, (aP big)), qh pd i aj, (702, (aP big)), nN pd i aj, (708, (aP big)), lU pd i aj, (714, (aP big)), jV pd i aj, (677, aB v.ty), (683, aY v.flags), (689, aJ v.off), (695, aJ v.bJ)]) (by kernel_rfl)
 refine b_ rfl ?_
 refine bn HF (by kernel_rfl) 88 #[(aP big), .slice (some ⟨pd, ((i * 56) + 24), none⟩) ((aj * 56) - ((i * 56) + 24)) ((aj * 56) - ((i * 56) + 24))] (by kernel_rfl) (fun w => by kernel_rfl) (Calls.mono (nZ (HM.get (i := 3) rfl) (by unfold maxLen; omega) big ((i * 56) + 24) ((aj * 56) - ((i * 56) + 24)) (by omega) (by omega) ((v.bK : Nat) : Int) (by rw [e4])) ?_)
 rintro _ w6 ⟨rfl, jG, hq⟩
 replace HM : Mm [fb, pg, pd] W1 w6 [lZ z5, gK fb dat abi aC big aQ aF ay pg i aj, (pg, .cells cur 136 (0, 0)), (pd, .cells (X.map Bv).toArray 5 (0, 0))] := by rw [hq]; exact HM.drewN _
 clear hq
 refine ⟨_, rfl, ?_⟩; clear HF; intro a HF; replace HF := HF.sub ((dO b o n c s fb big ak aj au ah pd i z5) ++ [(670, aG z5), (696, (aP big)), qh pd i aj, (702, (aP big)), nN pd i aj, (708, (aP big)), lU pd i aj, (714, (aP big)), jV pd i aj, (677, aB v.ty), (683, aY v.flags), (689, aJ v.off), (695, aJ v.bJ), (701, aJ v.bK)]) (by kernel_rfl)
 refine dF (HM.told [3] rfl) ?_
 replace HF := HF.sub ((dO b o n c s fb big ak aj au ah pd i z5) ++ [(670, aG z5), (702, (aP big)), nN pd i aj, (708, (aP big)), lU pd i aj, (714, (aP big)), jV pd i aj, (677, aB v.ty), (683, aY v.flags), (689, aJ v.off), (695, aJ v.bJ), (701, aJ v.bK)]) (by kernel_rfl)
 refine b_ rfl ?_
 refine bn HF (by kernel_rfl) 88 #[(aP big), .slice (some ⟨pd, ((i * 56) + 32), none⟩) ((aj * 56) - ((i * 56) + 32)) ((aj * 56) - ((i * 56) + 32))] (by kernel_rfl) (fun w => by kernel_rfl) (Calls.mono (nZ (HM.get (i := 3) rfl) (by unfold maxLen; omega) big ((i * 56) + 32) ((aj * 56) - ((i * 56) + 32)) (by omega) (by omega) ((v.bG : Nat) : Int) (by rw [e5])) ?_)
 rintro _ w7 ⟨rfl, jG, hq⟩
 replace HM : Mm [fb, pg, pd] W1 w7 [lZ z5, gK fb dat abi aC big aQ aF ay pg i aj, (pg, .cells cur 136 (0, 0)), (pd, .cells (X.map Bv).toArray 5 (0, 0))] := by rw [hq]; exact HM.drewN _
 clear hq
 refine ⟨_, rfl, ?_⟩; clear HF; intro a HF; replace HF := HF.sub ((dO b o n c s fb big ak aj au ah pd i z5) ++ [(670, aG z5), (702, (aP big)), nN pd i aj, (708, (aP big)), lU pd i aj, (714, (aP big)), jV pd i aj, (677, aB v.ty), (683, aY v.flags), (689, aJ v.off), (695, aJ v.bJ), (701, aJ v.bK), (707, aJ v.bG)]) (by kernel_rfl)
 refine dF (HM.told [3] rfl) ?_
 replace HF := HF.sub ((dO b o n c s fb big ak aj au ah pd i z5) ++ [(670, aG z5), (708, (aP big)), lU pd i aj, (714, (aP big)), jV pd i aj, (677, aB v.ty), (683, aY v.flags), (689, aJ v.off), (695, aJ v.bJ), (701, aJ v.bK), (707, aJ v.bG)]) (by kernel_rfl)
 refine b_ rfl ?_
 refine bn HF (by kernel_rfl) 88 #[(aP big), .slice (some ⟨pd, ((i * 56) + 40), none⟩) ((aj * 56) - ((i * 56) + 40)) ((aj * 56) - ((i * 56) + 40))] (by kernel_rfl) (fun w => by kernel_rfl) (Calls.mono (nZ (HM.get (i := 3) rfl) (by unfold maxLen; omega) big ((i * 56) + 40) ((aj * 56) - ((i * 56) + 40)) (by omega) (by omega) ((v.bP : Nat) : Int) (by rw [e6])) ?_)
 rintro _ w8 ⟨rfl, jG, hq⟩
 replace HM : Mm [fb, pg, pd] W1 w8 [lZ z5, gK fb dat abi aC big aQ aF ay pg i aj, (pg, .cells cur 136 (0, 0)), (pd, .cells (X.map Bv).toArray 5 (0, 0))] := by rw [hq]; exact HM.drewN _
 clear hq
 refine ⟨_, rfl, ?_⟩; clear HF; intro a HF; replace HF := HF.sub ((dO b o n c s fb big ak aj au ah pd i z5) ++ [(670, aG z5), (708, (aP big)), lU pd i aj, (714, (aP big)), jV pd i aj, (677, aB v.ty), (683, aY v.flags), (689, aJ v.off), (695, aJ v.bJ), (701, aJ v.bK), (707, aJ v.bG), (713, aJ v.bP)]) (by kernel_rfl)
 refine dF (HM.told [3] rfl) ?_
 replace HF := HF.sub ((dO b o n c s fb big ak aj au ah pd i z5) ++ [(670, aG z5), (714, (aP big)), jV pd i aj, (677, aB v.ty), (683, aY v.flags), (689, aJ v.off), (695, aJ v.bJ), (701, aJ v.bK), (707, aJ v.bG), (713, aJ v.bP)]) (by kernel_rfl)
 refine b_ rfl ?_
 refine bn HF (by kernel_rfl) 88 #[(aP big), .slice (some ⟨pd, ((i * 56) + 48), none⟩) ((aj * 56) - ((i * 56) + 48)) ((aj * 56) - ((i * 56) + 48))] (by kernel_rfl) (fun w => by kernel_rfl) (Calls.mono (nZ (HM.get (i := 3) rfl) (by unfold maxLen; omega) big ((i * 56) + 48) ((aj * 56) - ((i * 56) + 48)) (by omega) (by omega) ((v.align : Nat) : Int) (by rw [e7])) ?_)
 rintro _ w9 ⟨rfl, jG, hq⟩
 replace HM : Mm [fb, pg, pd] W1 w9 [lZ z5, gK fb dat abi aC big aQ aF ay pg i aj, (pg, .cells cur 136 (0, 0)), (pd, .cells (X.map Bv).toArray 5 (0, 0))] := by rw [hq]; exact HM.drewN _
 clear hq
 refine ⟨_, rfl, ?_⟩; clear HF; intro a HF; replace HF := HF.sub ((dO b o n c s fb big ak aj au ah pd i z5) ++ [(670, aG z5), (714, (aP big)), jV pd i aj, (677, aB v.ty), (683, aY v.flags), (689, aJ v.off), (695, aJ v.bJ), (701, aJ v.bK), (707, aJ v.bG), (713, aJ v.bP), (719, aJ v.align)]) (by kernel_rfl)
 refine dF (HM.told [3] rfl) ?_
 replace HF := HF.sub ((dO b o n c s fb big ak aj au ah pd i z5) ++ [(670, aG z5), (677, aB v.ty), (683, aY v.flags), (689, aJ v.off), (695, aJ v.bJ), (701, aJ v.bK), (707, aJ v.bG), (713, aJ v.bP), (719, aJ v.align)]) (by kernel_rfl)
 refine bH HF (HM.told [3] rfl) 3 [] ((dO b o n c s fb big ak aj au ah pd i z5) ++ [(670, aG z5), (677, aB v.ty), (683, aY v.flags), (689, aJ v.off), (695, aJ v.bJ), (701, aJ v.bK), (707, aJ v.bG), (713, aJ v.bP), (719, aJ v.align), (720, .agg #[aB v.ty, aY v.flags, aJ v.off, aJ v.bJ, aJ v.bK, aJ v.bG, aJ v.bP, aJ v.align]), (722, aG z5)]) (by kernel_rfl) ?_
 clear HF; intro a HF
 replace HF := HF.sub ((dO b o n c s fb big ak aj au ah pd i z5) ++ [(720, .agg #[aB v.ty, aY v.flags, aJ v.off, aJ v.bJ, aJ v.bK, aJ v.bG, aJ v.bP, aJ v.align]), (722, aG z5)]) (by kernel_rfl)
 refine b_ rfl ?_
 refine aO HF HM rfl 1 [[3, 3, 3, 3, 3, 3, 3, 3]] (dO b o n c s fb big ak aj au ah pd i z5) [rD z5 v, gK fb dat abi aC big aQ aF ay pg i aj, (pg, .cells cur 136 (0, 0)), (pd, .cells (X.map Bv).toArray 5 (0, 0))] (by kernel_rfl) ?_
 clear HF HM; intro a w HF HM
 refine dF (HM.told [3] rfl) ?_
 refine lI ?_
 repeat (first | refine aS ?_ | refine aU ?_)
 refine wp_seq ?_
 refine wp_seq (wp_region_lit ?_)
 refine aO HF HM rfl 6 [[3]] ((dO b o n c s fb big ak aj au ah pd i z5) ++ [(728, aA (IntKind.i64.wrap ((v.off : Nat) : Int)))]) [rD z5 v, gK fb dat abi aC big aQ aF ay pg i aj, (pg, .cells cur 136 (0, 0)), (pd, .cells (X.map Bv).toArray 5 (0, 0))] (by kernel_rfl) ?_
 clear HF HM; intro a w HF HM
 rw [show IntKind.i64.wrap ((v.off : Nat) : Int) = ((v.off : Nat) : Int) from IntWalk.i64_in _ (by omega)] at HF
 refine aO HF HM rfl 1 [] ((dO b o n c s fb big ak aj au ah pd i z5) ++ [(729, .bool (decide (((v.off : Nat) : Int) < 0)))]) [rD z5 v, gK fb dat abi aC big aQ aF ay pg i aj, (pg, .cells cur 136 (0, 0)), (pd, .cells (X.map Bv).toArray 5 (0, 0))] (by kernel_rfl) ?_
 clear HF HM; intro a w HF HM
 rw [show decide (((v.off : Nat) : Int) < 0) = false from bZ (by omega)] at HF
 refine aI ?_
 refine bf HF rfl ?_
 refine wp_skip ?_
 repeat (first | refine aS ?_ | refine aU ?_)
 replace HF := HF.sub (dO b o n c s fb big ak aj au ah pd i z5) (by kernel_rfl)
 refine wp_seq ?_
 refine wp_seq (wp_region_lit ?_)
 refine aO HF HM rfl 6 [[3]] ((dO b o n c s fb big ak aj au ah pd i z5) ++ [(748, aA (IntKind.i64.wrap ((v.bG : Nat) : Int)))]) [rD z5 v, gK fb dat abi aC big aQ aF ay pg i aj, (pg, .cells cur 136 (0, 0)), (pd, .cells (X.map Bv).toArray 5 (0, 0))] (by kernel_rfl) ?_
 clear HF HM; intro a w HF HM
 rw [show IntKind.i64.wrap ((v.bG : Nat) : Int) = ((v.bG : Nat) : Int) from IntWalk.i64_in _ (by omega)] at HF
 refine aO HF HM rfl 1 [] ((dO b o n c s fb big ak aj au ah pd i z5) ++ [(749, .bool (decide (((v.bG : Nat) : Int) < 0)))]) [rD z5 v, gK fb dat abi aC big aQ aF ay pg i aj, (pg, .cells cur 136 (0, 0)), (pd, .cells (X.map Bv).toArray 5 (0, 0))] (by kernel_rfl) ?_
 clear HF HM; intro a w HF HM
 rw [show decide (((v.bG : Nat) : Int) < 0) = false from bZ (by omega)] at HF
 refine aI ?_
 refine bf HF rfl ?_
 refine wp_skip ?_
 repeat (first | refine aS ?_ | refine aU ?_)
 replace HF := HF.sub (dO b o n c s fb big ak aj au ah pd i z5) (by kernel_rfl)
 refine xG HM (by kernel_rfl) (fun w => w.cell? ⟨z5, 2, none⟩ = some (aJ v.off) ∧ w.cell? ⟨z5, 5, none⟩ = some (aJ v.bG)) [(0, false), (1, false), (2, false), (3, false), (4, false), (5, false), (6, false), (7, false), (8, false), (9, false), (10, false), (11, false), (12, false), (13, false), (14, true), (15, false), (16, false), (17, true)] (by kernel_rfl) ?_
 clear HM; intro w10 HM
 refine jk (LS := []) (fun _ _ => jM _) HF ⟨HM.cellAt (i := 0) (k := 2) rfl rfl, HM.cellAt (i := 0) (k := 5) rfl rfl⟩ 6 [] ((pY b o n c s fb big ak aj au ah pd i z5) ++ [(768, .pointer (some ⟨z5, 2, none⟩))]) (by kernel_rfl) ?_
 clear HF; intro a HF
 refine pz rfl HF ⟨HM.cellAt (i := 0) (k := 2) rfl rfl, HM.cellAt (i := 0) (k := 5) rfl rfl⟩ rfl (aJ v.off) (by kernel_rfl) (fun w hw => gJ rfl rfl (by kernel_rfl) hw.1) ?_
 clear HF; intro a HF; replace HF := HF.sub ((pY b o n c s fb big ak aj au ah pd i z5) ++ [(768, .pointer (some ⟨z5, 2, none⟩)), (769, aJ v.off)]) (by kernel_rfl)
 refine jk (LS := []) (fun _ _ => jM _) HF ⟨HM.cellAt (i := 0) (k := 2) rfl rfl, HM.cellAt (i := 0) (k := 5) rfl rfl⟩ 1 [] ((pY b o n c s fb big ak aj au ah pd i z5) ++ [(770, aA (IntKind.i64.wrap ((v.off : Nat) : Int)))]) (by kernel_rfl) ?_
 clear HF; intro a HF
 rw [show IntKind.i64.wrap ((v.off : Nat) : Int) = ((v.off : Nat) : Int) from IntWalk.i64_in _ (by omega)] at HF
 refine jk (LS := []) (fun _ _ => jM _) HF ⟨HM.cellAt (i := 0) (k := 2) rfl rfl, HM.cellAt (i := 0) (k := 5) rfl rfl⟩ 4 [] ((pY b o n c s fb big ak aj au ah pd i z5) ++ [(770, aB v.off), (774, .pointer (some ⟨z5, 5, none⟩))]) (by kernel_rfl) ?_
 clear HF; intro a HF
 refine pz rfl HF ⟨HM.cellAt (i := 0) (k := 2) rfl rfl, HM.cellAt (i := 0) (k := 5) rfl rfl⟩ rfl (aJ v.bG) (by kernel_rfl) (fun w hw => gJ rfl rfl (by kernel_rfl) hw.2) ?_
 clear HF; intro a HF; replace HF := HF.sub ((pY b o n c s fb big ak aj au ah pd i z5) ++ [(770, aB v.off), (774, .pointer (some ⟨z5, 5, none⟩)), (775, aJ v.bG)]) (by kernel_rfl)
 refine jk (LS := []) (fun _ _ => jM _) HF ⟨HM.cellAt (i := 0) (k := 2) rfl rfl, HM.cellAt (i := 0) (k := 5) rfl rfl⟩ 1 [] ((pY b o n c s fb big ak aj au ah pd i z5) ++ [(770, aB v.off), (776, aA (IntKind.i64.wrap ((v.bG : Nat) : Int)))]) (by kernel_rfl) ?_
 clear HF; intro a HF
 rw [show IntKind.i64.wrap ((v.bG : Nat) : Int) = ((v.bG : Nat) : Int) from IntWalk.i64_in _ (by omega)] at HF
 refine nS rfl ?_
 refine bn HF (by kernel_rfl) 92 #[.iface 178 (.slice (some ⟨b, o, none⟩) n c), aB v.off, aB v.bG] (by kernel_rfl) (fun w => by kernel_rfl) (Calls.mono (nX 178 (.slice (some ⟨b, o, none⟩) n c) ((v.off : Nat) : Int) ((v.bG : Nat) : Int) (by omega) (by omega) (by omega) w10) ?_)
 rintro _ wS ⟨sb, rfl, hb, hge, hgn⟩
 replace HM : Mm [fb, pg, pd] W1 wS [oM sb b o n c v, rD z5 v, gK fb dat abi aC big aQ aF ay pg i aj, (pg, .cells cur 136 (0, 0)), (pd, .cells (X.map Bv).toArray 5 (0, 0))] := HM.push hb hge hgn
 clear hb hge hgn
 refine ⟨_, rfl, ?_⟩; clear HF; intro a HF; replace HF := HF.sub ((pY b o n c s fb big ak aj au ah pd i z5) ++ [(770, aB v.off), (776, aB v.bG), (777, aG sb)]) (by kernel_rfl)
 refine pF ⟨HM.cellAt (i := 1) (k := 2) rfl rfl, HM.cellAt (i := 1) (k := 5) rfl rfl⟩ ?_
 refine jk (LS := []) (fun _ _ => jM _) HF ⟨HM.cellAt (i := 1) (k := 2) rfl rfl, HM.cellAt (i := 1) (k := 5) rfl rfl⟩ 2 [] ((dO b o n c s fb big ak aj au ah pd i z5) ++ [(777, aG sb), (779, .pointer (some ⟨z5, 9, none⟩))]) (by kernel_rfl) ?_
 clear HF; intro a HF
 refine nS rfl ?_
 refine aO HF HM rfl 1 [[3]] (dO b o n c s fb big ak aj au ah pd i z5) [oM sb b o n c v, (z5, .cells #[aB v.ty, aY v.flags, aJ v.off, aJ v.bJ, aJ v.bK, aJ v.bG, aJ v.bP, aJ v.align, .nilIface, aG sb] 146 (0, 0)), gK fb dat abi aC big aQ aF ay pg i aj, (pg, .cells cur 136 (0, 0)), (pd, .cells (X.map Bv).toArray 5 (0, 0))] (by kernel_rfl) ?_
 clear HF HM; intro a w HF HM
 refine pF ⟨HM.cellAt (i := 1) (k := 2) rfl rfl, HM.cellAt (i := 1) (k := 5) rfl rfl⟩ ?_
 refine xI (aS ?_)
 refine bC HF HM rfl [[3], [3]] (dO b o n c s fb big ak aj au ah pd i z5) [oM sb b o n c v, rC z5 v sb, gK fb dat abi aC big aQ aF ay pg i aj, (pg, .cells cur 136 (0, 0)), (pd, .cells (X.map Bv).toArray 5 (0, 0))] (by kernel_rfl) ?_
 clear HF HM; intro a w HF HM
 refine wp_region_lit ?_
 obtain ⟨DN, Hr⟩ : ∃ z, w.heap.size = z := ⟨_, rfl⟩
 refine aO HF HM Hr 7 [[2]] ((dO b o n c s fb big ak aj au ah pd i z5) ++ [(788, aG fb), (792, aH pg i aj), (794, aH DN 1 1)]) [(DN, .cells #[aG z5] 136 (0, 0)), oM sb b o n c v, rC z5 v sb, gK fb dat abi aC big aQ aF ay pg i aj, (pg, .cells cur 136 (0, 0)), (pd, .cells (X.map Bv).toArray 5 (0, 0))] (by kernel_rfl) ?_
 clear HF HM Hr; intro a w HF HM
 refine oW HF HM rfl _ _ 127 rfl rfl 136 (.pointer none) 8 Tryd.underlying127 qy 4 0 pg _ i aj cur _ _ rfl hcs (by omega) (by unfold maxLen; omega) rfl rfl rfl rfl ?_
 intro a2 w12 cur' hcs' htk bI HF2; clear HF HM; have HM : Mm [fb, pg, pd] W1 w12 [(DN, .cells #[aG z5] 136 (0, 0)), oM sb b o n c v, rC z5 v sb, gK fb dat abi aC big aQ aF ay pg i aj, (pg, .cells cur' 136 (0, 0)), (pd, .cells (X.map Bv).toArray 5 (0, 0))] := bI; have HF := HF2; clear bI HF2
 replace HF := HF.sub ((dO b o n c s fb big ak aj au ah pd i z5) ++ [(788, aG fb), (795, aH pg (i + 1) aj)]) (by kernel_rfl)
 refine aO HF HM rfl 3 [[2]] (dO b o n c s fb big ak aj au ah pd i z5) [(DN, .cells #[aG z5] 136 (0, 0)), oM sb b o n c v, rC z5 v sb, xW fb dat abi aC big aQ aF ay pg i aj, (pg, .cells cur' 136 (0, 0)), (pd, .cells (X.map Bv).toArray 5 (0, 0))] (by kernel_rfl) ?_
 clear HF HM; intro a w HF HM
 refine wpList_nil ?_
 repeat (first | refine aS ?_ | refine aU ?_)
 refine wp_region_lit ?_
 refine aO HF HM rfl 2 [] ((dO b o n c s fb big ak aj au ah pd i z5) ++ [(595, aA (IntKind.i64.wrap (((i : Nat) : Int) + 1)))]) [(DN, .cells #[aG z5] 136 (0, 0)), oM sb b o n c v, rC z5 v sb, xW fb dat abi aC big aQ aF ay pg i aj, (pg, .cells cur' 136 (0, 0)), (pd, .cells (X.map Bv).toArray 5 (0, 0))] (by kernel_rfl) ?_
 clear HF HM; intro a w HF HM
 rw [show IntKind.i64.wrap (((i : Nat) : Int) + 1) = (((i + 1) : Nat) : Int) from (IntWalk.i64_in _ (by omega)).trans (by omega)] at HF
 refine aO HF HM rfl 1 [] ((nT b o n c s fb big ak aj au ah pd) ++ [(39, aJ (i * 56)), (40, aG z5), (38, aB (i + 1))]) [(DN, .cells #[aG z5] 136 (0, 0)), oM sb b o n c v, rC z5 v sb, xW fb dat abi aC big aQ aF ay pg i aj, (pg, .cells cur' 136 (0, 0)), (pd, .cells (X.map Bv).toArray 5 (0, 0))] (by kernel_rfl) ?_
 clear HF HM; intro a w HF HM
 refine wpList_nil ?_
 repeat (first | refine aS ?_ | refine aU ?_)
 replace HF := HF.sub ((nT b o n c s fb big ak aj au ah pd) ++ [(38, aB (i + 1))]) (by kernel_rfl)
 exact K a w z5 sb cur' hcs' htk HF (HM.sub (List.Sublist.cons _ (List.Sublist.refl _)))

end Go.Proofs.YtdgehpocmfjbiaaDoor
namespace Go.Proofs.YtdgehpocmfjbiaaDoor
open Go.RowKit

theorem cO {w : World} {p g : Nat} {cs cs' : Array Value} {t t' : TypeId} {f f' : Nat × Nat} (h : w.heap[p]? = some (.cells cs t f)) (h' : w.heap[g]? = some (.cells cs' t' f')) (hne : t ≠ t') : p ≠ g := fun e => by
 subst e
 rw [h] at h'
 injection h' with h'
 injection h' with _ h2 _
 exact hne h2
theorem Mm.after {G G' : List Nat} {w0 w w' : World} {L L' : List (Nat × Obj)} (h : Mm G w0 w L) (hk : Keep G' w w') (hg : ∀ k ∈ G', w0.heap.size ≤ k ∨ k ∈ G) (hL : L'.map (·.1) = L.map (·.1)) (ht : ∀ p ∈ L', w'.heap[p.1]? = some p.2) : Mm G w0 w' L' :=
 ⟨h.1.step hk hg, fun p hp => ⟨ht p hp, by
  have : p.1 ∈ L.map (·.1) := hL ▸ List.mem_map_of_mem hp
  obtain ⟨q, hq, e⟩ := List.mem_map.1 this
  rw [← e]; exact (h.2.1 q hq).2⟩, hL ▸ h.2.2⟩
/-- the first k program headers, in memory -/
def lq (b o n c : Nat) (z : Nat) (w : World) (sg : Nat → jQ) (k : Nat) (cur : Array Value) : Prop :=
 ∀ j, j < k → ∃ pb sb, cur[j]? = some (aG pb) ∧ z ≤ pb ∧ z ≤ sb ∧ w.heap[pb]? = some (.cells #[aB (sg j).ty, aY (sg j).flags, aJ (sg j).off, aJ (sg j).bJ, aJ (sg j).bK, aJ (sg j).bG, aJ (sg j).bP, aJ (sg j).align, .iface 144 (aG sb), aG sb] 146 (0, 0)) ∧ w.heap[sb]? = some (.cells #[.iface 178 (.slice (some ⟨b, o, none⟩) n c), aB (sg j).off, aB (sg j).off, .int .i64 ((((sg j).bG : Nat) : Int) + (((sg j).off : Nat) : Int)), aB (sg j).bG] 246 (0, 0))
theorem lq.keep {b o n c z : Nat} {w w' : World} {sg : Nat → jQ} {k : Nat} {cur : Array Value} {G : List Nat} (h : lq b o n c z w sg k cur) (hk : Keep G w w') (hG : ∀ g ∈ G, ∃ cs t f, w.heap[g]? = some (.cells cs t f) ∧ t ≠ 146 ∧ t ≠ 246) : lq b o n c z w' sg k cur := fun j hj => by
 obtain ⟨pb, sb, h1, h2, h3, h4, h5⟩ := h j hj
 refine ⟨pb, sb, h1, h2, h3, (hk.block pb (jD h4) fun hm => ?_).trans h4, (hk.block sb (jD h5) fun hm => ?_).trans h5⟩
 ·obtain ⟨cs, t, f, e, n1, n2⟩ := hG pb hm
  exact cO h4 e (Ne.symm n1) rfl
 ·obtain ⟨cs, t, f, e, n1, n2⟩ := hG sb hm
  exact cO h5 e (Ne.symm n2) rfl
theorem lq.next {b o n c z : Nat} {w : World} {sg : Nat → jQ} {k : Nat} {cur cur' : Array Value} {pb sb : Nat} (h : lq b o n c z w sg k cur) (hs : k < cur.size) (ht : cur'.toList.take (k + 1) = cur.toList.take k ++ [aG pb]) (h2 : z ≤ pb) (h3 : z ≤ sb)
  (h4 : w.heap[pb]? = some (.cells #[aB (sg k).ty, aY (sg k).flags, aJ (sg k).off, aJ (sg k).bJ, aJ (sg k).bK, aJ (sg k).bG, aJ (sg k).bP, aJ (sg k).align, .iface 144 (aG sb), aG sb] 146 (0, 0))) (h5 : w.heap[sb]? = some (.cells #[.iface 178 (.slice (some ⟨b, o, none⟩) n c), aB (sg k).off, aB (sg k).off, .int .i64 ((((sg k).bG : Nat) : Int) + (((sg k).off : Nat) : Int)), aB (sg k).bG] 246 (0, 0))) : lq b o n c z w sg (k + 1) cur' := fun j hj => by
 have hget : cur'[j]? = (cur'.toList.take (k + 1))[j]? := by rw [List.getElem?_take, if_pos hj]; simp
 rw [ht] at hget
 have hlen : (cur.toList.take k).length = k := by simp; omega
 rcases Nat.lt_or_ge j k with hlt | hge
 ·obtain ⟨pb', sb', g1, g2⟩ := h j hlt
  refine ⟨pb', sb', ?_, g2⟩
  rw [hget, List.getElem?_append_left (by omega), List.getElem?_take, if_pos hlt]
  simpa using g1
 ·obtain rfl : j = k := by omega
  exact ⟨pb, sb, by rw [hget, List.getElem?_append_right (by omega), hlen]; simp, h2, h3, h4, h5⟩

theorem N8 (l : List UInt8) (b o n c : Nat) (hl : n = l.length) (hnc : n ≤ c) (big : Bool) (abi aC aQ aF ay ak aj au ah : Nat) (dat : Int) (b1 : aQ < 65536) (b2 : aF < 65536) (b3 : ay ≤ 18446744073709551615) (b4 : ak < 4611686018427387904) (b5 : au < 4611686018427387904) (b6 : aj < 200) (b7 : ah < 200) (X : List UInt8) (nI : X.length = (aj * 32)) (sg : Nat → jQ) (hv : ∀ i, i < aj → uG (X.drop (i * 32)) false big (sg i).ty (sg i).flags (sg i).bJ (sg i).bK (sg i).bP (sg i).align (sg i).bG (sg i).off)
  (v1 : ∀ i, i < aj → (sg i).ty < 4294967296) (v2 : ∀ i, i < aj → (sg i).off + (sg i).bG < 4611686018427387904) (v3 : ∀ i, i < aj → (sg i).bJ ≤ 18446744073709551615) (v4 : ∀ i, i < aj → (sg i).bK ≤ 18446744073709551615) (v5 : ∀ i, i < aj → (sg i).bP ≤ 18446744073709551615) (v6 : ∀ i, i < aj → (sg i).align ≤ 18446744073709551615) (w0 : World) (s fb pg pd : Nat) {KK : Act → World → Prop} {QQ : Exit → Act → World → Prop} {KR : Act → World → Prop}
  (K : ∀ a w cur, cur.size = aj → lq b o n c w0.heap.size w sg aj cur → Fr 1287 a [(0, .iface 178 (.slice (some ⟨b, o, none⟩) n c)), (4, aG s), (8, aG fb), (9, (aP big)), (10, aB ak), (11, .int .i64 32), (12, aB aj), (13, aB au), (14, .int .i64 40), (15, aB ah), (16, aB (ah - 1)), (26, .int .i64 40), (36, aH pd (aj * 32) (aj * 32))] → Mm [] w0 w [(pd, .cells (X.map Bv).toArray 5 (0, 0)), (pg, .cells cur 136 (0, 0)), (fb, .cells #[.int .u8 1, .int .u8 dat, .int .u8 1, aV abi, aV aC, (aP big), aZ aQ, aZ aF, aJ ay, .slice none 0 0, aH pg aj aj, .slice none 0 0, .slice none 0 0, .slice none 0 0] 131 (0, 0)), (s, .cells #[.iface 178 (.slice (some ⟨b, o, none⟩) n c), .int .i64 0, .int .i64 0, .int .i64 9223372036854775807, .int .i64 9223372036854775807] 246 (0, 0))] → KK a w) (a : Act) (w : World) (cur : Array Value) (hcs : cur.size = aj) (hP : lq b o n c w0.heap.size w sg aj cur) (HF : Fr 1287 a [(0, .iface 178 (.slice (some ⟨b, o, none⟩) n c)), (4, aG s), (8, aG fb), (9, (aP big)), (10, aB ak), (11, .int .i64 32), (12, aB aj), (13, aB au), (14, .int .i64 40), (15, aB ah), (16, aB (ah - 1)), (26, .int .i64 40), (36, aH pd (aj * 32) (aj * 32)), (38, aB aj)]) (HM : Mm [] w0 w [(pd, .cells (X.map Bv).toArray 5 (0, 0)), (pg, .cells cur 136 (0, 0)), (fb, .cells #[.int .u8 1, .int .u8 dat, .int .u8 1, aV abi, aV aC, (aP big), aZ aQ, aZ aF, aJ ay, .slice none 0 0, aH pg aj aj, .slice none 0 0, .slice none 0 0, .slice none 0 0] 131 (0, 0)), (s, .cells #[.iface 178 (.slice (some ⟨b, o, none⟩) n c), .int .i64 0, .int .i64 0, .int .i64 9223372036854775807, .int .i64 9223372036854775807] 246 (0, 0))]) :
  (oD (spine Tryd.f78 35)).wp Tryd.prog (Exit.then KR (Exit.inBlock 5 (Exit.then KK QQ))) a w := by
 refine wp_seq ?_
 refine wp_seq (wp_region_lit ?_)
 refine wp_pure HF HM rfl 3 [] [(0, .iface 178 (.slice (some ⟨b, o, none⟩) n c)), (4, aG s), (8, aG fb), (9, (aP big)), (10, aB ak), (11, .int .i64 32), (12, aB aj), (13, aB au), (14, .int .i64 40), (15, aB ah), (16, aB (ah - 1)), (26, .int .i64 40), (36, aH pd (aj * 32) (aj * 32)), (38, aB aj), (593, .bool (decide (((aj : Nat) : Int) < ((aj : Nat) : Int))))] (by kernel_rfl) ?_
 clear HF; intro a HF
 rw [show decide (((aj : Nat) : Int) < ((aj : Nat) : Int)) = false from bZ (by omega)] at HF
 refine aI ?_
 refine bf HF rfl ?_
 replace HF := HF.sub [(0, .iface 178 (.slice (some ⟨b, o, none⟩) n c)), (4, aG s), (8, aG fb), (9, (aP big)), (10, aB ak), (11, .int .i64 32), (12, aB aj), (13, aB au), (14, .int .i64 40), (15, aB ah), (16, aB (ah - 1)), (26, .int .i64 40), (36, aH pd (aj * 32) (aj * 32)), (38, aB aj)] (by kernel_rfl)
 refine wp_exit (iW (iW (kH (aS ?_))))
 replace HF := HF.sub [(0, .iface 178 (.slice (some ⟨b, o, none⟩) n c)), (4, aG s), (8, aG fb), (9, (aP big)), (10, aB ak), (11, .int .i64 32), (12, aB aj), (13, aB au), (14, .int .i64 40), (15, aB ah), (16, aB (ah - 1)), (26, .int .i64 40), (36, aH pd (aj * 32) (aj * 32))] (by kernel_rfl)
 have := HM.keep
 exact K a _ cur hcs hP HF HM
theorem Jl (l : List UInt8) (b o n c : Nat) (hl : n = l.length) (hnc : n ≤ c) (big : Bool) (abi aC aQ aF ay ak aj au ah : Nat) (dat : Int) (b1 : aQ < 65536) (b2 : aF < 65536) (b3 : ay ≤ 18446744073709551615) (b4 : ak < 4611686018427387904) (b5 : au < 4611686018427387904) (b6 : aj < 200) (b7 : ah < 200) (X : List UInt8) (nI : X.length = (aj * 32)) (sg : Nat → jQ) (hv : ∀ i, i < aj → uG (X.drop (i * 32)) false big (sg i).ty (sg i).flags (sg i).bJ (sg i).bK (sg i).bP (sg i).align (sg i).bG (sg i).off)
  (v1 : ∀ i, i < aj → (sg i).ty < 4294967296) (v2 : ∀ i, i < aj → (sg i).off + (sg i).bG < 4611686018427387904) (v3 : ∀ i, i < aj → (sg i).bJ ≤ 18446744073709551615) (v4 : ∀ i, i < aj → (sg i).bK ≤ 18446744073709551615) (v5 : ∀ i, i < aj → (sg i).bP ≤ 18446744073709551615) (v6 : ∀ i, i < aj → (sg i).align ≤ 18446744073709551615) (w0 : World) (s fb pg pd : Nat) {KK : Act → World → Prop} {QQ : Exit → Act → World → Prop}
  (K : ∀ a w cur, cur.size = aj → lq b o n c w0.heap.size w sg aj cur → Fr 1287 a [(0, .iface 178 (.slice (some ⟨b, o, none⟩) n c)), (4, aG s), (8, aG fb), (9, (aP big)), (10, aB ak), (11, aA 32), (12, aB aj), (13, aB au), (14, aA 40), (15, aB ah), (16, aB (ah - 1)), (26, aA 40), (36, aH pd (aj * 32) (aj * 32))] → Mm [] w0 w [(pd, .cells (X.map Bv).toArray 5 (0, 0)), (pg, .cells cur 136 (0, 0)), (fb, .cells #[aN 1, .int .u8 dat, aN 1, aV abi, aV aC, (aP big), aZ aQ, aZ aF, aJ ay, aK, aH pg aj aj, aK, aK, aK] 131 (0, 0)), (s, .cells #[.iface 178 (.slice (some ⟨b, o, none⟩) n c), aA 0, aA 0, aA 9223372036854775807, aA 9223372036854775807] 246 (0, 0))] → KK a w) :
  ∀ (r i : Nat), i + r = aj → ∀ (a : Act) (w : World) (cur : Array Value), cur.size = aj → lq b o n c w0.heap.size w sg i cur → Fr 1287 a [(0, .iface 178 (.slice (some ⟨b, o, none⟩) n c)), (4, aG s), (8, aG fb), (9, (aP big)), (10, aB ak), (11, aA 32), (12, aB aj), (13, aB au), (14, aA 40), (15, aB ah), (16, aB (ah - 1)), (26, aA 40), (36, aH pd (aj * 32) (aj * 32)), (38, aB i)] → Mm [] w0 w [(pd, .cells (X.map Bv).toArray 5 (0, 0)), (pg, .cells cur 136 (0, 0)), (fb, .cells #[aN 1, .int .u8 dat, aN 1, aV abi, aV aC, (aP big), aZ aQ, aZ aF, aJ ay, aK, aH pg i aj, aK, aK, aK] 131 (0, 0)), (s, .cells #[.iface 178 (.slice (some ⟨b, o, none⟩) n c), aA 0, aA 0, aA 9223372036854775807, aA 9223372036854775807] 246 (0, 0))] →
  Code.rounds Tryd.prog (oD (spine Tryd.f78 35)) (Exit.inBlock 5 (Exit.then KK QQ)) (r + 1) a w
 | 0, i, hr, a, w, cur, hcs, hP, HF, HM => by
  obtain rfl : i = aj := by omega
  rw [rounds_succ]
  exact N8 l b o n c hl hnc big abi aC aQ aF ay ak i au ah dat b1 b2 b3 b4 b5 b6 b7 X nI sg hv v1 v2 v3 v4 v5 v6 w0 s fb pg pd K a w cur hcs hP HF HM
 | r + 1, i, hr, a, w, cur, hcs, hP, HF, HM => by
  have hi : i < aj := by omega
  rw [rounds_succ]
  refine OA l b o n c hl hnc big abi aC aQ aF ay ak aj au ah dat b1 b2 b3 b4 b5 b6 b7 X nI i hi (sg i) (hv i hi) (v1 i hi) (v2 i hi) (v3 i hi) (v4 i hi) (v5 i hi) (v6 i hi) a w s fb pg pd cur hcs (HM.get (i := 2) rfl) (HM.get (i := 1) rfl) (HM.get (i := 0) rfl) (HM.ne (i := 2) (j := 1) rfl rfl (by decide)) (HM.ne (i := 2) (j := 0) rfl rfl (by decide)) (HM.ne (i := 1) (j := 0) rfl rfl (by decide)) HF ?_
  intro a' w' pb sb cur' hcs' htk CB iE
  have hk := iE.keep
  have hn : ∀ g ∈ [fb, pg, pd], g < w.heap.size := by
   intro g hg
   simp only [List.mem_cons, List.not_mem_nil, or_false] at hg
   rcases hg with rfl | rfl | rfl
   ·exact HM.lt (i := 2) rfl
   ·exact HM.lt (i := 1) rfl
   ·exact HM.lt (i := 0) rfl
  have hpb : w.heap.size ≤ pb := (iE.own (i := 1) rfl).elim id fun hm => absurd (iE.get (i := 1) rfl) (by
   intro e
   simp only [List.mem_cons, List.not_mem_nil, or_false] at hm
   rcases hm with rfl | rfl | rfl
   ·exact cO e (iE.get (i := 2) rfl) (by decide) rfl
   ·exact cO e (iE.get (i := 3) rfl) (by decide) rfl
   ·exact cO e (iE.get (i := 4) rfl) (by decide) rfl)
  have hsb : w.heap.size ≤ sb := (iE.own (i := 0) rfl).elim id fun hm => absurd (iE.get (i := 0) rfl) (by
   intro e
   simp only [List.mem_cons, List.not_mem_nil, or_false] at hm
   rcases hm with rfl | rfl | rfl
   ·exact cO e (iE.get (i := 2) rfl) (by decide) rfl
   ·exact cO e (iE.get (i := 3) rfl) (by decide) rfl
   ·exact cO e (iE.get (i := 4) rfl) (by decide) rfl)
  have hsz := HM.size
  have hP2 : lq b o n c w0.heap.size w' sg i cur := hP.keep hk (by
   intro g hg
   simp only [List.mem_cons, List.not_mem_nil, or_false] at hg
   rcases hg with rfl | rfl | rfl
   ·exact ⟨_, _, _, HM.get (i := 2) rfl, by decide, by decide⟩
   ·exact ⟨_, _, _, HM.get (i := 1) rfl, by decide, by decide⟩
   ·exact ⟨_, _, _, HM.get (i := 0) rfl, by decide, by decide⟩)
  have hP3 := hP2.next (by omega) htk (by omega) (by omega) (iE.get (i := 1) rfl) (iE.get (i := 0) rfl)
  have bI : Mm [] w0 w' [(pd, .cells (X.map Bv).toArray 5 (0, 0)), (pg, .cells cur' 136 (0, 0)), (fb, .cells #[aN 1, .int .u8 dat, aN 1, aV abi, aV aC, (aP big), aZ aQ, aZ aF, aJ ay, aK, aH pg (i + 1) aj, aK, aK, aK] 131 (0, 0)), (s, .cells #[.iface 178 (.slice (some ⟨b, o, none⟩) n c), aA 0, aA 0, aA 9223372036854775807, aA 9223372036854775807] 246 (0, 0))] := HM.after hk (by
   intro g hg
   simp only [List.mem_cons, List.not_mem_nil, or_false] at hg
   rcases hg with rfl | rfl | rfl
   ·exact HM.own (i := 2) rfl
   ·exact HM.own (i := 1) rfl
   ·exact HM.own (i := 0) rfl) rfl (by
   intro p hp
   simp only [List.mem_cons, List.not_mem_nil, or_false] at hp
   rcases hp with rfl | rfl | rfl | rfl
   ·exact iE.get (i := 4) rfl
   ·exact iE.get (i := 3) rfl
   ·exact iE.get (i := 2) rfl
   ·refine (hk.block s (HM.lt (i := 3) rfl) ?_).trans (HM.get (i := 3) rfl)
    simp only [List.mem_cons, List.not_mem_nil, or_false, not_or]
    exact ⟨HM.ne (i := 3) (j := 2) rfl rfl (by decide), HM.ne (i := 3) (j := 1) rfl rfl (by decide), HM.ne (i := 3) (j := 0) rfl rfl (by decide)⟩)
  exact Jl l b o n c hl hnc big abi aC aQ aF ay ak aj au ah dat b1 b2 b3 b4 b5 b6 b7 X nI sg hv v1 v2 v3 v4 v5 v6 w0 s fb pg pd K r (i + 1) (by omega) a' w' cur' hcs' hP3 CB bI

theorem Ee (l : List UInt8) (b o n c : Nat) (hl : n = l.length) (hnc : n ≤ c) (big : Bool) (abi aC aQ aF ay ak aj au ah : Nat) (dat : Int) (b1 : aQ < 65536) (b2 : aF < 65536) (b3 : ay ≤ 18446744073709551615) (b4 : ak < 4611686018427387904) (b5 : au < 4611686018427387904) (b6 : aj < 200) (b7 : ah < 200) (X : List UInt8) (nI : X.length = (aj * 32)) (sg : Nat → jQ) (hv : ∀ i, i < aj → uG (X.drop (i * 32)) false big (sg i).ty (sg i).flags (sg i).bJ (sg i).bK (sg i).bP (sg i).align (sg i).bG (sg i).off)
  (v1 : ∀ i, i < aj → (sg i).ty < 4294967296) (v2 : ∀ i, i < aj → (sg i).off + (sg i).bG < 4611686018427387904) (v3 : ∀ i, i < aj → (sg i).bJ ≤ 18446744073709551615) (v4 : ∀ i, i < aj → (sg i).bK ≤ 18446744073709551615) (v5 : ∀ i, i < aj → (sg i).bP ≤ 18446744073709551615) (v6 : ∀ i, i < aj → (sg i).align ≤ 18446744073709551615) (w0 : World) (s fb pg pd : Nat) {Q : Exit → Act → World → Prop} (a : Act) (w : World) (cur : Array Value) (hcs : cur.size = aj) (HF : Fr 1287 a [(0, .iface 178 (.slice (some ⟨b, o, none⟩) n c)), (4, aG s), (8, aG fb), (9, (aP big)), (10, aB ak), (11, .int .i64 32), (12, aB aj), (13, aB au), (14, .int .i64 40), (15, aB ah), (16, aB (ah - 1)), (26, .int .i64 40), (36, aH pd (aj * 32) (aj * 32))]) (HM : Mm [] w0 w [(pd, .cells (X.map Bv).toArray 5 (0, 0)), (pg, .cells cur 136 (0, 0)), (fb, .cells #[.int .u8 1, .int .u8 dat, .int .u8 1, aV abi, aV aC, (aP big), aZ aQ, aZ aF, aJ ay, .slice none 0 0, aH pg 0 aj, .slice none 0 0, .slice none 0 0, .slice none 0 0] 131 (0, 0)), (s, .cells #[.iface 178 (.slice (some ⟨b, o, none⟩) n c), .int .i64 0, .int .i64 0, .int .i64 9223372036854775807, .int .i64 9223372036854775807] 246 (0, 0))])
  (K : ∀ a w cur, cur.size = aj → lq b o n c w0.heap.size w sg aj cur → Fr 1287 a [(0, .iface 178 (.slice (some ⟨b, o, none⟩) n c)), (4, aG s), (8, aG fb), (9, (aP big)), (10, aB ak), (11, .int .i64 32), (12, aB aj), (13, aB au), (14, .int .i64 40), (15, aB ah), (16, aB (ah - 1)), (26, .int .i64 40), (36, aH pd (aj * 32) (aj * 32))] → Mm [] w0 w [(pd, .cells (X.map Bv).toArray 5 (0, 0)), (pg, .cells cur 136 (0, 0)), (fb, .cells #[.int .u8 1, .int .u8 dat, .int .u8 1, aV abi, aV aC, (aP big), aZ aQ, aZ aF, aJ ay, .slice none 0 0, aH pg aj aj, .slice none 0 0, .slice none 0 0, .slice none 0 0] 131 (0, 0)), (s, .cells #[.iface 178 (.slice (some ⟨b, o, none⟩) n c), .int .i64 0, .int .i64 0, .int .i64 9223372036854775807, .int .i64 9223372036854775807] 246 (0, 0))] → (spine Tryd.f78 36).wp Tryd.prog Q a w) : (spine Tryd.f78 35).wp Tryd.prog Q a w := by
 refine wp_seq ?_
 refine bC HF HM rfl [] [(0, .iface 178 (.slice (some ⟨b, o, none⟩) n c)), (4, aG s), (8, aG fb), (9, (aP big)), (10, aB ak), (11, .int .i64 32), (12, aB aj), (13, aB au), (14, .int .i64 40), (15, aB ah), (16, aB (ah - 1)), (26, .int .i64 40), (36, aH pd (aj * 32) (aj * 32)), (38, aB 0)] [(pd, .cells (X.map Bv).toArray 5 (0, 0)), (pg, .cells cur 136 (0, 0)), (fb, .cells #[.int .u8 1, .int .u8 dat, .int .u8 1, aV abi, aV aC, (aP big), aZ aQ, aZ aF, aJ ay, .slice none 0 0, aH pg 0 aj, .slice none 0 0, .slice none 0 0, .slice none 0 0] 131 (0, 0)), (s, .cells #[.iface 178 (.slice (some ⟨b, o, none⟩) n c), .int .i64 0, .int .i64 0, .int .i64 9223372036854775807, .int .i64 9223372036854775807] 246 (0, 0))] (by kernel_rfl) ?_
 clear HF HM; intro a w HF HM
 refine wp_block (wp_loop_rounds (aj + 1) ?_)
 exact Jl l b o n c hl hnc big abi aC aQ aF ay ak aj au ah dat b1 b2 b3 b4 b5 b6 b7 X nI sg hv v1 v2 v3 v4 v5 v6 w0 s fb pg pd K aj 0 (by omega) a w cur hcs (fun j hj => absurd hj (Nat.not_lt_zero j)) HF HM

theorem N7 (l : List UInt8) (b o n c : Nat) (hl : n = l.length) (hnc : n ≤ c) (big : Bool) (abi aC aQ aF ay ak aj au ah : Nat) (dat : Int) (b1 : aQ < 65536) (b2 : aF < 65536) (b3 : ay ≤ 18446744073709551615) (b4 : ak < 4611686018427387904) (b5 : au < 4611686018427387904) (b6 : aj < 200) (b7 : ah < 200) (X : List UInt8) (nI : X.length = (aj * 56)) (sg : Nat → jQ) (hv : ∀ i, i < aj → uG (X.drop (i * 56)) true big (sg i).ty (sg i).flags (sg i).bJ (sg i).bK (sg i).bP (sg i).align (sg i).bG (sg i).off)
  (v1 : ∀ i, i < aj → (sg i).ty < 4294967296) (v2 : ∀ i, i < aj → (sg i).off + (sg i).bG < 4611686018427387904) (v3 : ∀ i, i < aj → (sg i).bJ ≤ 18446744073709551615) (v4 : ∀ i, i < aj → (sg i).bK ≤ 18446744073709551615) (v5 : ∀ i, i < aj → (sg i).bP ≤ 18446744073709551615) (v6 : ∀ i, i < aj → (sg i).align ≤ 18446744073709551615) (w0 : World) (s fb pg pd : Nat) {KK : Act → World → Prop} {QQ : Exit → Act → World → Prop} {KR : Act → World → Prop}
  (K : ∀ a w cur, cur.size = aj → lq b o n c w0.heap.size w sg aj cur → Fr 1287 a [(0, .iface 178 (.slice (some ⟨b, o, none⟩) n c)), (4, aG s), (8, aG fb), (9, (aP big)), (10, aB ak), (11, .int .i64 56), (12, aB aj), (13, aB au), (14, .int .i64 64), (15, aB ah), (16, aB (ah - 1)), (26, .int .i64 64), (36, aH pd (aj * 56) (aj * 56))] → Mm [] w0 w [(pd, .cells (X.map Bv).toArray 5 (0, 0)), (pg, .cells cur 136 (0, 0)), (fb, .cells #[.int .u8 2, .int .u8 dat, .int .u8 1, aV abi, aV aC, (aP big), aZ aQ, aZ aF, aJ ay, .slice none 0 0, aH pg aj aj, .slice none 0 0, .slice none 0 0, .slice none 0 0] 131 (0, 0)), (s, .cells #[.iface 178 (.slice (some ⟨b, o, none⟩) n c), .int .i64 0, .int .i64 0, .int .i64 9223372036854775807, .int .i64 9223372036854775807] 246 (0, 0))] → KK a w) (a : Act) (w : World) (cur : Array Value) (hcs : cur.size = aj) (hP : lq b o n c w0.heap.size w sg aj cur) (HF : Fr 1287 a [(0, .iface 178 (.slice (some ⟨b, o, none⟩) n c)), (4, aG s), (8, aG fb), (9, (aP big)), (10, aB ak), (11, .int .i64 56), (12, aB aj), (13, aB au), (14, .int .i64 64), (15, aB ah), (16, aB (ah - 1)), (26, .int .i64 64), (36, aH pd (aj * 56) (aj * 56)), (38, aB aj)]) (HM : Mm [] w0 w [(pd, .cells (X.map Bv).toArray 5 (0, 0)), (pg, .cells cur 136 (0, 0)), (fb, .cells #[.int .u8 2, .int .u8 dat, .int .u8 1, aV abi, aV aC, (aP big), aZ aQ, aZ aF, aJ ay, .slice none 0 0, aH pg aj aj, .slice none 0 0, .slice none 0 0, .slice none 0 0] 131 (0, 0)), (s, .cells #[.iface 178 (.slice (some ⟨b, o, none⟩) n c), .int .i64 0, .int .i64 0, .int .i64 9223372036854775807, .int .i64 9223372036854775807] 246 (0, 0))]) :
  (oD (spine Tryd.f78 35)).wp Tryd.prog (Exit.then KR (Exit.inBlock 5 (Exit.then KK QQ))) a w := by
 refine wp_seq ?_
 refine wp_seq (wp_region_lit ?_)
 refine wp_pure HF HM rfl 3 [] [(0, .iface 178 (.slice (some ⟨b, o, none⟩) n c)), (4, aG s), (8, aG fb), (9, (aP big)), (10, aB ak), (11, .int .i64 56), (12, aB aj), (13, aB au), (14, .int .i64 64), (15, aB ah), (16, aB (ah - 1)), (26, .int .i64 64), (36, aH pd (aj * 56) (aj * 56)), (38, aB aj), (593, .bool (decide (((aj : Nat) : Int) < ((aj : Nat) : Int))))] (by kernel_rfl) ?_
 clear HF; intro a HF
 rw [show decide (((aj : Nat) : Int) < ((aj : Nat) : Int)) = false from bZ (by omega)] at HF
 refine aI ?_
 refine bf HF rfl ?_
 replace HF := HF.sub [(0, .iface 178 (.slice (some ⟨b, o, none⟩) n c)), (4, aG s), (8, aG fb), (9, (aP big)), (10, aB ak), (11, .int .i64 56), (12, aB aj), (13, aB au), (14, .int .i64 64), (15, aB ah), (16, aB (ah - 1)), (26, .int .i64 64), (36, aH pd (aj * 56) (aj * 56)), (38, aB aj)] (by kernel_rfl)
 refine wp_exit (iW (iW (kH (aS ?_))))
 replace HF := HF.sub [(0, .iface 178 (.slice (some ⟨b, o, none⟩) n c)), (4, aG s), (8, aG fb), (9, (aP big)), (10, aB ak), (11, .int .i64 56), (12, aB aj), (13, aB au), (14, .int .i64 64), (15, aB ah), (16, aB (ah - 1)), (26, .int .i64 64), (36, aH pd (aj * 56) (aj * 56))] (by kernel_rfl)
 have := HM.keep
 exact K a _ cur hcs hP HF HM
theorem Jk (l : List UInt8) (b o n c : Nat) (hl : n = l.length) (hnc : n ≤ c) (big : Bool) (abi aC aQ aF ay ak aj au ah : Nat) (dat : Int) (b1 : aQ < 65536) (b2 : aF < 65536) (b3 : ay ≤ 18446744073709551615) (b4 : ak < 4611686018427387904) (b5 : au < 4611686018427387904) (b6 : aj < 200) (b7 : ah < 200) (X : List UInt8) (nI : X.length = (aj * 56)) (sg : Nat → jQ) (hv : ∀ i, i < aj → uG (X.drop (i * 56)) true big (sg i).ty (sg i).flags (sg i).bJ (sg i).bK (sg i).bP (sg i).align (sg i).bG (sg i).off)
  (v1 : ∀ i, i < aj → (sg i).ty < 4294967296) (v2 : ∀ i, i < aj → (sg i).off + (sg i).bG < 4611686018427387904) (v3 : ∀ i, i < aj → (sg i).bJ ≤ 18446744073709551615) (v4 : ∀ i, i < aj → (sg i).bK ≤ 18446744073709551615) (v5 : ∀ i, i < aj → (sg i).bP ≤ 18446744073709551615) (v6 : ∀ i, i < aj → (sg i).align ≤ 18446744073709551615) (w0 : World) (s fb pg pd : Nat) {KK : Act → World → Prop} {QQ : Exit → Act → World → Prop}
  (K : ∀ a w cur, cur.size = aj → lq b o n c w0.heap.size w sg aj cur → Fr 1287 a [(0, .iface 178 (.slice (some ⟨b, o, none⟩) n c)), (4, aG s), (8, aG fb), (9, (aP big)), (10, aB ak), (11, aA 56), (12, aB aj), (13, aB au), (14, aA 64), (15, aB ah), (16, aB (ah - 1)), (26, aA 64), (36, aH pd (aj * 56) (aj * 56))] → Mm [] w0 w [(pd, .cells (X.map Bv).toArray 5 (0, 0)), (pg, .cells cur 136 (0, 0)), (fb, .cells #[aN 2, .int .u8 dat, aN 1, aV abi, aV aC, (aP big), aZ aQ, aZ aF, aJ ay, aK, aH pg aj aj, aK, aK, aK] 131 (0, 0)), (s, .cells #[.iface 178 (.slice (some ⟨b, o, none⟩) n c), aA 0, aA 0, aA 9223372036854775807, aA 9223372036854775807] 246 (0, 0))] → KK a w) :
  ∀ (r i : Nat), i + r = aj → ∀ (a : Act) (w : World) (cur : Array Value), cur.size = aj → lq b o n c w0.heap.size w sg i cur → Fr 1287 a [(0, .iface 178 (.slice (some ⟨b, o, none⟩) n c)), (4, aG s), (8, aG fb), (9, (aP big)), (10, aB ak), (11, aA 56), (12, aB aj), (13, aB au), (14, aA 64), (15, aB ah), (16, aB (ah - 1)), (26, aA 64), (36, aH pd (aj * 56) (aj * 56)), (38, aB i)] → Mm [] w0 w [(pd, .cells (X.map Bv).toArray 5 (0, 0)), (pg, .cells cur 136 (0, 0)), (fb, .cells #[aN 2, .int .u8 dat, aN 1, aV abi, aV aC, (aP big), aZ aQ, aZ aF, aJ ay, aK, aH pg i aj, aK, aK, aK] 131 (0, 0)), (s, .cells #[.iface 178 (.slice (some ⟨b, o, none⟩) n c), aA 0, aA 0, aA 9223372036854775807, aA 9223372036854775807] 246 (0, 0))] →
  Code.rounds Tryd.prog (oD (spine Tryd.f78 35)) (Exit.inBlock 5 (Exit.then KK QQ)) (r + 1) a w
 | 0, i, hr, a, w, cur, hcs, hP, HF, HM => by
  obtain rfl : i = aj := by omega
  rw [rounds_succ]
  exact N7 l b o n c hl hnc big abi aC aQ aF ay ak i au ah dat b1 b2 b3 b4 b5 b6 b7 X nI sg hv v1 v2 v3 v4 v5 v6 w0 s fb pg pd K a w cur hcs hP HF HM
 | r + 1, i, hr, a, w, cur, hcs, hP, HF, HM => by
  have hi : i < aj := by omega
  rw [rounds_succ]
  refine Oz l b o n c hl hnc big abi aC aQ aF ay ak aj au ah dat b1 b2 b3 b4 b5 b6 b7 X nI i hi (sg i) (hv i hi) (v1 i hi) (v2 i hi) (v3 i hi) (v4 i hi) (v5 i hi) (v6 i hi) a w s fb pg pd cur hcs (HM.get (i := 2) rfl) (HM.get (i := 1) rfl) (HM.get (i := 0) rfl) (HM.ne (i := 2) (j := 1) rfl rfl (by decide)) (HM.ne (i := 2) (j := 0) rfl rfl (by decide)) (HM.ne (i := 1) (j := 0) rfl rfl (by decide)) HF ?_
  intro a' w' pb sb cur' hcs' htk CB iE
  have hk := iE.keep
  have hn : ∀ g ∈ [fb, pg, pd], g < w.heap.size := by
   intro g hg
   simp only [List.mem_cons, List.not_mem_nil, or_false] at hg
   rcases hg with rfl | rfl | rfl
   ·exact HM.lt (i := 2) rfl
   ·exact HM.lt (i := 1) rfl
   ·exact HM.lt (i := 0) rfl
  have hpb : w.heap.size ≤ pb := (iE.own (i := 1) rfl).elim id fun hm => absurd (iE.get (i := 1) rfl) (by
   intro e
   simp only [List.mem_cons, List.not_mem_nil, or_false] at hm
   rcases hm with rfl | rfl | rfl
   ·exact cO e (iE.get (i := 2) rfl) (by decide) rfl
   ·exact cO e (iE.get (i := 3) rfl) (by decide) rfl
   ·exact cO e (iE.get (i := 4) rfl) (by decide) rfl)
  have hsb : w.heap.size ≤ sb := (iE.own (i := 0) rfl).elim id fun hm => absurd (iE.get (i := 0) rfl) (by
   intro e
   simp only [List.mem_cons, List.not_mem_nil, or_false] at hm
   rcases hm with rfl | rfl | rfl
   ·exact cO e (iE.get (i := 2) rfl) (by decide) rfl
   ·exact cO e (iE.get (i := 3) rfl) (by decide) rfl
   ·exact cO e (iE.get (i := 4) rfl) (by decide) rfl)
  have hsz := HM.size
  have hP2 : lq b o n c w0.heap.size w' sg i cur := hP.keep hk (by
   intro g hg
   simp only [List.mem_cons, List.not_mem_nil, or_false] at hg
   rcases hg with rfl | rfl | rfl
   ·exact ⟨_, _, _, HM.get (i := 2) rfl, by decide, by decide⟩
   ·exact ⟨_, _, _, HM.get (i := 1) rfl, by decide, by decide⟩
   ·exact ⟨_, _, _, HM.get (i := 0) rfl, by decide, by decide⟩)
  have hP3 := hP2.next (by omega) htk (by omega) (by omega) (iE.get (i := 1) rfl) (iE.get (i := 0) rfl)
  have bI : Mm [] w0 w' [(pd, .cells (X.map Bv).toArray 5 (0, 0)), (pg, .cells cur' 136 (0, 0)), (fb, .cells #[aN 2, .int .u8 dat, aN 1, aV abi, aV aC, (aP big), aZ aQ, aZ aF, aJ ay, aK, aH pg (i + 1) aj, aK, aK, aK] 131 (0, 0)), (s, .cells #[.iface 178 (.slice (some ⟨b, o, none⟩) n c), aA 0, aA 0, aA 9223372036854775807, aA 9223372036854775807] 246 (0, 0))] := HM.after hk (by
   intro g hg
   simp only [List.mem_cons, List.not_mem_nil, or_false] at hg
   rcases hg with rfl | rfl | rfl
   ·exact HM.own (i := 2) rfl
   ·exact HM.own (i := 1) rfl
   ·exact HM.own (i := 0) rfl) rfl (by
   intro p hp
   simp only [List.mem_cons, List.not_mem_nil, or_false] at hp
   rcases hp with rfl | rfl | rfl | rfl
   ·exact iE.get (i := 4) rfl
   ·exact iE.get (i := 3) rfl
   ·exact iE.get (i := 2) rfl
   ·refine (hk.block s (HM.lt (i := 3) rfl) ?_).trans (HM.get (i := 3) rfl)
    simp only [List.mem_cons, List.not_mem_nil, or_false, not_or]
    exact ⟨HM.ne (i := 3) (j := 2) rfl rfl (by decide), HM.ne (i := 3) (j := 1) rfl rfl (by decide), HM.ne (i := 3) (j := 0) rfl rfl (by decide)⟩)
  exact Jk l b o n c hl hnc big abi aC aQ aF ay ak aj au ah dat b1 b2 b3 b4 b5 b6 b7 X nI sg hv v1 v2 v3 v4 v5 v6 w0 s fb pg pd K r (i + 1) (by omega) a' w' cur' hcs' hP3 CB bI

theorem Ed (l : List UInt8) (b o n c : Nat) (hl : n = l.length) (hnc : n ≤ c) (big : Bool) (abi aC aQ aF ay ak aj au ah : Nat) (dat : Int) (b1 : aQ < 65536) (b2 : aF < 65536) (b3 : ay ≤ 18446744073709551615) (b4 : ak < 4611686018427387904) (b5 : au < 4611686018427387904) (b6 : aj < 200) (b7 : ah < 200) (X : List UInt8) (nI : X.length = (aj * 56)) (sg : Nat → jQ) (hv : ∀ i, i < aj → uG (X.drop (i * 56)) true big (sg i).ty (sg i).flags (sg i).bJ (sg i).bK (sg i).bP (sg i).align (sg i).bG (sg i).off)
  (v1 : ∀ i, i < aj → (sg i).ty < 4294967296) (v2 : ∀ i, i < aj → (sg i).off + (sg i).bG < 4611686018427387904) (v3 : ∀ i, i < aj → (sg i).bJ ≤ 18446744073709551615) (v4 : ∀ i, i < aj → (sg i).bK ≤ 18446744073709551615) (v5 : ∀ i, i < aj → (sg i).bP ≤ 18446744073709551615) (v6 : ∀ i, i < aj → (sg i).align ≤ 18446744073709551615) (w0 : World) (s fb pg pd : Nat) {Q : Exit → Act → World → Prop} (a : Act) (w : World) (cur : Array Value) (hcs : cur.size = aj) (HF : Fr 1287 a [(0, .iface 178 (.slice (some ⟨b, o, none⟩) n c)), (4, aG s), (8, aG fb), (9, (aP big)), (10, aB ak), (11, .int .i64 56), (12, aB aj), (13, aB au), (14, .int .i64 64), (15, aB ah), (16, aB (ah - 1)), (26, .int .i64 64), (36, aH pd (aj * 56) (aj * 56))]) (HM : Mm [] w0 w [(pd, .cells (X.map Bv).toArray 5 (0, 0)), (pg, .cells cur 136 (0, 0)), (fb, .cells #[.int .u8 2, .int .u8 dat, .int .u8 1, aV abi, aV aC, (aP big), aZ aQ, aZ aF, aJ ay, .slice none 0 0, aH pg 0 aj, .slice none 0 0, .slice none 0 0, .slice none 0 0] 131 (0, 0)), (s, .cells #[.iface 178 (.slice (some ⟨b, o, none⟩) n c), .int .i64 0, .int .i64 0, .int .i64 9223372036854775807, .int .i64 9223372036854775807] 246 (0, 0))])
  (K : ∀ a w cur, cur.size = aj → lq b o n c w0.heap.size w sg aj cur → Fr 1287 a [(0, .iface 178 (.slice (some ⟨b, o, none⟩) n c)), (4, aG s), (8, aG fb), (9, (aP big)), (10, aB ak), (11, .int .i64 56), (12, aB aj), (13, aB au), (14, .int .i64 64), (15, aB ah), (16, aB (ah - 1)), (26, .int .i64 64), (36, aH pd (aj * 56) (aj * 56))] → Mm [] w0 w [(pd, .cells (X.map Bv).toArray 5 (0, 0)), (pg, .cells cur 136 (0, 0)), (fb, .cells #[.int .u8 2, .int .u8 dat, .int .u8 1, aV abi, aV aC, (aP big), aZ aQ, aZ aF, aJ ay, .slice none 0 0, aH pg aj aj, .slice none 0 0, .slice none 0 0, .slice none 0 0] 131 (0, 0)), (s, .cells #[.iface 178 (.slice (some ⟨b, o, none⟩) n c), .int .i64 0, .int .i64 0, .int .i64 9223372036854775807, .int .i64 9223372036854775807] 246 (0, 0))] → (spine Tryd.f78 36).wp Tryd.prog Q a w) : (spine Tryd.f78 35).wp Tryd.prog Q a w := by
 refine wp_seq ?_
 refine bC HF HM rfl [] [(0, .iface 178 (.slice (some ⟨b, o, none⟩) n c)), (4, aG s), (8, aG fb), (9, (aP big)), (10, aB ak), (11, .int .i64 56), (12, aB aj), (13, aB au), (14, .int .i64 64), (15, aB ah), (16, aB (ah - 1)), (26, .int .i64 64), (36, aH pd (aj * 56) (aj * 56)), (38, aB 0)] [(pd, .cells (X.map Bv).toArray 5 (0, 0)), (pg, .cells cur 136 (0, 0)), (fb, .cells #[.int .u8 2, .int .u8 dat, .int .u8 1, aV abi, aV aC, (aP big), aZ aQ, aZ aF, aJ ay, .slice none 0 0, aH pg 0 aj, .slice none 0 0, .slice none 0 0, .slice none 0 0] 131 (0, 0)), (s, .cells #[.iface 178 (.slice (some ⟨b, o, none⟩) n c), .int .i64 0, .int .i64 0, .int .i64 9223372036854775807, .int .i64 9223372036854775807] 246 (0, 0))] (by kernel_rfl) ?_
 clear HF HM; intro a w HF HM
 refine wp_block (wp_loop_rounds (aj + 1) ?_)
 exact Jk l b o n c hl hnc big abi aC aQ aF ay ak aj au ah dat b1 b2 b3 b4 b5 b6 b7 X nI sg hv v1 v2 v3 v4 v5 v6 w0 s fb pg pd K aj 0 (by omega) a w cur hcs (fun j hj => absurd hj (Nat.not_lt_zero j)) HF HM

end Go.Proofs.YtdgehpocmfjbiaaDoor
namespace Go.Proofs.YtdgehpocmfjbiaaDoor
open Go.RowKit

theorem rY : (Tryd.prog.info? 36).map (fun i => (i.zero, i.size, i.bytes)) = some (some (.int .u32 0), 1, 4) := by kernel_rfl

abbrev f_ := fun (b : Nat) (o : Nat) (n : Nat) (c : Nat) (s : Nat) (fb : Nat) (big : Bool) (ak : Nat) (aj : Nat) (au : Nat) (ah : Nat) => ([(0, .iface 178 (.slice (some ⟨b, o, none⟩) n c)), (4, aG s), (8, aG fb), (9, (aP big)), (10, aB ak), (11, aA 32), (12, aB aj), (13, aB au), (14, aA 40), (15, aB ah), (16, aB (ah - 1)), (26, aA 40)] : Slots)
theorem LY (l : List UInt8) (b o n c : Nat) (hl : n = l.length) (hnc : n ≤ c) (big : Bool) (abi aC aQ aF ay ak aj au ah : Nat) (dat : Int) (b1 : aQ < 65536) (b2 : aF < 65536) (b3 : ay ≤ 18446744073709551615) (b4 : ak < 4611686018427387904) (b5 : au < 4611686018427387904) (b6 : aj < 200) (b7 : ah < 200) (c1 : 0 < au) (c2 : 0 < ah) (c4 : au < n) (c5 : au + (ah * 40) ≤ n) {Q : Exit → Act → World → Prop} (w0 : World) (hbl : b < w0.heap.size) (hr : Row w0 (some ⟨b, o, none⟩) (l.map Bv)) (G : List Nat) (qP : b ∉ G) (a : Act) (w : World) (s fb pg : Nat) (hbs : b ≠ s) (HF : Fr 1287 a (f_ b o n c s fb big ak aj au ah)) (HM : Mm G w0 w [(fb, .cells #[aN 1, .int .u8 dat, aN 1, aV abi, aV aC, (aP big), aZ aQ, aZ aF, aJ ay, aK, aH pg aj aj, aK, aK, aK] 131 (0, 0)), (s, .cells #[.iface 178 (.slice (some ⟨b, o, none⟩) n c), aA 0, aA 0, aA 9223372036854775807, aA 9223372036854775807] 246 (0, 0))])
  (K : ∀ a w aX je aT jU sd, je.size = ah → jU.size = ah → Fr 1287 a ((f_ b o n c s fb big ak aj au ah) ++ [(41, aH aT 0 ah), (42, aH sd (ah * 40) (ah * 40))]) → Mm G w0 w [(sd, .cells (((l.drop au).take (ah * 40)).map Bv).toArray 5 (0, 0)), (aT, .cells jU 36 (0, 0)), (aX, .cells je 133 (0, 0)), (fb, .cells #[aN 1, .int .u8 dat, aN 1, aV abi, aV aC, (aP big), aZ aQ, aZ aF, aJ ay, aH aX 0 ah, aH pg aj aj, aK, aK, aK] 131 (0, 0)), (s, .cells #[.iface 178 (.slice (some ⟨b, o, none⟩) n c), aA 0, aA 0, aA 9223372036854775807, aA 9223372036854775807] 246 (0, 0))] → (spine Tryd.f78 44).wp Tryd.prog Q a w) : (spine Tryd.f78 36).wp Tryd.prog Q a w := by
 refine wp_seq ?_
 refine wp_seq (wp_region_lit ?_)
 refine aO HF HM rfl 2 [] ((f_ b o n c s fb big ak aj au ah) ++ [(799, .bool (decide (0 < ((ah : Nat) : Int))))]) [(fb, .cells #[aN 1, .int .u8 dat, aN 1, aV abi, aV aC, (aP big), aZ aQ, aZ aF, aJ ay, aK, aH pg aj aj, aK, aK, aK] 131 (0, 0)), (s, .cells #[.iface 178 (.slice (some ⟨b, o, none⟩) n c), aA 0, aA 0, aA 9223372036854775807, aA 9223372036854775807] 246 (0, 0))] (by kernel_rfl) ?_
 clear HF HM; intro a w HF HM
 rw [show decide (0 < ((ah : Nat) : Int)) = true from dM (by omega)] at HF
 refine aO HF HM rfl 5 [] ((f_ b o n c s fb big ak aj au ah) ++ [(804, .bool false)]) [(fb, .cells #[aN 1, .int .u8 dat, aN 1, aV abi, aV aC, (aP big), aZ aQ, aZ aF, aJ ay, aK, aH pg aj aj, aK, aK, aK] 131 (0, 0)), (s, .cells #[.iface 178 (.slice (some ⟨b, o, none⟩) n c), aA 0, aA 0, aA 9223372036854775807, aA 9223372036854775807] 246 (0, 0))] (by kernel_rfl) ?_
 clear HF HM; intro a w HF HM
 refine aI ?_
 refine bf HF rfl ?_
 refine wp_skip ?_
 repeat (first | refine aS ?_ | refine aU ?_)
 replace HF := HF.sub (f_ b o n c s fb big ak aj au ah) (by kernel_rfl)
 refine wp_seq (wp_region_lit ?_)
 refine aO HF HM rfl 2 [] ((f_ b o n c s fb big ak aj au ah) ++ [(811, bD (IntKind.u64.wrap ((ah : Nat) : Int)))]) [(fb, .cells #[aN 1, .int .u8 dat, aN 1, aV abi, aV aC, (aP big), aZ aQ, aZ aF, aJ ay, aK, aH pg aj aj, aK, aK, aK] 131 (0, 0)), (s, .cells #[.iface 178 (.slice (some ⟨b, o, none⟩) n c), aA 0, aA 0, aA 9223372036854775807, aA 9223372036854775807] 246 (0, 0))] (by kernel_rfl) ?_
 clear HF HM; intro a w HF HM
 rw [show IntKind.u64.wrap ((ah : Nat) : Int) = ((ah : Nat) : Int) from IntWalk.u64_in _ (by omega)] at HF
 refine bn HF (by kernel_rfl) 98 #[bD 120, aJ ah] (by kernel_rfl) (fun w => by kernel_rfl) (Calls.mono (sS ah (by omega) w) ?_)
 rintro _ w1 ⟨rfl, hq⟩
 replace HM : Mm G w0 w1 [(fb, .cells #[aN 1, .int .u8 dat, aN 1, aV abi, aV aC, (aP big), aZ aQ, aZ aF, aJ ay, aK, aH pg aj aj, aK, aK, aK] 131 (0, 0)), (s, .cells #[.iface 178 (.slice (some ⟨b, o, none⟩) n c), aA 0, aA 0, aA 9223372036854775807, aA 9223372036854775807] 246 (0, 0))] := by first | (rw [hq]; exact HM) | (rw [← hq]; exact HM)
 clear hq
 refine ⟨_, rfl, ?_⟩; clear HF; intro a HF; replace HF := HF.sub ((f_ b o n c s fb big ak aj au ah) ++ [(811, aJ ah), (812, aB ah)]) (by kernel_rfl)
 refine aO HF HM rfl 1 [] ((f_ b o n c s fb big ak aj au ah) ++ [(35, aB ah)]) [(fb, .cells #[aN 1, .int .u8 dat, aN 1, aV abi, aV aC, (aP big), aZ aQ, aZ aF, aJ ay, aK, aH pg aj aj, aK, aK, aK] 131 (0, 0)), (s, .cells #[.iface 178 (.slice (some ⟨b, o, none⟩) n c), aA 0, aA 0, aA 9223372036854775807, aA 9223372036854775807] 246 (0, 0))] (by kernel_rfl) ?_
 clear HF HM; intro a w HF HM
 refine aI ?_
 refine wp_seq ?_
 refine wp_seq (wp_region_lit ?_)
 refine aO HF HM rfl 2 [] ((f_ b o n c s fb big ak aj au ah) ++ [(35, aB ah), (814, .bool (decide (((ah : Nat) : Int) < 0)))]) [(fb, .cells #[aN 1, .int .u8 dat, aN 1, aV abi, aV aC, (aP big), aZ aQ, aZ aF, aJ ay, aK, aH pg aj aj, aK, aK, aK] 131 (0, 0)), (s, .cells #[.iface 178 (.slice (some ⟨b, o, none⟩) n c), aA 0, aA 0, aA 9223372036854775807, aA 9223372036854775807] 246 (0, 0))] (by kernel_rfl) ?_
 clear HF HM; intro a w HF HM
 rw [show decide (((ah : Nat) : Int) < 0) = false from bZ (by omega)] at HF
 refine aI ?_
 refine bf HF rfl ?_
 refine wp_skip ?_
 repeat (first | refine aS ?_ | refine aU ?_)
 replace HF := HF.sub ((f_ b o n c s fb big ak aj au ah) ++ [(35, aB ah)]) (by kernel_rfl)
 refine wp_seq ?_
 refine wp_seq (wp_region_lit ?_)
 refine aO HF HM rfl 2 [] ((f_ b o n c s fb big ak aj au ah) ++ [(35, aB ah), (821, .bool (decide (0 < ((ah : Nat) : Int))))]) [(fb, .cells #[aN 1, .int .u8 dat, aN 1, aV abi, aV aC, (aP big), aZ aQ, aZ aF, aJ ay, aK, aH pg aj aj, aK, aK, aK] 131 (0, 0)), (s, .cells #[.iface 178 (.slice (some ⟨b, o, none⟩) n c), aA 0, aA 0, aA 9223372036854775807, aA 9223372036854775807] 246 (0, 0))] (by kernel_rfl) ?_
 clear HF HM; intro a w HF HM
 rw [show decide (0 < ((ah : Nat) : Int)) = true from dM (by omega)] at HF
 refine aO HF HM rfl 3 [] ((f_ b o n c s fb big ak aj au ah) ++ [(35, aB ah), (821, .bool true), (822, .bool true), (824, bD (IntKind.u64.wrap ((ah : Nat) : Int)))]) [(fb, .cells #[aN 1, .int .u8 dat, aN 1, aV abi, aV aC, (aP big), aZ aQ, aZ aF, aJ ay, aK, aH pg aj aj, aK, aK, aK] 131 (0, 0)), (s, .cells #[.iface 178 (.slice (some ⟨b, o, none⟩) n c), aA 0, aA 0, aA 9223372036854775807, aA 9223372036854775807] 246 (0, 0))] (by kernel_rfl) ?_
 clear HF HM; intro a w HF HM
 rw [show IntKind.u64.wrap ((ah : Nat) : Int) = ((ah : Nat) : Int) from IntWalk.u64_in _ (by omega)] at HF
 refine dP HF (by kernel_rfl) (bD (IntKind.u64.wrap ((18446744073709551615 : Int).tdiv ((ah : Nat) : Int)))) (by kernel_rfl) (sD rfl rfl rfl (by omega)) ?_
 clear HF; intro a HF; replace HF := HF.sub [(0, .iface 178 (.slice (some ⟨b, o, none⟩) n c)), (4, aG s), (8, aG fb), (9, (aP big)), (10, aB ak), (11, aA 32), (12, aB aj), (13, aB au), (14, aA 40), (15, aB ah), (16, aB (ah - 1)), (26, aA 40), (35, aB ah), (821, .bool true), (822, .bool true), (824, aJ ah), (825, bD (IntKind.u64.wrap ((18446744073709551615 : Int).tdiv ((ah : Nat) : Int))))] (by kernel_rfl)
 have hq := sN ah c2 b7
 rw [IntWalk.u64_in ((18446744073709551615 : Int).tdiv ((ah : Nat) : Int)) (by omega)] at HF
 refine aO HF HM rfl 3 [] ((f_ b o n c s fb big ak aj au ah) ++ [(35, aB ah), (821, .bool true), (822, .bool true), (828, .bool (decide (((18446744073709551615 : Int).tdiv ((ah : Nat) : Int)) < 40)))]) [(fb, .cells #[aN 1, .int .u8 dat, aN 1, aV abi, aV aC, (aP big), aZ aQ, aZ aF, aJ ay, aK, aH pg aj aj, aK, aK, aK] 131 (0, 0)), (s, .cells #[.iface 178 (.slice (some ⟨b, o, none⟩) n c), aA 0, aA 0, aA 9223372036854775807, aA 9223372036854775807] 246 (0, 0))] (by kernel_rfl) ?_
 clear HF HM; intro a w HF HM
 rw [show decide (((18446744073709551615 : Int).tdiv ((ah : Nat) : Int)) < 40) = false from bZ (by omega)] at HF
 refine aO HF HM rfl 1 [] ((f_ b o n c s fb big ak aj au ah) ++ [(35, aB ah), (829, .bool false)]) [(fb, .cells #[aN 1, .int .u8 dat, aN 1, aV abi, aV aC, (aP big), aZ aQ, aZ aF, aJ ay, aK, aH pg aj aj, aK, aK, aK] 131 (0, 0)), (s, .cells #[.iface 178 (.slice (some ⟨b, o, none⟩) n c), aA 0, aA 0, aA 9223372036854775807, aA 9223372036854775807] 246 (0, 0))] (by kernel_rfl) ?_
 clear HF HM; intro a w HF HM
 refine aI ?_
 refine bf HF rfl ?_
 refine wp_skip ?_
 repeat (first | refine aS ?_ | refine aU ?_)
 replace HF := HF.sub ((f_ b o n c s fb big ak aj au ah) ++ [(35, aB ah)]) (by kernel_rfl)
 refine wp_seq (wp_region_lit ?_)
 refine aO HF HM rfl 2 [] ((f_ b o n c s fb big ak aj au ah) ++ [(35, aB ah), (835, aG fb), (836, aB ah)]) [(fb, .cells #[aN 1, .int .u8 dat, aN 1, aV abi, aV aC, (aP big), aZ aQ, aZ aF, aJ ay, aK, aH pg aj aj, aK, aK, aK] 131 (0, 0)), (s, .cells #[.iface 178 (.slice (some ⟨b, o, none⟩) n c), aA 0, aA 0, aA 9223372036854775807, aA 9223372036854775807] 246 (0, 0))] (by kernel_rfl) ?_
 clear HF HM; intro a w HF HM
 refine jq HF HM rfl _ _ 126 rfl rfl 133 (.pointer none) 8 Tryd.underlying126 uM .i64 .i64 ah rfl rfl (by omega) (by unfold maxLen; omega) ?_
 intro a2 w2 aX je hgw Hw bI HF2; clear HF HM hgw; have HM := bI; have HF := HF2; clear bI HF2
 replace HF := HF.sub ((f_ b o n c s fb big ak aj au ah) ++ [(35, aB ah), (835, aG fb), (837, aH aX 0 ah)]) (by kernel_rfl)
 refine aO HF HM rfl 3 [[1]] ((f_ b o n c s fb big ak aj au ah) ++ [(35, aB ah)]) [(aX, .cells je 133 (0, 0)), (fb, .cells #[aN 1, .int .u8 dat, aN 1, aV abi, aV aC, (aP big), aZ aQ, aZ aF, aJ ay, aH aX 0 ah, aH pg aj aj, aK, aK, aK] 131 (0, 0)), (s, .cells #[.iface 178 (.slice (some ⟨b, o, none⟩) n c), aA 0, aA 0, aA 9223372036854775807, aA 9223372036854775807] 246 (0, 0))] (by kernel_rfl) ?_
 clear HF HM; intro a w HF HM
 refine aI ?_
 refine wp_seq (wp_region_lit ?_)
 refine aO HF HM rfl 1 [] ((f_ b o n c s fb big ak aj au ah) ++ [(35, aB ah), (840, aB ah)]) [(aX, .cells je 133 (0, 0)), (fb, .cells #[aN 1, .int .u8 dat, aN 1, aV abi, aV aC, (aP big), aZ aQ, aZ aF, aJ ay, aH aX 0 ah, aH pg aj aj, aK, aK, aK] 131 (0, 0)), (s, .cells #[.iface 178 (.slice (some ⟨b, o, none⟩) n c), aA 0, aA 0, aA 9223372036854775807, aA 9223372036854775807] 246 (0, 0))] (by kernel_rfl) ?_
 clear HF HM; intro a w HF HM
 refine jq HF HM rfl _ _ 222 rfl rfl 36 (lu 0) 4 Tryd.underlying222 rY .i64 .i64 ah rfl rfl (by omega) (by unfold maxLen; omega) ?_
 intro a2 w3 aT jU hgw Hz bI HF2; clear HF HM hgw; have HM := bI; have HF := HF2; clear bI HF2
 replace HF := HF.sub ((f_ b o n c s fb big ak aj au ah) ++ [(35, aB ah), (841, aH aT 0 ah)]) (by kernel_rfl)
 refine aO HF HM rfl 1 [] ((f_ b o n c s fb big ak aj au ah) ++ [(35, aB ah), (41, aH aT 0 ah)]) [(aT, .cells jU 36 (0, 0)), (aX, .cells je 133 (0, 0)), (fb, .cells #[aN 1, .int .u8 dat, aN 1, aV abi, aV aC, (aP big), aZ aQ, aZ aF, aJ ay, aH aX 0 ah, aH pg aj aj, aK, aK, aK] 131 (0, 0)), (s, .cells #[.iface 178 (.slice (some ⟨b, o, none⟩) n c), aA 0, aA 0, aA 9223372036854775807, aA 9223372036854775807] 246 (0, 0))] (by kernel_rfl) ?_
 clear HF HM; intro a w HF HM
 refine aI ?_
 refine wp_seq (wp_region_lit ?_)
 refine aO HF HM rfl 4 [] ((f_ b o n c s fb big ak aj au ah) ++ [(35, aB ah), (41, aH aT 0 ah), (844, .iface 144 (aG s)), (846, bD (IntKind.u64.wrap ((ah : Nat) : Int)))]) [(aT, .cells jU 36 (0, 0)), (aX, .cells je 133 (0, 0)), (fb, .cells #[aN 1, .int .u8 dat, aN 1, aV abi, aV aC, (aP big), aZ aQ, aZ aF, aJ ay, aH aX 0 ah, aH pg aj aj, aK, aK, aK] 131 (0, 0)), (s, .cells #[.iface 178 (.slice (some ⟨b, o, none⟩) n c), aA 0, aA 0, aA 9223372036854775807, aA 9223372036854775807] 246 (0, 0))] (by kernel_rfl) ?_
 clear HF HM; intro a w HF HM
 rw [show IntKind.u64.wrap ((ah : Nat) : Int) = ((ah : Nat) : Int) from IntWalk.u64_in _ (by omega)] at HF
 refine aO HF HM rfl 3 [] ((f_ b o n c s fb big ak aj au ah) ++ [(35, aB ah), (41, aH aT 0 ah), (844, .iface 144 (aG s)), (849, bD (IntKind.u64.wrap (((ah : Nat) : Int) * 40)))]) [(aT, .cells jU 36 (0, 0)), (aX, .cells je 133 (0, 0)), (fb, .cells #[aN 1, .int .u8 dat, aN 1, aV abi, aV aC, (aP big), aZ aQ, aZ aF, aJ ay, aH aX 0 ah, aH pg aj aj, aK, aK, aK] 131 (0, 0)), (s, .cells #[.iface 178 (.slice (some ⟨b, o, none⟩) n c), aA 0, aA 0, aA 9223372036854775807, aA 9223372036854775807] 246 (0, 0))] (by kernel_rfl) ?_
 clear HF HM; intro a w HF HM
 rw [show IntKind.u64.wrap (((ah : Nat) : Int) * 40) = (((ah * 40) : Nat) : Int) from (IntWalk.u64_in _ (by omega)).trans (by omega)] at HF
 refine aO HF HM rfl 1 [] ((f_ b o n c s fb big ak aj au ah) ++ [(35, aB ah), (41, aH aT 0 ah), (844, .iface 144 (aG s)), (849, aJ (ah * 40)), (850, aB au)]) [(aT, .cells jU 36 (0, 0)), (aX, .cells je 133 (0, 0)), (fb, .cells #[aN 1, .int .u8 dat, aN 1, aV abi, aV aC, (aP big), aZ aQ, aZ aF, aJ ay, aH aX 0 ah, aH pg aj aj, aK, aK, aK] 131 (0, 0)), (s, .cells #[.iface 178 (.slice (some ⟨b, o, none⟩) n c), aA 0, aA 0, aA 9223372036854775807, aA 9223372036854775807] 246 (0, 0))] (by kernel_rfl) ?_
 clear HF HM; intro a w HF HM
 refine bn HF (by kernel_rfl) 99 #[.iface 144 (aG s), aJ (ah * 40), aB au] (by kernel_rfl) (fun w => by kernel_rfl) (Calls.mono (m_ l b o n c hl hnc s (ah * 40) 0 au 0 9223372036854775807 9223372036854775807 (by omega) (by omega) (by omega) (by omega) (by omega) (by omega) w (HM.row hr (by intro b' o' s' e; injection e with e; injection e with e; subst e; exact qP)) (Nat.lt_of_lt_of_le hbl HM.size) hbs (HM.get (i := 3) rfl)) ?_)
 rintro _ w4 ⟨sd, rfl, hb, hge, hgn⟩
 replace HM : Mm G w0 w4 [(sd, .cells (((l.drop (0 + au)).take (ah * 40)).map Bv).toArray 5 (0, 0)), (aT, .cells jU 36 (0, 0)), (aX, .cells je 133 (0, 0)), (fb, .cells #[aN 1, .int .u8 dat, aN 1, aV abi, aV aC, (aP big), aZ aQ, aZ aF, aJ ay, aH aX 0 ah, aH pg aj aj, aK, aK, aK] 131 (0, 0)), (s, .cells #[.iface 178 (.slice (some ⟨b, o, none⟩) n c), aA 0, aA 0, aA 9223372036854775807, aA 9223372036854775807] 246 (0, 0))] := HM.push hb hge hgn
 clear hge hgn
 refine ⟨_, rfl, ?_⟩; clear HF; intro a HF; replace HF := HF.sub ((f_ b o n c s fb big ak aj au ah) ++ [(35, aB ah), (41, aH aT 0 ah), (844, .iface 144 (aG s)), (849, aJ (ah * 40)), (850, aB au), (851, .tuple #[aH sd (ah * 40) (ah * 40), .nilIface])]) (by kernel_rfl)
 refine aO HF HM rfl 5 [] ((f_ b o n c s fb big ak aj au ah) ++ [(35, aB ah), (41, aH aT 0 ah), (42, aH sd (ah * 40) (ah * 40)), (37, .nilIface)]) [(sd, .cells (((l.drop (0 + au)).take (ah * 40)).map Bv).toArray 5 (0, 0)), (aT, .cells jU 36 (0, 0)), (aX, .cells je 133 (0, 0)), (fb, .cells #[aN 1, .int .u8 dat, aN 1, aV abi, aV aC, (aP big), aZ aQ, aZ aF, aJ ay, aH aX 0 ah, aH pg aj aj, aK, aK, aK] 131 (0, 0)), (s, .cells #[.iface 178 (.slice (some ⟨b, o, none⟩) n c), aA 0, aA 0, aA 9223372036854775807, aA 9223372036854775807] 246 (0, 0))] (by kernel_rfl) ?_
 clear HF HM; intro a w HF HM
 refine aI ?_
 refine wp_seq ?_
 refine wp_seq (wp_region_lit ?_)
 refine aO HF HM rfl 2 [] ((f_ b o n c s fb big ak aj au ah) ++ [(35, aB ah), (41, aH aT 0 ah), (42, aH sd (ah * 40) (ah * 40)), (37, .nilIface), (855, .bool false)]) [(sd, .cells (((l.drop (0 + au)).take (ah * 40)).map Bv).toArray 5 (0, 0)), (aT, .cells jU 36 (0, 0)), (aX, .cells je 133 (0, 0)), (fb, .cells #[aN 1, .int .u8 dat, aN 1, aV abi, aV aC, (aP big), aZ aQ, aZ aF, aJ ay, aH aX 0 ah, aH pg aj aj, aK, aK, aK] 131 (0, 0)), (s, .cells #[.iface 178 (.slice (some ⟨b, o, none⟩) n c), aA 0, aA 0, aA 9223372036854775807, aA 9223372036854775807] 246 (0, 0))] (by kernel_rfl) ?_
 clear HF HM; intro a w HF HM
 refine aI ?_
 refine bf HF rfl ?_
 refine wp_skip ?_
 repeat (first | refine aS ?_ | refine aU ?_)
 replace HF := HF.sub ((f_ b o n c s fb big ak aj au ah) ++ [(41, aH aT 0 ah), (42, aH sd (ah * 40) (ah * 40))]) (by kernel_rfl)
 replace HF := HF.sub ((f_ b o n c s fb big ak aj au ah) ++ [(41, aH aT 0 ah), (42, aH sd (ah * 40) (ah * 40))]) (by kernel_rfl)
 rw [Nat.zero_add] at HM
 exact K a w aX je aT jU sd Hw Hz HF HM

abbrev fZ := fun (b : Nat) (o : Nat) (n : Nat) (c : Nat) (s : Nat) (fb : Nat) (big : Bool) (ak : Nat) (aj : Nat) (au : Nat) (ah : Nat) => ([(0, .iface 178 (.slice (some ⟨b, o, none⟩) n c)), (4, aG s), (8, aG fb), (9, (aP big)), (10, aB ak), (11, aA 56), (12, aB aj), (13, aB au), (14, aA 64), (15, aB ah), (16, aB (ah - 1)), (26, aA 64)] : Slots)
theorem LX (l : List UInt8) (b o n c : Nat) (hl : n = l.length) (hnc : n ≤ c) (big : Bool) (abi aC aQ aF ay ak aj au ah : Nat) (dat : Int) (b1 : aQ < 65536) (b2 : aF < 65536) (b3 : ay ≤ 18446744073709551615) (b4 : ak < 4611686018427387904) (b5 : au < 4611686018427387904) (b6 : aj < 200) (b7 : ah < 200) (c1 : 0 < au) (c2 : 0 < ah) (c4 : au < n) (c5 : au + (ah * 64) ≤ n) {Q : Exit → Act → World → Prop} (w0 : World) (hbl : b < w0.heap.size) (hr : Row w0 (some ⟨b, o, none⟩) (l.map Bv)) (G : List Nat) (qP : b ∉ G) (a : Act) (w : World) (s fb pg : Nat) (hbs : b ≠ s) (HF : Fr 1287 a (fZ b o n c s fb big ak aj au ah)) (HM : Mm G w0 w [(fb, .cells #[aN 2, .int .u8 dat, aN 1, aV abi, aV aC, (aP big), aZ aQ, aZ aF, aJ ay, aK, aH pg aj aj, aK, aK, aK] 131 (0, 0)), (s, .cells #[.iface 178 (.slice (some ⟨b, o, none⟩) n c), aA 0, aA 0, aA 9223372036854775807, aA 9223372036854775807] 246 (0, 0))])
  (K : ∀ a w aX je aT jU sd, je.size = ah → jU.size = ah → Fr 1287 a ((fZ b o n c s fb big ak aj au ah) ++ [(41, aH aT 0 ah), (42, aH sd (ah * 64) (ah * 64))]) → Mm G w0 w [(sd, .cells (((l.drop au).take (ah * 64)).map Bv).toArray 5 (0, 0)), (aT, .cells jU 36 (0, 0)), (aX, .cells je 133 (0, 0)), (fb, .cells #[aN 2, .int .u8 dat, aN 1, aV abi, aV aC, (aP big), aZ aQ, aZ aF, aJ ay, aH aX 0 ah, aH pg aj aj, aK, aK, aK] 131 (0, 0)), (s, .cells #[.iface 178 (.slice (some ⟨b, o, none⟩) n c), aA 0, aA 0, aA 9223372036854775807, aA 9223372036854775807] 246 (0, 0))] → (spine Tryd.f78 44).wp Tryd.prog Q a w) : (spine Tryd.f78 36).wp Tryd.prog Q a w := by
 refine wp_seq ?_
 refine wp_seq (wp_region_lit ?_)
 refine aO HF HM rfl 2 [] ((fZ b o n c s fb big ak aj au ah) ++ [(799, .bool (decide (0 < ((ah : Nat) : Int))))]) [(fb, .cells #[aN 2, .int .u8 dat, aN 1, aV abi, aV aC, (aP big), aZ aQ, aZ aF, aJ ay, aK, aH pg aj aj, aK, aK, aK] 131 (0, 0)), (s, .cells #[.iface 178 (.slice (some ⟨b, o, none⟩) n c), aA 0, aA 0, aA 9223372036854775807, aA 9223372036854775807] 246 (0, 0))] (by kernel_rfl) ?_
 clear HF HM; intro a w HF HM
 rw [show decide (0 < ((ah : Nat) : Int)) = true from dM (by omega)] at HF
 refine aO HF HM rfl 5 [] ((fZ b o n c s fb big ak aj au ah) ++ [(804, .bool false)]) [(fb, .cells #[aN 2, .int .u8 dat, aN 1, aV abi, aV aC, (aP big), aZ aQ, aZ aF, aJ ay, aK, aH pg aj aj, aK, aK, aK] 131 (0, 0)), (s, .cells #[.iface 178 (.slice (some ⟨b, o, none⟩) n c), aA 0, aA 0, aA 9223372036854775807, aA 9223372036854775807] 246 (0, 0))] (by kernel_rfl) ?_
 clear HF HM; intro a w HF HM
 refine aI ?_
 refine bf HF rfl ?_
 refine wp_skip ?_
 repeat (first | refine aS ?_ | refine aU ?_)
 replace HF := HF.sub (fZ b o n c s fb big ak aj au ah) (by kernel_rfl)
 refine wp_seq (wp_region_lit ?_)
 refine aO HF HM rfl 2 [] ((fZ b o n c s fb big ak aj au ah) ++ [(811, bD (IntKind.u64.wrap ((ah : Nat) : Int)))]) [(fb, .cells #[aN 2, .int .u8 dat, aN 1, aV abi, aV aC, (aP big), aZ aQ, aZ aF, aJ ay, aK, aH pg aj aj, aK, aK, aK] 131 (0, 0)), (s, .cells #[.iface 178 (.slice (some ⟨b, o, none⟩) n c), aA 0, aA 0, aA 9223372036854775807, aA 9223372036854775807] 246 (0, 0))] (by kernel_rfl) ?_
 clear HF HM; intro a w HF HM
 rw [show IntKind.u64.wrap ((ah : Nat) : Int) = ((ah : Nat) : Int) from IntWalk.u64_in _ (by omega)] at HF
 refine bn HF (by kernel_rfl) 98 #[bD 120, aJ ah] (by kernel_rfl) (fun w => by kernel_rfl) (Calls.mono (sS ah (by omega) w) ?_)
 rintro _ w1 ⟨rfl, hq⟩
 replace HM : Mm G w0 w1 [(fb, .cells #[aN 2, .int .u8 dat, aN 1, aV abi, aV aC, (aP big), aZ aQ, aZ aF, aJ ay, aK, aH pg aj aj, aK, aK, aK] 131 (0, 0)), (s, .cells #[.iface 178 (.slice (some ⟨b, o, none⟩) n c), aA 0, aA 0, aA 9223372036854775807, aA 9223372036854775807] 246 (0, 0))] := by first | (rw [hq]; exact HM) | (rw [← hq]; exact HM)
 clear hq
 refine ⟨_, rfl, ?_⟩; clear HF; intro a HF; replace HF := HF.sub ((fZ b o n c s fb big ak aj au ah) ++ [(811, aJ ah), (812, aB ah)]) (by kernel_rfl)
 refine aO HF HM rfl 1 [] ((fZ b o n c s fb big ak aj au ah) ++ [(35, aB ah)]) [(fb, .cells #[aN 2, .int .u8 dat, aN 1, aV abi, aV aC, (aP big), aZ aQ, aZ aF, aJ ay, aK, aH pg aj aj, aK, aK, aK] 131 (0, 0)), (s, .cells #[.iface 178 (.slice (some ⟨b, o, none⟩) n c), aA 0, aA 0, aA 9223372036854775807, aA 9223372036854775807] 246 (0, 0))] (by kernel_rfl) ?_
 clear HF HM; intro a w HF HM
 refine aI ?_
 refine wp_seq ?_
 refine wp_seq (wp_region_lit ?_)
 refine aO HF HM rfl 2 [] ((fZ b o n c s fb big ak aj au ah) ++ [(35, aB ah), (814, .bool (decide (((ah : Nat) : Int) < 0)))]) [(fb, .cells #[aN 2, .int .u8 dat, aN 1, aV abi, aV aC, (aP big), aZ aQ, aZ aF, aJ ay, aK, aH pg aj aj, aK, aK, aK] 131 (0, 0)), (s, .cells #[.iface 178 (.slice (some ⟨b, o, none⟩) n c), aA 0, aA 0, aA 9223372036854775807, aA 9223372036854775807] 246 (0, 0))] (by kernel_rfl) ?_
 clear HF HM; intro a w HF HM
 rw [show decide (((ah : Nat) : Int) < 0) = false from bZ (by omega)] at HF
 refine aI ?_
 refine bf HF rfl ?_
 refine wp_skip ?_
 repeat (first | refine aS ?_ | refine aU ?_)
 replace HF := HF.sub ((fZ b o n c s fb big ak aj au ah) ++ [(35, aB ah)]) (by kernel_rfl)
 refine wp_seq ?_
 refine wp_seq (wp_region_lit ?_)
 refine aO HF HM rfl 2 [] ((fZ b o n c s fb big ak aj au ah) ++ [(35, aB ah), (821, .bool (decide (0 < ((ah : Nat) : Int))))]) [(fb, .cells #[aN 2, .int .u8 dat, aN 1, aV abi, aV aC, (aP big), aZ aQ, aZ aF, aJ ay, aK, aH pg aj aj, aK, aK, aK] 131 (0, 0)), (s, .cells #[.iface 178 (.slice (some ⟨b, o, none⟩) n c), aA 0, aA 0, aA 9223372036854775807, aA 9223372036854775807] 246 (0, 0))] (by kernel_rfl) ?_
 clear HF HM; intro a w HF HM
 rw [show decide (0 < ((ah : Nat) : Int)) = true from dM (by omega)] at HF
 refine aO HF HM rfl 3 [] ((fZ b o n c s fb big ak aj au ah) ++ [(35, aB ah), (821, .bool true), (822, .bool true), (824, bD (IntKind.u64.wrap ((ah : Nat) : Int)))]) [(fb, .cells #[aN 2, .int .u8 dat, aN 1, aV abi, aV aC, (aP big), aZ aQ, aZ aF, aJ ay, aK, aH pg aj aj, aK, aK, aK] 131 (0, 0)), (s, .cells #[.iface 178 (.slice (some ⟨b, o, none⟩) n c), aA 0, aA 0, aA 9223372036854775807, aA 9223372036854775807] 246 (0, 0))] (by kernel_rfl) ?_
 clear HF HM; intro a w HF HM
 rw [show IntKind.u64.wrap ((ah : Nat) : Int) = ((ah : Nat) : Int) from IntWalk.u64_in _ (by omega)] at HF
 refine dP HF (by kernel_rfl) (bD (IntKind.u64.wrap ((18446744073709551615 : Int).tdiv ((ah : Nat) : Int)))) (by kernel_rfl) (sD rfl rfl rfl (by omega)) ?_
 clear HF; intro a HF; replace HF := HF.sub [(0, .iface 178 (.slice (some ⟨b, o, none⟩) n c)), (4, aG s), (8, aG fb), (9, (aP big)), (10, aB ak), (11, aA 56), (12, aB aj), (13, aB au), (14, aA 64), (15, aB ah), (16, aB (ah - 1)), (26, aA 64), (35, aB ah), (821, .bool true), (822, .bool true), (824, aJ ah), (825, bD (IntKind.u64.wrap ((18446744073709551615 : Int).tdiv ((ah : Nat) : Int))))] (by kernel_rfl)
 have hq := sN ah c2 b7
 rw [IntWalk.u64_in ((18446744073709551615 : Int).tdiv ((ah : Nat) : Int)) (by omega)] at HF
 refine aO HF HM rfl 3 [] ((fZ b o n c s fb big ak aj au ah) ++ [(35, aB ah), (821, .bool true), (822, .bool true), (828, .bool (decide (((18446744073709551615 : Int).tdiv ((ah : Nat) : Int)) < 64)))]) [(fb, .cells #[aN 2, .int .u8 dat, aN 1, aV abi, aV aC, (aP big), aZ aQ, aZ aF, aJ ay, aK, aH pg aj aj, aK, aK, aK] 131 (0, 0)), (s, .cells #[.iface 178 (.slice (some ⟨b, o, none⟩) n c), aA 0, aA 0, aA 9223372036854775807, aA 9223372036854775807] 246 (0, 0))] (by kernel_rfl) ?_
 clear HF HM; intro a w HF HM
 rw [show decide (((18446744073709551615 : Int).tdiv ((ah : Nat) : Int)) < 64) = false from bZ (by omega)] at HF
 refine aO HF HM rfl 1 [] ((fZ b o n c s fb big ak aj au ah) ++ [(35, aB ah), (829, .bool false)]) [(fb, .cells #[aN 2, .int .u8 dat, aN 1, aV abi, aV aC, (aP big), aZ aQ, aZ aF, aJ ay, aK, aH pg aj aj, aK, aK, aK] 131 (0, 0)), (s, .cells #[.iface 178 (.slice (some ⟨b, o, none⟩) n c), aA 0, aA 0, aA 9223372036854775807, aA 9223372036854775807] 246 (0, 0))] (by kernel_rfl) ?_
 clear HF HM; intro a w HF HM
 refine aI ?_
 refine bf HF rfl ?_
 refine wp_skip ?_
 repeat (first | refine aS ?_ | refine aU ?_)
 replace HF := HF.sub ((fZ b o n c s fb big ak aj au ah) ++ [(35, aB ah)]) (by kernel_rfl)
 refine wp_seq (wp_region_lit ?_)
 refine aO HF HM rfl 2 [] ((fZ b o n c s fb big ak aj au ah) ++ [(35, aB ah), (835, aG fb), (836, aB ah)]) [(fb, .cells #[aN 2, .int .u8 dat, aN 1, aV abi, aV aC, (aP big), aZ aQ, aZ aF, aJ ay, aK, aH pg aj aj, aK, aK, aK] 131 (0, 0)), (s, .cells #[.iface 178 (.slice (some ⟨b, o, none⟩) n c), aA 0, aA 0, aA 9223372036854775807, aA 9223372036854775807] 246 (0, 0))] (by kernel_rfl) ?_
 clear HF HM; intro a w HF HM
 refine jq HF HM rfl _ _ 126 rfl rfl 133 (.pointer none) 8 Tryd.underlying126 uM .i64 .i64 ah rfl rfl (by omega) (by unfold maxLen; omega) ?_
 intro a2 w2 aX je hgw Hw bI HF2; clear HF HM hgw; have HM := bI; have HF := HF2; clear bI HF2
 replace HF := HF.sub ((fZ b o n c s fb big ak aj au ah) ++ [(35, aB ah), (835, aG fb), (837, aH aX 0 ah)]) (by kernel_rfl)
 refine aO HF HM rfl 3 [[1]] ((fZ b o n c s fb big ak aj au ah) ++ [(35, aB ah)]) [(aX, .cells je 133 (0, 0)), (fb, .cells #[aN 2, .int .u8 dat, aN 1, aV abi, aV aC, (aP big), aZ aQ, aZ aF, aJ ay, aH aX 0 ah, aH pg aj aj, aK, aK, aK] 131 (0, 0)), (s, .cells #[.iface 178 (.slice (some ⟨b, o, none⟩) n c), aA 0, aA 0, aA 9223372036854775807, aA 9223372036854775807] 246 (0, 0))] (by kernel_rfl) ?_
 clear HF HM; intro a w HF HM
 refine aI ?_
 refine wp_seq (wp_region_lit ?_)
 refine aO HF HM rfl 1 [] ((fZ b o n c s fb big ak aj au ah) ++ [(35, aB ah), (840, aB ah)]) [(aX, .cells je 133 (0, 0)), (fb, .cells #[aN 2, .int .u8 dat, aN 1, aV abi, aV aC, (aP big), aZ aQ, aZ aF, aJ ay, aH aX 0 ah, aH pg aj aj, aK, aK, aK] 131 (0, 0)), (s, .cells #[.iface 178 (.slice (some ⟨b, o, none⟩) n c), aA 0, aA 0, aA 9223372036854775807, aA 9223372036854775807] 246 (0, 0))] (by kernel_rfl) ?_
 clear HF HM; intro a w HF HM
 refine jq HF HM rfl _ _ 222 rfl rfl 36 (lu 0) 4 Tryd.underlying222 rY .i64 .i64 ah rfl rfl (by omega) (by unfold maxLen; omega) ?_
 intro a2 w3 aT jU hgw Hz bI HF2; clear HF HM hgw; have HM := bI; have HF := HF2; clear bI HF2
 replace HF := HF.sub ((fZ b o n c s fb big ak aj au ah) ++ [(35, aB ah), (841, aH aT 0 ah)]) (by kernel_rfl)
 refine aO HF HM rfl 1 [] ((fZ b o n c s fb big ak aj au ah) ++ [(35, aB ah), (41, aH aT 0 ah)]) [(aT, .cells jU 36 (0, 0)), (aX, .cells je 133 (0, 0)), (fb, .cells #[aN 2, .int .u8 dat, aN 1, aV abi, aV aC, (aP big), aZ aQ, aZ aF, aJ ay, aH aX 0 ah, aH pg aj aj, aK, aK, aK] 131 (0, 0)), (s, .cells #[.iface 178 (.slice (some ⟨b, o, none⟩) n c), aA 0, aA 0, aA 9223372036854775807, aA 9223372036854775807] 246 (0, 0))] (by kernel_rfl) ?_
 clear HF HM; intro a w HF HM
 refine aI ?_
 refine wp_seq (wp_region_lit ?_)
 refine aO HF HM rfl 4 [] ((fZ b o n c s fb big ak aj au ah) ++ [(35, aB ah), (41, aH aT 0 ah), (844, .iface 144 (aG s)), (846, bD (IntKind.u64.wrap ((ah : Nat) : Int)))]) [(aT, .cells jU 36 (0, 0)), (aX, .cells je 133 (0, 0)), (fb, .cells #[aN 2, .int .u8 dat, aN 1, aV abi, aV aC, (aP big), aZ aQ, aZ aF, aJ ay, aH aX 0 ah, aH pg aj aj, aK, aK, aK] 131 (0, 0)), (s, .cells #[.iface 178 (.slice (some ⟨b, o, none⟩) n c), aA 0, aA 0, aA 9223372036854775807, aA 9223372036854775807] 246 (0, 0))] (by kernel_rfl) ?_
 clear HF HM; intro a w HF HM
 rw [show IntKind.u64.wrap ((ah : Nat) : Int) = ((ah : Nat) : Int) from IntWalk.u64_in _ (by omega)] at HF
 refine aO HF HM rfl 3 [] ((fZ b o n c s fb big ak aj au ah) ++ [(35, aB ah), (41, aH aT 0 ah), (844, .iface 144 (aG s)), (849, bD (IntKind.u64.wrap (((ah : Nat) : Int) * 64)))]) [(aT, .cells jU 36 (0, 0)), (aX, .cells je 133 (0, 0)), (fb, .cells #[aN 2, .int .u8 dat, aN 1, aV abi, aV aC, (aP big), aZ aQ, aZ aF, aJ ay, aH aX 0 ah, aH pg aj aj, aK, aK, aK] 131 (0, 0)), (s, .cells #[.iface 178 (.slice (some ⟨b, o, none⟩) n c), aA 0, aA 0, aA 9223372036854775807, aA 9223372036854775807] 246 (0, 0))] (by kernel_rfl) ?_
 clear HF HM; intro a w HF HM
 rw [show IntKind.u64.wrap (((ah : Nat) : Int) * 64) = (((ah * 64) : Nat) : Int) from (IntWalk.u64_in _ (by omega)).trans (by omega)] at HF
 refine aO HF HM rfl 1 [] ((fZ b o n c s fb big ak aj au ah) ++ [(35, aB ah), (41, aH aT 0 ah), (844, .iface 144 (aG s)), (849, aJ (ah * 64)), (850, aB au)]) [(aT, .cells jU 36 (0, 0)), (aX, .cells je 133 (0, 0)), (fb, .cells #[aN 2, .int .u8 dat, aN 1, aV abi, aV aC, (aP big), aZ aQ, aZ aF, aJ ay, aH aX 0 ah, aH pg aj aj, aK, aK, aK] 131 (0, 0)), (s, .cells #[.iface 178 (.slice (some ⟨b, o, none⟩) n c), aA 0, aA 0, aA 9223372036854775807, aA 9223372036854775807] 246 (0, 0))] (by kernel_rfl) ?_
 clear HF HM; intro a w HF HM
 refine bn HF (by kernel_rfl) 99 #[.iface 144 (aG s), aJ (ah * 64), aB au] (by kernel_rfl) (fun w => by kernel_rfl) (Calls.mono (m_ l b o n c hl hnc s (ah * 64) 0 au 0 9223372036854775807 9223372036854775807 (by omega) (by omega) (by omega) (by omega) (by omega) (by omega) w (HM.row hr (by intro b' o' s' e; injection e with e; injection e with e; subst e; exact qP)) (Nat.lt_of_lt_of_le hbl HM.size) hbs (HM.get (i := 3) rfl)) ?_)
 rintro _ w4 ⟨sd, rfl, hb, hge, hgn⟩
 replace HM : Mm G w0 w4 [(sd, .cells (((l.drop (0 + au)).take (ah * 64)).map Bv).toArray 5 (0, 0)), (aT, .cells jU 36 (0, 0)), (aX, .cells je 133 (0, 0)), (fb, .cells #[aN 2, .int .u8 dat, aN 1, aV abi, aV aC, (aP big), aZ aQ, aZ aF, aJ ay, aH aX 0 ah, aH pg aj aj, aK, aK, aK] 131 (0, 0)), (s, .cells #[.iface 178 (.slice (some ⟨b, o, none⟩) n c), aA 0, aA 0, aA 9223372036854775807, aA 9223372036854775807] 246 (0, 0))] := HM.push hb hge hgn
 clear hge hgn
 refine ⟨_, rfl, ?_⟩; clear HF; intro a HF; replace HF := HF.sub ((fZ b o n c s fb big ak aj au ah) ++ [(35, aB ah), (41, aH aT 0 ah), (844, .iface 144 (aG s)), (849, aJ (ah * 64)), (850, aB au), (851, .tuple #[aH sd (ah * 64) (ah * 64), .nilIface])]) (by kernel_rfl)
 refine aO HF HM rfl 5 [] ((fZ b o n c s fb big ak aj au ah) ++ [(35, aB ah), (41, aH aT 0 ah), (42, aH sd (ah * 64) (ah * 64)), (37, .nilIface)]) [(sd, .cells (((l.drop (0 + au)).take (ah * 64)).map Bv).toArray 5 (0, 0)), (aT, .cells jU 36 (0, 0)), (aX, .cells je 133 (0, 0)), (fb, .cells #[aN 2, .int .u8 dat, aN 1, aV abi, aV aC, (aP big), aZ aQ, aZ aF, aJ ay, aH aX 0 ah, aH pg aj aj, aK, aK, aK] 131 (0, 0)), (s, .cells #[.iface 178 (.slice (some ⟨b, o, none⟩) n c), aA 0, aA 0, aA 9223372036854775807, aA 9223372036854775807] 246 (0, 0))] (by kernel_rfl) ?_
 clear HF HM; intro a w HF HM
 refine aI ?_
 refine wp_seq ?_
 refine wp_seq (wp_region_lit ?_)
 refine aO HF HM rfl 2 [] ((fZ b o n c s fb big ak aj au ah) ++ [(35, aB ah), (41, aH aT 0 ah), (42, aH sd (ah * 64) (ah * 64)), (37, .nilIface), (855, .bool false)]) [(sd, .cells (((l.drop (0 + au)).take (ah * 64)).map Bv).toArray 5 (0, 0)), (aT, .cells jU 36 (0, 0)), (aX, .cells je 133 (0, 0)), (fb, .cells #[aN 2, .int .u8 dat, aN 1, aV abi, aV aC, (aP big), aZ aQ, aZ aF, aJ ay, aH aX 0 ah, aH pg aj aj, aK, aK, aK] 131 (0, 0)), (s, .cells #[.iface 178 (.slice (some ⟨b, o, none⟩) n c), aA 0, aA 0, aA 9223372036854775807, aA 9223372036854775807] 246 (0, 0))] (by kernel_rfl) ?_
 clear HF HM; intro a w HF HM
 refine aI ?_
 refine bf HF rfl ?_
 refine wp_skip ?_
 repeat (first | refine aS ?_ | refine aU ?_)
 replace HF := HF.sub ((fZ b o n c s fb big ak aj au ah) ++ [(41, aH aT 0 ah), (42, aH sd (ah * 64) (ah * 64))]) (by kernel_rfl)
 replace HF := HF.sub ((fZ b o n c s fb big ak aj au ah) ++ [(41, aH aT 0 ah), (42, aH sd (ah * 64) (ah * 64))]) (by kernel_rfl)
 rw [Nat.zero_add] at HM
 exact K a w aX je aT jU sd Hw Hz HF HM

end Go.Proofs.YtdgehpocmfjbiaaDoor
namespace Go.Proofs.YtdgehpocmfjbiaaDoor
open Go.RowKit

theorem Kv (l : List UInt8) (hl : l.length < 4611686018427387904) (w0 : World) {KK : Act → World → Prop} {QQ : Exit → Act → World → Prop} (Kt : 0 ∉ l → ∀ a, Fr 14 a [(0, .string ⟨l.toArray⟩)] → KK a w0) (Kf : 0 ∈ l → ∀ a, Fr 14 a [(2, .bool false)] → QQ .ret a w0) (i : Nat) (hi : i = l.length) (h0 : 0 ∉ l) {KX : Act → World → Prop}  (a : Act) (HF : Fr 14 a [(0, .string ⟨l.toArray⟩), (3, aB i)]) :
  (oD (spine Tryd.f53 1)).wp Tryd.prog (Exit.then KX (Exit.inBlock 0 (Exit.then KK QQ))) a w0 := by
 have HM : Mm [] w0 w0 [] := Mm.start w0
 have hsz : ((⟨l.toArray⟩ : ByteArray).size : Nat) = l.length := by simp [ByteArray.size]
 refine wp_seq ?_
 refine wp_seq (wp_region_lit ?_)
 refine wp_pure HF HM rfl 4 [] [(0, .string ⟨l.toArray⟩), (3, aB i), (7, .bool (decide (((i : Nat) : Int) < (((⟨l.toArray⟩ : ByteArray).size : Nat) : Int))))] (by kernel_rfl) ?_
 clear HF; intro a HF
 rw [show decide (((i : Nat) : Int) < (((⟨l.toArray⟩ : ByteArray).size : Nat) : Int)) = false from bZ (by omega)] at HF
 refine aI ?_
 refine bf HF rfl ?_
 replace HF := HF.sub [(0, .string ⟨l.toArray⟩)] (by kernel_rfl)
 refine wp_exit ?_
 repeat (first | refine iW ?_ | refine kH ?_ | refine aS ?_)
 exact Kt (by assumption) a HF

theorem Jb (l : List UInt8) (hl : l.length < 4611686018427387904) (w0 : World) {KK : Act → World → Prop} {QQ : Exit → Act → World → Prop} (Kt : 0 ∉ l → ∀ a, Fr 14 a [(0, .string ⟨l.toArray⟩)] → KK a w0) (Kf : 0 ∈ l → ∀ a, Fr 14 a [(2, .bool false)] → QQ .ret a w0) (i : Nat) (b : UInt8) (hb : l[i]? = some b) (hlt : i < l.length) (hz : (((b.toNat : Nat) : Int) == 0) = true) (h0 : 0 ∈ l) {KX : Act → World → Prop}  (a : Act) (HF : Fr 14 a [(0, .string ⟨l.toArray⟩), (3, aB i)]) :
  (oD (spine Tryd.f53 1)).wp Tryd.prog (Exit.then KX (Exit.inBlock 0 (Exit.then KK QQ))) a w0 := by
 have HM : Mm [] w0 w0 [] := Mm.start w0
 have hsz : ((⟨l.toArray⟩ : ByteArray).size : Nat) = l.length := by simp [ByteArray.size]
 refine wp_seq ?_
 refine wp_seq (wp_region_lit ?_)
 refine wp_pure HF HM rfl 4 [] [(0, .string ⟨l.toArray⟩), (3, aB i), (7, .bool (decide (((i : Nat) : Int) < (((⟨l.toArray⟩ : ByteArray).size : Nat) : Int))))] (by kernel_rfl) ?_
 clear HF; intro a HF
 rw [show decide (((i : Nat) : Int) < (((⟨l.toArray⟩ : ByteArray).size : Nat) : Int)) = true from dM (by omega)] at HF
 refine aI ?_
 refine bF HF rfl ?_
 refine wp_skip ?_
 repeat (first | refine aS ?_ | refine aU ?_)
 replace HF := HF.sub [(0, .string ⟨l.toArray⟩), (3, aB i)] (by kernel_rfl)
 refine wp_seq (wp_block ?_)
 refine wp_seq (wp_region_lit ?_)
 refine wp_pure HF HM rfl 2 [] [(0, .string ⟨l.toArray⟩), (3, aB i), (10, .string ⟨l.toArray⟩), (11, aB i)] (by kernel_rfl) ?_
 clear HF; intro a HF
 refine dP HF (by kernel_rfl) (aV b.toNat) (by kernel_rfl) (Ap Tryd.underlying9 rfl rfl rfl hb) ?_
 clear HF; intro a HF; replace HF := HF.sub [(0, .string ⟨l.toArray⟩), (3, aB i), (10, .string ⟨l.toArray⟩), (11, aB i), (12, aV b.toNat)] (by kernel_rfl)
 refine wp_pure HF HM rfl 1 [] [(0, .string ⟨l.toArray⟩), (3, aB i), (13, .bool (((b.toNat : Nat) : Int) == 0))] (by kernel_rfl) ?_
 clear HF; intro a HF
 rw [show (((b.toNat : Nat) : Int) == 0) = true from hz] at HF
 refine aI ?_
 refine bF HF rfl ?_
 replace HF := HF.sub [(0, .string ⟨l.toArray⟩), (3, aB i)] (by kernel_rfl)
 refine wp_seq (wp_region_lit ?_)
 refine wp_pure HF HM rfl 1 [] [(2, .bool false)] (by kernel_rfl) ?_
 clear HF; intro a HF
 refine aI ?_
 refine wp_ret ?_
 repeat (first | refine cu ?_ | refine dw ?_)
 exact Kf (by assumption) a HF

theorem Jc (l : List UInt8) (hl : l.length < 4611686018427387904) (w0 : World) {KK : Act → World → Prop} {QQ : Exit → Act → World → Prop} (Kt : 0 ∉ l → ∀ a, Fr 14 a [(0, .string ⟨l.toArray⟩)] → KK a w0) (Kf : 0 ∈ l → ∀ a, Fr 14 a [(2, .bool false)] → QQ .ret a w0) (i : Nat) (b : UInt8) (hb : l[i]? = some b) (hlt : i < l.length) (hz : (((b.toNat : Nat) : Int) == 0) = false) {KX : Act → World → Prop} (KR : ∀ a, Fr 14 a [(0, .string ⟨l.toArray⟩), (3, aB (i + 1))] → KX a w0) (a : Act) (HF : Fr 14 a [(0, .string ⟨l.toArray⟩), (3, aB i)]) :
  (oD (spine Tryd.f53 1)).wp Tryd.prog (Exit.then KX (Exit.inBlock 0 (Exit.then KK QQ))) a w0 := by
 have HM : Mm [] w0 w0 [] := Mm.start w0
 have hsz : ((⟨l.toArray⟩ : ByteArray).size : Nat) = l.length := by simp [ByteArray.size]
 refine wp_seq ?_
 refine wp_seq (wp_region_lit ?_)
 refine wp_pure HF HM rfl 4 [] [(0, .string ⟨l.toArray⟩), (3, aB i), (7, .bool (decide (((i : Nat) : Int) < (((⟨l.toArray⟩ : ByteArray).size : Nat) : Int))))] (by kernel_rfl) ?_
 clear HF; intro a HF
 rw [show decide (((i : Nat) : Int) < (((⟨l.toArray⟩ : ByteArray).size : Nat) : Int)) = true from dM (by omega)] at HF
 refine aI ?_
 refine bF HF rfl ?_
 refine wp_skip ?_
 repeat (first | refine aS ?_ | refine aU ?_)
 replace HF := HF.sub [(0, .string ⟨l.toArray⟩), (3, aB i)] (by kernel_rfl)
 refine wp_seq (wp_block ?_)
 refine wp_seq (wp_region_lit ?_)
 refine wp_pure HF HM rfl 2 [] [(0, .string ⟨l.toArray⟩), (3, aB i), (10, .string ⟨l.toArray⟩), (11, aB i)] (by kernel_rfl) ?_
 clear HF; intro a HF
 refine dP HF (by kernel_rfl) (aV b.toNat) (by kernel_rfl) (Ap Tryd.underlying9 rfl rfl rfl hb) ?_
 clear HF; intro a HF; replace HF := HF.sub [(0, .string ⟨l.toArray⟩), (3, aB i), (10, .string ⟨l.toArray⟩), (11, aB i), (12, aV b.toNat)] (by kernel_rfl)
 refine wp_pure HF HM rfl 1 [] [(0, .string ⟨l.toArray⟩), (3, aB i), (13, .bool (((b.toNat : Nat) : Int) == 0))] (by kernel_rfl) ?_
 clear HF; intro a HF
 rw [show (((b.toNat : Nat) : Int) == 0) = false from hz] at HF
 refine aI ?_
 refine bf HF rfl ?_
 replace HF := HF.sub [(0, .string ⟨l.toArray⟩), (3, aB i)] (by kernel_rfl)
 refine wp_skip ?_
 repeat (first | refine aS ?_ | refine aU ?_)
 refine wp_region_lit ?_
 refine wp_pure HF HM rfl 2 [] [(0, .string ⟨l.toArray⟩), (3, aB i), (9, .int .i64 (IntKind.i64.wrap (((i : Nat) : Int) + 1)))] (by kernel_rfl) ?_
 clear HF; intro a HF
 rw [show IntKind.i64.wrap (((i : Nat) : Int) + 1) = (((i + 1) : Nat) : Int) from (IntWalk.i64_in _ (by omega)).trans (by omega)] at HF
 refine wp_pure HF HM rfl 1 [] [(0, .string ⟨l.toArray⟩), (3, aB (i + 1))] (by kernel_rfl) ?_
 clear HF; intro a HF
 refine wpList_nil ?_
 repeat (first | refine aS ?_ | refine aU ?_)
 exact KR a HF
theorem Aw (l : List UInt8) (hl : l.length < 4611686018427387904) (w0 : World) {KK : Act → World → Prop} {QQ : Exit → Act → World → Prop} (Kt : 0 ∉ l → ∀ a, Fr 14 a [(0, .string ⟨l.toArray⟩)] → KK a w0) (Kf : 0 ∈ l → ∀ a, Fr 14 a [(2, .bool false)] → QQ .ret a w0) : ∀ (r i : Nat), i + r = l.length → (∀ j, j < i → l[j]? ≠ some 0) → ∀ a, Fr 14 a [(0, .string ⟨l.toArray⟩), (3, aB i)] →
  Code.rounds Tryd.prog (oD (spine Tryd.f53 1)) (Exit.inBlock 0 (Exit.then KK QQ)) (r + 1) a w0
 | 0, i, hr, hp, a, HF => by
  rw [rounds_succ]
  refine Kv l hl w0 Kt Kf i (by omega) (fun hm => ?_) a HF
  obtain ⟨j, hj, e⟩ := List.getElem_of_mem hm
  exact hp j (by omega) (by rw [List.getElem?_eq_getElem hj, e])
 | r + 1, i, hr, hp, a, HF => by
  rw [rounds_succ]
  have hlt : i < l.length := by omega
  have hb : l[i]? = some l[i] := List.getElem?_eq_getElem hlt
  by_cases hz : l[i] = 0
  ·exact Jb l hl w0 Kt Kf i l[i] hb hlt (by rw [hz]; rfl) (hz ▸ List.getElem_mem hlt) a HF
  ·refine Jc l hl w0 Kt Kf i l[i] hb hlt (beq_eq_false_iff_ne.2 fun e => hz (UInt8.toNat_inj.1 (by simpa using e))) (fun a HF => ?_) a HF
   refine Aw l hl w0 Kt Kf r (i + 1) (by omega) (fun j hj => ?_) a HF
   rcases Nat.lt_or_ge j i with h | h
   ·exact hp j h
   ·obtain rfl : j = i := by omega
    rw [hb]
    exact fun e => hz (Option.some.inj e)

theorem Kw (l : List UInt8) (hl : l.length < 4611686018427387904) (w0 : World) : Calls Tryd.prog 53 #[.string ⟨l.toArray⟩] w0 fun e w' => e = .returned (.bool (decide (0 ∉ l))) ∧ w' = w0 := by
 have HM : Mm [] w0 w0 [] := Mm.start w0
 refine bV Tryd.func53 rfl Tryd.ntmps53 [(0, .string ⟨l.toArray⟩)] (by kernel_rfl) (Nat.le_of_ble_eq_true rfl) ?_
 intro a HF
 refine nD HF HM rfl [] [(0, .string ⟨l.toArray⟩), (2, .bool false)] (by kernel_rfl) ?_
 clear HF; intro a HF
 replace HF := HF.sub [(0, .string ⟨l.toArray⟩)] (by kernel_rfl)
 refine wp_seq ?_
 refine nD HF HM rfl [] [(0, .string ⟨l.toArray⟩), (3, aB 0)] (by kernel_rfl) ?_
 clear HF; intro a HF
 refine wp_block (wp_loop_rounds (l.length + 1) ?_)
 refine Aw l hl w0 (fun h a HF => ?_) (fun h a HF => ?_) l.length 0 (by omega) (fun j hj => absurd hj (Nat.not_lt_zero j)) a HF
 ·have _ := h
  refine wp_seq (wp_region_lit ?_)
  refine wp_pure HF HM rfl 1 [] [(2, .bool true)] (by kernel_rfl) ?_
  clear HF; intro a HF
  refine aI ?_
  refine wp_ret ?_
  exact dI HF rfl rfl ⟨by rw [decide_eq_true h], rfl⟩
 ·exact dI HF rfl rfl ⟨by rw [decide_eq_false (by simpa using h)], rfl⟩
end Go.Proofs.YtdgehpocmfjbiaaDoor
namespace Go.Proofs.YtdgehpocmfjbiaaDoor
open Go.RowKit

theorem Ez {α : Type} [BEq α] [LawfulBEq α] {x y : α} (h : x = y) : (x == y) = true := by simpa using h
theorem KU {α : Type} [BEq α] [LawfulBEq α] {x y : α} (h : ¬ x = y) : (x == y) = false := by simpa using h
theorem NM {α : Type} [BEq α] [LawfulBEq α] {x y : α} (h : x ≠ y) : (x != y) = true := by simpa using h
theorem Gy {α : Type} [BEq α] [LawfulBEq α] {x y : α} (h : ¬ x ≠ y) : (x != y) = false := by simpa using h
theorem kX (b : Bool) : b = false ∨ b = true := by cases b <;> simp

/-- a loop of n rounds, by an invariant -/
theorem oU {P : Program} {body : Code} {Q : Exit → Act → World → Prop} {a : Act} {w : World} (n : Nat) (Inv : Nat → Act → World → Prop) (h0 : Inv 0 a w)
  (step : ∀ i a w (KX : Act → World → Prop), i < n → Inv i a w → (∀ a w, Inv (i + 1) a w → KX a w) → body.wp P (Exit.then KX Q) a w)
  (last : ∀ a w (KX : Act → World → Prop), Inv n a w → body.wp P (Exit.then KX Q) a w) : (Code.loop body).wp P Q a w := by
 refine wp_loop_rounds (n + 1) ?_
 have key : ∀ r i a w, i + r = n → Inv i a w → Code.rounds P body Q (r + 1) a w := by
  intro r
  induction r with
  | zero =>
   intro i a w hi h
   rw [rounds_succ]
   obtain rfl : i = n := by omega
   exact last a w _ h
  | succ r ih =>
   intro i a w hi h
   rw [rounds_succ]
   exact step i a w _ (by omega) h fun a w h => ih (i + 1) a w (by omega) h
 exact key n 0 a w (by omega) h0

/-- the ways through a piece of code meet again -/
theorem yV {P : Program} {c : Code} {Q : Exit → Act → World → Prop} {a : Act} {w : World} (I : Act → World → Prop) (h : c.wp P (Exit.then I Q) a w) (hr : ∀ a w, I a w → Q .normal a w) : c.wp P Q a w :=
 Code.wp_mono (fun e a w h => by
  cases e with
  | normal => exact hr a w h
  | _ => exact h) h

section
variable {P : Program} {N : Nat} {G : List Nat} {w0 w : World} {a : Act} {L : List (Nat × Obj)} {ops : Array Oper}
theorem Fr.tell {S : Slots} (h : Fr N a S) (t : Nat) {v u : Value} (e : Go.Proofs.YtdgehpocmfjbiaaDoor.lk S t = some v) (hv : v = u) : Fr N a ((t, u) :: S) :=
 ⟨h.1, h.2.1, fun p hp => by
  rcases List.mem_cons.1 hp with rfl | hp
  ·exact hv ▸ h.lk e
  ·exact h.2.2 p hp⟩
theorem Mm.o9 {w' : World} {g : Nat} (h : Mm G w0 w L) (hb : Below g w w') (hL : ∀ p ∈ L, p.1 < g) (hg : w0.heap.size ≤ g) : Mm G w0 w' L :=
 ⟨⟨hb.os.trans h.1.os, hb.tape.trans h.1.tape, hb.output.trans h.1.output, Nat.le_trans h.1.size hb.size, fun k hk hn => (hb.block k (Nat.lt_of_lt_of_le hk hg)).trans (h.1.block k hk hn)⟩,
  fun p hp => ⟨(hb.block p.1 (hL p hp)).trans (h.2.1 p hp).1, (h.2.1 p hp).2⟩, h.2.2⟩
theorem Mm.pick (h : Mm G w0 w L) (idx : List Nat) (K : List (Nat × Obj)) (e : idx.map (fun i => L[i]?) = K.map some) (hd : idx.Pairwise (· ≠ ·)) : Mm G w0 w K := by
 have hlen : idx.length = K.length := by simpa using congrArg List.length e
 have hat : ∀ (j : Nat) (hj : j < idx.length) (hk : j < K.length), L[idx[j]]? = some K[j] := by
  intro j hj hk
  have := congrArg (fun l => l[j]?) e
  simp only [List.getElem?_map, List.getElem?_eq_getElem hj, List.getElem?_eq_getElem hk, Option.map_some] at this
  exact Option.some.inj this
 refine ⟨h.1, fun p hp => ?_, ?_⟩
 ·obtain ⟨j, hj, e2⟩ := List.getElem_of_mem hp
  have := hat j (by omega) hj
  rw [e2] at this
  exact h.2.1 p (List.mem_of_getElem? this)
 ·rw [List.pairwise_iff_getElem]
  intro i j hi hj hij
  simp only [List.length_map] at hi hj
  simp only [List.getElem_map]
  have h1 := hat i (by omega) hi
  have h2 := hat j (by omega) hj
  have hne : idx[i]'(by omega) ≠ idx[j]'(by omega) := List.pairwise_iff_getElem.1 hd i j (by omega) (by omega) hij
  exact h.ne (b := K[i].1) (c := K[j].1) (o := K[i].2) (p := K[j].2) h1 h2 hne

/-- append, there is room, onto a told block -/
theorem zo (t tx ty e : TypeId) (i : TypeInfo) (ht : P.underlying t = some (.slice e)) (hi : P.info? e = some i) (g n cap : Nat) (x : Value) (m : Nat) (news : List Value) (hs : Src P i.size tx x m news w)
  (cur : Array Value) (hg : w.heap[g]? = some (.cells cur e (0, 0))) (hroom : n + m ≤ cap) (hfit : n * i.size + news.length ≤ cur.size) :
  (Builtin.append_ #[t, tx] ty #[.slice (some ⟨g, 0, none⟩) n cap, x]).run P w = .ok (.slice (some ⟨g, 0, none⟩) (n + m) cap) (w.setRow g (cur.toList.take (n * i.size) ++ news ++ cur.toList.drop (n * i.size + news.length)).toArray) := by
 have hst := run_storeCells_at P g (n * i.size) e news 0 cur w hg (by simpa using hfit) hs.one
 rw [Nat.add_zero] at hst
 have ha : (⟨g, 0, none⟩ : Addr).add (n * i.size) = ⟨g, n * i.size, none⟩ := by rw [addr_add, Nat.zero_add]
 rcases hs.kind with ⟨e', hk⟩ | hk <;> simp [Builtin.append_, run_underlying ht, run_underlying hk, sizeOf, typeInfo, hi, hs.len, hroom, hs.cells, ha, hst]

theorem iF {Q : Exit → Act → World → Prop} {rest : List Oper} {o : Oper} {S : Slots} (HF : Fr N a S) (HM : Mm G w0 w L) (hgd : o.guard = none) (s x : Operand) (t tx : TypeId)
  (ho : o.op = .call { callee := .builtin .append, args := #[s, x], argTypes := #[t, tx] }) (hd : okD N o.dst = true)
  (e : TypeId) {z : Value} {size bytes : Nat} (ht : P.underlying t = some (.slice e)) (hi : (P.info? e).map (fun i => (i.zero, i.size, i.bytes)) = some (some z, size, bytes)) (hzs : z.cells.size = size) (hsz : 0 < size)
  (i g n cap : Nat) (cur : Array Value) (hL : L[i]? = some (g, .cells cur e (0, 0))) (hs : ev S s = some (.slice (some ⟨g, 0, none⟩) n cap)) (hnc : n ≤ cap) (hcm : cap ≤ maxLen) (hcs : cur.size = cap * size) (xs : List Value) (hxs : cur.toList.take (n * size) = xs)
  (xv : Value) (m : Nat) (news : List Value) (hx : ev S x = some xv) (hsrc : Src P size tx xv m news w)
  (h63 : n + m ≤ maxLen) (hbytes : (n + m) * bytes ≤ 140737488355328)
  (hK : ∀ a' w' g' cap' cur', Mm G w0 w' (L.set i (g', .cells cur' e (0, 0))) → cur'.toList.take ((n + m) * size) = xs ++ news → cur'.size = cap' * size → n + m ≤ cap' → cap' ≤ maxLen → Fr N a' (qC S o.dst (.slice (some ⟨g', 0, none⟩) (n + m) cap')) → wpList P ops Q rest a' w') : wpList P ops Q (o :: rest) a w := by
 obtain ⟨inf, hi0, hz0, hz1, hz2⟩ := info_parts hi
 have hsx : Src P inf.size tx xv m news w := by rw [hz1]; exact hsrc
 have hnl := hsrc.newsLen
 have hnn : (n + m) * size = n * size + m * size := Nat.add_mul _ _ _
 have hle : n * size ≤ cap * size := Nat.mul_le_mul_right _ hnc
 have hxl : xs.length = n * size := by rw [← hxs, List.length_take, Array.length_toList, hcs]; omega
 have hg := HM.get hL
 refine wpList_plain hgd fun K hK' => ?_
 unfold Oper.wp execOp
 have hd1 := HF.ev hs
 have hd2 := HF.ev hx
 by_cases hroom : n + m ≤ cap
 ·have hlm : (n + m) * size ≤ cap * size := Nat.mul_le_mul_right _ hroom
  have hr := zo (P := P) t tx o.type e inf ht hi0 g n cap xv m news hsx cur hg hroom (by rw [hz1, hcs, hnl]; omega)
  rw [hz1] at hr
  simp only [ho, resolve, invoke, builtin, Sem.run_bind, Sem.run_pure, Result.andThen_ok, List.map_toArray, List.map_cons, List.map_nil, hd1, hd2, hr]
  refine hK' _ _ (hK _ _ g cap _ (HM.set hL _) ?_ ?_ hroom hcm (HF.put _ _ (jv hd)))
  ·simp only [hxs]
   rw [hnn, ← hxl, ← hnl, ← List.length_append, List.take_left]
  ·simp only [List.size_toArray, List.length_append, List.length_take, List.length_drop, Array.length_toList]
   omega
 ·have holds : (Builtin.firstCells inf.size n (.slice (some ⟨g, 0, none⟩) n cap)).run P w.drew = .ok xs.toArray w.drew := by
   refine run_firstCells_some w.drew inf.size n ⟨g, 0, none⟩ n cap xs (by rw [hz1]; exact hxl) fun j u hj => ?_
   rw [addr_add]
   have hc := cell_of_row w.drew g (0 + j) cur e (0, 0) hg
   rw [hc, Nat.zero_add]
   have : (cur.toList.take (n * size))[j]? = some u := by rw [hxs]; exact hj
   rw [List.getElem?_take] at this
   split at this
   ·simpa using this
   ·cases this
  have hr := run_append_grow_src (P := P) w t tx o.type e inf z ht hi0 hz0 (some ⟨g, 0, none⟩) n cap xs holds xv m news hsx (by omega) (by simp only [maxLen] at h63; omega) (growslice_fits (by omega) (by rw [hz2]; exact hbytes))
  simp only [ho, resolve, invoke, builtin, Sem.run_bind, Sem.run_pure, Result.andThen_ok, List.map_toArray, List.map_cons, List.map_nil, hd1, hd2, hr]
  have hge := grownCap_ge w (n + m) cap e
  have hcm2 : grownCap w (n + m) cap e ≤ maxLen := grownCap_le_maxLen w (n + m) cap e h63
  have hM2 := (HM.drewN 1).alloc (.cells ((xs ++ news).toArray ++ Builtin.zeroCells z.cells (grownCap w (n + m) cap e - (n + m))) e)
  refine hK' _ _ (hK _ _ w.heap.size (grownCap w (n + m) cap e) ((xs ++ news).toArray ++ Builtin.zeroCells z.cells (grownCap w (n + m) cap e - (n + m))) ?_ ?_ ?_ hge hcm2 (HF.put _ _ (jv hd)))
  ·refine ⟨hM2.1, fun p hp => ?_, ?_⟩
   ·obtain ⟨j, hj⟩ := List.getElem?_of_mem hp
    rw [List.getElem?_set] at hj
    split at hj
    ·split at hj
     ·injection hj with hj
      subst hj
      exact hM2.2.1 _ List.mem_cons_self
     ·cases hj
    ·exact hM2.2.1 _ (List.mem_cons_of_mem _ (List.mem_of_getElem? hj))
   ·have hp := hM2.2.2
    rw [List.map_cons, List.pairwise_cons] at hp
    rw [List.map_set, List.pairwise_iff_getElem]
    intro j k hj hk hjk
    simp only [List.length_set, List.length_map] at hj hk
    simp only [List.getElem_set, List.getElem_map]
    have h2 := List.pairwise_iff_getElem.1 hp.2 j k (by simpa using hj) (by simpa using hk) hjk
    simp only [List.getElem_map] at h2
    have hm1 : ∀ q (hq : q < L.length), w.heap.size ≠ (L[q]'hq).1 := fun q hq => hp.1 _ (List.mem_map.2 ⟨_, List.getElem_mem hq, rfl⟩)
    split
    ·split
     ·omega
     ·exact hm1 k hk
    ·split
     ·exact (hm1 j hj).symm
     ·exact h2
  ·rw [Array.toList_append, List.toList_toArray, hnn, ← hxl, ← hnl, ← List.length_append, List.take_left]
  ·simp only [Array.size_append, List.size_toArray, size_zeroCells, hzs, List.length_append, hxl, hnl, ← Nat.add_mul]
   congr 1
   omega

/-- append of zeros ('append(x, make([]byte, m)...)') onto a full told block: a new row -/
theorem DR {Q : Exit → Act → World → Prop} {rest : List Oper} {o : Oper} {S : Slots} (HF : Fr N a S) (HM : Mm G w0 w L) (hgd : o.guard = none) (s x : Operand) (t tx : TypeId)
  (ho : o.op = .call { callee := .builtin .append, args := #[s, x], argTypes := #[t, tx] }) (hd : okD N o.dst = true)
  (e : TypeId) (ht : P.underlying t = some (.slice e)) (htx : P.underlying tx = some (.int .i64)) (hi : (P.info? e).map (fun i => (i.zero, i.size, i.bytes)) = some (some (.int .u8 0), 1, 1))
  (i g n : Nat) (cur : Array Value) (hL : L[i]? = some (g, .cells cur e (0, 0))) (hs : ev S s = some (.slice (some ⟨g, 0, none⟩) n n)) (hcs : cur.size = n)
  (m : Nat) (hm0 : 0 < m) (hm : m ≤ 1000) (hn : n ≤ 1000) (hx : ev S x = some (.int .i64 (m : Int)))
  (hK : ∀ a' w' g' cap' cur', Mm G w0 w' ((g', .cells cur' e (0, 0)) :: L) → w.heap.size ≤ g' → cur'.toList.take ((n + m) * 1) = cur.toList ++ List.replicate m (.int .u8 0) → cur'.size = cap' * 1 → n + m ≤ cap' → cap' ≤ maxLen → Fr N a' (qC S o.dst (.slice (some ⟨g', 0, none⟩) (n + m) cap')) → wpList P ops Q rest a' w') : wpList P ops Q (o :: rest) a w := by
 obtain ⟨inf, hi0, hz0, hz1, hz2⟩ := info_parts hi
 have hg := HM.get hL
 refine wpList_plain hgd fun K hK' => ?_
 unfold Oper.wp execOp
 have hd1 := HF.ev hs
 have hd2 := HF.ev hx
 have holds : (Builtin.firstCells inf.size n (.slice (some ⟨g, 0, none⟩) n n)).run P w.drew = .ok cur.toList.toArray w.drew := by
  refine run_firstCells_some w.drew inf.size n ⟨g, 0, none⟩ n n cur.toList (by rw [hz1, Array.length_toList, hcs, Nat.mul_one]) fun j u hj => ?_
  rw [addr_add]
  have hc := cell_of_row w.drew g (0 + j) cur e (0, 0) hg
  rw [hc, Nat.zero_add]
  simpa using hj
 have hw : IntKind.i64.wrap (m : Int) = (m : Int) := IntWalk.i64_in _ (by omega)
 have hc1 : ¬ (n + m ≤ n) := by omega
 have hge := grownCap_ge w (n + m) n e
 have h63 : n + m ≤ maxLen := by unfold maxLen; omega
 have hcm2 : grownCap w (n + m) n e ≤ maxLen := grownCap_le_maxLen w (n + m) n e h63
 have hfit := growslice_fits (need := n + m) (old := n) (bytes := 1) (by omega) (by omega)
 have hr : (Builtin.append_ #[t, tx] o.type #[.slice (some ⟨g, 0, none⟩) n n, .int .i64 (m : Int)]).run P w = .ok (.slice (some ⟨w.heap.size, 0, none⟩) (n + m) (grownCap w (n + m) n e))
    (w.drew.alloc (.cells ((cur.toList ++ List.replicate m (Value.int .u8 0)).toArray ++ Builtin.zeroCells #[Value.int .u8 0] (grownCap w (n + m) n e - (n + m))) e)) := by
  have h1 : ¬ ((m : Int) < 0) := by omega
  have h2 : ¬ (281474976710656 < (m : Int)) := by omega
  have h3 : ¬ (9223372036854775807 < ((n : Int) + (m : Int))) := by omega
  have h4 : ¬ (281474976710656 < Builtin.nextslicecap (n + m) n * 1) := by omega
  have h4' : ¬ (281474976710656 < Builtin.nextslicecap (n + m) n) := by omega
  have h5 : ¬ (m = 0) := by omega
  rw [hz1] at holds
  have hzc : Builtin.zeroCells #[Value.int .u8 0] m = (List.replicate m (Value.int .u8 0)).toArray := by
   apply Array.ext'
   apply List.ext_getElem
   ·simp [Builtin.zeroCells]
   ·intro j h1 h2
    simp [Builtin.zeroCells, Nat.mod_one]
  simp [Builtin.append_, run_underlying ht, run_underlying htx, sizeOf, typeInfo, zeroValue, hi0, hz0, hz1, hz2, asInt, asIntOf, hw, h1, h2, h3, h4, h5, hc1, Question.forced, newRow, grownCap, Value.cells, hzc, h4', holds]
  congr 2
  apply Array.ext'
  simp [List.append_assoc]
 simp only [ho, resolve, invoke, builtin, Sem.run_bind, Sem.run_pure, Result.andThen_ok, List.map_toArray, List.map_cons, List.map_nil, hd1, hd2, hr]
 refine hK' _ _ (hK _ _ w.heap.size (grownCap w (n + m) n e) _ ((HM.drewN 1).alloc _) (Nat.le_refl _) ?_ ?_ hge hcm2 (HF.put _ _ (jv hd)))
 ·rw [Array.toList_append, List.toList_toArray, Nat.mul_one]
  have hl : (cur.toList ++ List.replicate m (Value.int .u8 0)).length = n + m := by simp [hcs]
  rw [← hl, List.take_left]
 ·simp only [Array.size_append, List.size_toArray, size_zeroCells, List.length_append, Array.length_toList, List.length_replicate, hcs]
  simp
  omega
theorem mX {size : Nat} {tx e' : TypeId} (hk : P.underlying tx = some (.slice e')) {A : Option Addr} {m c : Nat} {news : List Value} (hm : news.length = m * size) (hsz : 0 < size) (hr : Row w A news) (h1 : ∀ u ∈ news, u.oneCell' = true) :
  Src P size tx (.slice A m c) m news w := by
 rcases A with _ | ad
 ·have hn : news = [] := by
   rcases news with _ | ⟨x, l⟩
   ·rfl
   ·obtain ⟨b, off, e, _⟩ := hr 0 x rfl
    cases e
  subst hn
  have hm0 : m = 0 := by
   rcases Nat.eq_zero_or_pos m with h0 | h0
   ·exact h0
   ·have := Nat.mul_pos h0 hsz
    simp at hm
    omega
  subst hm0
  exact Src.ofNil w hk c
 ·refine Src.ofSlice w hk ad m c news hm (fun j u hu => ?_) h1
  obtain ⟨b, off, e, hc⟩ := hr j u hu
  injection e with e
  subst e
  rw [addr_add]
  exact hc
theorem xE {w : World} {A : Option Addr} {cs : List Value} (h : Row w A cs) (k : Nat) : Row w A (cs.take k) := fun i v hv => by
 rw [List.getElem?_take] at hv
 split at hv
 ·exact h i v hv
 ·cases hv
theorem pG {l : List Value} (h : l.all (·.oneCell') = true) : ∀ u ∈ l, u.oneCell' = true := fun u hu => List.all_eq_true.1 h u hu
theorem EN {cur : Array Value} {n size cap : Nat} {xs : List Value} (tk : cur.toList.take (n * size) = xs) (sz : cur.size = cap * size) (nc : n ≤ cap) : xs.length = n * size := by
 have hle : n * size ≤ cap * size := Nat.mul_le_mul_right _ nc
 rw [← tk, List.length_take, Array.length_toList, sz]
 omega
theorem Ig {α : Type} {f : α → List Value} {k : Nat} (hk : ∀ a, (f a).length = k) : ∀ l : List α, (l.flatMap f).length = l.length * k
 | [] => by simp
 | x :: l => by rw [List.flatMap_cons, List.length_append, hk, Ig hk l, List.length_cons, Nat.succ_mul, Nat.add_comm]
theorem Nl {α : Type} {f : α → List Value} (h : ∀ a, (f a).all (·.oneCell') = true) (l : List α) : ∀ u ∈ l.flatMap f, u.oneCell' = true := fun u hu => by
 obtain ⟨a, _, ha⟩ := List.mem_flatMap.1 hu
 exact List.all_eq_true.1 (h a) u ha
/-- a row of a callee's own, as its contract tells it -/
structure Own (B : Nat) (w : World) (e : TypeId) (size g n cap : Nat) (cur : Array Value) (xs : List Value) : Prop where
 new : B ≤ g
 obj : w.heap[g]? = some (.cells cur e (0, 0))
 tk : cur.toList.take (n * size) = xs
 sz : cur.size = cap * size
 nc : n ≤ cap
 cm : cap ≤ maxLen
theorem Own.row {B : Nat} {w : World} {e : TypeId} {size g n cap : Nat} {cur : Array Value} {xs : List Value} (h : Own B w e size g n cap cur xs) : Row w (some ⟨g, 0, none⟩) xs := by
 have hr : Row w (some ⟨g, 0, none⟩) cur.toList := Row.of_cells fun j hj => by
  rw [cell_of_row w g (0 + j) cur e (0, 0) h.obj, Nat.zero_add]
  have : j < cur.size := by simpa using hj
  simp [this]
 have := xE hr (n * size)
 rwa [h.tk] at this
theorem Own.below {B : Nat} {w w' : World} {e : TypeId} {size g n cap : Nat} {cur : Array Value} {xs : List Value} (h : Own B w e size g n cap cur xs) (hb : Below w.heap.size w w') : Own B w' e size g n cap cur xs :=
 { h with obj := (hb.block g (jD h.obj)).trans h.obj }
theorem Mm.push2 {w' : World} (h : Mm G w0 w L) (hb : Below w.heap.size w w') {b c : Nat} {o p : Obj} (hg : w.heap.size ≤ b) (ho : w'.heap[b]? = some o) (hc : w.heap.size ≤ c) (hp : w'.heap[c]? = some p) (hne : c ≠ b) : Mm G w0 w' ((c, p) :: (b, o) :: L) := by
 have h1 := h.push hb hg ho
 refine ⟨h1.1, fun q hq => ?_, ?_⟩
 ·rcases List.mem_cons.1 hq with rfl | hq
  ·exact ⟨hp, .inl (Nat.le_trans h.size hc)⟩
  ·exact h1.2.1 q hq
 ·rw [List.map_cons, List.pairwise_cons]
  refine ⟨fun d hd => ?_, h1.2.2⟩
  rw [List.map_cons, List.mem_cons] at hd
  rcases hd with rfl | hd
  ·exact hne
  ·obtain ⟨q, hq, rfl⟩ := List.mem_map.1 hd
   have := jD (h.2.1 q hq).1
   show c ≠ q.1
   omega
theorem JV {tx : TypeId} (hk : P.underlying tx = some .string) (l : List UInt8) : Src P 1 tx (.string ⟨l.toArray⟩) l.length (l.map Bv) w := by
 have h := Src.ofString (P := P) w hk (⟨l.toArray⟩ : ByteArray)
 have e : byteCells ⟨l.toArray⟩ = l.map Bv := by simp [byteCells, Bv]
 rw [e] at h
 exact h
/-- the row that a told block of the call's own holds -/
theorem Mm.nG (h : Mm G w0 w L) {i g k : Nat} {cur : Array Value} {t : TypeId} {f : Nat × Nat} {xs : List Value} (e : L[i]? = some (g, .cells cur t f)) (hx : cur.toList.take k = xs) : Row w (some ⟨g, 0, none⟩) xs := by
 have := xE (h.rowAt e) k
 rwa [hx] at this
theorem Told.nG {LS : List (Nat × Obj)} (h : Told LS w) {i g k : Nat} {cur : Array Value} {t : TypeId} {f : Nat × Nat} {xs : List Value} (e : LS[i]? = some (g, .cells cur t f)) (hx : cur.toList.take k = xs) : Row w (some ⟨g, 0, none⟩) xs := by
 have hg : w.heap[g]? = some (.cells cur t f) := h _ (List.mem_of_getElem? e)
 have hr : Row w (some ⟨g, 0, none⟩) cur.toList := Row.of_cells fun j hj => by
  rw [cell_of_row w g (0 + j) cur t f hg, Nat.zero_add]
  have : j < cur.size := by simpa using hj
  simp [this]
 have := xE hr k
 rwa [hx] at this
/-- a cell of an own row is stored -/
theorem AO {Q : Exit → Act → World → Prop} {rest : List Oper} {o : Oper} {S : Slots} (HF : Fr N a S) (HM : Mm G w0 w L) (hgd : o.guard = none) (ty : TypeId) (x y : Operand) (ho : o.op = .store ty x y) (hd : okD N o.dst = true)
  (i g j : Nat) (cur : Array Value) (e : TypeId) (hL : L[i]? = some (g, .cells cur e (0, 0))) (hx : ev S x = some (.pointer (some ⟨g, j, none⟩))) (v : Value) (hy : ev S y = some v) (hv : v.cells = #[v]) (h1 : v.oneCell' = true) (hj : j < cur.size) (hi : (P.info? ty).map (·.size) = some 1)
  (hK : ∀ a' w' cur', Mm G w0 w' (L.set i (g, .cells cur' e (0, 0))) → cur'.toList = cur.toList.set j v → Fr N a' (qC S o.dst undef) → wpList P ops Q rest a' w') : wpList P ops Q (o :: rest) a w := by
 have hn : ((cur.toList.take j ++ v.cells.toList ++ cur.toList.drop (j + v.cells.size)).toArray).toList = cur.toList.take j ++ v.cells.toList ++ cur.toList.drop (j + v.cells.size) := rfl
 refine KW HM hgd ty x y ho g j (HF.ev hx) v (HF.ev hy) i cur e hL _ hn (by rw [hi, hv]; rfl) (Nat.ble_eq_true_of_le (by rw [hv]; show j + 1 ≤ _; omega)) (by rw [hv]; simp [h1]) fun w' iE => ?_
 refine hK _ _ _ iE ?_ (HF.put _ _ (jv hd))
 rw [hn, hv]
 have hl : j < cur.toList.length := by simpa using hj
 rw [List.set_eq_take_append_cons_drop, if_pos hl, List.append_assoc]
 rfl
/-- element j of a row of structs -/
theorem lC {α : Type} {A : Option Addr} {f : α → List Value} {k : Nat} {l : List α} (hk : ∀ a, (f a).length = k) (hr : Row w A (l.flatMap f)) (j : Nat) {m : α} (hj : l[j]? = some m) : Row w (A.map (·.add (j * k))) (f m) := by
 obtain ⟨hlt, e⟩ := List.getElem?_eq_some_iff.1 hj
 have hl : ∀ l : List α, (l.flatMap f).length = l.length * k := fun l => by
  induction l with
  | nil => simp
  | cons x l ih => rw [List.flatMap_cons, List.length_append, hk, ih, List.length_cons, Nat.succ_mul, Nat.add_comm]
 have h1 : l.flatMap f = (l.take j).flatMap f ++ (f m ++ (l.drop (j + 1)).flatMap f) := by
  have : l = l.take j ++ (l[j] :: l.drop (j + 1)) := by rw [← List.drop_eq_getElem_cons hlt, List.take_append_drop]
  have h2 : l.flatMap f = (l.take j ++ (l[j] :: l.drop (j + 1))).flatMap f := by rw [← this]
  rw [h2, List.flatMap_append, List.flatMap_cons, e]
 have h3 : ((l.take j).flatMap f).length = j * k := by rw [hl, List.length_take]; congr 1; omega
 have h4 := (hr.drop (j * k)).take k
 rw [h1, ← h3, List.drop_left, ← hk m, List.take_left, h3] at h4
 exact h4
theorem uV {α : Type} {A : Option Addr} {f : α → Value} {l : List α} (hr : Row w A (l.map f)) (j : Nat) {m : α} (hj : l[j]? = some m) : Row w (A.map (·.add (j * 1))) [f m] := by
 have := lC (f := fun a => [f a]) (k := 1) (fun _ => rfl) (l := l) (by rw [← List.map_eq_flatMap]; exact hr) j hj
 exact this
theorem G5 {A : Option Addr} {cs : List Value} (hr : Row w A cs) (h : 0 < cs.length) : ∃ b off, A = some ⟨b, off, none⟩ := by
 obtain ⟨b, off, e, _⟩ := hr 0 cs[0] (List.getElem?_eq_getElem h)
 exact ⟨b, off, e⟩
theorem ny {A : Option Addr} {k : Nat} {cs : List Value} (hr : Row w (A.map (·.add k)) cs) (h : 0 < cs.length) : A ≠ none := by
 obtain ⟨b, off, e⟩ := G5 hr h
 intro h0; subst h0; cases e
/-- the address of element j -/
theorem iU {t e : TypeId} {k : Nat} (ht : P.underlying t = some (.slice e)) (hi : (P.info? e).map (·.size) = some k) {ρ : Operand → Value} {o : Oper} {x ix : Operand} (ho : o.op = .indexAddr t x ix) {A : Option Addr} {n c : Nat} (j : Nat) {kk : IntKind} (hx : ρ x = .slice A n c) (hj : ρ ix = .int kk (j : Int)) (h : j < n) (hA : A ≠ none) :
  (execOp ρ o).run P w = .ok (.value (.pointer (A.map (·.add (j * k))))) w := by
 obtain ⟨inf, hi1, hi2⟩ := Option.map_eq_some_iff.1 hi
 obtain ⟨ad, rfl⟩ := Option.ne_none_iff_exists'.1 hA
 unfold execOp
 simp only [ho, hx, hj]
 simp [Instr.indexAt, asIntOf, run_underlying ht, sizeOf, typeInfo, hi1, hi2, h]
/-- a struct that lies in a row -/
theorem lQ {ρ : Operand → Value} {o : Oper} {ty : TypeId} {x : Operand} (ho : o.op = .load ty x) {A : Option Addr} (hx : ρ x = .pointer A) {cs : List Value} (hr : Row w A cs) (h0 : 0 < cs.length) {d : TypeDesc} (hu : P.underlying ty = some d) (hd : (match d with | .struct _ | .array _ _ => true | _ => false) = true) (hi : (P.info? ty).map (·.size) = some cs.length) :
  (execOp ρ o).run P w = .ok (.value (.agg cs.toArray)) w := by
 obtain ⟨b, off, rfl⟩ := G5 hr h0
 have hl : (loadCells ⟨b, off, none⟩ cs.length).run P w = .ok cs.toArray w :=
  run_loadCells_list (P := P) w ⟨b, off, none⟩ cs (fun j v hv => by
   obtain ⟨b', off', e, hc⟩ := hr j v hv
   injection e with e; injection e with e1 e2
   subst e1; subst e2
   rw [FV]; exact hc)
 cases hq : P.info? ty with
 | none => simp [hq] at hi
 | some i =>
  have hs : i.size = cs.length := by simpa [hq] using hi
  have hagg : (isAgg ty).run P w = .ok true w := by
   unfold isAgg
   rw [Sem.run_bind, run_underlying hu w]
   cases d <;> simp_all
  unfold execOp
  simp only [ho, hx, Instr.loadAt, Instr.sureAddr, Sem.run_bind, Sem.run_pure, Result.andThen_ok]
  simp [loadVar, Sem.run_bind, hagg, sizeOf, typeInfo, hq, hs, hl]
theorem oH {ρ : Operand → Value} {o : Oper} {ty : TypeId} {x : Operand} (ho : o.op = .load ty x) {A : Option Addr} (hx : ρ x = .pointer A) {v : Value} (hr : Row w A [v]) (hf : Gt P ty = true) :
  (execOp ρ o).run P w = .ok (.value v) w := by
 obtain ⟨b, off, rfl, hc⟩ := hr 0 v rfl
 exact gJ ho hx hf hc
end
end Go.Proofs.YtdgehpocmfjbiaaDoor
namespace Go.Proofs.YtdgehpocmfjbiaaDoor
open Go.RowKit

section
variable {P : Program} {N : Nat} {G : List Nat} {w0 w : World} {a : Act} {L : List (Nat × Obj)} {ops : Array Oper}
theorem Mm.old (h : Mm [] w0 w L) {b : Nat} {o : Obj} (e : w0.heap[b]? = some o) : w.heap[b]? = some o := (h.1.block b (jD e) (by simp)).trans e
/-- an old block is told from here on -/
theorem Mm.Jh (h : Mm G w0 w L) {b : Nat} {o : Obj} (e : w0.heap[b]? = some o) (hG : b ∉ G) : Mm (b :: G) w0 w ((b, o) :: L) := by
 have hlt := jD e
 refine ⟨h.1.mono (by simp; exact fun k hk => .inr hk), fun p hp => ?_, ?_⟩
 ·rcases List.mem_cons.1 hp with rfl | hp
  ·exact ⟨(h.1.block _ hlt hG).trans e, .inr (by simp)⟩
  ·exact ⟨(h.2.1 p hp).1, (h.2.1 p hp).2.imp id (fun h => by simp [h])⟩
 ·rw [List.map_cons, List.pairwise_cons]
  refine ⟨fun c hc => ?_, h.2.2⟩
  obtain ⟨p, hp, rfl⟩ := List.mem_map.1 hc
  rcases (h.2.1 p hp).2 with h1 | h1
  ·show b ≠ p.1; omega
  ·intro e; exact hG (by rw [show b = p.1 from e]; exact h1)
end
end Go.Proofs.YtdgehpocmfjbiaaDoor
