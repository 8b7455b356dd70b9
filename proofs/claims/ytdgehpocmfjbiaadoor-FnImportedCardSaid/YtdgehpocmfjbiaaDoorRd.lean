/- elf.NewFile: one round of the loop over the program headers. · elf.NewFile: the loop over the program headers. · elf.NewFile: the table of sections is -/
import Derived.Test.YtdgehpocmfjbiaaDoorRc
import Derived.Test.YtdgehpocmfjbiaaDoorRb
import Derived.Deep.AppendSrc
set_option linter.unusedVariables false
set_option linter.unusedSimpArgs false
set_option maxRecDepth 100000
set_option maxHeartbeats 2000000
namespace Go.Proofs.YtdgehpocmfjbiaaDoor
open Go.RowKit

/-- the body of the loop that begins a piece of a spine -/
def oP : Code → Code
 | .seq (.seq _ (.block _ (.loop c))) _ => c
 | c => c
theorem f_ {P : Program} {t e : TypeId} {info : TypeInfo} (ht : P.underlying t = some (.slice e)) (hi : P.info? e = some info) (hs : info.size = 1) {ρ : Operand → Value} {o : Oper} {x lo : Operand} (ho : o.op = .slice t x (some lo) none none)
  {b n c : Nat} (k : Nat) {kk : IntKind} (hx : ρ x = aC b n c) (hl : ρ lo = .int kk (k : Int)) (h1 : k ≤ n) (h2 : n ≤ c) (h3 : k < c) (w : World) :
  (execOp ρ o).run P w = .ok (.value (.slice (some ⟨b, k, none⟩) (n - k) (c - k))) w := by
 have := Hf ht hi hs ho k hx hl h1 h2 h3 w
 rwa [Nat.zero_add] at this
structure nP where
 ty : Nat
 flags : Nat
 off : Nat
 bY : Nat
 b_ : Nat
 bP : Nat
 dw : Nat
 align : Nat

abbrev qF := fun (b : Nat) (o : Nat) (n : Nat) (c : Nat) (s : Nat) (fb : Nat) (big : Bool) (ak : Nat) (aj : Nat) (au : Nat) (ah : Nat) (pd : Nat) => ([(0, .iface 178 (.slice (some ⟨b, o, none⟩) n c)), (4, aA s), (8, aA fb), (9, (aU big)), (10, ay ak), (11, aF 32), (12, ay aj), (13, ay au), (14, aF 40), (15, ay ah), (16, ay (ah - 1)), (26, aF 40), (36, aC pd (aj * 32) (aj * 32))] : Slots)
abbrev BU := fun (fb : Nat) (dat : Int) (abi : Nat) (aH : Nat) (big : Bool) (aW : Nat) (aJ : Nat) (aG : Nat) (pg : Nat) (i : Nat) (aj : Nat) => ((fb, .cells #[aO 1, .int .u8 dat, aO 1, aT abi, aT aH, (aU big), bn aW, bn aJ, aI aG, aQ, aC pg (i + 1) aj, aQ, aQ, aQ] 131 (0, 0)) : Nat × Obj)
abbrev rC := fun sb (b : Nat) (o : Nat) (n : Nat) (c : Nat) (v : nP) => ((sb, .cells #[.iface 178 (.slice (some ⟨b, o, none⟩) n c), ay v.off, ay v.off, aF (((v.bP : Nat) : Int) + ((v.off : Nat) : Int)), ay v.bP] 246 (0, 0)) : Nat × Obj)
abbrev iZ := fun (fb : Nat) (dat : Int) (abi : Nat) (aH : Nat) (big : Bool) (aW : Nat) (aJ : Nat) (aG : Nat) (pg : Nat) (i : Nat) (aj : Nat) => ((fb, .cells #[aO 1, .int .u8 dat, aO 1, aT abi, aT aH, (aU big), bn aW, bn aJ, aI aG, aQ, aC pg i aj, aQ, aQ, aQ] 131 (0, 0)) : Nat × Obj)
abbrev pJ := fun z5 => ((z5, .cells #[aF 0, gV 0, bF 0, bF 0, bF 0, bF 0, bF 0, bF 0, .nilIface, .pointer none] 146 (0, 0)) : Nat × Obj)
abbrev gJ := fun (b : Nat) (o : Nat) (n : Nat) (c : Nat) (s : Nat) (fb : Nat) (big : Bool) (ak : Nat) (aj : Nat) (au : Nat) (ah : Nat) (pd : Nat) (i : Nat) z5 => ((qF b o n c s fb big ak aj au ah pd) ++ [(38, ay i), (39, aI (i * 32)), (40, aA z5)] : Slots)
abbrev QS := fun (pd : Nat) (i : Nat) (aj : Nat) => ((614, .slice (some ⟨pd, ((i * 32) + 0), none⟩) ((aj * 32) - ((i * 32) + 0)) ((aj * 32) - ((i * 32) + 0))) : Nat × Value)
abbrev BR := fun (b : Nat) (o : Nat) (n : Nat) (c : Nat) (s : Nat) (fb : Nat) (big : Bool) (ak : Nat) (aj : Nat) (au : Nat) (ah : Nat) (pd : Nat) (i : Nat) z5 => ((gJ b o n c s fb big ak aj au ah pd i z5) ++ [(609, aA z5), (610, (aU big)), (614, .slice (some ⟨pd, ((i * 32) + 0), none⟩) ((aj * 32) - ((i * 32) + 0)) ((aj * 32) - ((i * 32) + 0)))] : Slots)
abbrev QO := fun (pd : Nat) (i : Nat) (aj : Nat) => ((621, .slice (some ⟨pd, ((i * 32) + 24), none⟩) ((aj * 32) - ((i * 32) + 24)) ((aj * 32) - ((i * 32) + 24))) : Nat × Value)
abbrev BQ := fun (b : Nat) (o : Nat) (n : Nat) (c : Nat) (s : Nat) (fb : Nat) (big : Bool) (ak : Nat) (aj : Nat) (au : Nat) (ah : Nat) (pd : Nat) (i : Nat) z5 => ((BR b o n c s fb big ak aj au ah pd i z5) ++ [(617, (aU big)), (621, .slice (some ⟨pd, ((i * 32) + 24), none⟩) ((aj * 32) - ((i * 32) + 24)) ((aj * 32) - ((i * 32) + 24)))] : Slots)
abbrev Eo := fun (pd : Nat) (i : Nat) (aj : Nat) => ((627, .slice (some ⟨pd, ((i * 32) + 4), none⟩) ((aj * 32) - ((i * 32) + 4)) ((aj * 32) - ((i * 32) + 4))) : Nat × Value)
abbrev Ai := fun (b : Nat) (o : Nat) (n : Nat) (c : Nat) (s : Nat) (fb : Nat) (big : Bool) (ak : Nat) (aj : Nat) (au : Nat) (ah : Nat) (pd : Nat) (i : Nat) z5 => ((BQ b o n c s fb big ak aj au ah pd i z5) ++ [(623, (aU big)), (627, .slice (some ⟨pd, ((i * 32) + 4), none⟩) ((aj * 32) - ((i * 32) + 4)) ((aj * 32) - ((i * 32) + 4)))] : Slots)
abbrev En := fun (pd : Nat) (i : Nat) (aj : Nat) => ((634, .slice (some ⟨pd, ((i * 32) + 8), none⟩) ((aj * 32) - ((i * 32) + 8)) ((aj * 32) - ((i * 32) + 8))) : Nat × Value)
abbrev Ah := fun (b : Nat) (o : Nat) (n : Nat) (c : Nat) (s : Nat) (fb : Nat) (big : Bool) (ak : Nat) (aj : Nat) (au : Nat) (ah : Nat) (pd : Nat) (i : Nat) z5 => ((Ai b o n c s fb big ak aj au ah pd i z5) ++ [(630, (aU big)), (634, .slice (some ⟨pd, ((i * 32) + 8), none⟩) ((aj * 32) - ((i * 32) + 8)) ((aj * 32) - ((i * 32) + 8)))] : Slots)
abbrev Em := fun (pd : Nat) (i : Nat) (aj : Nat) => ((641, .slice (some ⟨pd, ((i * 32) + 12), none⟩) ((aj * 32) - ((i * 32) + 12)) ((aj * 32) - ((i * 32) + 12))) : Nat × Value)
abbrev Ag := fun (b : Nat) (o : Nat) (n : Nat) (c : Nat) (s : Nat) (fb : Nat) (big : Bool) (ak : Nat) (aj : Nat) (au : Nat) (ah : Nat) (pd : Nat) (i : Nat) z5 => ((Ah b o n c s fb big ak aj au ah pd i z5) ++ [(637, (aU big)), (641, .slice (some ⟨pd, ((i * 32) + 12), none⟩) ((aj * 32) - ((i * 32) + 12)) ((aj * 32) - ((i * 32) + 12)))] : Slots)
abbrev Ej := fun (pd : Nat) (i : Nat) (aj : Nat) => ((648, .slice (some ⟨pd, ((i * 32) + 16), none⟩) ((aj * 32) - ((i * 32) + 16)) ((aj * 32) - ((i * 32) + 16))) : Nat × Value)
abbrev Af := fun (b : Nat) (o : Nat) (n : Nat) (c : Nat) (s : Nat) (fb : Nat) (big : Bool) (ak : Nat) (aj : Nat) (au : Nat) (ah : Nat) (pd : Nat) (i : Nat) z5 => ((Ag b o n c s fb big ak aj au ah pd i z5) ++ [(644, (aU big)), (648, .slice (some ⟨pd, ((i * 32) + 16), none⟩) ((aj * 32) - ((i * 32) + 16)) ((aj * 32) - ((i * 32) + 16)))] : Slots)
abbrev Ei := fun (pd : Nat) (i : Nat) (aj : Nat) => ((655, .slice (some ⟨pd, ((i * 32) + 20), none⟩) ((aj * 32) - ((i * 32) + 20)) ((aj * 32) - ((i * 32) + 20))) : Nat × Value)
abbrev xB := fun (b : Nat) (o : Nat) (n : Nat) (c : Nat) (s : Nat) (fb : Nat) (big : Bool) (ak : Nat) (aj : Nat) (au : Nat) (ah : Nat) (pd : Nat) (i : Nat) z5 => ((Af b o n c s fb big ak aj au ah pd i z5) ++ [(651, (aU big)), (655, .slice (some ⟨pd, ((i * 32) + 20), none⟩) ((aj * 32) - ((i * 32) + 20)) ((aj * 32) - ((i * 32) + 20)))] : Slots)
abbrev xC := fun (pd : Nat) (i : Nat) (aj : Nat) => ((662, .slice (some ⟨pd, ((i * 32) + 28), none⟩) ((aj * 32) - ((i * 32) + 28)) ((aj * 32) - ((i * 32) + 28))) : Nat × Value)
abbrev Eh := fun (b : Nat) (o : Nat) (n : Nat) (c : Nat) (s : Nat) (fb : Nat) (big : Bool) (ak : Nat) (aj : Nat) (au : Nat) (ah : Nat) (pd : Nat) (i : Nat) z5 => ((gJ b o n c s fb big ak aj au ah pd i z5) ++ [(609, aA z5), (617, (aU big)), (621, .slice (some ⟨pd, ((i * 32) + 24), none⟩) ((aj * 32) - ((i * 32) + 24)) ((aj * 32) - ((i * 32) + 24))), (623, (aU big)), (627, .slice (some ⟨pd, ((i * 32) + 4), none⟩) ((aj * 32) - ((i * 32) + 4)) ((aj * 32) - ((i * 32) + 4))), (630, (aU big)), (634, .slice (some ⟨pd, ((i * 32) + 8), none⟩) ((aj * 32) - ((i * 32) + 8)) ((aj * 32) - ((i * 32) + 8))), (637, (aU big)), (641, .slice (some ⟨pd, ((i * 32) + 12), none⟩) ((aj * 32) - ((i * 32) + 12)) ((aj * 32) - ((i * 32) + 12))), (644, (aU big)), (648, .slice (some ⟨pd, ((i * 32) + 16), none⟩) ((aj * 32) - ((i * 32) + 16)) ((aj * 32) - ((i * 32) + 16))), (651, (aU big)), (655, .slice (some ⟨pd, ((i * 32) + 20), none⟩) ((aj * 32) - ((i * 32) + 20)) ((aj * 32) - ((i * 32) + 20))), (658, (aU big)), (662, .slice (some ⟨pd, ((i * 32) + 28), none⟩) ((aj * 32) - ((i * 32) + 28)) ((aj * 32) - ((i * 32) + 28)))] : Slots)
abbrev Ef := fun (b : Nat) (o : Nat) (n : Nat) (c : Nat) (s : Nat) (fb : Nat) (big : Bool) (ak : Nat) (aj : Nat) (au : Nat) (ah : Nat) (pd : Nat) (i : Nat) z5 (v : nP) => ((gJ b o n c s fb big ak aj au ah pd i z5) ++ [(609, aA z5), (630, (aU big)), (634, .slice (some ⟨pd, ((i * 32) + 8), none⟩) ((aj * 32) - ((i * 32) + 8)) ((aj * 32) - ((i * 32) + 8))), (637, (aU big)), (641, .slice (some ⟨pd, ((i * 32) + 12), none⟩) ((aj * 32) - ((i * 32) + 12)) ((aj * 32) - ((i * 32) + 12))), (644, (aU big)), (648, .slice (some ⟨pd, ((i * 32) + 16), none⟩) ((aj * 32) - ((i * 32) + 16)) ((aj * 32) - ((i * 32) + 16))), (651, (aU big)), (655, .slice (some ⟨pd, ((i * 32) + 20), none⟩) ((aj * 32) - ((i * 32) + 20)) ((aj * 32) - ((i * 32) + 20))), (658, (aU big)), (662, .slice (some ⟨pd, ((i * 32) + 28), none⟩) ((aj * 32) - ((i * 32) + 28)) ((aj * 32) - ((i * 32) + 28))), (616, ay v.ty), (622, aX v.flags)] : Slots)
abbrev Ee := fun (b : Nat) (o : Nat) (n : Nat) (c : Nat) (s : Nat) (fb : Nat) (big : Bool) (ak : Nat) (aj : Nat) (au : Nat) (ah : Nat) (pd : Nat) (i : Nat) z5 (v : nP) => ((gJ b o n c s fb big ak aj au ah pd i z5) ++ [(609, aA z5), (637, (aU big)), (641, .slice (some ⟨pd, ((i * 32) + 12), none⟩) ((aj * 32) - ((i * 32) + 12)) ((aj * 32) - ((i * 32) + 12))), (644, (aU big)), (648, .slice (some ⟨pd, ((i * 32) + 16), none⟩) ((aj * 32) - ((i * 32) + 16)) ((aj * 32) - ((i * 32) + 16))), (651, (aU big)), (655, .slice (some ⟨pd, ((i * 32) + 20), none⟩) ((aj * 32) - ((i * 32) + 20)) ((aj * 32) - ((i * 32) + 20))), (658, (aU big)), (662, .slice (some ⟨pd, ((i * 32) + 28), none⟩) ((aj * 32) - ((i * 32) + 28)) ((aj * 32) - ((i * 32) + 28))), (616, ay v.ty), (622, aX v.flags), (629, aI v.off)] : Slots)
abbrev Ed := fun (b : Nat) (o : Nat) (n : Nat) (c : Nat) (s : Nat) (fb : Nat) (big : Bool) (ak : Nat) (aj : Nat) (au : Nat) (ah : Nat) (pd : Nat) (i : Nat) z5 (v : nP) => ((gJ b o n c s fb big ak aj au ah pd i z5) ++ [(609, aA z5), (644, (aU big)), (648, .slice (some ⟨pd, ((i * 32) + 16), none⟩) ((aj * 32) - ((i * 32) + 16)) ((aj * 32) - ((i * 32) + 16))), (651, (aU big)), (655, .slice (some ⟨pd, ((i * 32) + 20), none⟩) ((aj * 32) - ((i * 32) + 20)) ((aj * 32) - ((i * 32) + 20))), (658, (aU big)), (662, .slice (some ⟨pd, ((i * 32) + 28), none⟩) ((aj * 32) - ((i * 32) + 28)) ((aj * 32) - ((i * 32) + 28))), (616, ay v.ty), (622, aX v.flags), (629, aI v.off), (636, aI v.bY)] : Slots)
abbrev Ec := fun (b : Nat) (o : Nat) (n : Nat) (c : Nat) (s : Nat) (fb : Nat) (big : Bool) (ak : Nat) (aj : Nat) (au : Nat) (ah : Nat) (pd : Nat) (i : Nat) z5 (v : nP) => ((gJ b o n c s fb big ak aj au ah pd i z5) ++ [(609, aA z5), (651, (aU big)), (655, .slice (some ⟨pd, ((i * 32) + 20), none⟩) ((aj * 32) - ((i * 32) + 20)) ((aj * 32) - ((i * 32) + 20))), (658, (aU big)), (662, .slice (some ⟨pd, ((i * 32) + 28), none⟩) ((aj * 32) - ((i * 32) + 28)) ((aj * 32) - ((i * 32) + 28))), (616, ay v.ty), (622, aX v.flags), (629, aI v.off), (636, aI v.bY), (643, aI v.b_)] : Slots)
abbrev Eb := fun (b : Nat) (o : Nat) (n : Nat) (c : Nat) (s : Nat) (fb : Nat) (big : Bool) (ak : Nat) (aj : Nat) (au : Nat) (ah : Nat) (pd : Nat) (i : Nat) z5 (v : nP) => ((gJ b o n c s fb big ak aj au ah pd i z5) ++ [(609, aA z5), (658, (aU big)), (662, .slice (some ⟨pd, ((i * 32) + 28), none⟩) ((aj * 32) - ((i * 32) + 28)) ((aj * 32) - ((i * 32) + 28))), (616, ay v.ty), (622, aX v.flags), (629, aI v.off), (636, aI v.bY), (643, aI v.b_), (650, aI v.bP)] : Slots)
abbrev vI := fun z5 (v : nP) => ((z5, .cells #[ay v.ty, aX v.flags, aI v.off, aI v.bY, aI v.b_, aI v.bP, aI v.dw, aI v.align, .nilIface, .pointer none] 146 (0, 0)) : Nat × Obj)
abbrev tK := fun (b : Nat) (o : Nat) (n : Nat) (c : Nat) (s : Nat) (fb : Nat) (big : Bool) (ak : Nat) (aj : Nat) (au : Nat) (ah : Nat) (pd : Nat) (i : Nat) z5 => ((gJ b o n c s fb big ak aj au ah pd i z5) ++ [(763, aA z5), (764, .iface 178 (.slice (some ⟨b, o, none⟩) n c))] : Slots)
abbrev vH := fun z5 (v : nP) sb => ((z5, .cells #[ay v.ty, aX v.flags, aI v.off, aI v.bY, aI v.b_, aI v.bP, aI v.dw, aI v.align, .iface 144 (aA sb), aA sb] 146 (0, 0)) : Nat × Obj)
theorem UE (l : List UInt8) (b o n c : Nat) (hl : n = l.length) (hnc : n ≤ c) (big : Bool) (abi aH aW aJ aG ak aj au ah : Nat) (dat : Int) (b1 : aW < 65536) (b2 : aJ < 65536) (b3 : aG ≤ 18446744073709551615) (b4 : ak < 4611686018427387904) (b5 : au < 4611686018427387904) (b6 : aj < 200) (b7 : ah < 200) (X : List UInt8) (qh : X.length = (aj * 32)) (i : Nat) (hi : i < aj) (v : nP) (hv : yh (X.drop (i * 32)) false big v.ty v.flags v.bY v.b_ v.dw v.align v.bP v.off)
  (v1 : v.ty < 4294967296) (v2 : v.off + v.bP < 4611686018427387904) (v3 : v.bY ≤ 18446744073709551615) (v4 : v.b_ ≤ 18446744073709551615) (v5 : v.dw ≤ 18446744073709551615) (v6 : v.align ≤ 18446744073709551615) {K0 : Act → World → Prop} {Q : Exit → Act → World → Prop} (a : Act) (W1 : World) (s fb pg pd : Nat) (cur : Array Value) (hcs : cur.size = aj)
  (h1 : W1.heap[fb]? = some (.cells #[aO 1, .int .u8 dat, aO 1, aT abi, aT aH, (aU big), bn aW, bn aJ, aI aG, aQ, aC pg i aj, aQ, aQ, aQ] 131 (0, 0))) (h2 : W1.heap[pg]? = some (.cells cur 136 (0, 0))) (h3 : W1.heap[pd]? = some (.cells (X.map Bv).toArray 5 (0, 0))) (n1 : fb ≠ pg) (n2 : fb ≠ pd) (n3 : pg ≠ pd) (HF : Fr 1287 a ((qF b o n c s fb big ak aj au ah pd) ++ [(38, ay i)]))
  (K : ∀ a w' pb sb cur', cur'.size = aj → cur'.toList.take (i + 1) = cur.toList.take i ++ [aA pb] → Fr 1287 a ((qF b o n c s fb big ak aj au ah pd) ++ [(38, ay (i + 1))]) → Mm [fb, pg, pd] W1 w' [rC sb b o n c v, (pb, .cells #[ay v.ty, aX v.flags, aI v.off, aI v.bY, aI v.b_, aI v.bP, aI v.dw, aI v.align, .iface 144 (aA sb), aA sb] 146 (0, 0)), BU fb dat abi aH big aW aJ aG pg i aj, (pg, .cells cur' 136 (0, 0)), (pd, .cells (X.map Bv).toArray 5 (0, 0))] → K0 a w') : (oP (spine Tryd.f78 35)).wp Tryd.prog (Exit.then K0 Q) a W1 := by
 obtain ⟨i0, hi0, hs0⟩ := yE
 have e0 : num big X ((i * 32) + 0) 4 = v.ty := (g_ big X (i * 32) 0 4).symm.trans hv.ty
 have e1 : num big X ((i * 32) + 24) 4 = v.flags := (g_ big X (i * 32) 24 4).symm.trans hv.flags
 have e2 : num big X ((i * 32) + 4) 4 = v.off := (g_ big X (i * 32) 4 4).symm.trans hv.off
 have e3 : num big X ((i * 32) + 8) 4 = v.bY := (g_ big X (i * 32) 8 4).symm.trans hv.bY
 have e4 : num big X ((i * 32) + 12) 4 = v.b_ := (g_ big X (i * 32) 12 4).symm.trans hv.b_
 have e5 : num big X ((i * 32) + 16) 4 = v.bP := (g_ big X (i * 32) 16 4).symm.trans hv.Rt
 have e6 : num big X ((i * 32) + 20) 4 = v.dw := (g_ big X (i * 32) 20 4).symm.trans hv.dw
 have e7 : num big X ((i * 32) + 28) 4 = v.align := (g_ big X (i * 32) 28 4).symm.trans hv.align
 obtain ⟨w, hw⟩ : ∃ w, W1 = w := ⟨_, rfl⟩
 have HM : Mm [fb, pg, pd] W1 w [iZ fb dat abi aH big aW aJ aG pg i aj, (pg, .cells cur 136 (0, 0)), (pd, .cells (X.map Bv).toArray 5 (0, 0))] := hw ▸ Mm.start3 h1 h2 h3 n1 n2 n3
 conv => arg 5; rw [hw]
 clear hw
 refine wp_seq ?_
 refine wp_seq (wp_region_lit ?_)
 refine aP HF HM rfl 3 [] ((qF b o n c s fb big ak aj au ah pd) ++ [(38, ay i), (593, .bool (decide (((i : Nat) : Int) < ((aj : Nat) : Int))))]) [iZ fb dat abi aH big aW aJ aG pg i aj, (pg, .cells cur 136 (0, 0)), (pd, .cells (X.map Bv).toArray 5 (0, 0))] (by kernel_rfl) ?_
 clear HF HM; intro a w HF HM
 rw [show decide (((i : Nat) : Int) < ((aj : Nat) : Int)) = true from dV (by omega)] at HF
 refine aB ?_
 refine bC HF rfl ?_
 refine wp_skip ?_
 repeat (first | refine aK ?_ | refine aS ?_)
 replace HF := HF.sub ((qF b o n c s fb big ak aj au ah pd) ++ [(38, ay i)]) (by kernel_rfl)
 refine wp_seq (wp_block ?_)
 refine wp_seq (wp_region_lit ?_)
 refine aP HF HM rfl 2 [] ((qF b o n c s fb big ak aj au ah pd) ++ [(38, ay i), (597, bF (IntKind.u64.wrap ((i : Nat) : Int)))]) [iZ fb dat abi aH big aW aJ aG pg i aj, (pg, .cells cur 136 (0, 0)), (pd, .cells (X.map Bv).toArray 5 (0, 0))] (by kernel_rfl) ?_
 clear HF HM; intro a w HF HM
 rw [show IntKind.u64.wrap ((i : Nat) : Int) = ((i : Nat) : Int) from IntWalk.u64_in _ (by omega)] at HF
 refine aP HF HM rfl 3 [] ((qF b o n c s fb big ak aj au ah pd) ++ [(38, ay i), (600, bF (IntKind.u64.wrap (((i : Nat) : Int) * 32)))]) [iZ fb dat abi aH big aW aJ aG pg i aj, (pg, .cells cur 136 (0, 0)), (pd, .cells (X.map Bv).toArray 5 (0, 0))] (by kernel_rfl) ?_
 clear HF HM; intro a w HF HM
 rw [show IntKind.u64.wrap (((i : Nat) : Int) * 32) = (((i * 32) : Nat) : Int) from (IntWalk.u64_in _ (by omega)).trans (by omega)] at HF
 refine aP HF HM rfl 1 [] ((qF b o n c s fb big ak aj au ah pd) ++ [(38, ay i), (39, aI (i * 32))]) [iZ fb dat abi aH big aW aJ aG pg i aj, (pg, .cells cur 136 (0, 0)), (pd, .cells (X.map Bv).toArray 5 (0, 0))] (by kernel_rfl) ?_
 clear HF HM; intro a w HF HM
 refine aB ?_
 obtain ⟨z5, uj⟩ : ∃ z, w.heap.size = z := ⟨_, rfl⟩
 refine bG HF HM uj [] (gJ b o n c s fb big ak aj au ah pd i z5) [pJ z5, iZ fb dat abi aH big aW aJ aG pg i aj, (pg, .cells cur 136 (0, 0)), (pd, .cells (X.map Bv).toArray 5 (0, 0))] (by kernel_rfl) ?_
 clear HF HM uj; intro a w HF HM
 refine wp_seq ?_
 refine bG HF HM rfl [[2]] ((gJ b o n c s fb big ak aj au ah pd i z5) ++ [(606, aO 1)]) [pJ z5, iZ fb dat abi aH big aW aJ aG pg i aj, (pg, .cells cur 136 (0, 0)), (pd, .cells (X.map Bv).toArray 5 (0, 0))] (by kernel_rfl) ?_
 clear HF HM; intro a w HF HM
 refine wp_block ?_
 refine bG HF HM rfl [] ((gJ b o n c s fb big ak aj au ah pd i z5) ++ [(606, aO 1), (607, .bool true)]) [pJ z5, iZ fb dat abi aH big aW aJ aG pg i aj, (pg, .cells cur 136 (0, 0)), (pd, .cells (X.map Bv).toArray 5 (0, 0))] (by kernel_rfl) ?_
 clear HF HM; intro a w HF HM
 refine bC HF rfl ?_
 replace HF := HF.sub (gJ b o n c s fb big ak aj au ah pd i z5) (by kernel_rfl)
 refine wI HM (by kernel_rfl) [(pd, .cells (X.map Bv).toArray 5 (0, 0))] [(0, false), (1, false), (2, false), (3, false), (4, false), (5, false), (8, false), (9, false), (10, false), (11, false), (12, false), (14, false), (15, false), (16, false), (17, false), (18, false), (21, false), (22, false), (23, false), (24, false), (25, false), (28, false), (29, false), (30, false), (31, false), (32, false), (35, false), (36, false), (37, false), (38, false), (39, false), (42, false), (43, false), (44, false), (45, false), (46, false), (49, false), (50, false), (51, false), (52, false), (53, false), (6, true), (7, false), (13, true), (19, true), (20, false), (26, true), (27, false), (33, true), (34, false), (40, true), (41, false), (47, true), (48, false), (54, true), (55, false), (56, false), (57, false), (58, false), (59, true)] (by kernel_rfl) ?_
 clear HM; intro w1 HM
 refine bK HF (HM.told [3] rfl) 1 [] ((gJ b o n c s fb big ak aj au ah pd i z5) ++ [(609, aA z5)]) (by kernel_rfl) ?_
 clear HF; intro a HF
 refine bK HF (HM.told [3] rfl) 4 [] ((gJ b o n c s fb big ak aj au ah pd i z5) ++ [(609, aA z5), (610, (aU big)), (611, aC pd (aj * 32) (aj * 32)), (613, bF (IntKind.u64.wrap ((((i * 32) : Nat) : Int) + 0)))]) (by kernel_rfl) ?_
 clear HF; intro a HF
 rw [show IntKind.u64.wrap ((((i * 32) : Nat) : Int) + 0) = ((((i * 32) + 0) : Nat) : Int) from (IntWalk.u64_in _ (by omega)).trans (by omega)] at HF
 refine eu rfl HF (HM.told [3] rfl) rfl (.slice (some ⟨pd, ((i * 32) + 0), none⟩) ((aj * 32) - ((i * 32) + 0)) ((aj * 32) - ((i * 32) + 0))) (by kernel_rfl) (fun w hw => f_ (t := 33) Tryd.underlying33 hi0 hs0 rfl ((i * 32) + 0) (kk := .u64) rfl rfl (by omega) (by omega) (by omega) w) ?_
 clear HF; intro a HF; replace HF := HF.sub ((gJ b o n c s fb big ak aj au ah pd i z5) ++ [(609, aA z5), (610, (aU big)), (611, aC pd (aj * 32) (aj * 32)), (613, aI ((i * 32) + 0)), QS pd i aj]) (by kernel_rfl)
 replace HF := HF.sub (BR b o n c s fb big ak aj au ah pd i z5) (by kernel_rfl)
 refine bK HF (HM.told [3] rfl) 4 [] ((BR b o n c s fb big ak aj au ah pd i z5) ++ [(617, (aU big)), (618, aC pd (aj * 32) (aj * 32)), (620, bF (IntKind.u64.wrap ((((i * 32) : Nat) : Int) + 24)))]) (by kernel_rfl) ?_
 clear HF; intro a HF
 rw [show IntKind.u64.wrap ((((i * 32) : Nat) : Int) + 24) = ((((i * 32) + 24) : Nat) : Int) from (IntWalk.u64_in _ (by omega)).trans (by omega)] at HF
 refine eu rfl HF (HM.told [3] rfl) rfl (.slice (some ⟨pd, ((i * 32) + 24), none⟩) ((aj * 32) - ((i * 32) + 24)) ((aj * 32) - ((i * 32) + 24))) (by kernel_rfl) (fun w hw => f_ (t := 33) Tryd.underlying33 hi0 hs0 rfl ((i * 32) + 24) (kk := .u64) rfl rfl (by omega) (by omega) (by omega) w) ?_
 clear HF; intro a HF; replace HF := HF.sub ((BR b o n c s fb big ak aj au ah pd i z5) ++ [(617, (aU big)), (618, aC pd (aj * 32) (aj * 32)), (620, aI ((i * 32) + 24)), QO pd i aj]) (by kernel_rfl)
 replace HF := HF.sub (BQ b o n c s fb big ak aj au ah pd i z5) (by kernel_rfl)
 refine bK HF (HM.told [3] rfl) 4 [] ((BQ b o n c s fb big ak aj au ah pd i z5) ++ [(623, (aU big)), (624, aC pd (aj * 32) (aj * 32)), (626, bF (IntKind.u64.wrap ((((i * 32) : Nat) : Int) + 4)))]) (by kernel_rfl) ?_
 clear HF; intro a HF
 rw [show IntKind.u64.wrap ((((i * 32) : Nat) : Int) + 4) = ((((i * 32) + 4) : Nat) : Int) from (IntWalk.u64_in _ (by omega)).trans (by omega)] at HF
 refine eu rfl HF (HM.told [3] rfl) rfl (.slice (some ⟨pd, ((i * 32) + 4), none⟩) ((aj * 32) - ((i * 32) + 4)) ((aj * 32) - ((i * 32) + 4))) (by kernel_rfl) (fun w hw => f_ (t := 33) Tryd.underlying33 hi0 hs0 rfl ((i * 32) + 4) (kk := .u64) rfl rfl (by omega) (by omega) (by omega) w) ?_
 clear HF; intro a HF; replace HF := HF.sub ((BQ b o n c s fb big ak aj au ah pd i z5) ++ [(623, (aU big)), (624, aC pd (aj * 32) (aj * 32)), (626, aI ((i * 32) + 4)), Eo pd i aj]) (by kernel_rfl)
 replace HF := HF.sub (Ai b o n c s fb big ak aj au ah pd i z5) (by kernel_rfl)
 refine bK HF (HM.told [3] rfl) 4 [] ((Ai b o n c s fb big ak aj au ah pd i z5) ++ [(630, (aU big)), (631, aC pd (aj * 32) (aj * 32)), (633, bF (IntKind.u64.wrap ((((i * 32) : Nat) : Int) + 8)))]) (by kernel_rfl) ?_
 clear HF; intro a HF
 rw [show IntKind.u64.wrap ((((i * 32) : Nat) : Int) + 8) = ((((i * 32) + 8) : Nat) : Int) from (IntWalk.u64_in _ (by omega)).trans (by omega)] at HF
 refine eu rfl HF (HM.told [3] rfl) rfl (.slice (some ⟨pd, ((i * 32) + 8), none⟩) ((aj * 32) - ((i * 32) + 8)) ((aj * 32) - ((i * 32) + 8))) (by kernel_rfl) (fun w hw => f_ (t := 33) Tryd.underlying33 hi0 hs0 rfl ((i * 32) + 8) (kk := .u64) rfl rfl (by omega) (by omega) (by omega) w) ?_
 clear HF; intro a HF; replace HF := HF.sub ((Ai b o n c s fb big ak aj au ah pd i z5) ++ [(630, (aU big)), (631, aC pd (aj * 32) (aj * 32)), (633, aI ((i * 32) + 8)), En pd i aj]) (by kernel_rfl)
 replace HF := HF.sub (Ah b o n c s fb big ak aj au ah pd i z5) (by kernel_rfl)
 refine bK HF (HM.told [3] rfl) 4 [] ((Ah b o n c s fb big ak aj au ah pd i z5) ++ [(637, (aU big)), (638, aC pd (aj * 32) (aj * 32)), (640, bF (IntKind.u64.wrap ((((i * 32) : Nat) : Int) + 12)))]) (by kernel_rfl) ?_
 clear HF; intro a HF
 rw [show IntKind.u64.wrap ((((i * 32) : Nat) : Int) + 12) = ((((i * 32) + 12) : Nat) : Int) from (IntWalk.u64_in _ (by omega)).trans (by omega)] at HF
 refine eu rfl HF (HM.told [3] rfl) rfl (.slice (some ⟨pd, ((i * 32) + 12), none⟩) ((aj * 32) - ((i * 32) + 12)) ((aj * 32) - ((i * 32) + 12))) (by kernel_rfl) (fun w hw => f_ (t := 33) Tryd.underlying33 hi0 hs0 rfl ((i * 32) + 12) (kk := .u64) rfl rfl (by omega) (by omega) (by omega) w) ?_
 clear HF; intro a HF; replace HF := HF.sub ((Ah b o n c s fb big ak aj au ah pd i z5) ++ [(637, (aU big)), (638, aC pd (aj * 32) (aj * 32)), (640, aI ((i * 32) + 12)), Em pd i aj]) (by kernel_rfl)
 replace HF := HF.sub (Ag b o n c s fb big ak aj au ah pd i z5) (by kernel_rfl)
 refine bK HF (HM.told [3] rfl) 4 [] ((Ag b o n c s fb big ak aj au ah pd i z5) ++ [(644, (aU big)), (645, aC pd (aj * 32) (aj * 32)), (647, bF (IntKind.u64.wrap ((((i * 32) : Nat) : Int) + 16)))]) (by kernel_rfl) ?_
 clear HF; intro a HF
 rw [show IntKind.u64.wrap ((((i * 32) : Nat) : Int) + 16) = ((((i * 32) + 16) : Nat) : Int) from (IntWalk.u64_in _ (by omega)).trans (by omega)] at HF
 refine eu rfl HF (HM.told [3] rfl) rfl (.slice (some ⟨pd, ((i * 32) + 16), none⟩) ((aj * 32) - ((i * 32) + 16)) ((aj * 32) - ((i * 32) + 16))) (by kernel_rfl) (fun w hw => f_ (t := 33) Tryd.underlying33 hi0 hs0 rfl ((i * 32) + 16) (kk := .u64) rfl rfl (by omega) (by omega) (by omega) w) ?_
 clear HF; intro a HF; replace HF := HF.sub ((Ag b o n c s fb big ak aj au ah pd i z5) ++ [(644, (aU big)), (645, aC pd (aj * 32) (aj * 32)), (647, aI ((i * 32) + 16)), Ej pd i aj]) (by kernel_rfl)
 replace HF := HF.sub (Af b o n c s fb big ak aj au ah pd i z5) (by kernel_rfl)
 refine bK HF (HM.told [3] rfl) 4 [] ((Af b o n c s fb big ak aj au ah pd i z5) ++ [(651, (aU big)), (652, aC pd (aj * 32) (aj * 32)), (654, bF (IntKind.u64.wrap ((((i * 32) : Nat) : Int) + 20)))]) (by kernel_rfl) ?_
 clear HF; intro a HF
 rw [show IntKind.u64.wrap ((((i * 32) : Nat) : Int) + 20) = ((((i * 32) + 20) : Nat) : Int) from (IntWalk.u64_in _ (by omega)).trans (by omega)] at HF
 refine eu rfl HF (HM.told [3] rfl) rfl (.slice (some ⟨pd, ((i * 32) + 20), none⟩) ((aj * 32) - ((i * 32) + 20)) ((aj * 32) - ((i * 32) + 20))) (by kernel_rfl) (fun w hw => f_ (t := 33) Tryd.underlying33 hi0 hs0 rfl ((i * 32) + 20) (kk := .u64) rfl rfl (by omega) (by omega) (by omega) w) ?_
 clear HF; intro a HF; replace HF := HF.sub ((Af b o n c s fb big ak aj au ah pd i z5) ++ [(651, (aU big)), (652, aC pd (aj * 32) (aj * 32)), (654, aI ((i * 32) + 20)), Ei pd i aj]) (by kernel_rfl)
 replace HF := HF.sub (xB b o n c s fb big ak aj au ah pd i z5) (by kernel_rfl)
 refine bK HF (HM.told [3] rfl) 4 [] ((xB b o n c s fb big ak aj au ah pd i z5) ++ [(658, (aU big)), (659, aC pd (aj * 32) (aj * 32)), (661, bF (IntKind.u64.wrap ((((i * 32) : Nat) : Int) + 28)))]) (by kernel_rfl) ?_
 clear HF; intro a HF
 rw [show IntKind.u64.wrap ((((i * 32) : Nat) : Int) + 28) = ((((i * 32) + 28) : Nat) : Int) from (IntWalk.u64_in _ (by omega)).trans (by omega)] at HF
 refine eu rfl HF (HM.told [3] rfl) rfl (.slice (some ⟨pd, ((i * 32) + 28), none⟩) ((aj * 32) - ((i * 32) + 28)) ((aj * 32) - ((i * 32) + 28))) (by kernel_rfl) (fun w hw => f_ (t := 33) Tryd.underlying33 hi0 hs0 rfl ((i * 32) + 28) (kk := .u64) rfl rfl (by omega) (by omega) (by omega) w) ?_
 clear HF; intro a HF; replace HF := HF.sub ((xB b o n c s fb big ak aj au ah pd i z5) ++ [(658, (aU big)), (659, aC pd (aj * 32) (aj * 32)), (661, aI ((i * 32) + 28)), xC pd i aj]) (by kernel_rfl)
 replace HF := HF.sub ((xB b o n c s fb big ak aj au ah pd i z5) ++ [(658, (aU big)), xC pd i aj]) (by kernel_rfl)
 refine bQ rfl ?_
 refine bf HF (by kernel_rfl) 87 #[(aU big), .slice (some ⟨pd, ((i * 32) + 0), none⟩) ((aj * 32) - ((i * 32) + 0)) ((aj * 32) - ((i * 32) + 0))] (by kernel_rfl) (fun w => by kernel_rfl) (Calls.mono (kK (HM.get (i := 3) rfl) (by unfold maxLen; omega) big ((i * 32) + 0) ((aj * 32) - ((i * 32) + 0)) (by omega) (by omega) ((v.ty : Nat) : Int) (by rw [e0])) ?_)
 rintro _ w2 ⟨rfl, kS, hq⟩
 replace HM : Mm [fb, pg, pd] W1 w2 [pJ z5, iZ fb dat abi aH big aW aJ aG pg i aj, (pg, .cells cur 136 (0, 0)), (pd, .cells (X.map Bv).toArray 5 (0, 0))] := by rw [hq]; exact HM.drewN _
 clear hq
 refine ⟨_, rfl, ?_⟩; clear HF; intro a HF; replace HF := HF.sub ((xB b o n c s fb big ak aj au ah pd i z5) ++ [(658, (aU big)), xC pd i aj, (615, aX v.ty)]) (by kernel_rfl)
 refine dD (HM.told [3] rfl) ?_
 replace HF := HF.sub ((Eh b o n c s fb big ak aj au ah pd i z5) ++ [(615, aX v.ty)]) (by kernel_rfl)
 refine bK HF (HM.told [3] rfl) 1 [] ((Eh b o n c s fb big ak aj au ah pd i z5) ++ [(616, aF (IntKind.i64.wrap ((v.ty : Nat) : Int)))]) (by kernel_rfl) ?_
 clear HF; intro a HF
 rw [show IntKind.i64.wrap ((v.ty : Nat) : Int) = ((v.ty : Nat) : Int) from IntWalk.i64_in _ (by omega)] at HF
 refine bQ rfl ?_
 refine bf HF (by kernel_rfl) 87 #[(aU big), .slice (some ⟨pd, ((i * 32) + 24), none⟩) ((aj * 32) - ((i * 32) + 24)) ((aj * 32) - ((i * 32) + 24))] (by kernel_rfl) (fun w => by kernel_rfl) (Calls.mono (kK (HM.get (i := 3) rfl) (by unfold maxLen; omega) big ((i * 32) + 24) ((aj * 32) - ((i * 32) + 24)) (by omega) (by omega) ((v.flags : Nat) : Int) (by rw [e1])) ?_)
 rintro _ w3 ⟨rfl, kS, hq⟩
 replace HM : Mm [fb, pg, pd] W1 w3 [pJ z5, iZ fb dat abi aH big aW aJ aG pg i aj, (pg, .cells cur 136 (0, 0)), (pd, .cells (X.map Bv).toArray 5 (0, 0))] := by rw [hq]; exact HM.drewN _
 clear hq
 refine ⟨_, rfl, ?_⟩; clear HF; intro a HF; replace HF := HF.sub ((Eh b o n c s fb big ak aj au ah pd i z5) ++ [(616, ay v.ty), (622, aX v.flags)]) (by kernel_rfl)
 refine dD (HM.told [3] rfl) ?_
 replace HF := HF.sub ((gJ b o n c s fb big ak aj au ah pd i z5) ++ [(609, aA z5), (623, (aU big)), Eo pd i aj, (630, (aU big)), En pd i aj, (637, (aU big)), Em pd i aj, (644, (aU big)), Ej pd i aj, (651, (aU big)), Ei pd i aj, (658, (aU big)), xC pd i aj, (616, ay v.ty), (622, aX v.flags)]) (by kernel_rfl)
 refine bQ rfl ?_
 refine bf HF (by kernel_rfl) 87 #[(aU big), .slice (some ⟨pd, ((i * 32) + 4), none⟩) ((aj * 32) - ((i * 32) + 4)) ((aj * 32) - ((i * 32) + 4))] (by kernel_rfl) (fun w => by kernel_rfl) (Calls.mono (kK (HM.get (i := 3) rfl) (by unfold maxLen; omega) big ((i * 32) + 4) ((aj * 32) - ((i * 32) + 4)) (by omega) (by omega) ((v.off : Nat) : Int) (by rw [e2])) ?_)
 rintro _ w4 ⟨rfl, kS, hq⟩
 replace HM : Mm [fb, pg, pd] W1 w4 [pJ z5, iZ fb dat abi aH big aW aJ aG pg i aj, (pg, .cells cur 136 (0, 0)), (pd, .cells (X.map Bv).toArray 5 (0, 0))] := by rw [hq]; exact HM.drewN _
 clear hq
 refine ⟨_, rfl, ?_⟩; clear HF; intro a HF; replace HF := HF.sub ((gJ b o n c s fb big ak aj au ah pd i z5) ++ [(609, aA z5), (623, (aU big)), Eo pd i aj, (630, (aU big)), En pd i aj, (637, (aU big)), Em pd i aj, (644, (aU big)), Ej pd i aj, (651, (aU big)), Ei pd i aj, (658, (aU big)), xC pd i aj, (616, ay v.ty), (622, aX v.flags), (628, aX v.off)]) (by kernel_rfl)
 refine dD (HM.told [3] rfl) ?_
 replace HF := HF.sub ((Ef b o n c s fb big ak aj au ah pd i z5 v) ++ [(628, aX v.off)]) (by kernel_rfl)
 refine bK HF (HM.told [3] rfl) 1 [] ((Ef b o n c s fb big ak aj au ah pd i z5 v) ++ [(629, bF (IntKind.u64.wrap ((v.off : Nat) : Int)))]) (by kernel_rfl) ?_
 clear HF; intro a HF
 rw [show IntKind.u64.wrap ((v.off : Nat) : Int) = ((v.off : Nat) : Int) from IntWalk.u64_in _ (by omega)] at HF
 refine bQ rfl ?_
 refine bf HF (by kernel_rfl) 87 #[(aU big), .slice (some ⟨pd, ((i * 32) + 8), none⟩) ((aj * 32) - ((i * 32) + 8)) ((aj * 32) - ((i * 32) + 8))] (by kernel_rfl) (fun w => by kernel_rfl) (Calls.mono (kK (HM.get (i := 3) rfl) (by unfold maxLen; omega) big ((i * 32) + 8) ((aj * 32) - ((i * 32) + 8)) (by omega) (by omega) ((v.bY : Nat) : Int) (by rw [e3])) ?_)
 rintro _ w5 ⟨rfl, kS, hq⟩
 replace HM : Mm [fb, pg, pd] W1 w5 [pJ z5, iZ fb dat abi aH big aW aJ aG pg i aj, (pg, .cells cur 136 (0, 0)), (pd, .cells (X.map Bv).toArray 5 (0, 0))] := by rw [hq]; exact HM.drewN _
 clear hq
 refine ⟨_, rfl, ?_⟩; clear HF; intro a HF; replace HF := HF.sub ((Ef b o n c s fb big ak aj au ah pd i z5 v) ++ [(629, aI v.off), (635, aX v.bY)]) (by kernel_rfl)
 refine dD (HM.told [3] rfl) ?_
 replace HF := HF.sub ((Ee b o n c s fb big ak aj au ah pd i z5 v) ++ [(635, aX v.bY)]) (by kernel_rfl)
 refine bK HF (HM.told [3] rfl) 1 [] ((Ee b o n c s fb big ak aj au ah pd i z5 v) ++ [(636, bF (IntKind.u64.wrap ((v.bY : Nat) : Int)))]) (by kernel_rfl) ?_
 clear HF; intro a HF
 rw [show IntKind.u64.wrap ((v.bY : Nat) : Int) = ((v.bY : Nat) : Int) from IntWalk.u64_in _ (by omega)] at HF
 refine bQ rfl ?_
 refine bf HF (by kernel_rfl) 87 #[(aU big), .slice (some ⟨pd, ((i * 32) + 12), none⟩) ((aj * 32) - ((i * 32) + 12)) ((aj * 32) - ((i * 32) + 12))] (by kernel_rfl) (fun w => by kernel_rfl) (Calls.mono (kK (HM.get (i := 3) rfl) (by unfold maxLen; omega) big ((i * 32) + 12) ((aj * 32) - ((i * 32) + 12)) (by omega) (by omega) ((v.b_ : Nat) : Int) (by rw [e4])) ?_)
 rintro _ w6 ⟨rfl, kS, hq⟩
 replace HM : Mm [fb, pg, pd] W1 w6 [pJ z5, iZ fb dat abi aH big aW aJ aG pg i aj, (pg, .cells cur 136 (0, 0)), (pd, .cells (X.map Bv).toArray 5 (0, 0))] := by rw [hq]; exact HM.drewN _
 clear hq
 refine ⟨_, rfl, ?_⟩; clear HF; intro a HF; replace HF := HF.sub ((Ee b o n c s fb big ak aj au ah pd i z5 v) ++ [(636, aI v.bY), (642, aX v.b_)]) (by kernel_rfl)
 refine dD (HM.told [3] rfl) ?_
 replace HF := HF.sub ((Ed b o n c s fb big ak aj au ah pd i z5 v) ++ [(642, aX v.b_)]) (by kernel_rfl)
 refine bK HF (HM.told [3] rfl) 1 [] ((Ed b o n c s fb big ak aj au ah pd i z5 v) ++ [(643, bF (IntKind.u64.wrap ((v.b_ : Nat) : Int)))]) (by kernel_rfl) ?_
 clear HF; intro a HF
 rw [show IntKind.u64.wrap ((v.b_ : Nat) : Int) = ((v.b_ : Nat) : Int) from IntWalk.u64_in _ (by omega)] at HF
 refine bQ rfl ?_
 refine bf HF (by kernel_rfl) 87 #[(aU big), .slice (some ⟨pd, ((i * 32) + 16), none⟩) ((aj * 32) - ((i * 32) + 16)) ((aj * 32) - ((i * 32) + 16))] (by kernel_rfl) (fun w => by kernel_rfl) (Calls.mono (kK (HM.get (i := 3) rfl) (by unfold maxLen; omega) big ((i * 32) + 16) ((aj * 32) - ((i * 32) + 16)) (by omega) (by omega) ((v.bP : Nat) : Int) (by rw [e5])) ?_)
 rintro _ w7 ⟨rfl, kS, hq⟩
 replace HM : Mm [fb, pg, pd] W1 w7 [pJ z5, iZ fb dat abi aH big aW aJ aG pg i aj, (pg, .cells cur 136 (0, 0)), (pd, .cells (X.map Bv).toArray 5 (0, 0))] := by rw [hq]; exact HM.drewN _
 clear hq
 refine ⟨_, rfl, ?_⟩; clear HF; intro a HF; replace HF := HF.sub ((Ed b o n c s fb big ak aj au ah pd i z5 v) ++ [(643, aI v.b_), (649, aX v.bP)]) (by kernel_rfl)
 refine dD (HM.told [3] rfl) ?_
 replace HF := HF.sub ((Ec b o n c s fb big ak aj au ah pd i z5 v) ++ [(649, aX v.bP)]) (by kernel_rfl)
 refine bK HF (HM.told [3] rfl) 1 [] ((Ec b o n c s fb big ak aj au ah pd i z5 v) ++ [(650, bF (IntKind.u64.wrap ((v.bP : Nat) : Int)))]) (by kernel_rfl) ?_
 clear HF; intro a HF
 rw [show IntKind.u64.wrap ((v.bP : Nat) : Int) = ((v.bP : Nat) : Int) from IntWalk.u64_in _ (by omega)] at HF
 refine bQ rfl ?_
 refine bf HF (by kernel_rfl) 87 #[(aU big), .slice (some ⟨pd, ((i * 32) + 20), none⟩) ((aj * 32) - ((i * 32) + 20)) ((aj * 32) - ((i * 32) + 20))] (by kernel_rfl) (fun w => by kernel_rfl) (Calls.mono (kK (HM.get (i := 3) rfl) (by unfold maxLen; omega) big ((i * 32) + 20) ((aj * 32) - ((i * 32) + 20)) (by omega) (by omega) ((v.dw : Nat) : Int) (by rw [e6])) ?_)
 rintro _ w8 ⟨rfl, kS, hq⟩
 replace HM : Mm [fb, pg, pd] W1 w8 [pJ z5, iZ fb dat abi aH big aW aJ aG pg i aj, (pg, .cells cur 136 (0, 0)), (pd, .cells (X.map Bv).toArray 5 (0, 0))] := by rw [hq]; exact HM.drewN _
 clear hq
 refine ⟨_, rfl, ?_⟩; clear HF; intro a HF; replace HF := HF.sub ((Ec b o n c s fb big ak aj au ah pd i z5 v) ++ [(650, aI v.bP), (656, aX v.dw)]) (by kernel_rfl)
 refine dD (HM.told [3] rfl) ?_
 replace HF := HF.sub ((Eb b o n c s fb big ak aj au ah pd i z5 v) ++ [(656, aX v.dw)]) (by kernel_rfl)
 refine bK HF (HM.told [3] rfl) 1 [] ((Eb b o n c s fb big ak aj au ah pd i z5 v) ++ [(657, bF (IntKind.u64.wrap ((v.dw : Nat) : Int)))]) (by kernel_rfl) ?_
 clear HF; intro a HF
 rw [show IntKind.u64.wrap ((v.dw : Nat) : Int) = ((v.dw : Nat) : Int) from IntWalk.u64_in _ (by omega)] at HF
 refine bQ rfl ?_
 refine bf HF (by kernel_rfl) 87 #[(aU big), .slice (some ⟨pd, ((i * 32) + 28), none⟩) ((aj * 32) - ((i * 32) + 28)) ((aj * 32) - ((i * 32) + 28))] (by kernel_rfl) (fun w => by kernel_rfl) (Calls.mono (kK (HM.get (i := 3) rfl) (by unfold maxLen; omega) big ((i * 32) + 28) ((aj * 32) - ((i * 32) + 28)) (by omega) (by omega) ((v.align : Nat) : Int) (by rw [e7])) ?_)
 rintro _ w9 ⟨rfl, kS, hq⟩
 replace HM : Mm [fb, pg, pd] W1 w9 [pJ z5, iZ fb dat abi aH big aW aJ aG pg i aj, (pg, .cells cur 136 (0, 0)), (pd, .cells (X.map Bv).toArray 5 (0, 0))] := by rw [hq]; exact HM.drewN _
 clear hq
 refine ⟨_, rfl, ?_⟩; clear HF; intro a HF; replace HF := HF.sub ((Eb b o n c s fb big ak aj au ah pd i z5 v) ++ [(657, aI v.dw), (663, aX v.align)]) (by kernel_rfl)
 refine dD (HM.told [3] rfl) ?_
 replace HF := HF.sub ((gJ b o n c s fb big ak aj au ah pd i z5) ++ [(609, aA z5), (616, ay v.ty), (622, aX v.flags), (629, aI v.off), (636, aI v.bY), (643, aI v.b_), (650, aI v.bP), (657, aI v.dw), (663, aX v.align)]) (by kernel_rfl)
 refine bK HF (HM.told [3] rfl) 1 [] ((gJ b o n c s fb big ak aj au ah pd i z5) ++ [(609, aA z5), (616, ay v.ty), (622, aX v.flags), (629, aI v.off), (636, aI v.bY), (643, aI v.b_), (650, aI v.bP), (657, aI v.dw), (664, bF (IntKind.u64.wrap ((v.align : Nat) : Int)))]) (by kernel_rfl) ?_
 clear HF; intro a HF
 rw [show IntKind.u64.wrap ((v.align : Nat) : Int) = ((v.align : Nat) : Int) from IntWalk.u64_in _ (by omega)] at HF
 refine bK HF (HM.told [3] rfl) 3 [] ((gJ b o n c s fb big ak aj au ah pd i z5) ++ [(609, aA z5), (616, ay v.ty), (622, aX v.flags), (629, aI v.off), (636, aI v.bY), (643, aI v.b_), (650, aI v.bP), (657, aI v.dw), (664, aI v.align), (665, .agg #[ay v.ty, aX v.flags, aI v.off, aI v.bY, aI v.b_, aI v.bP, aI v.dw, aI v.align]), (667, aA z5)]) (by kernel_rfl) ?_
 clear HF; intro a HF
 replace HF := HF.sub ((gJ b o n c s fb big ak aj au ah pd i z5) ++ [(665, .agg #[ay v.ty, aX v.flags, aI v.off, aI v.bY, aI v.b_, aI v.bP, aI v.dw, aI v.align]), (667, aA z5)]) (by kernel_rfl)
 refine bQ rfl ?_
 refine aP HF HM rfl 1 [[3, 3, 3, 3, 3, 3, 3, 3]] (gJ b o n c s fb big ak aj au ah pd i z5) [vI z5 v, iZ fb dat abi aH big aW aJ aG pg i aj, (pg, .cells cur 136 (0, 0)), (pd, .cells (X.map Bv).toArray 5 (0, 0))] (by kernel_rfl) ?_
 clear HF HM; intro a w HF HM
 refine dD (HM.told [3] rfl) ?_
 refine jR ?_
 repeat (first | refine aK ?_ | refine aS ?_)
 refine wp_seq ?_
 refine wp_seq (wp_region_lit ?_)
 refine aP HF HM rfl 6 [[3]] ((gJ b o n c s fb big ak aj au ah pd i z5) ++ [(728, aF (IntKind.i64.wrap ((v.off : Nat) : Int)))]) [vI z5 v, iZ fb dat abi aH big aW aJ aG pg i aj, (pg, .cells cur 136 (0, 0)), (pd, .cells (X.map Bv).toArray 5 (0, 0))] (by kernel_rfl) ?_
 clear HF HM; intro a w HF HM
 rw [show IntKind.i64.wrap ((v.off : Nat) : Int) = ((v.off : Nat) : Int) from IntWalk.i64_in _ (by omega)] at HF
 refine aP HF HM rfl 1 [] ((gJ b o n c s fb big ak aj au ah pd i z5) ++ [(729, .bool (decide (((v.off : Nat) : Int) < 0)))]) [vI z5 v, iZ fb dat abi aH big aW aJ aG pg i aj, (pg, .cells cur 136 (0, 0)), (pd, .cells (X.map Bv).toArray 5 (0, 0))] (by kernel_rfl) ?_
 clear HF HM; intro a w HF HM
 rw [show decide (((v.off : Nat) : Int) < 0) = false from dI (by omega)] at HF
 refine aB ?_
 refine aZ HF rfl ?_
 refine wp_skip ?_
 repeat (first | refine aK ?_ | refine aS ?_)
 replace HF := HF.sub (gJ b o n c s fb big ak aj au ah pd i z5) (by kernel_rfl)
 refine wp_seq ?_
 refine wp_seq (wp_region_lit ?_)
 refine aP HF HM rfl 6 [[3]] ((gJ b o n c s fb big ak aj au ah pd i z5) ++ [(748, aF (IntKind.i64.wrap ((v.bP : Nat) : Int)))]) [vI z5 v, iZ fb dat abi aH big aW aJ aG pg i aj, (pg, .cells cur 136 (0, 0)), (pd, .cells (X.map Bv).toArray 5 (0, 0))] (by kernel_rfl) ?_
 clear HF HM; intro a w HF HM
 rw [show IntKind.i64.wrap ((v.bP : Nat) : Int) = ((v.bP : Nat) : Int) from IntWalk.i64_in _ (by omega)] at HF
 refine aP HF HM rfl 1 [] ((gJ b o n c s fb big ak aj au ah pd i z5) ++ [(749, .bool (decide (((v.bP : Nat) : Int) < 0)))]) [vI z5 v, iZ fb dat abi aH big aW aJ aG pg i aj, (pg, .cells cur 136 (0, 0)), (pd, .cells (X.map Bv).toArray 5 (0, 0))] (by kernel_rfl) ?_
 clear HF HM; intro a w HF HM
 rw [show decide (((v.bP : Nat) : Int) < 0) = false from dI (by omega)] at HF
 refine aB ?_
 refine aZ HF rfl ?_
 refine wp_skip ?_
 repeat (first | refine aK ?_ | refine aS ?_)
 replace HF := HF.sub (gJ b o n c s fb big ak aj au ah pd i z5) (by kernel_rfl)
 refine BF HM (by kernel_rfl) (fun w => w.cell? ⟨z5, 2, none⟩ = some (aI v.off) ∧ w.cell? ⟨z5, 5, none⟩ = some (aI v.bP)) [(0, false), (1, false), (2, false), (3, false), (4, false), (5, false), (6, false), (7, false), (8, false), (9, false), (10, false), (11, false), (12, false), (13, false), (14, true), (15, false), (16, false), (17, true)] (by kernel_rfl) ?_
 clear HM; intro w10 HM
 refine kD (LS := []) (fun _ _ => kY _) HF ⟨HM.cellAt (i := 0) (k := 2) rfl rfl, HM.cellAt (i := 0) (k := 5) rfl rfl⟩ 6 [] ((tK b o n c s fb big ak aj au ah pd i z5) ++ [(768, .pointer (some ⟨z5, 2, none⟩))]) (by kernel_rfl) ?_
 clear HF; intro a HF
 refine sJ rfl HF ⟨HM.cellAt (i := 0) (k := 2) rfl rfl, HM.cellAt (i := 0) (k := 5) rfl rfl⟩ rfl (aI v.off) (by kernel_rfl) (fun w hw => dP rfl rfl (by kernel_rfl) hw.1) ?_
 clear HF; intro a HF; replace HF := HF.sub ((tK b o n c s fb big ak aj au ah pd i z5) ++ [(768, .pointer (some ⟨z5, 2, none⟩)), (769, aI v.off)]) (by kernel_rfl)
 refine kD (LS := []) (fun _ _ => kY _) HF ⟨HM.cellAt (i := 0) (k := 2) rfl rfl, HM.cellAt (i := 0) (k := 5) rfl rfl⟩ 1 [] ((tK b o n c s fb big ak aj au ah pd i z5) ++ [(770, aF (IntKind.i64.wrap ((v.off : Nat) : Int)))]) (by kernel_rfl) ?_
 clear HF; intro a HF
 rw [show IntKind.i64.wrap ((v.off : Nat) : Int) = ((v.off : Nat) : Int) from IntWalk.i64_in _ (by omega)] at HF
 refine kD (LS := []) (fun _ _ => kY _) HF ⟨HM.cellAt (i := 0) (k := 2) rfl rfl, HM.cellAt (i := 0) (k := 5) rfl rfl⟩ 4 [] ((tK b o n c s fb big ak aj au ah pd i z5) ++ [(770, ay v.off), (774, .pointer (some ⟨z5, 5, none⟩))]) (by kernel_rfl) ?_
 clear HF; intro a HF
 refine sJ rfl HF ⟨HM.cellAt (i := 0) (k := 2) rfl rfl, HM.cellAt (i := 0) (k := 5) rfl rfl⟩ rfl (aI v.bP) (by kernel_rfl) (fun w hw => dP rfl rfl (by kernel_rfl) hw.2) ?_
 clear HF; intro a HF; replace HF := HF.sub ((tK b o n c s fb big ak aj au ah pd i z5) ++ [(770, ay v.off), (774, .pointer (some ⟨z5, 5, none⟩)), (775, aI v.bP)]) (by kernel_rfl)
 refine kD (LS := []) (fun _ _ => kY _) HF ⟨HM.cellAt (i := 0) (k := 2) rfl rfl, HM.cellAt (i := 0) (k := 5) rfl rfl⟩ 1 [] ((tK b o n c s fb big ak aj au ah pd i z5) ++ [(770, ay v.off), (776, aF (IntKind.i64.wrap ((v.bP : Nat) : Int)))]) (by kernel_rfl) ?_
 clear HF; intro a HF
 rw [show IntKind.i64.wrap ((v.bP : Nat) : Int) = ((v.bP : Nat) : Int) from IntWalk.i64_in _ (by omega)] at HF
 refine qC rfl ?_
 refine bf HF (by kernel_rfl) 92 #[.iface 178 (.slice (some ⟨b, o, none⟩) n c), ay v.off, ay v.bP] (by kernel_rfl) (fun w => by kernel_rfl) (Calls.mono (rD 178 (.slice (some ⟨b, o, none⟩) n c) ((v.off : Nat) : Int) ((v.bP : Nat) : Int) (by omega) (by omega) (by omega) w10) ?_)
 rintro _ wQ ⟨sb, rfl, hb, hge, hgn⟩
 replace HM : Mm [fb, pg, pd] W1 wQ [rC sb b o n c v, vI z5 v, iZ fb dat abi aH big aW aJ aG pg i aj, (pg, .cells cur 136 (0, 0)), (pd, .cells (X.map Bv).toArray 5 (0, 0))] := HM.push hb hge hgn
 clear hb hge hgn
 refine ⟨_, rfl, ?_⟩; clear HF; intro a HF; replace HF := HF.sub ((tK b o n c s fb big ak aj au ah pd i z5) ++ [(770, ay v.off), (776, ay v.bP), (777, aA sb)]) (by kernel_rfl)
 refine sK ⟨HM.cellAt (i := 1) (k := 2) rfl rfl, HM.cellAt (i := 1) (k := 5) rfl rfl⟩ ?_
 refine kD (LS := []) (fun _ _ => kY _) HF ⟨HM.cellAt (i := 1) (k := 2) rfl rfl, HM.cellAt (i := 1) (k := 5) rfl rfl⟩ 2 [] ((gJ b o n c s fb big ak aj au ah pd i z5) ++ [(777, aA sb), (779, .pointer (some ⟨z5, 9, none⟩))]) (by kernel_rfl) ?_
 clear HF; intro a HF
 refine qC rfl ?_
 refine aP HF HM rfl 1 [[3]] (gJ b o n c s fb big ak aj au ah pd i z5) [rC sb b o n c v, (z5, .cells #[ay v.ty, aX v.flags, aI v.off, aI v.bY, aI v.b_, aI v.bP, aI v.dw, aI v.align, .nilIface, aA sb] 146 (0, 0)), iZ fb dat abi aH big aW aJ aG pg i aj, (pg, .cells cur 136 (0, 0)), (pd, .cells (X.map Bv).toArray 5 (0, 0))] (by kernel_rfl) ?_
 clear HF HM; intro a w HF HM
 refine sK ⟨HM.cellAt (i := 1) (k := 2) rfl rfl, HM.cellAt (i := 1) (k := 5) rfl rfl⟩ ?_
 refine BG (aK ?_)
 refine bG HF HM rfl [[3], [3]] (gJ b o n c s fb big ak aj au ah pd i z5) [rC sb b o n c v, vH z5 v sb, iZ fb dat abi aH big aW aJ aG pg i aj, (pg, .cells cur 136 (0, 0)), (pd, .cells (X.map Bv).toArray 5 (0, 0))] (by kernel_rfl) ?_
 clear HF HM; intro a w HF HM
 refine wp_region_lit ?_
 obtain ⟨uH, Bd⟩ : ∃ z, w.heap.size = z := ⟨_, rfl⟩
 refine aP HF HM Bd 7 [[2]] ((gJ b o n c s fb big ak aj au ah pd i z5) ++ [(788, aA fb), (792, aC pg i aj), (794, aC uH 1 1)]) [(uH, .cells #[aA z5] 136 (0, 0)), rC sb b o n c v, vH z5 v sb, iZ fb dat abi aH big aW aJ aG pg i aj, (pg, .cells cur 136 (0, 0)), (pd, .cells (X.map Bv).toArray 5 (0, 0))] (by kernel_rfl) ?_
 clear HF HM Bd; intro a w HF HM
 refine rX HF HM rfl _ _ 127 rfl rfl 136 (.pointer none) 8 Tryd.underlying127 Az 4 0 pg _ i aj cur _ _ rfl hcs (by omega) (by unfold maxLen; omega) rfl rfl rfl rfl ?_
 intro a2 w12 cur' hcs' htk bJ HF2; clear HF HM; have HM : Mm [fb, pg, pd] W1 w12 [(uH, .cells #[aA z5] 136 (0, 0)), rC sb b o n c v, vH z5 v sb, iZ fb dat abi aH big aW aJ aG pg i aj, (pg, .cells cur' 136 (0, 0)), (pd, .cells (X.map Bv).toArray 5 (0, 0))] := bJ; have HF := HF2; clear bJ HF2
 replace HF := HF.sub ((gJ b o n c s fb big ak aj au ah pd i z5) ++ [(788, aA fb), (795, aC pg (i + 1) aj)]) (by kernel_rfl)
 refine aP HF HM rfl 3 [[2]] (gJ b o n c s fb big ak aj au ah pd i z5) [(uH, .cells #[aA z5] 136 (0, 0)), rC sb b o n c v, vH z5 v sb, BU fb dat abi aH big aW aJ aG pg i aj, (pg, .cells cur' 136 (0, 0)), (pd, .cells (X.map Bv).toArray 5 (0, 0))] (by kernel_rfl) ?_
 clear HF HM; intro a w HF HM
 refine wpList_nil ?_
 repeat (first | refine aK ?_ | refine aS ?_)
 refine wp_region_lit ?_
 refine aP HF HM rfl 2 [] ((gJ b o n c s fb big ak aj au ah pd i z5) ++ [(595, aF (IntKind.i64.wrap (((i : Nat) : Int) + 1)))]) [(uH, .cells #[aA z5] 136 (0, 0)), rC sb b o n c v, vH z5 v sb, BU fb dat abi aH big aW aJ aG pg i aj, (pg, .cells cur' 136 (0, 0)), (pd, .cells (X.map Bv).toArray 5 (0, 0))] (by kernel_rfl) ?_
 clear HF HM; intro a w HF HM
 rw [show IntKind.i64.wrap (((i : Nat) : Int) + 1) = (((i + 1) : Nat) : Int) from (IntWalk.i64_in _ (by omega)).trans (by omega)] at HF
 refine aP HF HM rfl 1 [] ((qF b o n c s fb big ak aj au ah pd) ++ [(39, aI (i * 32)), (40, aA z5), (38, ay (i + 1))]) [(uH, .cells #[aA z5] 136 (0, 0)), rC sb b o n c v, vH z5 v sb, BU fb dat abi aH big aW aJ aG pg i aj, (pg, .cells cur' 136 (0, 0)), (pd, .cells (X.map Bv).toArray 5 (0, 0))] (by kernel_rfl) ?_
 clear HF HM; intro a w HF HM
 refine wpList_nil ?_
 repeat (first | refine aK ?_ | refine aS ?_)
 replace HF := HF.sub ((qF b o n c s fb big ak aj au ah pd) ++ [(38, ay (i + 1))]) (by kernel_rfl)
 exact K a w z5 sb cur' hcs' htk HF (HM.sub (List.Sublist.cons _ (List.Sublist.refl _)))

abbrev qE := fun (b : Nat) (o : Nat) (n : Nat) (c : Nat) (s : Nat) (fb : Nat) (big : Bool) (ak : Nat) (aj : Nat) (au : Nat) (ah : Nat) (pd : Nat) => ([(0, .iface 178 (.slice (some ⟨b, o, none⟩) n c)), (4, aA s), (8, aA fb), (9, (aU big)), (10, ay ak), (11, aF 56), (12, ay aj), (13, ay au), (14, aF 64), (15, ay ah), (16, ay (ah - 1)), (26, aF 64), (36, aC pd (aj * 56) (aj * 56))] : Slots)
abbrev BP := fun (fb : Nat) (dat : Int) (abi : Nat) (aH : Nat) (big : Bool) (aW : Nat) (aJ : Nat) (aG : Nat) (pg : Nat) (i : Nat) (aj : Nat) => ((fb, .cells #[aO 2, .int .u8 dat, aO 1, aT abi, aT aH, (aU big), bn aW, bn aJ, aI aG, aQ, aC pg (i + 1) aj, aQ, aQ, aQ] 131 (0, 0)) : Nat × Obj)
abbrev ru := fun sb (b : Nat) (o : Nat) (n : Nat) (c : Nat) (v : nP) => ((sb, .cells #[.iface 178 (.slice (some ⟨b, o, none⟩) n c), ay v.off, ay v.off, aF (((v.bP : Nat) : Int) + ((v.off : Nat) : Int)), ay v.bP] 246 (0, 0)) : Nat × Obj)
abbrev iV := fun (fb : Nat) (dat : Int) (abi : Nat) (aH : Nat) (big : Bool) (aW : Nat) (aJ : Nat) (aG : Nat) (pg : Nat) (i : Nat) (aj : Nat) => ((fb, .cells #[aO 2, .int .u8 dat, aO 1, aT abi, aT aH, (aU big), bn aW, bn aJ, aI aG, aQ, aC pg i aj, aQ, aQ, aQ] 131 (0, 0)) : Nat × Obj)
abbrev oK := fun z5 => ((z5, .cells #[aF 0, gV 0, bF 0, bF 0, bF 0, bF 0, bF 0, bF 0, .nilIface, .pointer none] 146 (0, 0)) : Nat × Obj)
abbrev fE := fun (b : Nat) (o : Nat) (n : Nat) (c : Nat) (s : Nat) (fb : Nat) (big : Bool) (ak : Nat) (aj : Nat) (au : Nat) (ah : Nat) (pd : Nat) (i : Nat) z5 => ((qE b o n c s fb big ak aj au ah pd) ++ [(38, ay i), (39, aI (i * 56)), (40, aA z5)] : Slots)
abbrev QN := fun (pd : Nat) (i : Nat) (aj : Nat) => ((675, .slice (some ⟨pd, ((i * 56) + 0), none⟩) ((aj * 56) - ((i * 56) + 0)) ((aj * 56) - ((i * 56) + 0))) : Nat × Value)
abbrev BO := fun (b : Nat) (o : Nat) (n : Nat) (c : Nat) (s : Nat) (fb : Nat) (big : Bool) (ak : Nat) (aj : Nat) (au : Nat) (ah : Nat) (pd : Nat) (i : Nat) z5 => ((fE b o n c s fb big ak aj au ah pd i z5) ++ [(670, aA z5), (671, (aU big)), (675, .slice (some ⟨pd, ((i * 56) + 0), none⟩) ((aj * 56) - ((i * 56) + 0)) ((aj * 56) - ((i * 56) + 0)))] : Slots)
abbrev QM := fun (pd : Nat) (i : Nat) (aj : Nat) => ((682, .slice (some ⟨pd, ((i * 56) + 4), none⟩) ((aj * 56) - ((i * 56) + 4)) ((aj * 56) - ((i * 56) + 4))) : Nat × Value)
abbrev BN := fun (b : Nat) (o : Nat) (n : Nat) (c : Nat) (s : Nat) (fb : Nat) (big : Bool) (ak : Nat) (aj : Nat) (au : Nat) (ah : Nat) (pd : Nat) (i : Nat) z5 => ((BO b o n c s fb big ak aj au ah pd i z5) ++ [(678, (aU big)), (682, .slice (some ⟨pd, ((i * 56) + 4), none⟩) ((aj * 56) - ((i * 56) + 4)) ((aj * 56) - ((i * 56) + 4)))] : Slots)
abbrev Ea := fun (pd : Nat) (i : Nat) (aj : Nat) => ((688, .slice (some ⟨pd, ((i * 56) + 8), none⟩) ((aj * 56) - ((i * 56) + 8)) ((aj * 56) - ((i * 56) + 8))) : Nat × Value)
abbrev Ae := fun (b : Nat) (o : Nat) (n : Nat) (c : Nat) (s : Nat) (fb : Nat) (big : Bool) (ak : Nat) (aj : Nat) (au : Nat) (ah : Nat) (pd : Nat) (i : Nat) z5 => ((BN b o n c s fb big ak aj au ah pd i z5) ++ [(684, (aU big)), (688, .slice (some ⟨pd, ((i * 56) + 8), none⟩) ((aj * 56) - ((i * 56) + 8)) ((aj * 56) - ((i * 56) + 8)))] : Slots)
abbrev xA := fun (pd : Nat) (i : Nat) (aj : Nat) => ((694, .slice (some ⟨pd, ((i * 56) + 16), none⟩) ((aj * 56) - ((i * 56) + 16)) ((aj * 56) - ((i * 56) + 16))) : Nat × Value)
abbrev Ad := fun (b : Nat) (o : Nat) (n : Nat) (c : Nat) (s : Nat) (fb : Nat) (big : Bool) (ak : Nat) (aj : Nat) (au : Nat) (ah : Nat) (pd : Nat) (i : Nat) z5 => ((Ae b o n c s fb big ak aj au ah pd i z5) ++ [(690, (aU big)), (694, .slice (some ⟨pd, ((i * 56) + 16), none⟩) ((aj * 56) - ((i * 56) + 16)) ((aj * 56) - ((i * 56) + 16)))] : Slots)
abbrev tJ := fun (pd : Nat) (i : Nat) (aj : Nat) => ((700, .slice (some ⟨pd, ((i * 56) + 24), none⟩) ((aj * 56) - ((i * 56) + 24)) ((aj * 56) - ((i * 56) + 24))) : Nat × Value)
abbrev Ac := fun (b : Nat) (o : Nat) (n : Nat) (c : Nat) (s : Nat) (fb : Nat) (big : Bool) (ak : Nat) (aj : Nat) (au : Nat) (ah : Nat) (pd : Nat) (i : Nat) z5 => ((Ad b o n c s fb big ak aj au ah pd i z5) ++ [(696, (aU big)), (700, .slice (some ⟨pd, ((i * 56) + 24), none⟩) ((aj * 56) - ((i * 56) + 24)) ((aj * 56) - ((i * 56) + 24)))] : Slots)
abbrev qp := fun (pd : Nat) (i : Nat) (aj : Nat) => ((706, .slice (some ⟨pd, ((i * 56) + 32), none⟩) ((aj * 56) - ((i * 56) + 32)) ((aj * 56) - ((i * 56) + 32))) : Nat × Value)
abbrev Aa := fun (b : Nat) (o : Nat) (n : Nat) (c : Nat) (s : Nat) (fb : Nat) (big : Bool) (ak : Nat) (aj : Nat) (au : Nat) (ah : Nat) (pd : Nat) (i : Nat) z5 => ((Ac b o n c s fb big ak aj au ah pd i z5) ++ [(702, (aU big)), (706, .slice (some ⟨pd, ((i * 56) + 32), none⟩) ((aj * 56) - ((i * 56) + 32)) ((aj * 56) - ((i * 56) + 32)))] : Slots)
abbrev oC := fun (pd : Nat) (i : Nat) (aj : Nat) => ((712, .slice (some ⟨pd, ((i * 56) + 40), none⟩) ((aj * 56) - ((i * 56) + 40)) ((aj * 56) - ((i * 56) + 40))) : Nat × Value)
abbrev xw := fun (b : Nat) (o : Nat) (n : Nat) (c : Nat) (s : Nat) (fb : Nat) (big : Bool) (ak : Nat) (aj : Nat) (au : Nat) (ah : Nat) (pd : Nat) (i : Nat) z5 => ((Aa b o n c s fb big ak aj au ah pd i z5) ++ [(708, (aU big)), (712, .slice (some ⟨pd, ((i * 56) + 40), none⟩) ((aj * 56) - ((i * 56) + 40)) ((aj * 56) - ((i * 56) + 40)))] : Slots)
abbrev lH := fun (pd : Nat) (i : Nat) (aj : Nat) => ((718, .slice (some ⟨pd, ((i * 56) + 48), none⟩) ((aj * 56) - ((i * 56) + 48)) ((aj * 56) - ((i * 56) + 48))) : Nat × Value)
abbrev D_ := fun (b : Nat) (o : Nat) (n : Nat) (c : Nat) (s : Nat) (fb : Nat) (big : Bool) (ak : Nat) (aj : Nat) (au : Nat) (ah : Nat) (pd : Nat) (i : Nat) z5 => ((fE b o n c s fb big ak aj au ah pd i z5) ++ [(670, aA z5), (678, (aU big)), (682, .slice (some ⟨pd, ((i * 56) + 4), none⟩) ((aj * 56) - ((i * 56) + 4)) ((aj * 56) - ((i * 56) + 4))), (684, (aU big)), (688, .slice (some ⟨pd, ((i * 56) + 8), none⟩) ((aj * 56) - ((i * 56) + 8)) ((aj * 56) - ((i * 56) + 8))), (690, (aU big)), (694, .slice (some ⟨pd, ((i * 56) + 16), none⟩) ((aj * 56) - ((i * 56) + 16)) ((aj * 56) - ((i * 56) + 16))), (696, (aU big)), (700, .slice (some ⟨pd, ((i * 56) + 24), none⟩) ((aj * 56) - ((i * 56) + 24)) ((aj * 56) - ((i * 56) + 24))), (702, (aU big)), (706, .slice (some ⟨pd, ((i * 56) + 32), none⟩) ((aj * 56) - ((i * 56) + 32)) ((aj * 56) - ((i * 56) + 32))), (708, (aU big)), (712, .slice (some ⟨pd, ((i * 56) + 40), none⟩) ((aj * 56) - ((i * 56) + 40)) ((aj * 56) - ((i * 56) + 40))), (714, (aU big)), (718, .slice (some ⟨pd, ((i * 56) + 48), none⟩) ((aj * 56) - ((i * 56) + 48)) ((aj * 56) - ((i * 56) + 48)))] : Slots)
abbrev vG := fun z5 (v : nP) => ((z5, .cells #[ay v.ty, aX v.flags, aI v.off, aI v.bY, aI v.b_, aI v.bP, aI v.dw, aI v.align, .nilIface, .pointer none] 146 (0, 0)) : Nat × Obj)
abbrev tH := fun (b : Nat) (o : Nat) (n : Nat) (c : Nat) (s : Nat) (fb : Nat) (big : Bool) (ak : Nat) (aj : Nat) (au : Nat) (ah : Nat) (pd : Nat) (i : Nat) z5 => ((fE b o n c s fb big ak aj au ah pd i z5) ++ [(763, aA z5), (764, .iface 178 (.slice (some ⟨b, o, none⟩) n c))] : Slots)
abbrev vF := fun z5 (v : nP) sb => ((z5, .cells #[ay v.ty, aX v.flags, aI v.off, aI v.bY, aI v.b_, aI v.bP, aI v.dw, aI v.align, .iface 144 (aA sb), aA sb] 146 (0, 0)) : Nat × Obj)
theorem UD (l : List UInt8) (b o n c : Nat) (hl : n = l.length) (hnc : n ≤ c) (big : Bool) (abi aH aW aJ aG ak aj au ah : Nat) (dat : Int) (b1 : aW < 65536) (b2 : aJ < 65536) (b3 : aG ≤ 18446744073709551615) (b4 : ak < 4611686018427387904) (b5 : au < 4611686018427387904) (b6 : aj < 200) (b7 : ah < 200) (X : List UInt8) (qh : X.length = (aj * 56)) (i : Nat) (hi : i < aj) (v : nP) (hv : yh (X.drop (i * 56)) true big v.ty v.flags v.bY v.b_ v.dw v.align v.bP v.off)
  (v1 : v.ty < 4294967296) (v2 : v.off + v.bP < 4611686018427387904) (v3 : v.bY ≤ 18446744073709551615) (v4 : v.b_ ≤ 18446744073709551615) (v5 : v.dw ≤ 18446744073709551615) (v6 : v.align ≤ 18446744073709551615) {K0 : Act → World → Prop} {Q : Exit → Act → World → Prop} (a : Act) (W1 : World) (s fb pg pd : Nat) (cur : Array Value) (hcs : cur.size = aj)
  (h1 : W1.heap[fb]? = some (.cells #[aO 2, .int .u8 dat, aO 1, aT abi, aT aH, (aU big), bn aW, bn aJ, aI aG, aQ, aC pg i aj, aQ, aQ, aQ] 131 (0, 0))) (h2 : W1.heap[pg]? = some (.cells cur 136 (0, 0))) (h3 : W1.heap[pd]? = some (.cells (X.map Bv).toArray 5 (0, 0))) (n1 : fb ≠ pg) (n2 : fb ≠ pd) (n3 : pg ≠ pd) (HF : Fr 1287 a ((qE b o n c s fb big ak aj au ah pd) ++ [(38, ay i)]))
  (K : ∀ a w' pb sb cur', cur'.size = aj → cur'.toList.take (i + 1) = cur.toList.take i ++ [aA pb] → Fr 1287 a ((qE b o n c s fb big ak aj au ah pd) ++ [(38, ay (i + 1))]) → Mm [fb, pg, pd] W1 w' [ru sb b o n c v, (pb, .cells #[ay v.ty, aX v.flags, aI v.off, aI v.bY, aI v.b_, aI v.bP, aI v.dw, aI v.align, .iface 144 (aA sb), aA sb] 146 (0, 0)), BP fb dat abi aH big aW aJ aG pg i aj, (pg, .cells cur' 136 (0, 0)), (pd, .cells (X.map Bv).toArray 5 (0, 0))] → K0 a w') : (oP (spine Tryd.f78 35)).wp Tryd.prog (Exit.then K0 Q) a W1 := by
 obtain ⟨i0, hi0, hs0⟩ := yE
 have e0 : num big X ((i * 56) + 0) 4 = v.ty := (g_ big X (i * 56) 0 4).symm.trans hv.ty
 have e1 : num big X ((i * 56) + 4) 4 = v.flags := (g_ big X (i * 56) 4 4).symm.trans hv.flags
 have e2 : num big X ((i * 56) + 8) 8 = v.off := (g_ big X (i * 56) 8 8).symm.trans hv.off
 have e3 : num big X ((i * 56) + 16) 8 = v.bY := (g_ big X (i * 56) 16 8).symm.trans hv.bY
 have e4 : num big X ((i * 56) + 24) 8 = v.b_ := (g_ big X (i * 56) 24 8).symm.trans hv.b_
 have e5 : num big X ((i * 56) + 32) 8 = v.bP := (g_ big X (i * 56) 32 8).symm.trans hv.Rt
 have e6 : num big X ((i * 56) + 40) 8 = v.dw := (g_ big X (i * 56) 40 8).symm.trans hv.dw
 have e7 : num big X ((i * 56) + 48) 8 = v.align := (g_ big X (i * 56) 48 8).symm.trans hv.align
 obtain ⟨w, hw⟩ : ∃ w, W1 = w := ⟨_, rfl⟩
 have HM : Mm [fb, pg, pd] W1 w [iV fb dat abi aH big aW aJ aG pg i aj, (pg, .cells cur 136 (0, 0)), (pd, .cells (X.map Bv).toArray 5 (0, 0))] := hw ▸ Mm.start3 h1 h2 h3 n1 n2 n3
 conv => arg 5; rw [hw]
 clear hw
 refine wp_seq ?_
 refine wp_seq (wp_region_lit ?_)
 refine aP HF HM rfl 3 [] ((qE b o n c s fb big ak aj au ah pd) ++ [(38, ay i), (593, .bool (decide (((i : Nat) : Int) < ((aj : Nat) : Int))))]) [iV fb dat abi aH big aW aJ aG pg i aj, (pg, .cells cur 136 (0, 0)), (pd, .cells (X.map Bv).toArray 5 (0, 0))] (by kernel_rfl) ?_
 clear HF HM; intro a w HF HM
 rw [show decide (((i : Nat) : Int) < ((aj : Nat) : Int)) = true from dV (by omega)] at HF
 refine aB ?_
 refine bC HF rfl ?_
 refine wp_skip ?_
 repeat (first | refine aK ?_ | refine aS ?_)
 replace HF := HF.sub ((qE b o n c s fb big ak aj au ah pd) ++ [(38, ay i)]) (by kernel_rfl)
 refine wp_seq (wp_block ?_)
 refine wp_seq (wp_region_lit ?_)
 refine aP HF HM rfl 2 [] ((qE b o n c s fb big ak aj au ah pd) ++ [(38, ay i), (597, bF (IntKind.u64.wrap ((i : Nat) : Int)))]) [iV fb dat abi aH big aW aJ aG pg i aj, (pg, .cells cur 136 (0, 0)), (pd, .cells (X.map Bv).toArray 5 (0, 0))] (by kernel_rfl) ?_
 clear HF HM; intro a w HF HM
 rw [show IntKind.u64.wrap ((i : Nat) : Int) = ((i : Nat) : Int) from IntWalk.u64_in _ (by omega)] at HF
 refine aP HF HM rfl 3 [] ((qE b o n c s fb big ak aj au ah pd) ++ [(38, ay i), (600, bF (IntKind.u64.wrap (((i : Nat) : Int) * 56)))]) [iV fb dat abi aH big aW aJ aG pg i aj, (pg, .cells cur 136 (0, 0)), (pd, .cells (X.map Bv).toArray 5 (0, 0))] (by kernel_rfl) ?_
 clear HF HM; intro a w HF HM
 rw [show IntKind.u64.wrap (((i : Nat) : Int) * 56) = (((i * 56) : Nat) : Int) from (IntWalk.u64_in _ (by omega)).trans (by omega)] at HF
 refine aP HF HM rfl 1 [] ((qE b o n c s fb big ak aj au ah pd) ++ [(38, ay i), (39, aI (i * 56))]) [iV fb dat abi aH big aW aJ aG pg i aj, (pg, .cells cur 136 (0, 0)), (pd, .cells (X.map Bv).toArray 5 (0, 0))] (by kernel_rfl) ?_
 clear HF HM; intro a w HF HM
 refine aB ?_
 obtain ⟨z5, uj⟩ : ∃ z, w.heap.size = z := ⟨_, rfl⟩
 refine bG HF HM uj [] (fE b o n c s fb big ak aj au ah pd i z5) [oK z5, iV fb dat abi aH big aW aJ aG pg i aj, (pg, .cells cur 136 (0, 0)), (pd, .cells (X.map Bv).toArray 5 (0, 0))] (by kernel_rfl) ?_
 clear HF HM uj; intro a w HF HM
 refine wp_seq ?_
 refine bG HF HM rfl [[2]] ((fE b o n c s fb big ak aj au ah pd i z5) ++ [(606, aO 2)]) [oK z5, iV fb dat abi aH big aW aJ aG pg i aj, (pg, .cells cur 136 (0, 0)), (pd, .cells (X.map Bv).toArray 5 (0, 0))] (by kernel_rfl) ?_
 clear HF HM; intro a w HF HM
 refine wp_block ?_
 refine bG HF HM rfl [] ((fE b o n c s fb big ak aj au ah pd i z5) ++ [(606, aO 2), (607, .bool false)]) [oK z5, iV fb dat abi aH big aW aJ aG pg i aj, (pg, .cells cur 136 (0, 0)), (pd, .cells (X.map Bv).toArray 5 (0, 0))] (by kernel_rfl) ?_
 clear HF HM; intro a w HF HM
 refine aZ HF rfl ?_
 refine bG HF HM rfl [] ((fE b o n c s fb big ak aj au ah pd i z5) ++ [(606, aO 2), (668, .bool true)]) [oK z5, iV fb dat abi aH big aW aJ aG pg i aj, (pg, .cells cur 136 (0, 0)), (pd, .cells (X.map Bv).toArray 5 (0, 0))] (by kernel_rfl) ?_
 clear HF HM; intro a w HF HM
 refine bC HF rfl ?_
 replace HF := HF.sub (fE b o n c s fb big ak aj au ah pd i z5) (by kernel_rfl)
 refine wI HM (by kernel_rfl) [(pd, .cells (X.map Bv).toArray 5 (0, 0))] [(0, false), (1, false), (2, false), (3, false), (4, false), (5, false), (8, false), (9, false), (10, false), (11, false), (12, false), (14, false), (15, false), (16, false), (17, false), (18, false), (20, false), (21, false), (22, false), (23, false), (24, false), (26, false), (27, false), (28, false), (29, false), (30, false), (32, false), (33, false), (34, false), (35, false), (36, false), (38, false), (39, false), (40, false), (41, false), (42, false), (44, false), (45, false), (46, false), (47, false), (48, false), (6, true), (7, false), (13, true), (19, true), (25, true), (31, true), (37, true), (43, true), (49, true), (50, false), (51, false), (52, false), (53, true)] (by kernel_rfl) ?_
 clear HM; intro w1 HM
 refine bK HF (HM.told [3] rfl) 1 [] ((fE b o n c s fb big ak aj au ah pd i z5) ++ [(670, aA z5)]) (by kernel_rfl) ?_
 clear HF; intro a HF
 refine bK HF (HM.told [3] rfl) 4 [] ((fE b o n c s fb big ak aj au ah pd i z5) ++ [(670, aA z5), (671, (aU big)), (672, aC pd (aj * 56) (aj * 56)), (674, bF (IntKind.u64.wrap ((((i * 56) : Nat) : Int) + 0)))]) (by kernel_rfl) ?_
 clear HF; intro a HF
 rw [show IntKind.u64.wrap ((((i * 56) : Nat) : Int) + 0) = ((((i * 56) + 0) : Nat) : Int) from (IntWalk.u64_in _ (by omega)).trans (by omega)] at HF
 refine eu rfl HF (HM.told [3] rfl) rfl (.slice (some ⟨pd, ((i * 56) + 0), none⟩) ((aj * 56) - ((i * 56) + 0)) ((aj * 56) - ((i * 56) + 0))) (by kernel_rfl) (fun w hw => f_ (t := 33) Tryd.underlying33 hi0 hs0 rfl ((i * 56) + 0) (kk := .u64) rfl rfl (by omega) (by omega) (by omega) w) ?_
 clear HF; intro a HF; replace HF := HF.sub ((fE b o n c s fb big ak aj au ah pd i z5) ++ [(670, aA z5), (671, (aU big)), (672, aC pd (aj * 56) (aj * 56)), (674, aI ((i * 56) + 0)), QN pd i aj]) (by kernel_rfl)
 replace HF := HF.sub (BO b o n c s fb big ak aj au ah pd i z5) (by kernel_rfl)
 refine bK HF (HM.told [3] rfl) 4 [] ((BO b o n c s fb big ak aj au ah pd i z5) ++ [(678, (aU big)), (679, aC pd (aj * 56) (aj * 56)), (681, bF (IntKind.u64.wrap ((((i * 56) : Nat) : Int) + 4)))]) (by kernel_rfl) ?_
 clear HF; intro a HF
 rw [show IntKind.u64.wrap ((((i * 56) : Nat) : Int) + 4) = ((((i * 56) + 4) : Nat) : Int) from (IntWalk.u64_in _ (by omega)).trans (by omega)] at HF
 refine eu rfl HF (HM.told [3] rfl) rfl (.slice (some ⟨pd, ((i * 56) + 4), none⟩) ((aj * 56) - ((i * 56) + 4)) ((aj * 56) - ((i * 56) + 4))) (by kernel_rfl) (fun w hw => f_ (t := 33) Tryd.underlying33 hi0 hs0 rfl ((i * 56) + 4) (kk := .u64) rfl rfl (by omega) (by omega) (by omega) w) ?_
 clear HF; intro a HF; replace HF := HF.sub ((BO b o n c s fb big ak aj au ah pd i z5) ++ [(678, (aU big)), (679, aC pd (aj * 56) (aj * 56)), (681, aI ((i * 56) + 4)), QM pd i aj]) (by kernel_rfl)
 replace HF := HF.sub (BN b o n c s fb big ak aj au ah pd i z5) (by kernel_rfl)
 refine bK HF (HM.told [3] rfl) 4 [] ((BN b o n c s fb big ak aj au ah pd i z5) ++ [(684, (aU big)), (685, aC pd (aj * 56) (aj * 56)), (687, bF (IntKind.u64.wrap ((((i * 56) : Nat) : Int) + 8)))]) (by kernel_rfl) ?_
 clear HF; intro a HF
 rw [show IntKind.u64.wrap ((((i * 56) : Nat) : Int) + 8) = ((((i * 56) + 8) : Nat) : Int) from (IntWalk.u64_in _ (by omega)).trans (by omega)] at HF
 refine eu rfl HF (HM.told [3] rfl) rfl (.slice (some ⟨pd, ((i * 56) + 8), none⟩) ((aj * 56) - ((i * 56) + 8)) ((aj * 56) - ((i * 56) + 8))) (by kernel_rfl) (fun w hw => f_ (t := 33) Tryd.underlying33 hi0 hs0 rfl ((i * 56) + 8) (kk := .u64) rfl rfl (by omega) (by omega) (by omega) w) ?_
 clear HF; intro a HF; replace HF := HF.sub ((BN b o n c s fb big ak aj au ah pd i z5) ++ [(684, (aU big)), (685, aC pd (aj * 56) (aj * 56)), (687, aI ((i * 56) + 8)), Ea pd i aj]) (by kernel_rfl)
 replace HF := HF.sub (Ae b o n c s fb big ak aj au ah pd i z5) (by kernel_rfl)
 refine bK HF (HM.told [3] rfl) 4 [] ((Ae b o n c s fb big ak aj au ah pd i z5) ++ [(690, (aU big)), (691, aC pd (aj * 56) (aj * 56)), (693, bF (IntKind.u64.wrap ((((i * 56) : Nat) : Int) + 16)))]) (by kernel_rfl) ?_
 clear HF; intro a HF
 rw [show IntKind.u64.wrap ((((i * 56) : Nat) : Int) + 16) = ((((i * 56) + 16) : Nat) : Int) from (IntWalk.u64_in _ (by omega)).trans (by omega)] at HF
 refine eu rfl HF (HM.told [3] rfl) rfl (.slice (some ⟨pd, ((i * 56) + 16), none⟩) ((aj * 56) - ((i * 56) + 16)) ((aj * 56) - ((i * 56) + 16))) (by kernel_rfl) (fun w hw => f_ (t := 33) Tryd.underlying33 hi0 hs0 rfl ((i * 56) + 16) (kk := .u64) rfl rfl (by omega) (by omega) (by omega) w) ?_
 clear HF; intro a HF; replace HF := HF.sub ((Ae b o n c s fb big ak aj au ah pd i z5) ++ [(690, (aU big)), (691, aC pd (aj * 56) (aj * 56)), (693, aI ((i * 56) + 16)), xA pd i aj]) (by kernel_rfl)
 replace HF := HF.sub (Ad b o n c s fb big ak aj au ah pd i z5) (by kernel_rfl)
 refine bK HF (HM.told [3] rfl) 4 [] ((Ad b o n c s fb big ak aj au ah pd i z5) ++ [(696, (aU big)), (697, aC pd (aj * 56) (aj * 56)), (699, bF (IntKind.u64.wrap ((((i * 56) : Nat) : Int) + 24)))]) (by kernel_rfl) ?_
 clear HF; intro a HF
 rw [show IntKind.u64.wrap ((((i * 56) : Nat) : Int) + 24) = ((((i * 56) + 24) : Nat) : Int) from (IntWalk.u64_in _ (by omega)).trans (by omega)] at HF
 refine eu rfl HF (HM.told [3] rfl) rfl (.slice (some ⟨pd, ((i * 56) + 24), none⟩) ((aj * 56) - ((i * 56) + 24)) ((aj * 56) - ((i * 56) + 24))) (by kernel_rfl) (fun w hw => f_ (t := 33) Tryd.underlying33 hi0 hs0 rfl ((i * 56) + 24) (kk := .u64) rfl rfl (by omega) (by omega) (by omega) w) ?_
 clear HF; intro a HF; replace HF := HF.sub ((Ad b o n c s fb big ak aj au ah pd i z5) ++ [(696, (aU big)), (697, aC pd (aj * 56) (aj * 56)), (699, aI ((i * 56) + 24)), tJ pd i aj]) (by kernel_rfl)
 replace HF := HF.sub (Ac b o n c s fb big ak aj au ah pd i z5) (by kernel_rfl)
 refine bK HF (HM.told [3] rfl) 4 [] ((Ac b o n c s fb big ak aj au ah pd i z5) ++ [(702, (aU big)), (703, aC pd (aj * 56) (aj * 56)), (705, bF (IntKind.u64.wrap ((((i * 56) : Nat) : Int) + 32)))]) (by kernel_rfl) ?_
 clear HF; intro a HF
 rw [show IntKind.u64.wrap ((((i * 56) : Nat) : Int) + 32) = ((((i * 56) + 32) : Nat) : Int) from (IntWalk.u64_in _ (by omega)).trans (by omega)] at HF
 refine eu rfl HF (HM.told [3] rfl) rfl (.slice (some ⟨pd, ((i * 56) + 32), none⟩) ((aj * 56) - ((i * 56) + 32)) ((aj * 56) - ((i * 56) + 32))) (by kernel_rfl) (fun w hw => f_ (t := 33) Tryd.underlying33 hi0 hs0 rfl ((i * 56) + 32) (kk := .u64) rfl rfl (by omega) (by omega) (by omega) w) ?_
 clear HF; intro a HF; replace HF := HF.sub ((Ac b o n c s fb big ak aj au ah pd i z5) ++ [(702, (aU big)), (703, aC pd (aj * 56) (aj * 56)), (705, aI ((i * 56) + 32)), qp pd i aj]) (by kernel_rfl)
 replace HF := HF.sub (Aa b o n c s fb big ak aj au ah pd i z5) (by kernel_rfl)
 refine bK HF (HM.told [3] rfl) 4 [] ((Aa b o n c s fb big ak aj au ah pd i z5) ++ [(708, (aU big)), (709, aC pd (aj * 56) (aj * 56)), (711, bF (IntKind.u64.wrap ((((i * 56) : Nat) : Int) + 40)))]) (by kernel_rfl) ?_
 clear HF; intro a HF
 rw [show IntKind.u64.wrap ((((i * 56) : Nat) : Int) + 40) = ((((i * 56) + 40) : Nat) : Int) from (IntWalk.u64_in _ (by omega)).trans (by omega)] at HF
 refine eu rfl HF (HM.told [3] rfl) rfl (.slice (some ⟨pd, ((i * 56) + 40), none⟩) ((aj * 56) - ((i * 56) + 40)) ((aj * 56) - ((i * 56) + 40))) (by kernel_rfl) (fun w hw => f_ (t := 33) Tryd.underlying33 hi0 hs0 rfl ((i * 56) + 40) (kk := .u64) rfl rfl (by omega) (by omega) (by omega) w) ?_
 clear HF; intro a HF; replace HF := HF.sub ((Aa b o n c s fb big ak aj au ah pd i z5) ++ [(708, (aU big)), (709, aC pd (aj * 56) (aj * 56)), (711, aI ((i * 56) + 40)), oC pd i aj]) (by kernel_rfl)
 replace HF := HF.sub (xw b o n c s fb big ak aj au ah pd i z5) (by kernel_rfl)
 refine bK HF (HM.told [3] rfl) 4 [] ((xw b o n c s fb big ak aj au ah pd i z5) ++ [(714, (aU big)), (715, aC pd (aj * 56) (aj * 56)), (717, bF (IntKind.u64.wrap ((((i * 56) : Nat) : Int) + 48)))]) (by kernel_rfl) ?_
 clear HF; intro a HF
 rw [show IntKind.u64.wrap ((((i * 56) : Nat) : Int) + 48) = ((((i * 56) + 48) : Nat) : Int) from (IntWalk.u64_in _ (by omega)).trans (by omega)] at HF
 refine eu rfl HF (HM.told [3] rfl) rfl (.slice (some ⟨pd, ((i * 56) + 48), none⟩) ((aj * 56) - ((i * 56) + 48)) ((aj * 56) - ((i * 56) + 48))) (by kernel_rfl) (fun w hw => f_ (t := 33) Tryd.underlying33 hi0 hs0 rfl ((i * 56) + 48) (kk := .u64) rfl rfl (by omega) (by omega) (by omega) w) ?_
 clear HF; intro a HF; replace HF := HF.sub ((xw b o n c s fb big ak aj au ah pd i z5) ++ [(714, (aU big)), (715, aC pd (aj * 56) (aj * 56)), (717, aI ((i * 56) + 48)), lH pd i aj]) (by kernel_rfl)
 replace HF := HF.sub ((xw b o n c s fb big ak aj au ah pd i z5) ++ [(714, (aU big)), lH pd i aj]) (by kernel_rfl)
 refine bQ rfl ?_
 refine bf HF (by kernel_rfl) 87 #[(aU big), .slice (some ⟨pd, ((i * 56) + 0), none⟩) ((aj * 56) - ((i * 56) + 0)) ((aj * 56) - ((i * 56) + 0))] (by kernel_rfl) (fun w => by kernel_rfl) (Calls.mono (kK (HM.get (i := 3) rfl) (by unfold maxLen; omega) big ((i * 56) + 0) ((aj * 56) - ((i * 56) + 0)) (by omega) (by omega) ((v.ty : Nat) : Int) (by rw [e0])) ?_)
 rintro _ w2 ⟨rfl, kS, hq⟩
 replace HM : Mm [fb, pg, pd] W1 w2 [oK z5, iV fb dat abi aH big aW aJ aG pg i aj, (pg, .cells cur 136 (0, 0)), (pd, .cells (X.map Bv).toArray 5 (0, 0))] := by rw [hq]; exact HM.drewN _
 clear hq
 refine ⟨_, rfl, ?_⟩; clear HF; intro a HF; replace HF := HF.sub ((xw b o n c s fb big ak aj au ah pd i z5) ++ [(714, (aU big)), lH pd i aj, (676, aX v.ty)]) (by kernel_rfl)
 refine dD (HM.told [3] rfl) ?_
 replace HF := HF.sub ((D_ b o n c s fb big ak aj au ah pd i z5) ++ [(676, aX v.ty)]) (by kernel_rfl)
 refine bK HF (HM.told [3] rfl) 1 [] ((D_ b o n c s fb big ak aj au ah pd i z5) ++ [(677, aF (IntKind.i64.wrap ((v.ty : Nat) : Int)))]) (by kernel_rfl) ?_
 clear HF; intro a HF
 rw [show IntKind.i64.wrap ((v.ty : Nat) : Int) = ((v.ty : Nat) : Int) from IntWalk.i64_in _ (by omega)] at HF
 refine bQ rfl ?_
 refine bf HF (by kernel_rfl) 87 #[(aU big), .slice (some ⟨pd, ((i * 56) + 4), none⟩) ((aj * 56) - ((i * 56) + 4)) ((aj * 56) - ((i * 56) + 4))] (by kernel_rfl) (fun w => by kernel_rfl) (Calls.mono (kK (HM.get (i := 3) rfl) (by unfold maxLen; omega) big ((i * 56) + 4) ((aj * 56) - ((i * 56) + 4)) (by omega) (by omega) ((v.flags : Nat) : Int) (by rw [e1])) ?_)
 rintro _ w3 ⟨rfl, kS, hq⟩
 replace HM : Mm [fb, pg, pd] W1 w3 [oK z5, iV fb dat abi aH big aW aJ aG pg i aj, (pg, .cells cur 136 (0, 0)), (pd, .cells (X.map Bv).toArray 5 (0, 0))] := by rw [hq]; exact HM.drewN _
 clear hq
 refine ⟨_, rfl, ?_⟩; clear HF; intro a HF; replace HF := HF.sub ((D_ b o n c s fb big ak aj au ah pd i z5) ++ [(677, ay v.ty), (683, aX v.flags)]) (by kernel_rfl)
 refine dD (HM.told [3] rfl) ?_
 replace HF := HF.sub ((fE b o n c s fb big ak aj au ah pd i z5) ++ [(670, aA z5), (684, (aU big)), Ea pd i aj, (690, (aU big)), xA pd i aj, (696, (aU big)), tJ pd i aj, (702, (aU big)), qp pd i aj, (708, (aU big)), oC pd i aj, (714, (aU big)), lH pd i aj, (677, ay v.ty), (683, aX v.flags)]) (by kernel_rfl)
 refine bQ rfl ?_
 refine bf HF (by kernel_rfl) 88 #[(aU big), .slice (some ⟨pd, ((i * 56) + 8), none⟩) ((aj * 56) - ((i * 56) + 8)) ((aj * 56) - ((i * 56) + 8))] (by kernel_rfl) (fun w => by kernel_rfl) (Calls.mono (qJ (HM.get (i := 3) rfl) (by unfold maxLen; omega) big ((i * 56) + 8) ((aj * 56) - ((i * 56) + 8)) (by omega) (by omega) ((v.off : Nat) : Int) (by rw [e2])) ?_)
 rintro _ w4 ⟨rfl, kS, hq⟩
 replace HM : Mm [fb, pg, pd] W1 w4 [oK z5, iV fb dat abi aH big aW aJ aG pg i aj, (pg, .cells cur 136 (0, 0)), (pd, .cells (X.map Bv).toArray 5 (0, 0))] := by rw [hq]; exact HM.drewN _
 clear hq
 refine ⟨_, rfl, ?_⟩; clear HF; intro a HF; replace HF := HF.sub ((fE b o n c s fb big ak aj au ah pd i z5) ++ [(670, aA z5), (684, (aU big)), Ea pd i aj, (690, (aU big)), xA pd i aj, (696, (aU big)), tJ pd i aj, (702, (aU big)), qp pd i aj, (708, (aU big)), oC pd i aj, (714, (aU big)), lH pd i aj, (677, ay v.ty), (683, aX v.flags), (689, aI v.off)]) (by kernel_rfl)
 refine dD (HM.told [3] rfl) ?_
 replace HF := HF.sub ((fE b o n c s fb big ak aj au ah pd i z5) ++ [(670, aA z5), (690, (aU big)), xA pd i aj, (696, (aU big)), tJ pd i aj, (702, (aU big)), qp pd i aj, (708, (aU big)), oC pd i aj, (714, (aU big)), lH pd i aj, (677, ay v.ty), (683, aX v.flags), (689, aI v.off)]) (by kernel_rfl)
 refine bQ rfl ?_
 refine bf HF (by kernel_rfl) 88 #[(aU big), .slice (some ⟨pd, ((i * 56) + 16), none⟩) ((aj * 56) - ((i * 56) + 16)) ((aj * 56) - ((i * 56) + 16))] (by kernel_rfl) (fun w => by kernel_rfl) (Calls.mono (qJ (HM.get (i := 3) rfl) (by unfold maxLen; omega) big ((i * 56) + 16) ((aj * 56) - ((i * 56) + 16)) (by omega) (by omega) ((v.bY : Nat) : Int) (by rw [e3])) ?_)
 rintro _ w5 ⟨rfl, kS, hq⟩
 replace HM : Mm [fb, pg, pd] W1 w5 [oK z5, iV fb dat abi aH big aW aJ aG pg i aj, (pg, .cells cur 136 (0, 0)), (pd, .cells (X.map Bv).toArray 5 (0, 0))] := by rw [hq]; exact HM.drewN _
 clear hq
 refine ⟨_, rfl, ?_⟩; clear HF; intro a HF; replace HF := HF.sub ((fE b o n c s fb big ak aj au ah pd i z5) ++ [(670, aA z5), (690, (aU big)), xA pd i aj, (696, (aU big)), tJ pd i aj, (702, (aU big)), qp pd i aj, (708, (aU big)), oC pd i aj, (714, (aU big)), lH pd i aj, (677, ay v.ty), (683, aX v.flags), (689, aI v.off), (695, aI v.bY)]) (by kernel_rfl)
 refine dD (HM.told [3] rfl) ?_
 replace HF := HF.sub ((fE b o n c s fb big ak aj au ah pd i z5) ++ [(670, aA z5), (696, (aU big)), tJ pd i aj, (702, (aU big)), qp pd i aj, (708, (aU big)), oC pd i aj, (714, (aU big)), lH pd i aj, (677, ay v.ty), (683, aX v.flags), (689, aI v.off), (695, aI v.bY)]) (by kernel_rfl)
 refine bQ rfl ?_
 refine bf HF (by kernel_rfl) 88 #[(aU big), .slice (some ⟨pd, ((i * 56) + 24), none⟩) ((aj * 56) - ((i * 56) + 24)) ((aj * 56) - ((i * 56) + 24))] (by kernel_rfl) (fun w => by kernel_rfl) (Calls.mono (qJ (HM.get (i := 3) rfl) (by unfold maxLen; omega) big ((i * 56) + 24) ((aj * 56) - ((i * 56) + 24)) (by omega) (by omega) ((v.b_ : Nat) : Int) (by rw [e4])) ?_)
 rintro _ w6 ⟨rfl, kS, hq⟩
 replace HM : Mm [fb, pg, pd] W1 w6 [oK z5, iV fb dat abi aH big aW aJ aG pg i aj, (pg, .cells cur 136 (0, 0)), (pd, .cells (X.map Bv).toArray 5 (0, 0))] := by rw [hq]; exact HM.drewN _
 clear hq
 refine ⟨_, rfl, ?_⟩; clear HF; intro a HF; replace HF := HF.sub ((fE b o n c s fb big ak aj au ah pd i z5) ++ [(670, aA z5), (696, (aU big)), tJ pd i aj, (702, (aU big)), qp pd i aj, (708, (aU big)), oC pd i aj, (714, (aU big)), lH pd i aj, (677, ay v.ty), (683, aX v.flags), (689, aI v.off), (695, aI v.bY), (701, aI v.b_)]) (by kernel_rfl)
 refine dD (HM.told [3] rfl) ?_
 replace HF := HF.sub ((fE b o n c s fb big ak aj au ah pd i z5) ++ [(670, aA z5), (702, (aU big)), qp pd i aj, (708, (aU big)), oC pd i aj, (714, (aU big)), lH pd i aj, (677, ay v.ty), (683, aX v.flags), (689, aI v.off), (695, aI v.bY), (701, aI v.b_)]) (by kernel_rfl)
 refine bQ rfl ?_
 refine bf HF (by kernel_rfl) 88 #[(aU big), .slice (some ⟨pd, ((i * 56) + 32), none⟩) ((aj * 56) - ((i * 56) + 32)) ((aj * 56) - ((i * 56) + 32))] (by kernel_rfl) (fun w => by kernel_rfl) (Calls.mono (qJ (HM.get (i := 3) rfl) (by unfold maxLen; omega) big ((i * 56) + 32) ((aj * 56) - ((i * 56) + 32)) (by omega) (by omega) ((v.bP : Nat) : Int) (by rw [e5])) ?_)
 rintro _ w7 ⟨rfl, kS, hq⟩
 replace HM : Mm [fb, pg, pd] W1 w7 [oK z5, iV fb dat abi aH big aW aJ aG pg i aj, (pg, .cells cur 136 (0, 0)), (pd, .cells (X.map Bv).toArray 5 (0, 0))] := by rw [hq]; exact HM.drewN _
 clear hq
 refine ⟨_, rfl, ?_⟩; clear HF; intro a HF; replace HF := HF.sub ((fE b o n c s fb big ak aj au ah pd i z5) ++ [(670, aA z5), (702, (aU big)), qp pd i aj, (708, (aU big)), oC pd i aj, (714, (aU big)), lH pd i aj, (677, ay v.ty), (683, aX v.flags), (689, aI v.off), (695, aI v.bY), (701, aI v.b_), (707, aI v.bP)]) (by kernel_rfl)
 refine dD (HM.told [3] rfl) ?_
 replace HF := HF.sub ((fE b o n c s fb big ak aj au ah pd i z5) ++ [(670, aA z5), (708, (aU big)), oC pd i aj, (714, (aU big)), lH pd i aj, (677, ay v.ty), (683, aX v.flags), (689, aI v.off), (695, aI v.bY), (701, aI v.b_), (707, aI v.bP)]) (by kernel_rfl)
 refine bQ rfl ?_
 refine bf HF (by kernel_rfl) 88 #[(aU big), .slice (some ⟨pd, ((i * 56) + 40), none⟩) ((aj * 56) - ((i * 56) + 40)) ((aj * 56) - ((i * 56) + 40))] (by kernel_rfl) (fun w => by kernel_rfl) (Calls.mono (qJ (HM.get (i := 3) rfl) (by unfold maxLen; omega) big ((i * 56) + 40) ((aj * 56) - ((i * 56) + 40)) (by omega) (by omega) ((v.dw : Nat) : Int) (by rw [e6])) ?_)
 rintro _ w8 ⟨rfl, kS, hq⟩
 replace HM : Mm [fb, pg, pd] W1 w8 [oK z5, iV fb dat abi aH big aW aJ aG pg i aj, (pg, .cells cur 136 (0, 0)), (pd, .cells (X.map Bv).toArray 5 (0, 0))] := by rw [hq]; exact HM.drewN _
 clear hq
 refine ⟨_, rfl, ?_⟩; clear HF; intro a HF; replace HF := HF.sub ((fE b o n c s fb big ak aj au ah pd i z5) ++ [(670, aA z5), (708, (aU big)), oC pd i aj, (714, (aU big)), lH pd i aj, (677, ay v.ty), (683, aX v.flags), (689, aI v.off), (695, aI v.bY), (701, aI v.b_), (707, aI v.bP), (713, aI v.dw)]) (by kernel_rfl)
 refine dD (HM.told [3] rfl) ?_
 replace HF := HF.sub ((fE b o n c s fb big ak aj au ah pd i z5) ++ [(670, aA z5), (714, (aU big)), lH pd i aj, (677, ay v.ty), (683, aX v.flags), (689, aI v.off), (695, aI v.bY), (701, aI v.b_), (707, aI v.bP), (713, aI v.dw)]) (by kernel_rfl)
 refine bQ rfl ?_
 refine bf HF (by kernel_rfl) 88 #[(aU big), .slice (some ⟨pd, ((i * 56) + 48), none⟩) ((aj * 56) - ((i * 56) + 48)) ((aj * 56) - ((i * 56) + 48))] (by kernel_rfl) (fun w => by kernel_rfl) (Calls.mono (qJ (HM.get (i := 3) rfl) (by unfold maxLen; omega) big ((i * 56) + 48) ((aj * 56) - ((i * 56) + 48)) (by omega) (by omega) ((v.align : Nat) : Int) (by rw [e7])) ?_)
 rintro _ w9 ⟨rfl, kS, hq⟩
 replace HM : Mm [fb, pg, pd] W1 w9 [oK z5, iV fb dat abi aH big aW aJ aG pg i aj, (pg, .cells cur 136 (0, 0)), (pd, .cells (X.map Bv).toArray 5 (0, 0))] := by rw [hq]; exact HM.drewN _
 clear hq
 refine ⟨_, rfl, ?_⟩; clear HF; intro a HF; replace HF := HF.sub ((fE b o n c s fb big ak aj au ah pd i z5) ++ [(670, aA z5), (714, (aU big)), lH pd i aj, (677, ay v.ty), (683, aX v.flags), (689, aI v.off), (695, aI v.bY), (701, aI v.b_), (707, aI v.bP), (713, aI v.dw), (719, aI v.align)]) (by kernel_rfl)
 refine dD (HM.told [3] rfl) ?_
 replace HF := HF.sub ((fE b o n c s fb big ak aj au ah pd i z5) ++ [(670, aA z5), (677, ay v.ty), (683, aX v.flags), (689, aI v.off), (695, aI v.bY), (701, aI v.b_), (707, aI v.bP), (713, aI v.dw), (719, aI v.align)]) (by kernel_rfl)
 refine bK HF (HM.told [3] rfl) 3 [] ((fE b o n c s fb big ak aj au ah pd i z5) ++ [(670, aA z5), (677, ay v.ty), (683, aX v.flags), (689, aI v.off), (695, aI v.bY), (701, aI v.b_), (707, aI v.bP), (713, aI v.dw), (719, aI v.align), (720, .agg #[ay v.ty, aX v.flags, aI v.off, aI v.bY, aI v.b_, aI v.bP, aI v.dw, aI v.align]), (722, aA z5)]) (by kernel_rfl) ?_
 clear HF; intro a HF
 replace HF := HF.sub ((fE b o n c s fb big ak aj au ah pd i z5) ++ [(720, .agg #[ay v.ty, aX v.flags, aI v.off, aI v.bY, aI v.b_, aI v.bP, aI v.dw, aI v.align]), (722, aA z5)]) (by kernel_rfl)
 refine bQ rfl ?_
 refine aP HF HM rfl 1 [[3, 3, 3, 3, 3, 3, 3, 3]] (fE b o n c s fb big ak aj au ah pd i z5) [vG z5 v, iV fb dat abi aH big aW aJ aG pg i aj, (pg, .cells cur 136 (0, 0)), (pd, .cells (X.map Bv).toArray 5 (0, 0))] (by kernel_rfl) ?_
 clear HF HM; intro a w HF HM
 refine dD (HM.told [3] rfl) ?_
 refine jR ?_
 repeat (first | refine aK ?_ | refine aS ?_)
 refine wp_seq ?_
 refine wp_seq (wp_region_lit ?_)
 refine aP HF HM rfl 6 [[3]] ((fE b o n c s fb big ak aj au ah pd i z5) ++ [(728, aF (IntKind.i64.wrap ((v.off : Nat) : Int)))]) [vG z5 v, iV fb dat abi aH big aW aJ aG pg i aj, (pg, .cells cur 136 (0, 0)), (pd, .cells (X.map Bv).toArray 5 (0, 0))] (by kernel_rfl) ?_
 clear HF HM; intro a w HF HM
 rw [show IntKind.i64.wrap ((v.off : Nat) : Int) = ((v.off : Nat) : Int) from IntWalk.i64_in _ (by omega)] at HF
 refine aP HF HM rfl 1 [] ((fE b o n c s fb big ak aj au ah pd i z5) ++ [(729, .bool (decide (((v.off : Nat) : Int) < 0)))]) [vG z5 v, iV fb dat abi aH big aW aJ aG pg i aj, (pg, .cells cur 136 (0, 0)), (pd, .cells (X.map Bv).toArray 5 (0, 0))] (by kernel_rfl) ?_
 clear HF HM; intro a w HF HM
 rw [show decide (((v.off : Nat) : Int) < 0) = false from dI (by omega)] at HF
 refine aB ?_
 refine aZ HF rfl ?_
 refine wp_skip ?_
 repeat (first | refine aK ?_ | refine aS ?_)
 replace HF := HF.sub (fE b o n c s fb big ak aj au ah pd i z5) (by kernel_rfl)
 refine wp_seq ?_
 refine wp_seq (wp_region_lit ?_)
 refine aP HF HM rfl 6 [[3]] ((fE b o n c s fb big ak aj au ah pd i z5) ++ [(748, aF (IntKind.i64.wrap ((v.bP : Nat) : Int)))]) [vG z5 v, iV fb dat abi aH big aW aJ aG pg i aj, (pg, .cells cur 136 (0, 0)), (pd, .cells (X.map Bv).toArray 5 (0, 0))] (by kernel_rfl) ?_
 clear HF HM; intro a w HF HM
 rw [show IntKind.i64.wrap ((v.bP : Nat) : Int) = ((v.bP : Nat) : Int) from IntWalk.i64_in _ (by omega)] at HF
 refine aP HF HM rfl 1 [] ((fE b o n c s fb big ak aj au ah pd i z5) ++ [(749, .bool (decide (((v.bP : Nat) : Int) < 0)))]) [vG z5 v, iV fb dat abi aH big aW aJ aG pg i aj, (pg, .cells cur 136 (0, 0)), (pd, .cells (X.map Bv).toArray 5 (0, 0))] (by kernel_rfl) ?_
 clear HF HM; intro a w HF HM
 rw [show decide (((v.bP : Nat) : Int) < 0) = false from dI (by omega)] at HF
 refine aB ?_
 refine aZ HF rfl ?_
 refine wp_skip ?_
 repeat (first | refine aK ?_ | refine aS ?_)
 replace HF := HF.sub (fE b o n c s fb big ak aj au ah pd i z5) (by kernel_rfl)
 refine BF HM (by kernel_rfl) (fun w => w.cell? ⟨z5, 2, none⟩ = some (aI v.off) ∧ w.cell? ⟨z5, 5, none⟩ = some (aI v.bP)) [(0, false), (1, false), (2, false), (3, false), (4, false), (5, false), (6, false), (7, false), (8, false), (9, false), (10, false), (11, false), (12, false), (13, false), (14, true), (15, false), (16, false), (17, true)] (by kernel_rfl) ?_
 clear HM; intro w10 HM
 refine kD (LS := []) (fun _ _ => kY _) HF ⟨HM.cellAt (i := 0) (k := 2) rfl rfl, HM.cellAt (i := 0) (k := 5) rfl rfl⟩ 6 [] ((tH b o n c s fb big ak aj au ah pd i z5) ++ [(768, .pointer (some ⟨z5, 2, none⟩))]) (by kernel_rfl) ?_
 clear HF; intro a HF
 refine sJ rfl HF ⟨HM.cellAt (i := 0) (k := 2) rfl rfl, HM.cellAt (i := 0) (k := 5) rfl rfl⟩ rfl (aI v.off) (by kernel_rfl) (fun w hw => dP rfl rfl (by kernel_rfl) hw.1) ?_
 clear HF; intro a HF; replace HF := HF.sub ((tH b o n c s fb big ak aj au ah pd i z5) ++ [(768, .pointer (some ⟨z5, 2, none⟩)), (769, aI v.off)]) (by kernel_rfl)
 refine kD (LS := []) (fun _ _ => kY _) HF ⟨HM.cellAt (i := 0) (k := 2) rfl rfl, HM.cellAt (i := 0) (k := 5) rfl rfl⟩ 1 [] ((tH b o n c s fb big ak aj au ah pd i z5) ++ [(770, aF (IntKind.i64.wrap ((v.off : Nat) : Int)))]) (by kernel_rfl) ?_
 clear HF; intro a HF
 rw [show IntKind.i64.wrap ((v.off : Nat) : Int) = ((v.off : Nat) : Int) from IntWalk.i64_in _ (by omega)] at HF
 refine kD (LS := []) (fun _ _ => kY _) HF ⟨HM.cellAt (i := 0) (k := 2) rfl rfl, HM.cellAt (i := 0) (k := 5) rfl rfl⟩ 4 [] ((tH b o n c s fb big ak aj au ah pd i z5) ++ [(770, ay v.off), (774, .pointer (some ⟨z5, 5, none⟩))]) (by kernel_rfl) ?_
 clear HF; intro a HF
 refine sJ rfl HF ⟨HM.cellAt (i := 0) (k := 2) rfl rfl, HM.cellAt (i := 0) (k := 5) rfl rfl⟩ rfl (aI v.bP) (by kernel_rfl) (fun w hw => dP rfl rfl (by kernel_rfl) hw.2) ?_
 clear HF; intro a HF; replace HF := HF.sub ((tH b o n c s fb big ak aj au ah pd i z5) ++ [(770, ay v.off), (774, .pointer (some ⟨z5, 5, none⟩)), (775, aI v.bP)]) (by kernel_rfl)
 refine kD (LS := []) (fun _ _ => kY _) HF ⟨HM.cellAt (i := 0) (k := 2) rfl rfl, HM.cellAt (i := 0) (k := 5) rfl rfl⟩ 1 [] ((tH b o n c s fb big ak aj au ah pd i z5) ++ [(770, ay v.off), (776, aF (IntKind.i64.wrap ((v.bP : Nat) : Int)))]) (by kernel_rfl) ?_
 clear HF; intro a HF
 rw [show IntKind.i64.wrap ((v.bP : Nat) : Int) = ((v.bP : Nat) : Int) from IntWalk.i64_in _ (by omega)] at HF
 refine qC rfl ?_
 refine bf HF (by kernel_rfl) 92 #[.iface 178 (.slice (some ⟨b, o, none⟩) n c), ay v.off, ay v.bP] (by kernel_rfl) (fun w => by kernel_rfl) (Calls.mono (rD 178 (.slice (some ⟨b, o, none⟩) n c) ((v.off : Nat) : Int) ((v.bP : Nat) : Int) (by omega) (by omega) (by omega) w10) ?_)
 rintro _ wQ ⟨sb, rfl, hb, hge, hgn⟩
 replace HM : Mm [fb, pg, pd] W1 wQ [ru sb b o n c v, vG z5 v, iV fb dat abi aH big aW aJ aG pg i aj, (pg, .cells cur 136 (0, 0)), (pd, .cells (X.map Bv).toArray 5 (0, 0))] := HM.push hb hge hgn
 clear hb hge hgn
 refine ⟨_, rfl, ?_⟩; clear HF; intro a HF; replace HF := HF.sub ((tH b o n c s fb big ak aj au ah pd i z5) ++ [(770, ay v.off), (776, ay v.bP), (777, aA sb)]) (by kernel_rfl)
 refine sK ⟨HM.cellAt (i := 1) (k := 2) rfl rfl, HM.cellAt (i := 1) (k := 5) rfl rfl⟩ ?_
 refine kD (LS := []) (fun _ _ => kY _) HF ⟨HM.cellAt (i := 1) (k := 2) rfl rfl, HM.cellAt (i := 1) (k := 5) rfl rfl⟩ 2 [] ((fE b o n c s fb big ak aj au ah pd i z5) ++ [(777, aA sb), (779, .pointer (some ⟨z5, 9, none⟩))]) (by kernel_rfl) ?_
 clear HF; intro a HF
 refine qC rfl ?_
 refine aP HF HM rfl 1 [[3]] (fE b o n c s fb big ak aj au ah pd i z5) [ru sb b o n c v, (z5, .cells #[ay v.ty, aX v.flags, aI v.off, aI v.bY, aI v.b_, aI v.bP, aI v.dw, aI v.align, .nilIface, aA sb] 146 (0, 0)), iV fb dat abi aH big aW aJ aG pg i aj, (pg, .cells cur 136 (0, 0)), (pd, .cells (X.map Bv).toArray 5 (0, 0))] (by kernel_rfl) ?_
 clear HF HM; intro a w HF HM
 refine sK ⟨HM.cellAt (i := 1) (k := 2) rfl rfl, HM.cellAt (i := 1) (k := 5) rfl rfl⟩ ?_
 refine BG (aK ?_)
 refine bG HF HM rfl [[3], [3]] (fE b o n c s fb big ak aj au ah pd i z5) [ru sb b o n c v, vF z5 v sb, iV fb dat abi aH big aW aJ aG pg i aj, (pg, .cells cur 136 (0, 0)), (pd, .cells (X.map Bv).toArray 5 (0, 0))] (by kernel_rfl) ?_
 clear HF HM; intro a w HF HM
 refine wp_region_lit ?_
 obtain ⟨uG, Bc⟩ : ∃ z, w.heap.size = z := ⟨_, rfl⟩
 refine aP HF HM Bc 7 [[2]] ((fE b o n c s fb big ak aj au ah pd i z5) ++ [(788, aA fb), (792, aC pg i aj), (794, aC uG 1 1)]) [(uG, .cells #[aA z5] 136 (0, 0)), ru sb b o n c v, vF z5 v sb, iV fb dat abi aH big aW aJ aG pg i aj, (pg, .cells cur 136 (0, 0)), (pd, .cells (X.map Bv).toArray 5 (0, 0))] (by kernel_rfl) ?_
 clear HF HM Bc; intro a w HF HM
 refine rX HF HM rfl _ _ 127 rfl rfl 136 (.pointer none) 8 Tryd.underlying127 Az 4 0 pg _ i aj cur _ _ rfl hcs (by omega) (by unfold maxLen; omega) rfl rfl rfl rfl ?_
 intro a2 w12 cur' hcs' htk bJ HF2; clear HF HM; have HM : Mm [fb, pg, pd] W1 w12 [(uG, .cells #[aA z5] 136 (0, 0)), ru sb b o n c v, vF z5 v sb, iV fb dat abi aH big aW aJ aG pg i aj, (pg, .cells cur' 136 (0, 0)), (pd, .cells (X.map Bv).toArray 5 (0, 0))] := bJ; have HF := HF2; clear bJ HF2
 replace HF := HF.sub ((fE b o n c s fb big ak aj au ah pd i z5) ++ [(788, aA fb), (795, aC pg (i + 1) aj)]) (by kernel_rfl)
 refine aP HF HM rfl 3 [[2]] (fE b o n c s fb big ak aj au ah pd i z5) [(uG, .cells #[aA z5] 136 (0, 0)), ru sb b o n c v, vF z5 v sb, BP fb dat abi aH big aW aJ aG pg i aj, (pg, .cells cur' 136 (0, 0)), (pd, .cells (X.map Bv).toArray 5 (0, 0))] (by kernel_rfl) ?_
 clear HF HM; intro a w HF HM
 refine wpList_nil ?_
 repeat (first | refine aK ?_ | refine aS ?_)
 refine wp_region_lit ?_
 refine aP HF HM rfl 2 [] ((fE b o n c s fb big ak aj au ah pd i z5) ++ [(595, aF (IntKind.i64.wrap (((i : Nat) : Int) + 1)))]) [(uG, .cells #[aA z5] 136 (0, 0)), ru sb b o n c v, vF z5 v sb, BP fb dat abi aH big aW aJ aG pg i aj, (pg, .cells cur' 136 (0, 0)), (pd, .cells (X.map Bv).toArray 5 (0, 0))] (by kernel_rfl) ?_
 clear HF HM; intro a w HF HM
 rw [show IntKind.i64.wrap (((i : Nat) : Int) + 1) = (((i + 1) : Nat) : Int) from (IntWalk.i64_in _ (by omega)).trans (by omega)] at HF
 refine aP HF HM rfl 1 [] ((qE b o n c s fb big ak aj au ah pd) ++ [(39, aI (i * 56)), (40, aA z5), (38, ay (i + 1))]) [(uG, .cells #[aA z5] 136 (0, 0)), ru sb b o n c v, vF z5 v sb, BP fb dat abi aH big aW aJ aG pg i aj, (pg, .cells cur' 136 (0, 0)), (pd, .cells (X.map Bv).toArray 5 (0, 0))] (by kernel_rfl) ?_
 clear HF HM; intro a w HF HM
 refine wpList_nil ?_
 repeat (first | refine aK ?_ | refine aS ?_)
 replace HF := HF.sub ((qE b o n c s fb big ak aj au ah pd) ++ [(38, ay (i + 1))]) (by kernel_rfl)
 exact K a w z5 sb cur' hcs' htk HF (HM.sub (List.Sublist.cons _ (List.Sublist.refl _)))

end Go.Proofs.YtdgehpocmfjbiaaDoor
namespace Go.Proofs.YtdgehpocmfjbiaaDoor
open Go.RowKit

theorem dK {w : World} {p g : Nat} {cs cs' : Array Value} {t t' : TypeId} {f f' : Nat × Nat} (h : w.heap[p]? = some (.cells cs t f)) (h' : w.heap[g]? = some (.cells cs' t' f')) (hne : t ≠ t') : p ≠ g := fun e => by
 subst e
 rw [h] at h'
 injection h' with h'
 injection h' with _ h2 _
 exact hne h2
theorem Mm.after {G G' : List Nat} {w0 w w' : World} {L L' : List (Nat × Obj)} (h : Mm G w0 w L) (hk : Keep G' w w') (hg : ∀ k ∈ G', w0.heap.size ≤ k ∨ k ∈ G) (hL : L'.map (·.1) = L.map (·.1)) (ht : ∀ p ∈ L', w'.heap[p.1]? = some p.2) : Mm G w0 w' L' :=
 ⟨h.1.step hk hg, fun p hp => ⟨ht p hp, by
  have : p.1 ∈ L.map (·.1) := hL ▸ List.mem_map_of_mem hp
  obtain ⟨q, hq, e⟩ := List.mem_map.1 this
  rw [← e]; exact (h.2.1 q hq).2⟩, hL ▸ h.2.2⟩
/-- the first k program headers, in memory -/
def nG (b o n c : Nat) (z : Nat) (w : World) (sg : Nat → nP) (k : Nat) (cur : Array Value) : Prop :=
 ∀ j, j < k → ∃ pb sb, cur[j]? = some (aA pb) ∧ z ≤ pb ∧ z ≤ sb ∧ w.heap[pb]? = some (.cells #[ay (sg j).ty, aX (sg j).flags, aI (sg j).off, aI (sg j).bY, aI (sg j).b_, aI (sg j).bP, aI (sg j).dw, aI (sg j).align, .iface 144 (aA sb), aA sb] 146 (0, 0)) ∧ w.heap[sb]? = some (.cells #[.iface 178 (.slice (some ⟨b, o, none⟩) n c), ay (sg j).off, ay (sg j).off, .int .i64 ((((sg j).bP : Nat) : Int) + (((sg j).off : Nat) : Int)), ay (sg j).bP] 246 (0, 0))
theorem nG.keep {b o n c z : Nat} {w w' : World} {sg : Nat → nP} {k : Nat} {cur : Array Value} {G : List Nat} (h : nG b o n c z w sg k cur) (hk : Keep G w w') (hG : ∀ g ∈ G, ∃ cs t f, w.heap[g]? = some (.cells cs t f) ∧ t ≠ 146 ∧ t ≠ 246) : nG b o n c z w' sg k cur := fun j hj => by
 obtain ⟨pb, sb, h1, h2, h3, h4, h5⟩ := h j hj
 refine ⟨pb, sb, h1, h2, h3, (hk.block pb (kM h4) fun hm => ?_).trans h4, (hk.block sb (kM h5) fun hm => ?_).trans h5⟩
 ·obtain ⟨cs, t, f, e, n1, n2⟩ := hG pb hm
  exact dK h4 e (Ne.symm n1) rfl
 ·obtain ⟨cs, t, f, e, n1, n2⟩ := hG sb hm
  exact dK h5 e (Ne.symm n2) rfl
theorem nG.next {b o n c z : Nat} {w : World} {sg : Nat → nP} {k : Nat} {cur cur' : Array Value} {pb sb : Nat} (h : nG b o n c z w sg k cur) (hs : k < cur.size) (ht : cur'.toList.take (k + 1) = cur.toList.take k ++ [aA pb]) (h2 : z ≤ pb) (h3 : z ≤ sb)
  (h4 : w.heap[pb]? = some (.cells #[ay (sg k).ty, aX (sg k).flags, aI (sg k).off, aI (sg k).bY, aI (sg k).b_, aI (sg k).bP, aI (sg k).dw, aI (sg k).align, .iface 144 (aA sb), aA sb] 146 (0, 0))) (h5 : w.heap[sb]? = some (.cells #[.iface 178 (.slice (some ⟨b, o, none⟩) n c), ay (sg k).off, ay (sg k).off, .int .i64 ((((sg k).bP : Nat) : Int) + (((sg k).off : Nat) : Int)), ay (sg k).bP] 246 (0, 0))) : nG b o n c z w sg (k + 1) cur' := fun j hj => by
 have hget : cur'[j]? = (cur'.toList.take (k + 1))[j]? := by rw [List.getElem?_take, if_pos hj]; simp
 rw [ht] at hget
 have hlen : (cur.toList.take k).length = k := by simp; omega
 rcases Nat.lt_or_ge j k with hlt | hge
 ·obtain ⟨pb', sb', g1, g2⟩ := h j hlt
  refine ⟨pb', sb', ?_, g2⟩
  rw [hget, List.getElem?_append_left (by omega), List.getElem?_take, if_pos hlt]
  simpa using g1
 ·obtain rfl : j = k := by omega
  exact ⟨pb, sb, by rw [hget, List.getElem?_append_right (by omega), hlen]; simp, h2, h3, h4, h5⟩

theorem TW (l : List UInt8) (b o n c : Nat) (hl : n = l.length) (hnc : n ≤ c) (big : Bool) (abi aH aW aJ aG ak aj au ah : Nat) (dat : Int) (b1 : aW < 65536) (b2 : aJ < 65536) (b3 : aG ≤ 18446744073709551615) (b4 : ak < 4611686018427387904) (b5 : au < 4611686018427387904) (b6 : aj < 200) (b7 : ah < 200) (X : List UInt8) (qh : X.length = (aj * 32)) (sg : Nat → nP) (hv : ∀ i, i < aj → yh (X.drop (i * 32)) false big (sg i).ty (sg i).flags (sg i).bY (sg i).b_ (sg i).dw (sg i).align (sg i).bP (sg i).off)
  (v1 : ∀ i, i < aj → (sg i).ty < 4294967296) (v2 : ∀ i, i < aj → (sg i).off + (sg i).bP < 4611686018427387904) (v3 : ∀ i, i < aj → (sg i).bY ≤ 18446744073709551615) (v4 : ∀ i, i < aj → (sg i).b_ ≤ 18446744073709551615) (v5 : ∀ i, i < aj → (sg i).dw ≤ 18446744073709551615) (v6 : ∀ i, i < aj → (sg i).align ≤ 18446744073709551615) (w0 : World) (s fb pg pd : Nat) {KK : Act → World → Prop} {QQ : Exit → Act → World → Prop} {KR : Act → World → Prop}
  (K : ∀ a w cur, cur.size = aj → nG b o n c w0.heap.size w sg aj cur → Fr 1287 a [(0, .iface 178 (.slice (some ⟨b, o, none⟩) n c)), (4, aA s), (8, aA fb), (9, (aU big)), (10, ay ak), (11, .int .i64 32), (12, ay aj), (13, ay au), (14, .int .i64 40), (15, ay ah), (16, ay (ah - 1)), (26, .int .i64 40), (36, aC pd (aj * 32) (aj * 32))] → Mm [] w0 w [(pd, .cells (X.map Bv).toArray 5 (0, 0)), (pg, .cells cur 136 (0, 0)), (fb, .cells #[.int .u8 1, .int .u8 dat, .int .u8 1, aT abi, aT aH, (aU big), bn aW, bn aJ, aI aG, .slice none 0 0, aC pg aj aj, .slice none 0 0, .slice none 0 0, .slice none 0 0] 131 (0, 0)), (s, .cells #[.iface 178 (.slice (some ⟨b, o, none⟩) n c), .int .i64 0, .int .i64 0, .int .i64 9223372036854775807, .int .i64 9223372036854775807] 246 (0, 0))] → KK a w) (a : Act) (w : World) (cur : Array Value) (hcs : cur.size = aj) (hP : nG b o n c w0.heap.size w sg aj cur) (HF : Fr 1287 a [(0, .iface 178 (.slice (some ⟨b, o, none⟩) n c)), (4, aA s), (8, aA fb), (9, (aU big)), (10, ay ak), (11, .int .i64 32), (12, ay aj), (13, ay au), (14, .int .i64 40), (15, ay ah), (16, ay (ah - 1)), (26, .int .i64 40), (36, aC pd (aj * 32) (aj * 32)), (38, ay aj)]) (HM : Mm [] w0 w [(pd, .cells (X.map Bv).toArray 5 (0, 0)), (pg, .cells cur 136 (0, 0)), (fb, .cells #[.int .u8 1, .int .u8 dat, .int .u8 1, aT abi, aT aH, (aU big), bn aW, bn aJ, aI aG, .slice none 0 0, aC pg aj aj, .slice none 0 0, .slice none 0 0, .slice none 0 0] 131 (0, 0)), (s, .cells #[.iface 178 (.slice (some ⟨b, o, none⟩) n c), .int .i64 0, .int .i64 0, .int .i64 9223372036854775807, .int .i64 9223372036854775807] 246 (0, 0))]) :
  (oP (spine Tryd.f78 35)).wp Tryd.prog (Exit.then KR (Exit.inBlock 5 (Exit.then KK QQ))) a w := by
 refine wp_seq ?_
 refine wp_seq (wp_region_lit ?_)
 refine wp_pure HF HM rfl 3 [] [(0, .iface 178 (.slice (some ⟨b, o, none⟩) n c)), (4, aA s), (8, aA fb), (9, (aU big)), (10, ay ak), (11, .int .i64 32), (12, ay aj), (13, ay au), (14, .int .i64 40), (15, ay ah), (16, ay (ah - 1)), (26, .int .i64 40), (36, aC pd (aj * 32) (aj * 32)), (38, ay aj), (593, .bool (decide (((aj : Nat) : Int) < ((aj : Nat) : Int))))] (by kernel_rfl) ?_
 clear HF; intro a HF
 rw [show decide (((aj : Nat) : Int) < ((aj : Nat) : Int)) = false from dI (by omega)] at HF
 refine aB ?_
 refine aZ HF rfl ?_
 replace HF := HF.sub [(0, .iface 178 (.slice (some ⟨b, o, none⟩) n c)), (4, aA s), (8, aA fb), (9, (aU big)), (10, ay ak), (11, .int .i64 32), (12, ay aj), (13, ay au), (14, .int .i64 40), (15, ay ah), (16, ay (ah - 1)), (26, .int .i64 40), (36, aC pd (aj * 32) (aj * 32)), (38, ay aj)] (by kernel_rfl)
 refine wp_exit (fG (fG (iD (aK ?_))))
 replace HF := HF.sub [(0, .iface 178 (.slice (some ⟨b, o, none⟩) n c)), (4, aA s), (8, aA fb), (9, (aU big)), (10, ay ak), (11, .int .i64 32), (12, ay aj), (13, ay au), (14, .int .i64 40), (15, ay ah), (16, ay (ah - 1)), (26, .int .i64 40), (36, aC pd (aj * 32) (aj * 32))] (by kernel_rfl)
 have := HM.keep
 exact K a _ cur hcs hP HF HM
theorem OC (l : List UInt8) (b o n c : Nat) (hl : n = l.length) (hnc : n ≤ c) (big : Bool) (abi aH aW aJ aG ak aj au ah : Nat) (dat : Int) (b1 : aW < 65536) (b2 : aJ < 65536) (b3 : aG ≤ 18446744073709551615) (b4 : ak < 4611686018427387904) (b5 : au < 4611686018427387904) (b6 : aj < 200) (b7 : ah < 200) (X : List UInt8) (qh : X.length = (aj * 32)) (sg : Nat → nP) (hv : ∀ i, i < aj → yh (X.drop (i * 32)) false big (sg i).ty (sg i).flags (sg i).bY (sg i).b_ (sg i).dw (sg i).align (sg i).bP (sg i).off)
  (v1 : ∀ i, i < aj → (sg i).ty < 4294967296) (v2 : ∀ i, i < aj → (sg i).off + (sg i).bP < 4611686018427387904) (v3 : ∀ i, i < aj → (sg i).bY ≤ 18446744073709551615) (v4 : ∀ i, i < aj → (sg i).b_ ≤ 18446744073709551615) (v5 : ∀ i, i < aj → (sg i).dw ≤ 18446744073709551615) (v6 : ∀ i, i < aj → (sg i).align ≤ 18446744073709551615) (w0 : World) (s fb pg pd : Nat) {KK : Act → World → Prop} {QQ : Exit → Act → World → Prop}
  (K : ∀ a w cur, cur.size = aj → nG b o n c w0.heap.size w sg aj cur → Fr 1287 a [(0, .iface 178 (.slice (some ⟨b, o, none⟩) n c)), (4, aA s), (8, aA fb), (9, (aU big)), (10, ay ak), (11, aF 32), (12, ay aj), (13, ay au), (14, aF 40), (15, ay ah), (16, ay (ah - 1)), (26, aF 40), (36, aC pd (aj * 32) (aj * 32))] → Mm [] w0 w [(pd, .cells (X.map Bv).toArray 5 (0, 0)), (pg, .cells cur 136 (0, 0)), (fb, .cells #[aO 1, .int .u8 dat, aO 1, aT abi, aT aH, (aU big), bn aW, bn aJ, aI aG, aQ, aC pg aj aj, aQ, aQ, aQ] 131 (0, 0)), (s, .cells #[.iface 178 (.slice (some ⟨b, o, none⟩) n c), aF 0, aF 0, aF 9223372036854775807, aF 9223372036854775807] 246 (0, 0))] → KK a w) :
  ∀ (r i : Nat), i + r = aj → ∀ (a : Act) (w : World) (cur : Array Value), cur.size = aj → nG b o n c w0.heap.size w sg i cur → Fr 1287 a [(0, .iface 178 (.slice (some ⟨b, o, none⟩) n c)), (4, aA s), (8, aA fb), (9, (aU big)), (10, ay ak), (11, aF 32), (12, ay aj), (13, ay au), (14, aF 40), (15, ay ah), (16, ay (ah - 1)), (26, aF 40), (36, aC pd (aj * 32) (aj * 32)), (38, ay i)] → Mm [] w0 w [(pd, .cells (X.map Bv).toArray 5 (0, 0)), (pg, .cells cur 136 (0, 0)), (fb, .cells #[aO 1, .int .u8 dat, aO 1, aT abi, aT aH, (aU big), bn aW, bn aJ, aI aG, aQ, aC pg i aj, aQ, aQ, aQ] 131 (0, 0)), (s, .cells #[.iface 178 (.slice (some ⟨b, o, none⟩) n c), aF 0, aF 0, aF 9223372036854775807, aF 9223372036854775807] 246 (0, 0))] →
  Code.rounds Tryd.prog (oP (spine Tryd.f78 35)) (Exit.inBlock 5 (Exit.then KK QQ)) (r + 1) a w
 | 0, i, hr, a, w, cur, hcs, hP, HF, HM => by
  obtain rfl : i = aj := by omega
  rw [rounds_succ]
  exact TW l b o n c hl hnc big abi aH aW aJ aG ak i au ah dat b1 b2 b3 b4 b5 b6 b7 X qh sg hv v1 v2 v3 v4 v5 v6 w0 s fb pg pd K a w cur hcs hP HF HM
 | r + 1, i, hr, a, w, cur, hcs, hP, HF, HM => by
  have hi : i < aj := by omega
  rw [rounds_succ]
  refine UE l b o n c hl hnc big abi aH aW aJ aG ak aj au ah dat b1 b2 b3 b4 b5 b6 b7 X qh i hi (sg i) (hv i hi) (v1 i hi) (v2 i hi) (v3 i hi) (v4 i hi) (v5 i hi) (v6 i hi) a w s fb pg pd cur hcs (HM.get (i := 2) rfl) (HM.get (i := 1) rfl) (HM.get (i := 0) rfl) (HM.ne (i := 2) (j := 1) rfl rfl (by decide)) (HM.ne (i := 2) (j := 0) rfl rfl (by decide)) (HM.ne (i := 1) (j := 0) rfl rfl (by decide)) HF ?_
  intro a' w' pb sb cur' hcs' htk F8 jA
  have hk := jA.keep
  have hn : ∀ g ∈ [fb, pg, pd], g < w.heap.size := by
   intro g hg
   simp only [List.mem_cons, List.not_mem_nil, or_false] at hg
   rcases hg with rfl | rfl | rfl
   ·exact HM.lt (i := 2) rfl
   ·exact HM.lt (i := 1) rfl
   ·exact HM.lt (i := 0) rfl
  have hpb : w.heap.size ≤ pb := (jA.own (i := 1) rfl).elim id fun hm => absurd (jA.get (i := 1) rfl) (by
   intro e
   simp only [List.mem_cons, List.not_mem_nil, or_false] at hm
   rcases hm with rfl | rfl | rfl
   ·exact dK e (jA.get (i := 2) rfl) (by decide) rfl
   ·exact dK e (jA.get (i := 3) rfl) (by decide) rfl
   ·exact dK e (jA.get (i := 4) rfl) (by decide) rfl)
  have hsb : w.heap.size ≤ sb := (jA.own (i := 0) rfl).elim id fun hm => absurd (jA.get (i := 0) rfl) (by
   intro e
   simp only [List.mem_cons, List.not_mem_nil, or_false] at hm
   rcases hm with rfl | rfl | rfl
   ·exact dK e (jA.get (i := 2) rfl) (by decide) rfl
   ·exact dK e (jA.get (i := 3) rfl) (by decide) rfl
   ·exact dK e (jA.get (i := 4) rfl) (by decide) rfl)
  have hsz := HM.size
  have hP2 : nG b o n c w0.heap.size w' sg i cur := hP.keep hk (by
   intro g hg
   simp only [List.mem_cons, List.not_mem_nil, or_false] at hg
   rcases hg with rfl | rfl | rfl
   ·exact ⟨_, _, _, HM.get (i := 2) rfl, by decide, by decide⟩
   ·exact ⟨_, _, _, HM.get (i := 1) rfl, by decide, by decide⟩
   ·exact ⟨_, _, _, HM.get (i := 0) rfl, by decide, by decide⟩)
  have hP3 := hP2.next (by omega) htk (by omega) (by omega) (jA.get (i := 1) rfl) (jA.get (i := 0) rfl)
  have bJ : Mm [] w0 w' [(pd, .cells (X.map Bv).toArray 5 (0, 0)), (pg, .cells cur' 136 (0, 0)), (fb, .cells #[aO 1, .int .u8 dat, aO 1, aT abi, aT aH, (aU big), bn aW, bn aJ, aI aG, aQ, aC pg (i + 1) aj, aQ, aQ, aQ] 131 (0, 0)), (s, .cells #[.iface 178 (.slice (some ⟨b, o, none⟩) n c), aF 0, aF 0, aF 9223372036854775807, aF 9223372036854775807] 246 (0, 0))] := HM.after hk (by
   intro g hg
   simp only [List.mem_cons, List.not_mem_nil, or_false] at hg
   rcases hg with rfl | rfl | rfl
   ·exact HM.own (i := 2) rfl
   ·exact HM.own (i := 1) rfl
   ·exact HM.own (i := 0) rfl) rfl (by
   intro p hp
   simp only [List.mem_cons, List.not_mem_nil, or_false] at hp
   rcases hp with rfl | rfl | rfl | rfl
   ·exact jA.get (i := 4) rfl
   ·exact jA.get (i := 3) rfl
   ·exact jA.get (i := 2) rfl
   ·refine (hk.block s (HM.lt (i := 3) rfl) ?_).trans (HM.get (i := 3) rfl)
    simp only [List.mem_cons, List.not_mem_nil, or_false, not_or]
    exact ⟨HM.ne (i := 3) (j := 2) rfl rfl (by decide), HM.ne (i := 3) (j := 1) rfl rfl (by decide), HM.ne (i := 3) (j := 0) rfl rfl (by decide)⟩)
  exact OC l b o n c hl hnc big abi aH aW aJ aG ak aj au ah dat b1 b2 b3 b4 b5 b6 b7 X qh sg hv v1 v2 v3 v4 v5 v6 w0 s fb pg pd K r (i + 1) (by omega) a' w' cur' hcs' hP3 F8 bJ

theorem QL (l : List UInt8) (b o n c : Nat) (hl : n = l.length) (hnc : n ≤ c) (big : Bool) (abi aH aW aJ aG ak aj au ah : Nat) (dat : Int) (b1 : aW < 65536) (b2 : aJ < 65536) (b3 : aG ≤ 18446744073709551615) (b4 : ak < 4611686018427387904) (b5 : au < 4611686018427387904) (b6 : aj < 200) (b7 : ah < 200) (X : List UInt8) (qh : X.length = (aj * 32)) (sg : Nat → nP) (hv : ∀ i, i < aj → yh (X.drop (i * 32)) false big (sg i).ty (sg i).flags (sg i).bY (sg i).b_ (sg i).dw (sg i).align (sg i).bP (sg i).off)
  (v1 : ∀ i, i < aj → (sg i).ty < 4294967296) (v2 : ∀ i, i < aj → (sg i).off + (sg i).bP < 4611686018427387904) (v3 : ∀ i, i < aj → (sg i).bY ≤ 18446744073709551615) (v4 : ∀ i, i < aj → (sg i).b_ ≤ 18446744073709551615) (v5 : ∀ i, i < aj → (sg i).dw ≤ 18446744073709551615) (v6 : ∀ i, i < aj → (sg i).align ≤ 18446744073709551615) (w0 : World) (s fb pg pd : Nat) {Q : Exit → Act → World → Prop} (a : Act) (w : World) (cur : Array Value) (hcs : cur.size = aj) (HF : Fr 1287 a [(0, .iface 178 (.slice (some ⟨b, o, none⟩) n c)), (4, aA s), (8, aA fb), (9, (aU big)), (10, ay ak), (11, .int .i64 32), (12, ay aj), (13, ay au), (14, .int .i64 40), (15, ay ah), (16, ay (ah - 1)), (26, .int .i64 40), (36, aC pd (aj * 32) (aj * 32))]) (HM : Mm [] w0 w [(pd, .cells (X.map Bv).toArray 5 (0, 0)), (pg, .cells cur 136 (0, 0)), (fb, .cells #[.int .u8 1, .int .u8 dat, .int .u8 1, aT abi, aT aH, (aU big), bn aW, bn aJ, aI aG, .slice none 0 0, aC pg 0 aj, .slice none 0 0, .slice none 0 0, .slice none 0 0] 131 (0, 0)), (s, .cells #[.iface 178 (.slice (some ⟨b, o, none⟩) n c), .int .i64 0, .int .i64 0, .int .i64 9223372036854775807, .int .i64 9223372036854775807] 246 (0, 0))])
  (K : ∀ a w cur, cur.size = aj → nG b o n c w0.heap.size w sg aj cur → Fr 1287 a [(0, .iface 178 (.slice (some ⟨b, o, none⟩) n c)), (4, aA s), (8, aA fb), (9, (aU big)), (10, ay ak), (11, .int .i64 32), (12, ay aj), (13, ay au), (14, .int .i64 40), (15, ay ah), (16, ay (ah - 1)), (26, .int .i64 40), (36, aC pd (aj * 32) (aj * 32))] → Mm [] w0 w [(pd, .cells (X.map Bv).toArray 5 (0, 0)), (pg, .cells cur 136 (0, 0)), (fb, .cells #[.int .u8 1, .int .u8 dat, .int .u8 1, aT abi, aT aH, (aU big), bn aW, bn aJ, aI aG, .slice none 0 0, aC pg aj aj, .slice none 0 0, .slice none 0 0, .slice none 0 0] 131 (0, 0)), (s, .cells #[.iface 178 (.slice (some ⟨b, o, none⟩) n c), .int .i64 0, .int .i64 0, .int .i64 9223372036854775807, .int .i64 9223372036854775807] 246 (0, 0))] → (spine Tryd.f78 36).wp Tryd.prog Q a w) : (spine Tryd.f78 35).wp Tryd.prog Q a w := by
 refine wp_seq ?_
 refine bG HF HM rfl [] [(0, .iface 178 (.slice (some ⟨b, o, none⟩) n c)), (4, aA s), (8, aA fb), (9, (aU big)), (10, ay ak), (11, .int .i64 32), (12, ay aj), (13, ay au), (14, .int .i64 40), (15, ay ah), (16, ay (ah - 1)), (26, .int .i64 40), (36, aC pd (aj * 32) (aj * 32)), (38, ay 0)] [(pd, .cells (X.map Bv).toArray 5 (0, 0)), (pg, .cells cur 136 (0, 0)), (fb, .cells #[.int .u8 1, .int .u8 dat, .int .u8 1, aT abi, aT aH, (aU big), bn aW, bn aJ, aI aG, .slice none 0 0, aC pg 0 aj, .slice none 0 0, .slice none 0 0, .slice none 0 0] 131 (0, 0)), (s, .cells #[.iface 178 (.slice (some ⟨b, o, none⟩) n c), .int .i64 0, .int .i64 0, .int .i64 9223372036854775807, .int .i64 9223372036854775807] 246 (0, 0))] (by kernel_rfl) ?_
 clear HF HM; intro a w HF HM
 refine wp_block (wp_loop_rounds (aj + 1) ?_)
 exact OC l b o n c hl hnc big abi aH aW aJ aG ak aj au ah dat b1 b2 b3 b4 b5 b6 b7 X qh sg hv v1 v2 v3 v4 v5 v6 w0 s fb pg pd K aj 0 (by omega) a w cur hcs (fun j hj => absurd hj (Nat.not_lt_zero j)) HF HM

theorem TV (l : List UInt8) (b o n c : Nat) (hl : n = l.length) (hnc : n ≤ c) (big : Bool) (abi aH aW aJ aG ak aj au ah : Nat) (dat : Int) (b1 : aW < 65536) (b2 : aJ < 65536) (b3 : aG ≤ 18446744073709551615) (b4 : ak < 4611686018427387904) (b5 : au < 4611686018427387904) (b6 : aj < 200) (b7 : ah < 200) (X : List UInt8) (qh : X.length = (aj * 56)) (sg : Nat → nP) (hv : ∀ i, i < aj → yh (X.drop (i * 56)) true big (sg i).ty (sg i).flags (sg i).bY (sg i).b_ (sg i).dw (sg i).align (sg i).bP (sg i).off)
  (v1 : ∀ i, i < aj → (sg i).ty < 4294967296) (v2 : ∀ i, i < aj → (sg i).off + (sg i).bP < 4611686018427387904) (v3 : ∀ i, i < aj → (sg i).bY ≤ 18446744073709551615) (v4 : ∀ i, i < aj → (sg i).b_ ≤ 18446744073709551615) (v5 : ∀ i, i < aj → (sg i).dw ≤ 18446744073709551615) (v6 : ∀ i, i < aj → (sg i).align ≤ 18446744073709551615) (w0 : World) (s fb pg pd : Nat) {KK : Act → World → Prop} {QQ : Exit → Act → World → Prop} {KR : Act → World → Prop}
  (K : ∀ a w cur, cur.size = aj → nG b o n c w0.heap.size w sg aj cur → Fr 1287 a [(0, .iface 178 (.slice (some ⟨b, o, none⟩) n c)), (4, aA s), (8, aA fb), (9, (aU big)), (10, ay ak), (11, .int .i64 56), (12, ay aj), (13, ay au), (14, .int .i64 64), (15, ay ah), (16, ay (ah - 1)), (26, .int .i64 64), (36, aC pd (aj * 56) (aj * 56))] → Mm [] w0 w [(pd, .cells (X.map Bv).toArray 5 (0, 0)), (pg, .cells cur 136 (0, 0)), (fb, .cells #[.int .u8 2, .int .u8 dat, .int .u8 1, aT abi, aT aH, (aU big), bn aW, bn aJ, aI aG, .slice none 0 0, aC pg aj aj, .slice none 0 0, .slice none 0 0, .slice none 0 0] 131 (0, 0)), (s, .cells #[.iface 178 (.slice (some ⟨b, o, none⟩) n c), .int .i64 0, .int .i64 0, .int .i64 9223372036854775807, .int .i64 9223372036854775807] 246 (0, 0))] → KK a w) (a : Act) (w : World) (cur : Array Value) (hcs : cur.size = aj) (hP : nG b o n c w0.heap.size w sg aj cur) (HF : Fr 1287 a [(0, .iface 178 (.slice (some ⟨b, o, none⟩) n c)), (4, aA s), (8, aA fb), (9, (aU big)), (10, ay ak), (11, .int .i64 56), (12, ay aj), (13, ay au), (14, .int .i64 64), (15, ay ah), (16, ay (ah - 1)), (26, .int .i64 64), (36, aC pd (aj * 56) (aj * 56)), (38, ay aj)]) (HM : Mm [] w0 w [(pd, .cells (X.map Bv).toArray 5 (0, 0)), (pg, .cells cur 136 (0, 0)), (fb, .cells #[.int .u8 2, .int .u8 dat, .int .u8 1, aT abi, aT aH, (aU big), bn aW, bn aJ, aI aG, .slice none 0 0, aC pg aj aj, .slice none 0 0, .slice none 0 0, .slice none 0 0] 131 (0, 0)), (s, .cells #[.iface 178 (.slice (some ⟨b, o, none⟩) n c), .int .i64 0, .int .i64 0, .int .i64 9223372036854775807, .int .i64 9223372036854775807] 246 (0, 0))]) :
  (oP (spine Tryd.f78 35)).wp Tryd.prog (Exit.then KR (Exit.inBlock 5 (Exit.then KK QQ))) a w := by
 refine wp_seq ?_
 refine wp_seq (wp_region_lit ?_)
 refine wp_pure HF HM rfl 3 [] [(0, .iface 178 (.slice (some ⟨b, o, none⟩) n c)), (4, aA s), (8, aA fb), (9, (aU big)), (10, ay ak), (11, .int .i64 56), (12, ay aj), (13, ay au), (14, .int .i64 64), (15, ay ah), (16, ay (ah - 1)), (26, .int .i64 64), (36, aC pd (aj * 56) (aj * 56)), (38, ay aj), (593, .bool (decide (((aj : Nat) : Int) < ((aj : Nat) : Int))))] (by kernel_rfl) ?_
 clear HF; intro a HF
 rw [show decide (((aj : Nat) : Int) < ((aj : Nat) : Int)) = false from dI (by omega)] at HF
 refine aB ?_
 refine aZ HF rfl ?_
 replace HF := HF.sub [(0, .iface 178 (.slice (some ⟨b, o, none⟩) n c)), (4, aA s), (8, aA fb), (9, (aU big)), (10, ay ak), (11, .int .i64 56), (12, ay aj), (13, ay au), (14, .int .i64 64), (15, ay ah), (16, ay (ah - 1)), (26, .int .i64 64), (36, aC pd (aj * 56) (aj * 56)), (38, ay aj)] (by kernel_rfl)
 refine wp_exit (fG (fG (iD (aK ?_))))
 replace HF := HF.sub [(0, .iface 178 (.slice (some ⟨b, o, none⟩) n c)), (4, aA s), (8, aA fb), (9, (aU big)), (10, ay ak), (11, .int .i64 56), (12, ay aj), (13, ay au), (14, .int .i64 64), (15, ay ah), (16, ay (ah - 1)), (26, .int .i64 64), (36, aC pd (aj * 56) (aj * 56))] (by kernel_rfl)
 have := HM.keep
 exact K a _ cur hcs hP HF HM
theorem OB (l : List UInt8) (b o n c : Nat) (hl : n = l.length) (hnc : n ≤ c) (big : Bool) (abi aH aW aJ aG ak aj au ah : Nat) (dat : Int) (b1 : aW < 65536) (b2 : aJ < 65536) (b3 : aG ≤ 18446744073709551615) (b4 : ak < 4611686018427387904) (b5 : au < 4611686018427387904) (b6 : aj < 200) (b7 : ah < 200) (X : List UInt8) (qh : X.length = (aj * 56)) (sg : Nat → nP) (hv : ∀ i, i < aj → yh (X.drop (i * 56)) true big (sg i).ty (sg i).flags (sg i).bY (sg i).b_ (sg i).dw (sg i).align (sg i).bP (sg i).off)
  (v1 : ∀ i, i < aj → (sg i).ty < 4294967296) (v2 : ∀ i, i < aj → (sg i).off + (sg i).bP < 4611686018427387904) (v3 : ∀ i, i < aj → (sg i).bY ≤ 18446744073709551615) (v4 : ∀ i, i < aj → (sg i).b_ ≤ 18446744073709551615) (v5 : ∀ i, i < aj → (sg i).dw ≤ 18446744073709551615) (v6 : ∀ i, i < aj → (sg i).align ≤ 18446744073709551615) (w0 : World) (s fb pg pd : Nat) {KK : Act → World → Prop} {QQ : Exit → Act → World → Prop}
  (K : ∀ a w cur, cur.size = aj → nG b o n c w0.heap.size w sg aj cur → Fr 1287 a [(0, .iface 178 (.slice (some ⟨b, o, none⟩) n c)), (4, aA s), (8, aA fb), (9, (aU big)), (10, ay ak), (11, aF 56), (12, ay aj), (13, ay au), (14, aF 64), (15, ay ah), (16, ay (ah - 1)), (26, aF 64), (36, aC pd (aj * 56) (aj * 56))] → Mm [] w0 w [(pd, .cells (X.map Bv).toArray 5 (0, 0)), (pg, .cells cur 136 (0, 0)), (fb, .cells #[aO 2, .int .u8 dat, aO 1, aT abi, aT aH, (aU big), bn aW, bn aJ, aI aG, aQ, aC pg aj aj, aQ, aQ, aQ] 131 (0, 0)), (s, .cells #[.iface 178 (.slice (some ⟨b, o, none⟩) n c), aF 0, aF 0, aF 9223372036854775807, aF 9223372036854775807] 246 (0, 0))] → KK a w) :
  ∀ (r i : Nat), i + r = aj → ∀ (a : Act) (w : World) (cur : Array Value), cur.size = aj → nG b o n c w0.heap.size w sg i cur → Fr 1287 a [(0, .iface 178 (.slice (some ⟨b, o, none⟩) n c)), (4, aA s), (8, aA fb), (9, (aU big)), (10, ay ak), (11, aF 56), (12, ay aj), (13, ay au), (14, aF 64), (15, ay ah), (16, ay (ah - 1)), (26, aF 64), (36, aC pd (aj * 56) (aj * 56)), (38, ay i)] → Mm [] w0 w [(pd, .cells (X.map Bv).toArray 5 (0, 0)), (pg, .cells cur 136 (0, 0)), (fb, .cells #[aO 2, .int .u8 dat, aO 1, aT abi, aT aH, (aU big), bn aW, bn aJ, aI aG, aQ, aC pg i aj, aQ, aQ, aQ] 131 (0, 0)), (s, .cells #[.iface 178 (.slice (some ⟨b, o, none⟩) n c), aF 0, aF 0, aF 9223372036854775807, aF 9223372036854775807] 246 (0, 0))] →
  Code.rounds Tryd.prog (oP (spine Tryd.f78 35)) (Exit.inBlock 5 (Exit.then KK QQ)) (r + 1) a w
 | 0, i, hr, a, w, cur, hcs, hP, HF, HM => by
  obtain rfl : i = aj := by omega
  rw [rounds_succ]
  exact TV l b o n c hl hnc big abi aH aW aJ aG ak i au ah dat b1 b2 b3 b4 b5 b6 b7 X qh sg hv v1 v2 v3 v4 v5 v6 w0 s fb pg pd K a w cur hcs hP HF HM
 | r + 1, i, hr, a, w, cur, hcs, hP, HF, HM => by
  have hi : i < aj := by omega
  rw [rounds_succ]
  refine UD l b o n c hl hnc big abi aH aW aJ aG ak aj au ah dat b1 b2 b3 b4 b5 b6 b7 X qh i hi (sg i) (hv i hi) (v1 i hi) (v2 i hi) (v3 i hi) (v4 i hi) (v5 i hi) (v6 i hi) a w s fb pg pd cur hcs (HM.get (i := 2) rfl) (HM.get (i := 1) rfl) (HM.get (i := 0) rfl) (HM.ne (i := 2) (j := 1) rfl rfl (by decide)) (HM.ne (i := 2) (j := 0) rfl rfl (by decide)) (HM.ne (i := 1) (j := 0) rfl rfl (by decide)) HF ?_
  intro a' w' pb sb cur' hcs' htk F8 jA
  have hk := jA.keep
  have hn : ∀ g ∈ [fb, pg, pd], g < w.heap.size := by
   intro g hg
   simp only [List.mem_cons, List.not_mem_nil, or_false] at hg
   rcases hg with rfl | rfl | rfl
   ·exact HM.lt (i := 2) rfl
   ·exact HM.lt (i := 1) rfl
   ·exact HM.lt (i := 0) rfl
  have hpb : w.heap.size ≤ pb := (jA.own (i := 1) rfl).elim id fun hm => absurd (jA.get (i := 1) rfl) (by
   intro e
   simp only [List.mem_cons, List.not_mem_nil, or_false] at hm
   rcases hm with rfl | rfl | rfl
   ·exact dK e (jA.get (i := 2) rfl) (by decide) rfl
   ·exact dK e (jA.get (i := 3) rfl) (by decide) rfl
   ·exact dK e (jA.get (i := 4) rfl) (by decide) rfl)
  have hsb : w.heap.size ≤ sb := (jA.own (i := 0) rfl).elim id fun hm => absurd (jA.get (i := 0) rfl) (by
   intro e
   simp only [List.mem_cons, List.not_mem_nil, or_false] at hm
   rcases hm with rfl | rfl | rfl
   ·exact dK e (jA.get (i := 2) rfl) (by decide) rfl
   ·exact dK e (jA.get (i := 3) rfl) (by decide) rfl
   ·exact dK e (jA.get (i := 4) rfl) (by decide) rfl)
  have hsz := HM.size
  have hP2 : nG b o n c w0.heap.size w' sg i cur := hP.keep hk (by
   intro g hg
   simp only [List.mem_cons, List.not_mem_nil, or_false] at hg
   rcases hg with rfl | rfl | rfl
   ·exact ⟨_, _, _, HM.get (i := 2) rfl, by decide, by decide⟩
   ·exact ⟨_, _, _, HM.get (i := 1) rfl, by decide, by decide⟩
   ·exact ⟨_, _, _, HM.get (i := 0) rfl, by decide, by decide⟩)
  have hP3 := hP2.next (by omega) htk (by omega) (by omega) (jA.get (i := 1) rfl) (jA.get (i := 0) rfl)
  have bJ : Mm [] w0 w' [(pd, .cells (X.map Bv).toArray 5 (0, 0)), (pg, .cells cur' 136 (0, 0)), (fb, .cells #[aO 2, .int .u8 dat, aO 1, aT abi, aT aH, (aU big), bn aW, bn aJ, aI aG, aQ, aC pg (i + 1) aj, aQ, aQ, aQ] 131 (0, 0)), (s, .cells #[.iface 178 (.slice (some ⟨b, o, none⟩) n c), aF 0, aF 0, aF 9223372036854775807, aF 9223372036854775807] 246 (0, 0))] := HM.after hk (by
   intro g hg
   simp only [List.mem_cons, List.not_mem_nil, or_false] at hg
   rcases hg with rfl | rfl | rfl
   ·exact HM.own (i := 2) rfl
   ·exact HM.own (i := 1) rfl
   ·exact HM.own (i := 0) rfl) rfl (by
   intro p hp
   simp only [List.mem_cons, List.not_mem_nil, or_false] at hp
   rcases hp with rfl | rfl | rfl | rfl
   ·exact jA.get (i := 4) rfl
   ·exact jA.get (i := 3) rfl
   ·exact jA.get (i := 2) rfl
   ·refine (hk.block s (HM.lt (i := 3) rfl) ?_).trans (HM.get (i := 3) rfl)
    simp only [List.mem_cons, List.not_mem_nil, or_false, not_or]
    exact ⟨HM.ne (i := 3) (j := 2) rfl rfl (by decide), HM.ne (i := 3) (j := 1) rfl rfl (by decide), HM.ne (i := 3) (j := 0) rfl rfl (by decide)⟩)
  exact OB l b o n c hl hnc big abi aH aW aJ aG ak aj au ah dat b1 b2 b3 b4 b5 b6 b7 X qh sg hv v1 v2 v3 v4 v5 v6 w0 s fb pg pd K r (i + 1) (by omega) a' w' cur' hcs' hP3 F8 bJ

theorem QK (l : List UInt8) (b o n c : Nat) (hl : n = l.length) (hnc : n ≤ c) (big : Bool) (abi aH aW aJ aG ak aj au ah : Nat) (dat : Int) (b1 : aW < 65536) (b2 : aJ < 65536) (b3 : aG ≤ 18446744073709551615) (b4 : ak < 4611686018427387904) (b5 : au < 4611686018427387904) (b6 : aj < 200) (b7 : ah < 200) (X : List UInt8) (qh : X.length = (aj * 56)) (sg : Nat → nP) (hv : ∀ i, i < aj → yh (X.drop (i * 56)) true big (sg i).ty (sg i).flags (sg i).bY (sg i).b_ (sg i).dw (sg i).align (sg i).bP (sg i).off)
  (v1 : ∀ i, i < aj → (sg i).ty < 4294967296) (v2 : ∀ i, i < aj → (sg i).off + (sg i).bP < 4611686018427387904) (v3 : ∀ i, i < aj → (sg i).bY ≤ 18446744073709551615) (v4 : ∀ i, i < aj → (sg i).b_ ≤ 18446744073709551615) (v5 : ∀ i, i < aj → (sg i).dw ≤ 18446744073709551615) (v6 : ∀ i, i < aj → (sg i).align ≤ 18446744073709551615) (w0 : World) (s fb pg pd : Nat) {Q : Exit → Act → World → Prop} (a : Act) (w : World) (cur : Array Value) (hcs : cur.size = aj) (HF : Fr 1287 a [(0, .iface 178 (.slice (some ⟨b, o, none⟩) n c)), (4, aA s), (8, aA fb), (9, (aU big)), (10, ay ak), (11, .int .i64 56), (12, ay aj), (13, ay au), (14, .int .i64 64), (15, ay ah), (16, ay (ah - 1)), (26, .int .i64 64), (36, aC pd (aj * 56) (aj * 56))]) (HM : Mm [] w0 w [(pd, .cells (X.map Bv).toArray 5 (0, 0)), (pg, .cells cur 136 (0, 0)), (fb, .cells #[.int .u8 2, .int .u8 dat, .int .u8 1, aT abi, aT aH, (aU big), bn aW, bn aJ, aI aG, .slice none 0 0, aC pg 0 aj, .slice none 0 0, .slice none 0 0, .slice none 0 0] 131 (0, 0)), (s, .cells #[.iface 178 (.slice (some ⟨b, o, none⟩) n c), .int .i64 0, .int .i64 0, .int .i64 9223372036854775807, .int .i64 9223372036854775807] 246 (0, 0))])
  (K : ∀ a w cur, cur.size = aj → nG b o n c w0.heap.size w sg aj cur → Fr 1287 a [(0, .iface 178 (.slice (some ⟨b, o, none⟩) n c)), (4, aA s), (8, aA fb), (9, (aU big)), (10, ay ak), (11, .int .i64 56), (12, ay aj), (13, ay au), (14, .int .i64 64), (15, ay ah), (16, ay (ah - 1)), (26, .int .i64 64), (36, aC pd (aj * 56) (aj * 56))] → Mm [] w0 w [(pd, .cells (X.map Bv).toArray 5 (0, 0)), (pg, .cells cur 136 (0, 0)), (fb, .cells #[.int .u8 2, .int .u8 dat, .int .u8 1, aT abi, aT aH, (aU big), bn aW, bn aJ, aI aG, .slice none 0 0, aC pg aj aj, .slice none 0 0, .slice none 0 0, .slice none 0 0] 131 (0, 0)), (s, .cells #[.iface 178 (.slice (some ⟨b, o, none⟩) n c), .int .i64 0, .int .i64 0, .int .i64 9223372036854775807, .int .i64 9223372036854775807] 246 (0, 0))] → (spine Tryd.f78 36).wp Tryd.prog Q a w) : (spine Tryd.f78 35).wp Tryd.prog Q a w := by
 refine wp_seq ?_
 refine bG HF HM rfl [] [(0, .iface 178 (.slice (some ⟨b, o, none⟩) n c)), (4, aA s), (8, aA fb), (9, (aU big)), (10, ay ak), (11, .int .i64 56), (12, ay aj), (13, ay au), (14, .int .i64 64), (15, ay ah), (16, ay (ah - 1)), (26, .int .i64 64), (36, aC pd (aj * 56) (aj * 56)), (38, ay 0)] [(pd, .cells (X.map Bv).toArray 5 (0, 0)), (pg, .cells cur 136 (0, 0)), (fb, .cells #[.int .u8 2, .int .u8 dat, .int .u8 1, aT abi, aT aH, (aU big), bn aW, bn aJ, aI aG, .slice none 0 0, aC pg 0 aj, .slice none 0 0, .slice none 0 0, .slice none 0 0] 131 (0, 0)), (s, .cells #[.iface 178 (.slice (some ⟨b, o, none⟩) n c), .int .i64 0, .int .i64 0, .int .i64 9223372036854775807, .int .i64 9223372036854775807] 246 (0, 0))] (by kernel_rfl) ?_
 clear HF HM; intro a w HF HM
 refine wp_block (wp_loop_rounds (aj + 1) ?_)
 exact OB l b o n c hl hnc big abi aH aW aJ aG ak aj au ah dat b1 b2 b3 b4 b5 b6 b7 X qh sg hv v1 v2 v3 v4 v5 v6 w0 s fb pg pd K aj 0 (by omega) a w cur hcs (fun j hj => absurd hj (Nat.not_lt_zero j)) HF HM

end Go.Proofs.YtdgehpocmfjbiaaDoor
namespace Go.Proofs.YtdgehpocmfjbiaaDoor
open Go.RowKit

theorem A_ : (Tryd.prog.info? 36).map (fun i => (i.zero, i.size, i.bytes)) = some (some (.int .u32 0), 1, 4) := by kernel_rfl

abbrev iM := fun (b : Nat) (o : Nat) (n : Nat) (c : Nat) (s : Nat) (fb : Nat) (big : Bool) (ak : Nat) (aj : Nat) (au : Nat) (ah : Nat) => ([(0, .iface 178 (.slice (some ⟨b, o, none⟩) n c)), (4, aA s), (8, aA fb), (9, (aU big)), (10, ay ak), (11, aF 32), (12, ay aj), (13, ay au), (14, aF 40), (15, ay ah), (16, ay (ah - 1)), (26, aF 40)] : Slots)
theorem QY (l : List UInt8) (b o n c : Nat) (hl : n = l.length) (hnc : n ≤ c) (big : Bool) (abi aH aW aJ aG ak aj au ah : Nat) (dat : Int) (b1 : aW < 65536) (b2 : aJ < 65536) (b3 : aG ≤ 18446744073709551615) (b4 : ak < 4611686018427387904) (b5 : au < 4611686018427387904) (b6 : aj < 200) (b7 : ah < 200) (c1 : 0 < au) (c2 : 0 < ah) (c4 : au < n) (c5 : au + (ah * 40) ≤ n) {Q : Exit → Act → World → Prop} (w0 : World) (hbl : b < w0.heap.size) (hr : Row w0 (some ⟨b, o, none⟩) (l.map Bv)) (G : List Nat) (xR : b ∉ G) (a : Act) (w : World) (s fb pg : Nat) (hbs : b ≠ s) (HF : Fr 1287 a (iM b o n c s fb big ak aj au ah)) (HM : Mm G w0 w [(fb, .cells #[aO 1, .int .u8 dat, aO 1, aT abi, aT aH, (aU big), bn aW, bn aJ, aI aG, aQ, aC pg aj aj, aQ, aQ, aQ] 131 (0, 0)), (s, .cells #[.iface 178 (.slice (some ⟨b, o, none⟩) n c), aF 0, aF 0, aF 9223372036854775807, aF 9223372036854775807] 246 (0, 0))])
  (K : ∀ a w aV lG aY mD sd, lG.size = ah → mD.size = ah → Fr 1287 a ((iM b o n c s fb big ak aj au ah) ++ [(41, aC aY 0 ah), (42, aC sd (ah * 40) (ah * 40))]) → Mm G w0 w [(sd, .cells (((l.drop au).take (ah * 40)).map Bv).toArray 5 (0, 0)), (aY, .cells mD 36 (0, 0)), (aV, .cells lG 133 (0, 0)), (fb, .cells #[aO 1, .int .u8 dat, aO 1, aT abi, aT aH, (aU big), bn aW, bn aJ, aI aG, aC aV 0 ah, aC pg aj aj, aQ, aQ, aQ] 131 (0, 0)), (s, .cells #[.iface 178 (.slice (some ⟨b, o, none⟩) n c), aF 0, aF 0, aF 9223372036854775807, aF 9223372036854775807] 246 (0, 0))] → (spine Tryd.f78 44).wp Tryd.prog Q a w) : (spine Tryd.f78 36).wp Tryd.prog Q a w := by
 refine wp_seq ?_
 refine wp_seq (wp_region_lit ?_)
 refine aP HF HM rfl 2 [] ((iM b o n c s fb big ak aj au ah) ++ [(799, .bool (decide (0 < ((ah : Nat) : Int))))]) [(fb, .cells #[aO 1, .int .u8 dat, aO 1, aT abi, aT aH, (aU big), bn aW, bn aJ, aI aG, aQ, aC pg aj aj, aQ, aQ, aQ] 131 (0, 0)), (s, .cells #[.iface 178 (.slice (some ⟨b, o, none⟩) n c), aF 0, aF 0, aF 9223372036854775807, aF 9223372036854775807] 246 (0, 0))] (by kernel_rfl) ?_
 clear HF HM; intro a w HF HM
 rw [show decide (0 < ((ah : Nat) : Int)) = true from dV (by omega)] at HF
 refine aP HF HM rfl 5 [] ((iM b o n c s fb big ak aj au ah) ++ [(804, .bool false)]) [(fb, .cells #[aO 1, .int .u8 dat, aO 1, aT abi, aT aH, (aU big), bn aW, bn aJ, aI aG, aQ, aC pg aj aj, aQ, aQ, aQ] 131 (0, 0)), (s, .cells #[.iface 178 (.slice (some ⟨b, o, none⟩) n c), aF 0, aF 0, aF 9223372036854775807, aF 9223372036854775807] 246 (0, 0))] (by kernel_rfl) ?_
 clear HF HM; intro a w HF HM
 refine aB ?_
 refine aZ HF rfl ?_
 refine wp_skip ?_
 repeat (first | refine aK ?_ | refine aS ?_)
 replace HF := HF.sub (iM b o n c s fb big ak aj au ah) (by kernel_rfl)
 refine wp_seq (wp_region_lit ?_)
 refine aP HF HM rfl 2 [] ((iM b o n c s fb big ak aj au ah) ++ [(811, bF (IntKind.u64.wrap ((ah : Nat) : Int)))]) [(fb, .cells #[aO 1, .int .u8 dat, aO 1, aT abi, aT aH, (aU big), bn aW, bn aJ, aI aG, aQ, aC pg aj aj, aQ, aQ, aQ] 131 (0, 0)), (s, .cells #[.iface 178 (.slice (some ⟨b, o, none⟩) n c), aF 0, aF 0, aF 9223372036854775807, aF 9223372036854775807] 246 (0, 0))] (by kernel_rfl) ?_
 clear HF HM; intro a w HF HM
 rw [show IntKind.u64.wrap ((ah : Nat) : Int) = ((ah : Nat) : Int) from IntWalk.u64_in _ (by omega)] at HF
 refine bf HF (by kernel_rfl) 98 #[bF 120, aI ah] (by kernel_rfl) (fun w => by kernel_rfl) (Calls.mono (EY ah (by omega) w) ?_)
 rintro _ w1 ⟨rfl, hq⟩
 replace HM : Mm G w0 w1 [(fb, .cells #[aO 1, .int .u8 dat, aO 1, aT abi, aT aH, (aU big), bn aW, bn aJ, aI aG, aQ, aC pg aj aj, aQ, aQ, aQ] 131 (0, 0)), (s, .cells #[.iface 178 (.slice (some ⟨b, o, none⟩) n c), aF 0, aF 0, aF 9223372036854775807, aF 9223372036854775807] 246 (0, 0))] := by first | (rw [hq]; exact HM) | (rw [← hq]; exact HM)
 clear hq
 refine ⟨_, rfl, ?_⟩; clear HF; intro a HF; replace HF := HF.sub ((iM b o n c s fb big ak aj au ah) ++ [(811, aI ah), (812, ay ah)]) (by kernel_rfl)
 refine aP HF HM rfl 1 [] ((iM b o n c s fb big ak aj au ah) ++ [(35, ay ah)]) [(fb, .cells #[aO 1, .int .u8 dat, aO 1, aT abi, aT aH, (aU big), bn aW, bn aJ, aI aG, aQ, aC pg aj aj, aQ, aQ, aQ] 131 (0, 0)), (s, .cells #[.iface 178 (.slice (some ⟨b, o, none⟩) n c), aF 0, aF 0, aF 9223372036854775807, aF 9223372036854775807] 246 (0, 0))] (by kernel_rfl) ?_
 clear HF HM; intro a w HF HM
 refine aB ?_
 refine wp_seq ?_
 refine wp_seq (wp_region_lit ?_)
 refine aP HF HM rfl 2 [] ((iM b o n c s fb big ak aj au ah) ++ [(35, ay ah), (814, .bool (decide (((ah : Nat) : Int) < 0)))]) [(fb, .cells #[aO 1, .int .u8 dat, aO 1, aT abi, aT aH, (aU big), bn aW, bn aJ, aI aG, aQ, aC pg aj aj, aQ, aQ, aQ] 131 (0, 0)), (s, .cells #[.iface 178 (.slice (some ⟨b, o, none⟩) n c), aF 0, aF 0, aF 9223372036854775807, aF 9223372036854775807] 246 (0, 0))] (by kernel_rfl) ?_
 clear HF HM; intro a w HF HM
 rw [show decide (((ah : Nat) : Int) < 0) = false from dI (by omega)] at HF
 refine aB ?_
 refine aZ HF rfl ?_
 refine wp_skip ?_
 repeat (first | refine aK ?_ | refine aS ?_)
 replace HF := HF.sub ((iM b o n c s fb big ak aj au ah) ++ [(35, ay ah)]) (by kernel_rfl)
 refine wp_seq ?_
 refine wp_seq (wp_region_lit ?_)
 refine aP HF HM rfl 2 [] ((iM b o n c s fb big ak aj au ah) ++ [(35, ay ah), (821, .bool (decide (0 < ((ah : Nat) : Int))))]) [(fb, .cells #[aO 1, .int .u8 dat, aO 1, aT abi, aT aH, (aU big), bn aW, bn aJ, aI aG, aQ, aC pg aj aj, aQ, aQ, aQ] 131 (0, 0)), (s, .cells #[.iface 178 (.slice (some ⟨b, o, none⟩) n c), aF 0, aF 0, aF 9223372036854775807, aF 9223372036854775807] 246 (0, 0))] (by kernel_rfl) ?_
 clear HF HM; intro a w HF HM
 rw [show decide (0 < ((ah : Nat) : Int)) = true from dV (by omega)] at HF
 refine aP HF HM rfl 3 [] ((iM b o n c s fb big ak aj au ah) ++ [(35, ay ah), (821, .bool true), (822, .bool true), (824, bF (IntKind.u64.wrap ((ah : Nat) : Int)))]) [(fb, .cells #[aO 1, .int .u8 dat, aO 1, aT abi, aT aH, (aU big), bn aW, bn aJ, aI aG, aQ, aC pg aj aj, aQ, aQ, aQ] 131 (0, 0)), (s, .cells #[.iface 178 (.slice (some ⟨b, o, none⟩) n c), aF 0, aF 0, aF 9223372036854775807, aF 9223372036854775807] 246 (0, 0))] (by kernel_rfl) ?_
 clear HF HM; intro a w HF HM
 rw [show IntKind.u64.wrap ((ah : Nat) : Int) = ((ah : Nat) : Int) from IntWalk.u64_in _ (by omega)] at HF
 refine bU HF (by kernel_rfl) (bF (IntKind.u64.wrap ((18446744073709551615 : Int).tdiv ((ah : Nat) : Int)))) (by kernel_rfl) (Gj rfl rfl rfl (by omega)) ?_
 clear HF; intro a HF; replace HF := HF.sub [(0, .iface 178 (.slice (some ⟨b, o, none⟩) n c)), (4, aA s), (8, aA fb), (9, (aU big)), (10, ay ak), (11, aF 32), (12, ay aj), (13, ay au), (14, aF 40), (15, ay ah), (16, ay (ah - 1)), (26, aF 40), (35, ay ah), (821, .bool true), (822, .bool true), (824, aI ah), (825, bF (IntKind.u64.wrap ((18446744073709551615 : Int).tdiv ((ah : Nat) : Int))))] (by kernel_rfl)
 have hq := Gv ah c2 b7
 rw [IntWalk.u64_in ((18446744073709551615 : Int).tdiv ((ah : Nat) : Int)) (by omega)] at HF
 refine aP HF HM rfl 3 [] ((iM b o n c s fb big ak aj au ah) ++ [(35, ay ah), (821, .bool true), (822, .bool true), (828, .bool (decide (((18446744073709551615 : Int).tdiv ((ah : Nat) : Int)) < 40)))]) [(fb, .cells #[aO 1, .int .u8 dat, aO 1, aT abi, aT aH, (aU big), bn aW, bn aJ, aI aG, aQ, aC pg aj aj, aQ, aQ, aQ] 131 (0, 0)), (s, .cells #[.iface 178 (.slice (some ⟨b, o, none⟩) n c), aF 0, aF 0, aF 9223372036854775807, aF 9223372036854775807] 246 (0, 0))] (by kernel_rfl) ?_
 clear HF HM; intro a w HF HM
 rw [show decide (((18446744073709551615 : Int).tdiv ((ah : Nat) : Int)) < 40) = false from dI (by omega)] at HF
 refine aP HF HM rfl 1 [] ((iM b o n c s fb big ak aj au ah) ++ [(35, ay ah), (829, .bool false)]) [(fb, .cells #[aO 1, .int .u8 dat, aO 1, aT abi, aT aH, (aU big), bn aW, bn aJ, aI aG, aQ, aC pg aj aj, aQ, aQ, aQ] 131 (0, 0)), (s, .cells #[.iface 178 (.slice (some ⟨b, o, none⟩) n c), aF 0, aF 0, aF 9223372036854775807, aF 9223372036854775807] 246 (0, 0))] (by kernel_rfl) ?_
 clear HF HM; intro a w HF HM
 refine aB ?_
 refine aZ HF rfl ?_
 refine wp_skip ?_
 repeat (first | refine aK ?_ | refine aS ?_)
 replace HF := HF.sub ((iM b o n c s fb big ak aj au ah) ++ [(35, ay ah)]) (by kernel_rfl)
 refine wp_seq (wp_region_lit ?_)
 refine aP HF HM rfl 2 [] ((iM b o n c s fb big ak aj au ah) ++ [(35, ay ah), (835, aA fb), (836, ay ah)]) [(fb, .cells #[aO 1, .int .u8 dat, aO 1, aT abi, aT aH, (aU big), bn aW, bn aJ, aI aG, aQ, aC pg aj aj, aQ, aQ, aQ] 131 (0, 0)), (s, .cells #[.iface 178 (.slice (some ⟨b, o, none⟩) n c), aF 0, aF 0, aF 9223372036854775807, aF 9223372036854775807] 246 (0, 0))] (by kernel_rfl) ?_
 clear HF HM; intro a w HF HM
 refine qx HF HM rfl _ _ 126 rfl rfl 133 (.pointer none) 8 Tryd.underlying126 Dj .i64 .i64 ah rfl rfl (by omega) (by unfold maxLen; omega) ?_
 intro a2 w2 aV lG hgw Sv bJ HF2; clear HF HM hgw; have HM := bJ; have HF := HF2; clear bJ HF2
 replace HF := HF.sub ((iM b o n c s fb big ak aj au ah) ++ [(35, ay ah), (835, aA fb), (837, aC aV 0 ah)]) (by kernel_rfl)
 refine aP HF HM rfl 3 [[1]] ((iM b o n c s fb big ak aj au ah) ++ [(35, ay ah)]) [(aV, .cells lG 133 (0, 0)), (fb, .cells #[aO 1, .int .u8 dat, aO 1, aT abi, aT aH, (aU big), bn aW, bn aJ, aI aG, aC aV 0 ah, aC pg aj aj, aQ, aQ, aQ] 131 (0, 0)), (s, .cells #[.iface 178 (.slice (some ⟨b, o, none⟩) n c), aF 0, aF 0, aF 9223372036854775807, aF 9223372036854775807] 246 (0, 0))] (by kernel_rfl) ?_
 clear HF HM; intro a w HF HM
 refine aB ?_
 refine wp_seq (wp_region_lit ?_)
 refine aP HF HM rfl 1 [] ((iM b o n c s fb big ak aj au ah) ++ [(35, ay ah), (840, ay ah)]) [(aV, .cells lG 133 (0, 0)), (fb, .cells #[aO 1, .int .u8 dat, aO 1, aT abi, aT aH, (aU big), bn aW, bn aJ, aI aG, aC aV 0 ah, aC pg aj aj, aQ, aQ, aQ] 131 (0, 0)), (s, .cells #[.iface 178 (.slice (some ⟨b, o, none⟩) n c), aF 0, aF 0, aF 9223372036854775807, aF 9223372036854775807] 246 (0, 0))] (by kernel_rfl) ?_
 clear HF HM; intro a w HF HM
 refine qx HF HM rfl _ _ 222 rfl rfl 36 (gV 0) 4 Tryd.underlying222 A_ .i64 .i64 ah rfl rfl (by omega) (by unfold maxLen; omega) ?_
 intro a2 w3 aY mD hgw SB bJ HF2; clear HF HM hgw; have HM := bJ; have HF := HF2; clear bJ HF2
 replace HF := HF.sub ((iM b o n c s fb big ak aj au ah) ++ [(35, ay ah), (841, aC aY 0 ah)]) (by kernel_rfl)
 refine aP HF HM rfl 1 [] ((iM b o n c s fb big ak aj au ah) ++ [(35, ay ah), (41, aC aY 0 ah)]) [(aY, .cells mD 36 (0, 0)), (aV, .cells lG 133 (0, 0)), (fb, .cells #[aO 1, .int .u8 dat, aO 1, aT abi, aT aH, (aU big), bn aW, bn aJ, aI aG, aC aV 0 ah, aC pg aj aj, aQ, aQ, aQ] 131 (0, 0)), (s, .cells #[.iface 178 (.slice (some ⟨b, o, none⟩) n c), aF 0, aF 0, aF 9223372036854775807, aF 9223372036854775807] 246 (0, 0))] (by kernel_rfl) ?_
 clear HF HM; intro a w HF HM
 refine aB ?_
 refine wp_seq (wp_region_lit ?_)
 refine aP HF HM rfl 4 [] ((iM b o n c s fb big ak aj au ah) ++ [(35, ay ah), (41, aC aY 0 ah), (844, .iface 144 (aA s)), (846, bF (IntKind.u64.wrap ((ah : Nat) : Int)))]) [(aY, .cells mD 36 (0, 0)), (aV, .cells lG 133 (0, 0)), (fb, .cells #[aO 1, .int .u8 dat, aO 1, aT abi, aT aH, (aU big), bn aW, bn aJ, aI aG, aC aV 0 ah, aC pg aj aj, aQ, aQ, aQ] 131 (0, 0)), (s, .cells #[.iface 178 (.slice (some ⟨b, o, none⟩) n c), aF 0, aF 0, aF 9223372036854775807, aF 9223372036854775807] 246 (0, 0))] (by kernel_rfl) ?_
 clear HF HM; intro a w HF HM
 rw [show IntKind.u64.wrap ((ah : Nat) : Int) = ((ah : Nat) : Int) from IntWalk.u64_in _ (by omega)] at HF
 refine aP HF HM rfl 3 [] ((iM b o n c s fb big ak aj au ah) ++ [(35, ay ah), (41, aC aY 0 ah), (844, .iface 144 (aA s)), (849, bF (IntKind.u64.wrap (((ah : Nat) : Int) * 40)))]) [(aY, .cells mD 36 (0, 0)), (aV, .cells lG 133 (0, 0)), (fb, .cells #[aO 1, .int .u8 dat, aO 1, aT abi, aT aH, (aU big), bn aW, bn aJ, aI aG, aC aV 0 ah, aC pg aj aj, aQ, aQ, aQ] 131 (0, 0)), (s, .cells #[.iface 178 (.slice (some ⟨b, o, none⟩) n c), aF 0, aF 0, aF 9223372036854775807, aF 9223372036854775807] 246 (0, 0))] (by kernel_rfl) ?_
 clear HF HM; intro a w HF HM
 rw [show IntKind.u64.wrap (((ah : Nat) : Int) * 40) = (((ah * 40) : Nat) : Int) from (IntWalk.u64_in _ (by omega)).trans (by omega)] at HF
 refine aP HF HM rfl 1 [] ((iM b o n c s fb big ak aj au ah) ++ [(35, ay ah), (41, aC aY 0 ah), (844, .iface 144 (aA s)), (849, aI (ah * 40)), (850, ay au)]) [(aY, .cells mD 36 (0, 0)), (aV, .cells lG 133 (0, 0)), (fb, .cells #[aO 1, .int .u8 dat, aO 1, aT abi, aT aH, (aU big), bn aW, bn aJ, aI aG, aC aV 0 ah, aC pg aj aj, aQ, aQ, aQ] 131 (0, 0)), (s, .cells #[.iface 178 (.slice (some ⟨b, o, none⟩) n c), aF 0, aF 0, aF 9223372036854775807, aF 9223372036854775807] 246 (0, 0))] (by kernel_rfl) ?_
 clear HF HM; intro a w HF HM
 refine bf HF (by kernel_rfl) 99 #[.iface 144 (aA s), aI (ah * 40), ay au] (by kernel_rfl) (fun w => by kernel_rfl) (Calls.mono (pU l b o n c hl hnc s (ah * 40) 0 au 0 9223372036854775807 9223372036854775807 (by omega) (by omega) (by omega) (by omega) (by omega) (by omega) w (HM.row hr (by intro b' o' s' e; injection e with e; injection e with e; subst e; exact xR)) (Nat.lt_of_lt_of_le hbl HM.size) hbs (HM.get (i := 3) rfl)) ?_)
 rintro _ w4 ⟨sd, rfl, hb, hge, hgn⟩
 replace HM : Mm G w0 w4 [(sd, .cells (((l.drop (0 + au)).take (ah * 40)).map Bv).toArray 5 (0, 0)), (aY, .cells mD 36 (0, 0)), (aV, .cells lG 133 (0, 0)), (fb, .cells #[aO 1, .int .u8 dat, aO 1, aT abi, aT aH, (aU big), bn aW, bn aJ, aI aG, aC aV 0 ah, aC pg aj aj, aQ, aQ, aQ] 131 (0, 0)), (s, .cells #[.iface 178 (.slice (some ⟨b, o, none⟩) n c), aF 0, aF 0, aF 9223372036854775807, aF 9223372036854775807] 246 (0, 0))] := HM.push hb hge hgn
 clear hge hgn
 refine ⟨_, rfl, ?_⟩; clear HF; intro a HF; replace HF := HF.sub ((iM b o n c s fb big ak aj au ah) ++ [(35, ay ah), (41, aC aY 0 ah), (844, .iface 144 (aA s)), (849, aI (ah * 40)), (850, ay au), (851, .tuple #[aC sd (ah * 40) (ah * 40), .nilIface])]) (by kernel_rfl)
 refine aP HF HM rfl 5 [] ((iM b o n c s fb big ak aj au ah) ++ [(35, ay ah), (41, aC aY 0 ah), (42, aC sd (ah * 40) (ah * 40)), (37, .nilIface)]) [(sd, .cells (((l.drop (0 + au)).take (ah * 40)).map Bv).toArray 5 (0, 0)), (aY, .cells mD 36 (0, 0)), (aV, .cells lG 133 (0, 0)), (fb, .cells #[aO 1, .int .u8 dat, aO 1, aT abi, aT aH, (aU big), bn aW, bn aJ, aI aG, aC aV 0 ah, aC pg aj aj, aQ, aQ, aQ] 131 (0, 0)), (s, .cells #[.iface 178 (.slice (some ⟨b, o, none⟩) n c), aF 0, aF 0, aF 9223372036854775807, aF 9223372036854775807] 246 (0, 0))] (by kernel_rfl) ?_
 clear HF HM; intro a w HF HM
 refine aB ?_
 refine wp_seq ?_
 refine wp_seq (wp_region_lit ?_)
 refine aP HF HM rfl 2 [] ((iM b o n c s fb big ak aj au ah) ++ [(35, ay ah), (41, aC aY 0 ah), (42, aC sd (ah * 40) (ah * 40)), (37, .nilIface), (855, .bool false)]) [(sd, .cells (((l.drop (0 + au)).take (ah * 40)).map Bv).toArray 5 (0, 0)), (aY, .cells mD 36 (0, 0)), (aV, .cells lG 133 (0, 0)), (fb, .cells #[aO 1, .int .u8 dat, aO 1, aT abi, aT aH, (aU big), bn aW, bn aJ, aI aG, aC aV 0 ah, aC pg aj aj, aQ, aQ, aQ] 131 (0, 0)), (s, .cells #[.iface 178 (.slice (some ⟨b, o, none⟩) n c), aF 0, aF 0, aF 9223372036854775807, aF 9223372036854775807] 246 (0, 0))] (by kernel_rfl) ?_
 clear HF HM; intro a w HF HM
 refine aB ?_
 refine aZ HF rfl ?_
 refine wp_skip ?_
 repeat (first | refine aK ?_ | refine aS ?_)
 replace HF := HF.sub ((iM b o n c s fb big ak aj au ah) ++ [(41, aC aY 0 ah), (42, aC sd (ah * 40) (ah * 40))]) (by kernel_rfl)
 replace HF := HF.sub ((iM b o n c s fb big ak aj au ah) ++ [(41, aC aY 0 ah), (42, aC sd (ah * 40) (ah * 40))]) (by kernel_rfl)
 rw [Nat.zero_add] at HM
 exact K a w aV lG aY mD sd Sv SB HF HM

abbrev iL := fun (b : Nat) (o : Nat) (n : Nat) (c : Nat) (s : Nat) (fb : Nat) (big : Bool) (ak : Nat) (aj : Nat) (au : Nat) (ah : Nat) => ([(0, .iface 178 (.slice (some ⟨b, o, none⟩) n c)), (4, aA s), (8, aA fb), (9, (aU big)), (10, ay ak), (11, aF 56), (12, ay aj), (13, ay au), (14, aF 64), (15, ay ah), (16, ay (ah - 1)), (26, aF 64)] : Slots)
theorem QX (l : List UInt8) (b o n c : Nat) (hl : n = l.length) (hnc : n ≤ c) (big : Bool) (abi aH aW aJ aG ak aj au ah : Nat) (dat : Int) (b1 : aW < 65536) (b2 : aJ < 65536) (b3 : aG ≤ 18446744073709551615) (b4 : ak < 4611686018427387904) (b5 : au < 4611686018427387904) (b6 : aj < 200) (b7 : ah < 200) (c1 : 0 < au) (c2 : 0 < ah) (c4 : au < n) (c5 : au + (ah * 64) ≤ n) {Q : Exit → Act → World → Prop} (w0 : World) (hbl : b < w0.heap.size) (hr : Row w0 (some ⟨b, o, none⟩) (l.map Bv)) (G : List Nat) (xR : b ∉ G) (a : Act) (w : World) (s fb pg : Nat) (hbs : b ≠ s) (HF : Fr 1287 a (iL b o n c s fb big ak aj au ah)) (HM : Mm G w0 w [(fb, .cells #[aO 2, .int .u8 dat, aO 1, aT abi, aT aH, (aU big), bn aW, bn aJ, aI aG, aQ, aC pg aj aj, aQ, aQ, aQ] 131 (0, 0)), (s, .cells #[.iface 178 (.slice (some ⟨b, o, none⟩) n c), aF 0, aF 0, aF 9223372036854775807, aF 9223372036854775807] 246 (0, 0))])
  (K : ∀ a w aV lG aY mD sd, lG.size = ah → mD.size = ah → Fr 1287 a ((iL b o n c s fb big ak aj au ah) ++ [(41, aC aY 0 ah), (42, aC sd (ah * 64) (ah * 64))]) → Mm G w0 w [(sd, .cells (((l.drop au).take (ah * 64)).map Bv).toArray 5 (0, 0)), (aY, .cells mD 36 (0, 0)), (aV, .cells lG 133 (0, 0)), (fb, .cells #[aO 2, .int .u8 dat, aO 1, aT abi, aT aH, (aU big), bn aW, bn aJ, aI aG, aC aV 0 ah, aC pg aj aj, aQ, aQ, aQ] 131 (0, 0)), (s, .cells #[.iface 178 (.slice (some ⟨b, o, none⟩) n c), aF 0, aF 0, aF 9223372036854775807, aF 9223372036854775807] 246 (0, 0))] → (spine Tryd.f78 44).wp Tryd.prog Q a w) : (spine Tryd.f78 36).wp Tryd.prog Q a w := by
 refine wp_seq ?_
 refine wp_seq (wp_region_lit ?_)
 refine aP HF HM rfl 2 [] ((iL b o n c s fb big ak aj au ah) ++ [(799, .bool (decide (0 < ((ah : Nat) : Int))))]) [(fb, .cells #[aO 2, .int .u8 dat, aO 1, aT abi, aT aH, (aU big), bn aW, bn aJ, aI aG, aQ, aC pg aj aj, aQ, aQ, aQ] 131 (0, 0)), (s, .cells #[.iface 178 (.slice (some ⟨b, o, none⟩) n c), aF 0, aF 0, aF 9223372036854775807, aF 9223372036854775807] 246 (0, 0))] (by kernel_rfl) ?_
 clear HF HM; intro a w HF HM
 rw [show decide (0 < ((ah : Nat) : Int)) = true from dV (by omega)] at HF
 refine aP HF HM rfl 5 [] ((iL b o n c s fb big ak aj au ah) ++ [(804, .bool false)]) [(fb, .cells #[aO 2, .int .u8 dat, aO 1, aT abi, aT aH, (aU big), bn aW, bn aJ, aI aG, aQ, aC pg aj aj, aQ, aQ, aQ] 131 (0, 0)), (s, .cells #[.iface 178 (.slice (some ⟨b, o, none⟩) n c), aF 0, aF 0, aF 9223372036854775807, aF 9223372036854775807] 246 (0, 0))] (by kernel_rfl) ?_
 clear HF HM; intro a w HF HM
 refine aB ?_
 refine aZ HF rfl ?_
 refine wp_skip ?_
 repeat (first | refine aK ?_ | refine aS ?_)
 replace HF := HF.sub (iL b o n c s fb big ak aj au ah) (by kernel_rfl)
 refine wp_seq (wp_region_lit ?_)
 refine aP HF HM rfl 2 [] ((iL b o n c s fb big ak aj au ah) ++ [(811, bF (IntKind.u64.wrap ((ah : Nat) : Int)))]) [(fb, .cells #[aO 2, .int .u8 dat, aO 1, aT abi, aT aH, (aU big), bn aW, bn aJ, aI aG, aQ, aC pg aj aj, aQ, aQ, aQ] 131 (0, 0)), (s, .cells #[.iface 178 (.slice (some ⟨b, o, none⟩) n c), aF 0, aF 0, aF 9223372036854775807, aF 9223372036854775807] 246 (0, 0))] (by kernel_rfl) ?_
 clear HF HM; intro a w HF HM
 rw [show IntKind.u64.wrap ((ah : Nat) : Int) = ((ah : Nat) : Int) from IntWalk.u64_in _ (by omega)] at HF
 refine bf HF (by kernel_rfl) 98 #[bF 120, aI ah] (by kernel_rfl) (fun w => by kernel_rfl) (Calls.mono (EY ah (by omega) w) ?_)
 rintro _ w1 ⟨rfl, hq⟩
 replace HM : Mm G w0 w1 [(fb, .cells #[aO 2, .int .u8 dat, aO 1, aT abi, aT aH, (aU big), bn aW, bn aJ, aI aG, aQ, aC pg aj aj, aQ, aQ, aQ] 131 (0, 0)), (s, .cells #[.iface 178 (.slice (some ⟨b, o, none⟩) n c), aF 0, aF 0, aF 9223372036854775807, aF 9223372036854775807] 246 (0, 0))] := by first | (rw [hq]; exact HM) | (rw [← hq]; exact HM)
 clear hq
 refine ⟨_, rfl, ?_⟩; clear HF; intro a HF; replace HF := HF.sub ((iL b o n c s fb big ak aj au ah) ++ [(811, aI ah), (812, ay ah)]) (by kernel_rfl)
 refine aP HF HM rfl 1 [] ((iL b o n c s fb big ak aj au ah) ++ [(35, ay ah)]) [(fb, .cells #[aO 2, .int .u8 dat, aO 1, aT abi, aT aH, (aU big), bn aW, bn aJ, aI aG, aQ, aC pg aj aj, aQ, aQ, aQ] 131 (0, 0)), (s, .cells #[.iface 178 (.slice (some ⟨b, o, none⟩) n c), aF 0, aF 0, aF 9223372036854775807, aF 9223372036854775807] 246 (0, 0))] (by kernel_rfl) ?_
 clear HF HM; intro a w HF HM
 refine aB ?_
 refine wp_seq ?_
 refine wp_seq (wp_region_lit ?_)
 refine aP HF HM rfl 2 [] ((iL b o n c s fb big ak aj au ah) ++ [(35, ay ah), (814, .bool (decide (((ah : Nat) : Int) < 0)))]) [(fb, .cells #[aO 2, .int .u8 dat, aO 1, aT abi, aT aH, (aU big), bn aW, bn aJ, aI aG, aQ, aC pg aj aj, aQ, aQ, aQ] 131 (0, 0)), (s, .cells #[.iface 178 (.slice (some ⟨b, o, none⟩) n c), aF 0, aF 0, aF 9223372036854775807, aF 9223372036854775807] 246 (0, 0))] (by kernel_rfl) ?_
 clear HF HM; intro a w HF HM
 rw [show decide (((ah : Nat) : Int) < 0) = false from dI (by omega)] at HF
 refine aB ?_
 refine aZ HF rfl ?_
 refine wp_skip ?_
 repeat (first | refine aK ?_ | refine aS ?_)
 replace HF := HF.sub ((iL b o n c s fb big ak aj au ah) ++ [(35, ay ah)]) (by kernel_rfl)
 refine wp_seq ?_
 refine wp_seq (wp_region_lit ?_)
 refine aP HF HM rfl 2 [] ((iL b o n c s fb big ak aj au ah) ++ [(35, ay ah), (821, .bool (decide (0 < ((ah : Nat) : Int))))]) [(fb, .cells #[aO 2, .int .u8 dat, aO 1, aT abi, aT aH, (aU big), bn aW, bn aJ, aI aG, aQ, aC pg aj aj, aQ, aQ, aQ] 131 (0, 0)), (s, .cells #[.iface 178 (.slice (some ⟨b, o, none⟩) n c), aF 0, aF 0, aF 9223372036854775807, aF 9223372036854775807] 246 (0, 0))] (by kernel_rfl) ?_
 clear HF HM; intro a w HF HM
 rw [show decide (0 < ((ah : Nat) : Int)) = true from dV (by omega)] at HF
 refine aP HF HM rfl 3 [] ((iL b o n c s fb big ak aj au ah) ++ [(35, ay ah), (821, .bool true), (822, .bool true), (824, bF (IntKind.u64.wrap ((ah : Nat) : Int)))]) [(fb, .cells #[aO 2, .int .u8 dat, aO 1, aT abi, aT aH, (aU big), bn aW, bn aJ, aI aG, aQ, aC pg aj aj, aQ, aQ, aQ] 131 (0, 0)), (s, .cells #[.iface 178 (.slice (some ⟨b, o, none⟩) n c), aF 0, aF 0, aF 9223372036854775807, aF 9223372036854775807] 246 (0, 0))] (by kernel_rfl) ?_
 clear HF HM; intro a w HF HM
 rw [show IntKind.u64.wrap ((ah : Nat) : Int) = ((ah : Nat) : Int) from IntWalk.u64_in _ (by omega)] at HF
 refine bU HF (by kernel_rfl) (bF (IntKind.u64.wrap ((18446744073709551615 : Int).tdiv ((ah : Nat) : Int)))) (by kernel_rfl) (Gj rfl rfl rfl (by omega)) ?_
 clear HF; intro a HF; replace HF := HF.sub [(0, .iface 178 (.slice (some ⟨b, o, none⟩) n c)), (4, aA s), (8, aA fb), (9, (aU big)), (10, ay ak), (11, aF 56), (12, ay aj), (13, ay au), (14, aF 64), (15, ay ah), (16, ay (ah - 1)), (26, aF 64), (35, ay ah), (821, .bool true), (822, .bool true), (824, aI ah), (825, bF (IntKind.u64.wrap ((18446744073709551615 : Int).tdiv ((ah : Nat) : Int))))] (by kernel_rfl)
 have hq := Gv ah c2 b7
 rw [IntWalk.u64_in ((18446744073709551615 : Int).tdiv ((ah : Nat) : Int)) (by omega)] at HF
 refine aP HF HM rfl 3 [] ((iL b o n c s fb big ak aj au ah) ++ [(35, ay ah), (821, .bool true), (822, .bool true), (828, .bool (decide (((18446744073709551615 : Int).tdiv ((ah : Nat) : Int)) < 64)))]) [(fb, .cells #[aO 2, .int .u8 dat, aO 1, aT abi, aT aH, (aU big), bn aW, bn aJ, aI aG, aQ, aC pg aj aj, aQ, aQ, aQ] 131 (0, 0)), (s, .cells #[.iface 178 (.slice (some ⟨b, o, none⟩) n c), aF 0, aF 0, aF 9223372036854775807, aF 9223372036854775807] 246 (0, 0))] (by kernel_rfl) ?_
 clear HF HM; intro a w HF HM
 rw [show decide (((18446744073709551615 : Int).tdiv ((ah : Nat) : Int)) < 64) = false from dI (by omega)] at HF
 refine aP HF HM rfl 1 [] ((iL b o n c s fb big ak aj au ah) ++ [(35, ay ah), (829, .bool false)]) [(fb, .cells #[aO 2, .int .u8 dat, aO 1, aT abi, aT aH, (aU big), bn aW, bn aJ, aI aG, aQ, aC pg aj aj, aQ, aQ, aQ] 131 (0, 0)), (s, .cells #[.iface 178 (.slice (some ⟨b, o, none⟩) n c), aF 0, aF 0, aF 9223372036854775807, aF 9223372036854775807] 246 (0, 0))] (by kernel_rfl) ?_
 clear HF HM; intro a w HF HM
 refine aB ?_
 refine aZ HF rfl ?_
 refine wp_skip ?_
 repeat (first | refine aK ?_ | refine aS ?_)
 replace HF := HF.sub ((iL b o n c s fb big ak aj au ah) ++ [(35, ay ah)]) (by kernel_rfl)
 refine wp_seq (wp_region_lit ?_)
 refine aP HF HM rfl 2 [] ((iL b o n c s fb big ak aj au ah) ++ [(35, ay ah), (835, aA fb), (836, ay ah)]) [(fb, .cells #[aO 2, .int .u8 dat, aO 1, aT abi, aT aH, (aU big), bn aW, bn aJ, aI aG, aQ, aC pg aj aj, aQ, aQ, aQ] 131 (0, 0)), (s, .cells #[.iface 178 (.slice (some ⟨b, o, none⟩) n c), aF 0, aF 0, aF 9223372036854775807, aF 9223372036854775807] 246 (0, 0))] (by kernel_rfl) ?_
 clear HF HM; intro a w HF HM
 refine qx HF HM rfl _ _ 126 rfl rfl 133 (.pointer none) 8 Tryd.underlying126 Dj .i64 .i64 ah rfl rfl (by omega) (by unfold maxLen; omega) ?_
 intro a2 w2 aV lG hgw Sv bJ HF2; clear HF HM hgw; have HM := bJ; have HF := HF2; clear bJ HF2
 replace HF := HF.sub ((iL b o n c s fb big ak aj au ah) ++ [(35, ay ah), (835, aA fb), (837, aC aV 0 ah)]) (by kernel_rfl)
 refine aP HF HM rfl 3 [[1]] ((iL b o n c s fb big ak aj au ah) ++ [(35, ay ah)]) [(aV, .cells lG 133 (0, 0)), (fb, .cells #[aO 2, .int .u8 dat, aO 1, aT abi, aT aH, (aU big), bn aW, bn aJ, aI aG, aC aV 0 ah, aC pg aj aj, aQ, aQ, aQ] 131 (0, 0)), (s, .cells #[.iface 178 (.slice (some ⟨b, o, none⟩) n c), aF 0, aF 0, aF 9223372036854775807, aF 9223372036854775807] 246 (0, 0))] (by kernel_rfl) ?_
 clear HF HM; intro a w HF HM
 refine aB ?_
 refine wp_seq (wp_region_lit ?_)
 refine aP HF HM rfl 1 [] ((iL b o n c s fb big ak aj au ah) ++ [(35, ay ah), (840, ay ah)]) [(aV, .cells lG 133 (0, 0)), (fb, .cells #[aO 2, .int .u8 dat, aO 1, aT abi, aT aH, (aU big), bn aW, bn aJ, aI aG, aC aV 0 ah, aC pg aj aj, aQ, aQ, aQ] 131 (0, 0)), (s, .cells #[.iface 178 (.slice (some ⟨b, o, none⟩) n c), aF 0, aF 0, aF 9223372036854775807, aF 9223372036854775807] 246 (0, 0))] (by kernel_rfl) ?_
 clear HF HM; intro a w HF HM
 refine qx HF HM rfl _ _ 222 rfl rfl 36 (gV 0) 4 Tryd.underlying222 A_ .i64 .i64 ah rfl rfl (by omega) (by unfold maxLen; omega) ?_
 intro a2 w3 aY mD hgw SB bJ HF2; clear HF HM hgw; have HM := bJ; have HF := HF2; clear bJ HF2
 replace HF := HF.sub ((iL b o n c s fb big ak aj au ah) ++ [(35, ay ah), (841, aC aY 0 ah)]) (by kernel_rfl)
 refine aP HF HM rfl 1 [] ((iL b o n c s fb big ak aj au ah) ++ [(35, ay ah), (41, aC aY 0 ah)]) [(aY, .cells mD 36 (0, 0)), (aV, .cells lG 133 (0, 0)), (fb, .cells #[aO 2, .int .u8 dat, aO 1, aT abi, aT aH, (aU big), bn aW, bn aJ, aI aG, aC aV 0 ah, aC pg aj aj, aQ, aQ, aQ] 131 (0, 0)), (s, .cells #[.iface 178 (.slice (some ⟨b, o, none⟩) n c), aF 0, aF 0, aF 9223372036854775807, aF 9223372036854775807] 246 (0, 0))] (by kernel_rfl) ?_
 clear HF HM; intro a w HF HM
 refine aB ?_
 refine wp_seq (wp_region_lit ?_)
 refine aP HF HM rfl 4 [] ((iL b o n c s fb big ak aj au ah) ++ [(35, ay ah), (41, aC aY 0 ah), (844, .iface 144 (aA s)), (846, bF (IntKind.u64.wrap ((ah : Nat) : Int)))]) [(aY, .cells mD 36 (0, 0)), (aV, .cells lG 133 (0, 0)), (fb, .cells #[aO 2, .int .u8 dat, aO 1, aT abi, aT aH, (aU big), bn aW, bn aJ, aI aG, aC aV 0 ah, aC pg aj aj, aQ, aQ, aQ] 131 (0, 0)), (s, .cells #[.iface 178 (.slice (some ⟨b, o, none⟩) n c), aF 0, aF 0, aF 9223372036854775807, aF 9223372036854775807] 246 (0, 0))] (by kernel_rfl) ?_
 clear HF HM; intro a w HF HM
 rw [show IntKind.u64.wrap ((ah : Nat) : Int) = ((ah : Nat) : Int) from IntWalk.u64_in _ (by omega)] at HF
 refine aP HF HM rfl 3 [] ((iL b o n c s fb big ak aj au ah) ++ [(35, ay ah), (41, aC aY 0 ah), (844, .iface 144 (aA s)), (849, bF (IntKind.u64.wrap (((ah : Nat) : Int) * 64)))]) [(aY, .cells mD 36 (0, 0)), (aV, .cells lG 133 (0, 0)), (fb, .cells #[aO 2, .int .u8 dat, aO 1, aT abi, aT aH, (aU big), bn aW, bn aJ, aI aG, aC aV 0 ah, aC pg aj aj, aQ, aQ, aQ] 131 (0, 0)), (s, .cells #[.iface 178 (.slice (some ⟨b, o, none⟩) n c), aF 0, aF 0, aF 9223372036854775807, aF 9223372036854775807] 246 (0, 0))] (by kernel_rfl) ?_
 clear HF HM; intro a w HF HM
 rw [show IntKind.u64.wrap (((ah : Nat) : Int) * 64) = (((ah * 64) : Nat) : Int) from (IntWalk.u64_in _ (by omega)).trans (by omega)] at HF
 refine aP HF HM rfl 1 [] ((iL b o n c s fb big ak aj au ah) ++ [(35, ay ah), (41, aC aY 0 ah), (844, .iface 144 (aA s)), (849, aI (ah * 64)), (850, ay au)]) [(aY, .cells mD 36 (0, 0)), (aV, .cells lG 133 (0, 0)), (fb, .cells #[aO 2, .int .u8 dat, aO 1, aT abi, aT aH, (aU big), bn aW, bn aJ, aI aG, aC aV 0 ah, aC pg aj aj, aQ, aQ, aQ] 131 (0, 0)), (s, .cells #[.iface 178 (.slice (some ⟨b, o, none⟩) n c), aF 0, aF 0, aF 9223372036854775807, aF 9223372036854775807] 246 (0, 0))] (by kernel_rfl) ?_
 clear HF HM; intro a w HF HM
 refine bf HF (by kernel_rfl) 99 #[.iface 144 (aA s), aI (ah * 64), ay au] (by kernel_rfl) (fun w => by kernel_rfl) (Calls.mono (pU l b o n c hl hnc s (ah * 64) 0 au 0 9223372036854775807 9223372036854775807 (by omega) (by omega) (by omega) (by omega) (by omega) (by omega) w (HM.row hr (by intro b' o' s' e; injection e with e; injection e with e; subst e; exact xR)) (Nat.lt_of_lt_of_le hbl HM.size) hbs (HM.get (i := 3) rfl)) ?_)
 rintro _ w4 ⟨sd, rfl, hb, hge, hgn⟩
 replace HM : Mm G w0 w4 [(sd, .cells (((l.drop (0 + au)).take (ah * 64)).map Bv).toArray 5 (0, 0)), (aY, .cells mD 36 (0, 0)), (aV, .cells lG 133 (0, 0)), (fb, .cells #[aO 2, .int .u8 dat, aO 1, aT abi, aT aH, (aU big), bn aW, bn aJ, aI aG, aC aV 0 ah, aC pg aj aj, aQ, aQ, aQ] 131 (0, 0)), (s, .cells #[.iface 178 (.slice (some ⟨b, o, none⟩) n c), aF 0, aF 0, aF 9223372036854775807, aF 9223372036854775807] 246 (0, 0))] := HM.push hb hge hgn
 clear hge hgn
 refine ⟨_, rfl, ?_⟩; clear HF; intro a HF; replace HF := HF.sub ((iL b o n c s fb big ak aj au ah) ++ [(35, ay ah), (41, aC aY 0 ah), (844, .iface 144 (aA s)), (849, aI (ah * 64)), (850, ay au), (851, .tuple #[aC sd (ah * 64) (ah * 64), .nilIface])]) (by kernel_rfl)
 refine aP HF HM rfl 5 [] ((iL b o n c s fb big ak aj au ah) ++ [(35, ay ah), (41, aC aY 0 ah), (42, aC sd (ah * 64) (ah * 64)), (37, .nilIface)]) [(sd, .cells (((l.drop (0 + au)).take (ah * 64)).map Bv).toArray 5 (0, 0)), (aY, .cells mD 36 (0, 0)), (aV, .cells lG 133 (0, 0)), (fb, .cells #[aO 2, .int .u8 dat, aO 1, aT abi, aT aH, (aU big), bn aW, bn aJ, aI aG, aC aV 0 ah, aC pg aj aj, aQ, aQ, aQ] 131 (0, 0)), (s, .cells #[.iface 178 (.slice (some ⟨b, o, none⟩) n c), aF 0, aF 0, aF 9223372036854775807, aF 9223372036854775807] 246 (0, 0))] (by kernel_rfl) ?_
 clear HF HM; intro a w HF HM
 refine aB ?_
 refine wp_seq ?_
 refine wp_seq (wp_region_lit ?_)
 refine aP HF HM rfl 2 [] ((iL b o n c s fb big ak aj au ah) ++ [(35, ay ah), (41, aC aY 0 ah), (42, aC sd (ah * 64) (ah * 64)), (37, .nilIface), (855, .bool false)]) [(sd, .cells (((l.drop (0 + au)).take (ah * 64)).map Bv).toArray 5 (0, 0)), (aY, .cells mD 36 (0, 0)), (aV, .cells lG 133 (0, 0)), (fb, .cells #[aO 2, .int .u8 dat, aO 1, aT abi, aT aH, (aU big), bn aW, bn aJ, aI aG, aC aV 0 ah, aC pg aj aj, aQ, aQ, aQ] 131 (0, 0)), (s, .cells #[.iface 178 (.slice (some ⟨b, o, none⟩) n c), aF 0, aF 0, aF 9223372036854775807, aF 9223372036854775807] 246 (0, 0))] (by kernel_rfl) ?_
 clear HF HM; intro a w HF HM
 refine aB ?_
 refine aZ HF rfl ?_
 refine wp_skip ?_
 repeat (first | refine aK ?_ | refine aS ?_)
 replace HF := HF.sub ((iL b o n c s fb big ak aj au ah) ++ [(41, aC aY 0 ah), (42, aC sd (ah * 64) (ah * 64))]) (by kernel_rfl)
 replace HF := HF.sub ((iL b o n c s fb big ak aj au ah) ++ [(41, aC aY 0 ah), (42, aC sd (ah * 64) (ah * 64))]) (by kernel_rfl)
 rw [Nat.zero_add] at HM
 exact K a w aV lG aY mD sd Sv SB HF HM

end Go.Proofs.YtdgehpocmfjbiaaDoor
namespace Go.Proofs.YtdgehpocmfjbiaaDoor
open Go.RowKit

theorem PS (l : List UInt8) (hl : l.length < 4611686018427387904) (w0 : World) {KK : Act → World → Prop} {QQ : Exit → Act → World → Prop} (Kt : 0 ∉ l → ∀ a, Fr 14 a [(0, .string ⟨l.toArray⟩)] → KK a w0) (Kf : 0 ∈ l → ∀ a, Fr 14 a [(2, .bool false)] → QQ .ret a w0) (i : Nat) (hi : i = l.length) (h0 : 0 ∉ l) {KX : Act → World → Prop}  (a : Act) (HF : Fr 14 a [(0, .string ⟨l.toArray⟩), (3, ay i)]) :
  (oP (spine Tryd.f53 1)).wp Tryd.prog (Exit.then KX (Exit.inBlock 0 (Exit.then KK QQ))) a w0 := by
 have HM : Mm [] w0 w0 [] := Mm.start w0
 have hsz : ((⟨l.toArray⟩ : ByteArray).size : Nat) = l.length := by simp [ByteArray.size]
 refine wp_seq ?_
 refine wp_seq (wp_region_lit ?_)
 refine wp_pure HF HM rfl 4 [] [(0, .string ⟨l.toArray⟩), (3, ay i), (7, .bool (decide (((i : Nat) : Int) < (((⟨l.toArray⟩ : ByteArray).size : Nat) : Int))))] (by kernel_rfl) ?_
 clear HF; intro a HF
 rw [show decide (((i : Nat) : Int) < (((⟨l.toArray⟩ : ByteArray).size : Nat) : Int)) = false from dI (by omega)] at HF
 refine aB ?_
 refine aZ HF rfl ?_
 replace HF := HF.sub [(0, .string ⟨l.toArray⟩)] (by kernel_rfl)
 refine wp_exit ?_
 repeat (first | refine fG ?_ | refine iD ?_ | refine aK ?_)
 exact Kt (by assumption) a HF

theorem Oc (l : List UInt8) (hl : l.length < 4611686018427387904) (w0 : World) {KK : Act → World → Prop} {QQ : Exit → Act → World → Prop} (Kt : 0 ∉ l → ∀ a, Fr 14 a [(0, .string ⟨l.toArray⟩)] → KK a w0) (Kf : 0 ∈ l → ∀ a, Fr 14 a [(2, .bool false)] → QQ .ret a w0) (i : Nat) (b : UInt8) (hb : l[i]? = some b) (hlt : i < l.length) (hz : (((b.toNat : Nat) : Int) == 0) = true) (h0 : 0 ∈ l) {KX : Act → World → Prop}  (a : Act) (HF : Fr 14 a [(0, .string ⟨l.toArray⟩), (3, ay i)]) :
  (oP (spine Tryd.f53 1)).wp Tryd.prog (Exit.then KX (Exit.inBlock 0 (Exit.then KK QQ))) a w0 := by
 have HM : Mm [] w0 w0 [] := Mm.start w0
 have hsz : ((⟨l.toArray⟩ : ByteArray).size : Nat) = l.length := by simp [ByteArray.size]
 refine wp_seq ?_
 refine wp_seq (wp_region_lit ?_)
 refine wp_pure HF HM rfl 4 [] [(0, .string ⟨l.toArray⟩), (3, ay i), (7, .bool (decide (((i : Nat) : Int) < (((⟨l.toArray⟩ : ByteArray).size : Nat) : Int))))] (by kernel_rfl) ?_
 clear HF; intro a HF
 rw [show decide (((i : Nat) : Int) < (((⟨l.toArray⟩ : ByteArray).size : Nat) : Int)) = true from dV (by omega)] at HF
 refine aB ?_
 refine bC HF rfl ?_
 refine wp_skip ?_
 repeat (first | refine aK ?_ | refine aS ?_)
 replace HF := HF.sub [(0, .string ⟨l.toArray⟩), (3, ay i)] (by kernel_rfl)
 refine wp_seq (wp_block ?_)
 refine wp_seq (wp_region_lit ?_)
 refine wp_pure HF HM rfl 2 [] [(0, .string ⟨l.toArray⟩), (3, ay i), (10, .string ⟨l.toArray⟩), (11, ay i)] (by kernel_rfl) ?_
 clear HF; intro a HF
 refine bU HF (by kernel_rfl) (aT b.toNat) (by kernel_rfl) (EI Tryd.underlying9 rfl rfl rfl hb) ?_
 clear HF; intro a HF; replace HF := HF.sub [(0, .string ⟨l.toArray⟩), (3, ay i), (10, .string ⟨l.toArray⟩), (11, ay i), (12, aT b.toNat)] (by kernel_rfl)
 refine wp_pure HF HM rfl 1 [] [(0, .string ⟨l.toArray⟩), (3, ay i), (13, .bool (((b.toNat : Nat) : Int) == 0))] (by kernel_rfl) ?_
 clear HF; intro a HF
 rw [show (((b.toNat : Nat) : Int) == 0) = true from hz] at HF
 refine aB ?_
 refine bC HF rfl ?_
 replace HF := HF.sub [(0, .string ⟨l.toArray⟩), (3, ay i)] (by kernel_rfl)
 refine wp_seq (wp_region_lit ?_)
 refine wp_pure HF HM rfl 1 [] [(2, .bool false)] (by kernel_rfl) ?_
 clear HF; intro a HF
 refine aB ?_
 refine wp_ret ?_
 repeat (first | refine bH ?_ | refine bM ?_)
 exact Kf (by assumption) a HF

theorem Oe (l : List UInt8) (hl : l.length < 4611686018427387904) (w0 : World) {KK : Act → World → Prop} {QQ : Exit → Act → World → Prop} (Kt : 0 ∉ l → ∀ a, Fr 14 a [(0, .string ⟨l.toArray⟩)] → KK a w0) (Kf : 0 ∈ l → ∀ a, Fr 14 a [(2, .bool false)] → QQ .ret a w0) (i : Nat) (b : UInt8) (hb : l[i]? = some b) (hlt : i < l.length) (hz : (((b.toNat : Nat) : Int) == 0) = false) {KX : Act → World → Prop} (KR : ∀ a, Fr 14 a [(0, .string ⟨l.toArray⟩), (3, ay (i + 1))] → KX a w0) (a : Act) (HF : Fr 14 a [(0, .string ⟨l.toArray⟩), (3, ay i)]) :
  (oP (spine Tryd.f53 1)).wp Tryd.prog (Exit.then KX (Exit.inBlock 0 (Exit.then KK QQ))) a w0 := by
 have HM : Mm [] w0 w0 [] := Mm.start w0
 have hsz : ((⟨l.toArray⟩ : ByteArray).size : Nat) = l.length := by simp [ByteArray.size]
 refine wp_seq ?_
 refine wp_seq (wp_region_lit ?_)
 refine wp_pure HF HM rfl 4 [] [(0, .string ⟨l.toArray⟩), (3, ay i), (7, .bool (decide (((i : Nat) : Int) < (((⟨l.toArray⟩ : ByteArray).size : Nat) : Int))))] (by kernel_rfl) ?_
 clear HF; intro a HF
 rw [show decide (((i : Nat) : Int) < (((⟨l.toArray⟩ : ByteArray).size : Nat) : Int)) = true from dV (by omega)] at HF
 refine aB ?_
 refine bC HF rfl ?_
 refine wp_skip ?_
 repeat (first | refine aK ?_ | refine aS ?_)
 replace HF := HF.sub [(0, .string ⟨l.toArray⟩), (3, ay i)] (by kernel_rfl)
 refine wp_seq (wp_block ?_)
 refine wp_seq (wp_region_lit ?_)
 refine wp_pure HF HM rfl 2 [] [(0, .string ⟨l.toArray⟩), (3, ay i), (10, .string ⟨l.toArray⟩), (11, ay i)] (by kernel_rfl) ?_
 clear HF; intro a HF
 refine bU HF (by kernel_rfl) (aT b.toNat) (by kernel_rfl) (EI Tryd.underlying9 rfl rfl rfl hb) ?_
 clear HF; intro a HF; replace HF := HF.sub [(0, .string ⟨l.toArray⟩), (3, ay i), (10, .string ⟨l.toArray⟩), (11, ay i), (12, aT b.toNat)] (by kernel_rfl)
 refine wp_pure HF HM rfl 1 [] [(0, .string ⟨l.toArray⟩), (3, ay i), (13, .bool (((b.toNat : Nat) : Int) == 0))] (by kernel_rfl) ?_
 clear HF; intro a HF
 rw [show (((b.toNat : Nat) : Int) == 0) = false from hz] at HF
 refine aB ?_
 refine aZ HF rfl ?_
 replace HF := HF.sub [(0, .string ⟨l.toArray⟩), (3, ay i)] (by kernel_rfl)
 refine wp_skip ?_
 repeat (first | refine aK ?_ | refine aS ?_)
 refine wp_region_lit ?_
 refine wp_pure HF HM rfl 2 [] [(0, .string ⟨l.toArray⟩), (3, ay i), (9, .int .i64 (IntKind.i64.wrap (((i : Nat) : Int) + 1)))] (by kernel_rfl) ?_
 clear HF; intro a HF
 rw [show IntKind.i64.wrap (((i : Nat) : Int) + 1) = (((i + 1) : Nat) : Int) from (IntWalk.i64_in _ (by omega)).trans (by omega)] at HF
 refine wp_pure HF HM rfl 1 [] [(0, .string ⟨l.toArray⟩), (3, ay (i + 1))] (by kernel_rfl) ?_
 clear HF; intro a HF
 refine wpList_nil ?_
 repeat (first | refine aK ?_ | refine aS ?_)
 exact KR a HF
theorem EJ (l : List UInt8) (hl : l.length < 4611686018427387904) (w0 : World) {KK : Act → World → Prop} {QQ : Exit → Act → World → Prop} (Kt : 0 ∉ l → ∀ a, Fr 14 a [(0, .string ⟨l.toArray⟩)] → KK a w0) (Kf : 0 ∈ l → ∀ a, Fr 14 a [(2, .bool false)] → QQ .ret a w0) : ∀ (r i : Nat), i + r = l.length → (∀ j, j < i → l[j]? ≠ some 0) → ∀ a, Fr 14 a [(0, .string ⟨l.toArray⟩), (3, ay i)] →
  Code.rounds Tryd.prog (oP (spine Tryd.f53 1)) (Exit.inBlock 0 (Exit.then KK QQ)) (r + 1) a w0
 | 0, i, hr, hp, a, HF => by
  rw [rounds_succ]
  refine PS l hl w0 Kt Kf i (by omega) (fun hm => ?_) a HF
  obtain ⟨j, hj, e⟩ := List.getElem_of_mem hm
  exact hp j (by omega) (by rw [List.getElem?_eq_getElem hj, e])
 | r + 1, i, hr, hp, a, HF => by
  rw [rounds_succ]
  have hlt : i < l.length := by omega
  have hb : l[i]? = some l[i] := List.getElem?_eq_getElem hlt
  by_cases hz : l[i] = 0
  ·exact Oc l hl w0 Kt Kf i l[i] hb hlt (by rw [hz]; rfl) (hz ▸ List.getElem_mem hlt) a HF
  ·refine Oe l hl w0 Kt Kf i l[i] hb hlt (beq_eq_false_iff_ne.2 fun e => hz (UInt8.toNat_inj.1 (by simpa using e))) (fun a HF => ?_) a HF
   refine EJ l hl w0 Kt Kf r (i + 1) (by omega) (fun j hj => ?_) a HF
   rcases Nat.lt_or_ge j i with h | h
   ·exact hp j h
   ·obtain rfl : j = i := by omega
    rw [hb]
    exact fun e => hz (Option.some.inj e)

theorem IC (l : List UInt8) (hl : l.length < 4611686018427387904) (w0 : World) : Calls Tryd.prog 53 #[.string ⟨l.toArray⟩] w0 fun e w' => e = .returned (.bool (decide (0 ∉ l))) ∧ w' = w0 := by
 have HM : Mm [] w0 w0 [] := Mm.start w0
 refine bI Tryd.func53 rfl Tryd.ntmps53 [(0, .string ⟨l.toArray⟩)] (by kernel_rfl) (Nat.le_of_ble_eq_true rfl) ?_
 intro a HF
 refine oq HF HM rfl [] [(0, .string ⟨l.toArray⟩), (2, .bool false)] (by kernel_rfl) ?_
 clear HF; intro a HF
 replace HF := HF.sub [(0, .string ⟨l.toArray⟩)] (by kernel_rfl)
 refine wp_seq ?_
 refine oq HF HM rfl [] [(0, .string ⟨l.toArray⟩), (3, ay 0)] (by kernel_rfl) ?_
 clear HF; intro a HF
 refine wp_block (wp_loop_rounds (l.length + 1) ?_)
 refine EJ l hl w0 (fun h a HF => ?_) (fun h a HF => ?_) l.length 0 (by omega) (fun j hj => absurd hj (Nat.not_lt_zero j)) a HF
 ·have _ := h
  refine wp_seq (wp_region_lit ?_)
  refine wp_pure HF HM rfl 1 [] [(2, .bool true)] (by kernel_rfl) ?_
  clear HF; intro a HF
  refine aB ?_
  refine wp_ret ?_
  exact dn HF rfl rfl ⟨by rw [decide_eq_true h], rfl⟩
 ·exact dn HF rfl rfl ⟨by rw [decide_eq_false (by simpa using h)], rfl⟩
end Go.Proofs.YtdgehpocmfjbiaaDoor
namespace Go.Proofs.YtdgehpocmfjbiaaDoor
open Go.RowKit

theorem uK {α : Type} [BEq α] [LawfulBEq α] {x y : α} (h : x = y) : (x == y) = true := by simpa using h
theorem rW {α : Type} [BEq α] [LawfulBEq α] {x y : α} (h : ¬ x = y) : (x == y) = false := by simpa using h
theorem TB {α : Type} [BEq α] [LawfulBEq α] {x y : α} (h : x ≠ y) : (x != y) = true := by simpa using h
theorem I4 {α : Type} [BEq α] [LawfulBEq α] {x y : α} (h : ¬ x ≠ y) : (x != y) = false := by simpa using h
theorem IZ (b : Bool) : b = true ∨ b = false := by cases b <;> simp
theorem gZ (b : Bool) : b = false ∨ b = true := by cases b <;> simp

/-- a loop of n rounds, by an invariant -/
theorem jX {P : Program} {body : Code} {Q : Exit → Act → World → Prop} {a : Act} {w : World} (n : Nat) (Inv : Nat → Act → World → Prop) (h0 : Inv 0 a w)
  (step : ∀ i a w (KX : Act → World → Prop), i < n → Inv i a w → (∀ a w, Inv (i + 1) a w → KX a w) → body.wp P (Exit.then KX Q) a w)
  (last : ∀ a w (KX : Act → World → Prop), Inv n a w → body.wp P (Exit.then KX Q) a w) : (Code.loop body).wp P Q a w := by
 refine wp_loop_rounds (n + 1) ?_
 have key : ∀ r i a w, i + r = n → Inv i a w → Code.rounds P body Q (r + 1) a w := by
  intro r
  induction r with
  | zero =>
   intro i a w hi h
   rw [rounds_succ]
   obtain rfl : i = n := by omega
   exact last a w _ h
  | succ r ih =>
   intro i a w hi h
   rw [rounds_succ]
   exact step i a w _ (by omega) h fun a w h => ih (i + 1) a w (by omega) h
 exact key n 0 a w (by omega) h0

/-- the ways through a piece of code meet again -/
theorem Dx {P : Program} {c : Code} {Q : Exit → Act → World → Prop} {a : Act} {w : World} (I : Act → World → Prop) (h : c.wp P (Exit.then I Q) a w) (hr : ∀ a w, I a w → Q .normal a w) : c.wp P Q a w :=
 Code.wp_mono (fun e a w h => by
  cases e with
  | normal => exact hr a w h
  | _ => exact h) h

section
variable {P : Program} {N : Nat} {G : List Nat} {w0 w : World} {a : Act} {L : List (Nat × Obj)} {ops : Array Oper}
theorem Fr.tell {S : Slots} (h : Fr N a S) (t : Nat) {v u : Value} (e : Go.Proofs.YtdgehpocmfjbiaaDoor.lk S t = some v) (hv : v = u) : Fr N a ((t, u) :: S) :=
 ⟨h.1, h.2.1, fun p hp => by
  rcases List.mem_cons.1 hp with rfl | hp
  ·exact hv ▸ h.lk e
  ·exact h.2.2 p hp⟩
theorem Mm.sG {w' : World} {g : Nat} (h : Mm G w0 w L) (hb : Below g w w') (hL : ∀ p ∈ L, p.1 < g) (hg : w0.heap.size ≤ g) : Mm G w0 w' L :=
 ⟨⟨hb.os.trans h.1.os, hb.tape.trans h.1.tape, hb.output.trans h.1.output, Nat.le_trans h.1.size hb.size, fun k hk hn => (hb.block k (Nat.lt_of_lt_of_le hk hg)).trans (h.1.block k hk hn)⟩,
  fun p hp => ⟨(hb.block p.1 (hL p hp)).trans (h.2.1 p hp).1, (h.2.1 p hp).2⟩, h.2.2⟩
theorem Mm.pick (h : Mm G w0 w L) (idx : List Nat) (K : List (Nat × Obj)) (e : idx.map (fun i => L[i]?) = K.map some) (hd : idx.Pairwise (· ≠ ·)) : Mm G w0 w K := by
 have hlen : idx.length = K.length := by simpa using congrArg List.length e
 have hat : ∀ (j : Nat) (hj : j < idx.length) (hk : j < K.length), L[idx[j]]? = some K[j] := by
  intro j hj hk
  have := congrArg (fun l => l[j]?) e
  simp only [List.getElem?_map, List.getElem?_eq_getElem hj, List.getElem?_eq_getElem hk, Option.map_some] at this
  exact Option.some.inj this
 refine ⟨h.1, fun p hp => ?_, ?_⟩
 ·obtain ⟨j, hj, e2⟩ := List.getElem_of_mem hp
  have := hat j (by omega) hj
  rw [e2] at this
  exact h.2.1 p (List.mem_of_getElem? this)
 ·rw [List.pairwise_iff_getElem]
  intro i j hi hj hij
  simp only [List.length_map] at hi hj
  simp only [List.getElem_map]
  have h1 := hat i (by omega) hi
  have h2 := hat j (by omega) hj
  have hne : idx[i]'(by omega) ≠ idx[j]'(by omega) := List.pairwise_iff_getElem.1 hd i j (by omega) (by omega) hij
  exact h.ne (b := K[i].1) (c := K[j].1) (o := K[i].2) (p := K[j].2) h1 h2 hne

/-- append, there is room, onto a told block -/
theorem DR (t tx ty e : TypeId) (i : TypeInfo) (ht : P.underlying t = some (.slice e)) (hi : P.info? e = some i) (g n cap : Nat) (x : Value) (m : Nat) (news : List Value) (hs : Src P i.size tx x m news w)
  (cur : Array Value) (hg : w.heap[g]? = some (.cells cur e (0, 0))) (hroom : n + m ≤ cap) (hfit : n * i.size + news.length ≤ cur.size) :
  (Builtin.append_ #[t, tx] ty #[.slice (some ⟨g, 0, none⟩) n cap, x]).run P w = .ok (.slice (some ⟨g, 0, none⟩) (n + m) cap) (w.setRow g (cur.toList.take (n * i.size) ++ news ++ cur.toList.drop (n * i.size + news.length)).toArray) := by
 have hst := run_storeCells_at P g (n * i.size) e news 0 cur w hg (by simpa using hfit) hs.one
 rw [Nat.add_zero] at hst
 have ha : (⟨g, 0, none⟩ : Addr).add (n * i.size) = ⟨g, n * i.size, none⟩ := by rw [addr_add, Nat.zero_add]
 rcases hs.kind with ⟨e', hk⟩ | hk <;> simp [Builtin.append_, run_underlying ht, run_underlying hk, sizeOf, typeInfo, hi, hs.len, hroom, hs.cells, ha, hst]

theorem fU {Q : Exit → Act → World → Prop} {rest : List Oper} {o : Oper} {S : Slots} (HF : Fr N a S) (HM : Mm G w0 w L) (hgd : o.guard = none) (s x : Operand) (t tx : TypeId)
  (ho : o.op = .call { callee := .builtin .append, args := #[s, x], argTypes := #[t, tx] }) (hd : okD N o.dst = true)
  (e : TypeId) {z : Value} {size bytes : Nat} (ht : P.underlying t = some (.slice e)) (hi : (P.info? e).map (fun i => (i.zero, i.size, i.bytes)) = some (some z, size, bytes)) (hzs : z.cells.size = size) (hsz : 0 < size)
  (i g n cap : Nat) (cur : Array Value) (hL : L[i]? = some (g, .cells cur e (0, 0))) (hs : ev S s = some (.slice (some ⟨g, 0, none⟩) n cap)) (hnc : n ≤ cap) (hcm : cap ≤ maxLen) (hcs : cur.size = cap * size) (xs : List Value) (hxs : cur.toList.take (n * size) = xs)
  (xv : Value) (m : Nat) (news : List Value) (hx : ev S x = some xv) (hsrc : Src P size tx xv m news w)
  (h63 : n + m ≤ maxLen) (hbytes : (n + m) * bytes ≤ 140737488355328)
  (hK : ∀ a' w' g' cap' cur', Mm G w0 w' (L.set i (g', .cells cur' e (0, 0))) → cur'.toList.take ((n + m) * size) = xs ++ news → cur'.size = cap' * size → n + m ≤ cap' → cap' ≤ maxLen → Fr N a' (uy S o.dst (.slice (some ⟨g', 0, none⟩) (n + m) cap')) → wpList P ops Q rest a' w') : wpList P ops Q (o :: rest) a w := by
 obtain ⟨inf, hi0, hz0, hz1, hz2⟩ := info_parts hi
 have hsx : Src P inf.size tx xv m news w := by rw [hz1]; exact hsrc
 have hnl := hsrc.newsLen
 have hnn : (n + m) * size = n * size + m * size := Nat.add_mul _ _ _
 have hle : n * size ≤ cap * size := Nat.mul_le_mul_right _ hnc
 have hxl : xs.length = n * size := by rw [← hxs, List.length_take, Array.length_toList, hcs]; omega
 have hg := HM.get hL
 refine wpList_plain hgd fun K hK' => ?_
 unfold Oper.wp execOp
 have hd1 := HF.ev hs
 have hd2 := HF.ev hx
 by_cases hroom : n + m ≤ cap
 ·have hlm : (n + m) * size ≤ cap * size := Nat.mul_le_mul_right _ hroom
  have hr := DR (P := P) t tx o.type e inf ht hi0 g n cap xv m news hsx cur hg hroom (by rw [hz1, hcs, hnl]; omega)
  rw [hz1] at hr
  simp only [ho, resolve, invoke, builtin, Sem.run_bind, Sem.run_pure, Result.andThen_ok, List.map_toArray, List.map_cons, List.map_nil, hd1, hd2, hr]
  refine hK' _ _ (hK _ _ g cap _ (HM.set hL _) ?_ ?_ hroom hcm (HF.put _ _ (kU hd)))
  ·simp only [hxs]
   rw [hnn, ← hxl, ← hnl, ← List.length_append, List.take_left]
  ·simp only [List.size_toArray, List.length_append, List.length_take, List.length_drop, Array.length_toList]
   omega
 ·have holds : (Builtin.firstCells inf.size n (.slice (some ⟨g, 0, none⟩) n cap)).run P w.drew = .ok xs.toArray w.drew := by
   refine run_firstCells_some w.drew inf.size n ⟨g, 0, none⟩ n cap xs (by rw [hz1]; exact hxl) fun j u hj => ?_
   rw [addr_add]
   have hc := cell_of_row w.drew g (0 + j) cur e (0, 0) hg
   rw [hc, Nat.zero_add]
   have : (cur.toList.take (n * size))[j]? = some u := by rw [hxs]; exact hj
   rw [List.getElem?_take] at this
   split at this
   ·simpa using this
   ·cases this
  have hr := run_append_grow_src (P := P) w t tx o.type e inf z ht hi0 hz0 (some ⟨g, 0, none⟩) n cap xs holds xv m news hsx (by omega) (by simp only [maxLen] at h63; omega) (growslice_fits (by omega) (by rw [hz2]; exact hbytes))
  simp only [ho, resolve, invoke, builtin, Sem.run_bind, Sem.run_pure, Result.andThen_ok, List.map_toArray, List.map_cons, List.map_nil, hd1, hd2, hr]
  have hge := grownCap_ge w (n + m) cap e
  have hcm2 : grownCap w (n + m) cap e ≤ maxLen := grownCap_le_maxLen w (n + m) cap e h63
  have hM2 := (HM.drewN 1).alloc (.cells ((xs ++ news).toArray ++ Builtin.zeroCells z.cells (grownCap w (n + m) cap e - (n + m))) e)
  refine hK' _ _ (hK _ _ w.heap.size (grownCap w (n + m) cap e) ((xs ++ news).toArray ++ Builtin.zeroCells z.cells (grownCap w (n + m) cap e - (n + m))) ?_ ?_ ?_ hge hcm2 (HF.put _ _ (kU hd)))
  ·refine ⟨hM2.1, fun p hp => ?_, ?_⟩
   ·obtain ⟨j, hj⟩ := List.getElem?_of_mem hp
    rw [List.getElem?_set] at hj
    split at hj
    ·split at hj
     ·injection hj with hj
      subst hj
      exact hM2.2.1 _ List.mem_cons_self
     ·cases hj
    ·exact hM2.2.1 _ (List.mem_cons_of_mem _ (List.mem_of_getElem? hj))
   ·have hp := hM2.2.2
    rw [List.map_cons, List.pairwise_cons] at hp
    rw [List.map_set, List.pairwise_iff_getElem]
    intro j k hj hk hjk
    simp only [List.length_set, List.length_map] at hj hk
    simp only [List.getElem_set, List.getElem_map]
    have h2 := List.pairwise_iff_getElem.1 hp.2 j k (by simpa using hj) (by simpa using hk) hjk
    simp only [List.getElem_map] at h2
    have hm1 : ∀ q (hq : q < L.length), w.heap.size ≠ (L[q]'hq).1 := fun q hq => hp.1 _ (List.mem_map.2 ⟨_, List.getElem_mem hq, rfl⟩)
    split
    ·split
     ·omega
     ·exact hm1 k hk
    ·split
     ·exact (hm1 j hj).symm
     ·exact h2
  ·rw [Array.toList_append, List.toList_toArray, hnn, ← hxl, ← hnl, ← List.length_append, List.take_left]
  ·simp only [Array.size_append, List.size_toArray, size_zeroCells, hzs, List.length_append, hxl, hnl, ← Nat.add_mul]
   congr 1
   omega

/-- append of zeros ('append(x, make([]byte, m)...)') onto a full told block: a new row -/
theorem H7 {Q : Exit → Act → World → Prop} {rest : List Oper} {o : Oper} {S : Slots} (HF : Fr N a S) (HM : Mm G w0 w L) (hgd : o.guard = none) (s x : Operand) (t tx : TypeId)
  (ho : o.op = .call { callee := .builtin .append, args := #[s, x], argTypes := #[t, tx] }) (hd : okD N o.dst = true)
  (e : TypeId) (ht : P.underlying t = some (.slice e)) (htx : P.underlying tx = some (.int .i64)) (hi : (P.info? e).map (fun i => (i.zero, i.size, i.bytes)) = some (some (.int .u8 0), 1, 1))
  (i g n : Nat) (cur : Array Value) (hL : L[i]? = some (g, .cells cur e (0, 0))) (hs : ev S s = some (.slice (some ⟨g, 0, none⟩) n n)) (hcs : cur.size = n)
  (m : Nat) (hm0 : 0 < m) (hm : m ≤ 1000) (hn : n ≤ 1000) (hx : ev S x = some (.int .i64 (m : Int)))
  (hK : ∀ a' w' g' cap' cur', Mm G w0 w' ((g', .cells cur' e (0, 0)) :: L) → w.heap.size ≤ g' → cur'.toList.take ((n + m) * 1) = cur.toList ++ List.replicate m (.int .u8 0) → cur'.size = cap' * 1 → n + m ≤ cap' → cap' ≤ maxLen → Fr N a' (uy S o.dst (.slice (some ⟨g', 0, none⟩) (n + m) cap')) → wpList P ops Q rest a' w') : wpList P ops Q (o :: rest) a w := by
 obtain ⟨inf, hi0, hz0, hz1, hz2⟩ := info_parts hi
 have hg := HM.get hL
 refine wpList_plain hgd fun K hK' => ?_
 unfold Oper.wp execOp
 have hd1 := HF.ev hs
 have hd2 := HF.ev hx
 have holds : (Builtin.firstCells inf.size n (.slice (some ⟨g, 0, none⟩) n n)).run P w.drew = .ok cur.toList.toArray w.drew := by
  refine run_firstCells_some w.drew inf.size n ⟨g, 0, none⟩ n n cur.toList (by rw [hz1, Array.length_toList, hcs, Nat.mul_one]) fun j u hj => ?_
  rw [addr_add]
  have hc := cell_of_row w.drew g (0 + j) cur e (0, 0) hg
  rw [hc, Nat.zero_add]
  simpa using hj
 have hw : IntKind.i64.wrap (m : Int) = (m : Int) := IntWalk.i64_in _ (by omega)
 have hc1 : ¬ (n + m ≤ n) := by omega
 have hge := grownCap_ge w (n + m) n e
 have h63 : n + m ≤ maxLen := by unfold maxLen; omega
 have hcm2 : grownCap w (n + m) n e ≤ maxLen := grownCap_le_maxLen w (n + m) n e h63
 have hfit := growslice_fits (need := n + m) (old := n) (bytes := 1) (by omega) (by omega)
 have hr : (Builtin.append_ #[t, tx] o.type #[.slice (some ⟨g, 0, none⟩) n n, .int .i64 (m : Int)]).run P w = .ok (.slice (some ⟨w.heap.size, 0, none⟩) (n + m) (grownCap w (n + m) n e))
    (w.drew.alloc (.cells ((cur.toList ++ List.replicate m (Value.int .u8 0)).toArray ++ Builtin.zeroCells #[Value.int .u8 0] (grownCap w (n + m) n e - (n + m))) e)) := by
  have h1 : ¬ ((m : Int) < 0) := by omega
  have h2 : ¬ (281474976710656 < (m : Int)) := by omega
  have h3 : ¬ (9223372036854775807 < ((n : Int) + (m : Int))) := by omega
  have h4 : ¬ (281474976710656 < Builtin.nextslicecap (n + m) n * 1) := by omega
  have h4' : ¬ (281474976710656 < Builtin.nextslicecap (n + m) n) := by omega
  have h5 : ¬ (m = 0) := by omega
  rw [hz1] at holds
  have hzc : Builtin.zeroCells #[Value.int .u8 0] m = (List.replicate m (Value.int .u8 0)).toArray := by
   apply Array.ext'
   apply List.ext_getElem
   ·simp [Builtin.zeroCells]
   ·intro j h1 h2
    simp [Builtin.zeroCells, Nat.mod_one]
  simp [Builtin.append_, run_underlying ht, run_underlying htx, sizeOf, typeInfo, zeroValue, hi0, hz0, hz1, hz2, asInt, asIntOf, hw, h1, h2, h3, h4, h5, hc1, Question.forced, newRow, grownCap, Value.cells, hzc, h4', holds]
  congr 2
  apply Array.ext'
  simp [List.append_assoc]
 simp only [ho, resolve, invoke, builtin, Sem.run_bind, Sem.run_pure, Result.andThen_ok, List.map_toArray, List.map_cons, List.map_nil, hd1, hd2, hr]
 refine hK' _ _ (hK _ _ w.heap.size (grownCap w (n + m) n e) _ ((HM.drewN 1).alloc _) (Nat.le_refl _) ?_ ?_ hge hcm2 (HF.put _ _ (kU hd)))
 ·rw [Array.toList_append, List.toList_toArray, Nat.mul_one]
  have hl : (cur.toList ++ List.replicate m (Value.int .u8 0)).length = n + m := by simp [hcs]
  rw [← hl, List.take_left]
 ·simp only [Array.size_append, List.size_toArray, size_zeroCells, List.length_append, Array.length_toList, List.length_replicate, hcs]
  simp
  omega
theorem lF {size : Nat} {tx e' : TypeId} (hk : P.underlying tx = some (.slice e')) {A : Option Addr} {m c : Nat} {news : List Value} (hm : news.length = m * size) (hsz : 0 < size) (hr : Row w A news) (h1 : ∀ u ∈ news, u.oneCell' = true) :
  Src P size tx (.slice A m c) m news w := by
 rcases A with _ | ad
 ·have hn : news = [] := by
   rcases news with _ | ⟨x, l⟩
   ·rfl
   ·obtain ⟨b, off, e, _⟩ := hr 0 x rfl
    cases e
  subst hn
  have hm0 : m = 0 := by
   rcases Nat.eq_zero_or_pos m with h0 | h0
   ·exact h0
   ·have := Nat.mul_pos h0 hsz
    simp at hm
    omega
  subst hm0
  exact Src.ofNil w hk c
 ·refine Src.ofSlice w hk ad m c news hm (fun j u hu => ?_) h1
  obtain ⟨b, off, e, hc⟩ := hr j u hu
  injection e with e
  subst e
  rw [addr_add]
  exact hc
theorem EZ {w : World} {A : Option Addr} {cs : List Value} (h : Row w A cs) (k : Nat) : Row w A (cs.take k) := fun i v hv => by
 rw [List.getElem?_take] at hv
 split at hv
 ·exact h i v hv
 ·cases hv
theorem lM {l : List Value} (h : l.all (·.oneCell') = true) : ∀ u ∈ l, u.oneCell' = true := fun u hu => List.all_eq_true.1 h u hu
theorem Dh {cur : Array Value} {n size cap : Nat} {xs : List Value} (tk : cur.toList.take (n * size) = xs) (sz : cur.size = cap * size) (nc : n ≤ cap) : xs.length = n * size := by
 have hle : n * size ≤ cap * size := Nat.mul_le_mul_right _ nc
 rw [← tk, List.length_take, Array.length_toList, sz]
 omega
theorem yJ {α : Type} {f : α → List Value} {k : Nat} (hk : ∀ a, (f a).length = k) : ∀ l : List α, (l.flatMap f).length = l.length * k
 | [] => by simp
 | x :: l => by rw [List.flatMap_cons, List.length_append, hk, yJ hk l, List.length_cons, Nat.succ_mul, Nat.add_comm]
theorem MX {α : Type} {f : α → List Value} (h : ∀ a, (f a).all (·.oneCell') = true) (l : List α) : ∀ u ∈ l.flatMap f, u.oneCell' = true := fun u hu => by
 obtain ⟨a, _, ha⟩ := List.mem_flatMap.1 hu
 exact List.all_eq_true.1 (h a) u ha
/-- a row of a callee's own, as its contract tells it -/
structure Own (B : Nat) (w : World) (e : TypeId) (size g n cap : Nat) (cur : Array Value) (xs : List Value) : Prop where
 new : B ≤ g
 obj : w.heap[g]? = some (.cells cur e (0, 0))
 tk : cur.toList.take (n * size) = xs
 sz : cur.size = cap * size
 nc : n ≤ cap
 cm : cap ≤ maxLen
theorem Own.row {B : Nat} {w : World} {e : TypeId} {size g n cap : Nat} {cur : Array Value} {xs : List Value} (h : Own B w e size g n cap cur xs) : Row w (some ⟨g, 0, none⟩) xs := by
 have hr : Row w (some ⟨g, 0, none⟩) cur.toList := Row.of_cells fun j hj => by
  rw [cell_of_row w g (0 + j) cur e (0, 0) h.obj, Nat.zero_add]
  have : j < cur.size := by simpa using hj
  simp [this]
 have := EZ hr (n * size)
 rwa [h.tk] at this
theorem Own.below {B : Nat} {w w' : World} {e : TypeId} {size g n cap : Nat} {cur : Array Value} {xs : List Value} (h : Own B w e size g n cap cur xs) (hb : Below w.heap.size w w') : Own B w' e size g n cap cur xs :=
 { h with obj := (hb.block g (kM h.obj)).trans h.obj }
theorem Mm.PD {w' : World} (h : Mm G w0 w L) (hb : Below w.heap.size w w') {b c : Nat} {o p : Obj} (hg : w.heap.size ≤ b) (ho : w'.heap[b]? = some o) (hc : w.heap.size ≤ c) (hp : w'.heap[c]? = some p) (hne : c ≠ b) : Mm G w0 w' ((c, p) :: (b, o) :: L) := by
 have h1 := h.push hb hg ho
 refine ⟨h1.1, fun q hq => ?_, ?_⟩
 ·rcases List.mem_cons.1 hq with rfl | hq
  ·exact ⟨hp, .inl (Nat.le_trans h.size hc)⟩
  ·exact h1.2.1 q hq
 ·rw [List.map_cons, List.pairwise_cons]
  refine ⟨fun d hd => ?_, h1.2.2⟩
  rw [List.map_cons, List.mem_cons] at hd
  rcases hd with rfl | hd
  ·exact hne
  ·obtain ⟨q, hq, rfl⟩ := List.mem_map.1 hd
   have := kM (h.2.1 q hq).1
   show c ≠ q.1
   omega
theorem Po {tx : TypeId} (hk : P.underlying tx = some .string) (l : List UInt8) : Src P 1 tx (.string ⟨l.toArray⟩) l.length (l.map Bv) w := by
 have h := Src.ofString (P := P) w hk (⟨l.toArray⟩ : ByteArray)
 have e : byteCells ⟨l.toArray⟩ = l.map Bv := by simp [byteCells, Bv]
 rw [e] at h
 exact h
/-- the row that a told block of the call's own holds -/
theorem Mm.nH (h : Mm G w0 w L) {i g k : Nat} {cur : Array Value} {t : TypeId} {f : Nat × Nat} {xs : List Value} (e : L[i]? = some (g, .cells cur t f)) (hx : cur.toList.take k = xs) : Row w (some ⟨g, 0, none⟩) xs := by
 have := EZ (h.rowAt e) k
 rwa [hx] at this
theorem Told.nH {LS : List (Nat × Obj)} (h : Told LS w) {i g k : Nat} {cur : Array Value} {t : TypeId} {f : Nat × Nat} {xs : List Value} (e : LS[i]? = some (g, .cells cur t f)) (hx : cur.toList.take k = xs) : Row w (some ⟨g, 0, none⟩) xs := by
 have hg : w.heap[g]? = some (.cells cur t f) := h _ (List.mem_of_getElem? e)
 have hr : Row w (some ⟨g, 0, none⟩) cur.toList := Row.of_cells fun j hj => by
  rw [cell_of_row w g (0 + j) cur t f hg, Nat.zero_add]
  have : j < cur.size := by simpa using hj
  simp [this]
 have := EZ hr k
 rwa [hx] at this
/-- a cell of an own row is stored -/
theorem jv {Q : Exit → Act → World → Prop} {rest : List Oper} {o : Oper} {S : Slots} (HF : Fr N a S) (HM : Mm G w0 w L) (hgd : o.guard = none) (ty : TypeId) (x y : Operand) (ho : o.op = .store ty x y) (hd : okD N o.dst = true)
  (i g j : Nat) (cur : Array Value) (e : TypeId) (hL : L[i]? = some (g, .cells cur e (0, 0))) (hx : ev S x = some (.pointer (some ⟨g, j, none⟩))) (v : Value) (hy : ev S y = some v) (hv : v.cells = #[v]) (h1 : v.oneCell' = true) (hj : j < cur.size) (hi : (P.info? ty).map (·.size) = some 1)
  (hK : ∀ a' w' cur', Mm G w0 w' (L.set i (g, .cells cur' e (0, 0))) → cur'.toList = cur.toList.set j v → Fr N a' (uy S o.dst undef) → wpList P ops Q rest a' w') : wpList P ops Q (o :: rest) a w := by
 have hn : ((cur.toList.take j ++ v.cells.toList ++ cur.toList.drop (j + v.cells.size)).toArray).toList = cur.toList.take j ++ v.cells.toList ++ cur.toList.drop (j + v.cells.size) := rfl
 refine Ql HM hgd ty x y ho g j (HF.ev hx) v (HF.ev hy) i cur e hL _ hn (by rw [hi, hv]; rfl) (Nat.ble_eq_true_of_le (by rw [hv]; show j + 1 ≤ _; omega)) (by rw [hv]; simp [h1]) fun w' jA => ?_
 refine hK _ _ _ jA ?_ (HF.put _ _ (kU hd))
 rw [hn, hv]
 have hl : j < cur.toList.length := by simpa using hj
 rw [List.set_eq_take_append_cons_drop, if_pos hl, List.append_assoc]
 rfl
/-- element j of a row of structs -/
theorem fH {α : Type} {A : Option Addr} {f : α → List Value} {k : Nat} {l : List α} (hk : ∀ a, (f a).length = k) (hr : Row w A (l.flatMap f)) (j : Nat) {m : α} (hj : l[j]? = some m) : Row w (A.map (·.add (j * k))) (f m) := by
 obtain ⟨hlt, e⟩ := List.getElem?_eq_some_iff.1 hj
 have hl : ∀ l : List α, (l.flatMap f).length = l.length * k := fun l => by
  induction l with
  | nil => simp
  | cons x l ih => rw [List.flatMap_cons, List.length_append, hk, ih, List.length_cons, Nat.succ_mul, Nat.add_comm]
 have h1 : l.flatMap f = (l.take j).flatMap f ++ (f m ++ (l.drop (j + 1)).flatMap f) := by
  have : l = l.take j ++ (l[j] :: l.drop (j + 1)) := by rw [← List.drop_eq_getElem_cons hlt, List.take_append_drop]
  have h2 : l.flatMap f = (l.take j ++ (l[j] :: l.drop (j + 1))).flatMap f := by rw [← this]
  rw [h2, List.flatMap_append, List.flatMap_cons, e]
 have h3 : ((l.take j).flatMap f).length = j * k := by rw [hl, List.length_take]; congr 1; omega
 have h4 := (hr.drop (j * k)).take k
 rw [h1, ← h3, List.drop_left, ← hk m, List.take_left, h3] at h4
 exact h4
theorem qB {α : Type} {A : Option Addr} {f : α → Value} {l : List α} (hr : Row w A (l.map f)) (j : Nat) {m : α} (hj : l[j]? = some m) : Row w (A.map (·.add (j * 1))) [f m] := by
 have := fH (f := fun a => [f a]) (k := 1) (fun _ => rfl) (l := l) (by rw [← List.map_eq_flatMap]; exact hr) j hj
 exact this
theorem LV {A : Option Addr} {cs : List Value} (hr : Row w A cs) (h : 0 < cs.length) : ∃ b off, A = some ⟨b, off, none⟩ := by
 obtain ⟨b, off, e, _⟩ := hr 0 cs[0] (List.getElem?_eq_getElem h)
 exact ⟨b, off, e⟩
theorem gQ {A : Option Addr} {k : Nat} {cs : List Value} (hr : Row w (A.map (·.add k)) cs) (h : 0 < cs.length) : A ≠ none := by
 obtain ⟨b, off, e⟩ := LV hr h
 intro h0; subst h0; cases e
/-- the address of element j -/
theorem dS {t e : TypeId} {k : Nat} (ht : P.underlying t = some (.slice e)) (hi : (P.info? e).map (·.size) = some k) {ρ : Operand → Value} {o : Oper} {x ix : Operand} (ho : o.op = .indexAddr t x ix) {A : Option Addr} {n c : Nat} (j : Nat) {kk : IntKind} (hx : ρ x = .slice A n c) (hj : ρ ix = .int kk (j : Int)) (h : j < n) (hA : A ≠ none) :
  (execOp ρ o).run P w = .ok (.value (.pointer (A.map (·.add (j * k))))) w := by
 obtain ⟨inf, hi1, hi2⟩ := Option.map_eq_some_iff.1 hi
 obtain ⟨ad, rfl⟩ := Option.ne_none_iff_exists'.1 hA
 unfold execOp
 simp only [ho, hx, hj]
 simp [Instr.indexAt, asIntOf, run_underlying ht, sizeOf, typeInfo, hi1, hi2, h]
/-- a struct that lies in a row -/
theorem iC {ρ : Operand → Value} {o : Oper} {ty : TypeId} {x : Operand} (ho : o.op = .load ty x) {A : Option Addr} (hx : ρ x = .pointer A) {cs : List Value} (hr : Row w A cs) (h0 : 0 < cs.length) {d : TypeDesc} (hu : P.underlying ty = some d) (hd : (match d with | .struct _ | .array _ _ => true | _ => false) = true) (hi : (P.info? ty).map (·.size) = some cs.length) :
  (execOp ρ o).run P w = .ok (.value (.agg cs.toArray)) w := by
 obtain ⟨b, off, rfl⟩ := LV hr h0
 have hl : (loadCells ⟨b, off, none⟩ cs.length).run P w = .ok cs.toArray w :=
  run_loadCells_list (P := P) w ⟨b, off, none⟩ cs (fun j v hv => by
   obtain ⟨b', off', e, hc⟩ := hr j v hv
   injection e with e; injection e with e1 e2
   subst e1; subst e2
   rw [zl]; exact hc)
 cases hq : P.info? ty with
 | none => simp [hq] at hi
 | some i =>
  have hs : i.size = cs.length := by simpa [hq] using hi
  have hagg : (isAgg ty).run P w = .ok true w := by
   unfold isAgg
   rw [Sem.run_bind, run_underlying hu w]
   cases d <;> simp_all
  unfold execOp
  simp only [ho, hx, Instr.loadAt, Instr.sureAddr, Sem.run_bind, Sem.run_pure, Result.andThen_ok]
  simp [loadVar, Sem.run_bind, hagg, sizeOf, typeInfo, hq, hs, hl]
theorem mX {ρ : Operand → Value} {o : Oper} {ty : TypeId} {x : Operand} (ho : o.op = .load ty x) {A : Option Addr} (hx : ρ x = .pointer A) {v : Value} (hr : Row w A [v]) (hf : KO P ty = true) :
  (execOp ρ o).run P w = .ok (.value v) w := by
 obtain ⟨b, off, rfl, hc⟩ := hr 0 v rfl
 exact dP ho hx hf hc
end
end Go.Proofs.YtdgehpocmfjbiaaDoor
namespace Go.Proofs.YtdgehpocmfjbiaaDoor
open Go.RowKit

section
variable {P : Program} {N : Nat} {G : List Nat} {w0 w : World} {a : Act} {L : List (Nat × Obj)} {ops : Array Oper}
theorem Mm.old (h : Mm [] w0 w L) {b : Nat} {o : Obj} (e : w0.heap[b]? = some o) : w.heap[b]? = some o := (h.1.block b (kM e) (by simp)).trans e
/-- an old block is told from here on -/
theorem Mm.Ol (h : Mm G w0 w L) {b : Nat} {o : Obj} (e : w0.heap[b]? = some o) (hG : b ∉ G) : Mm (b :: G) w0 w ((b, o) :: L) := by
 have hlt := kM e
 refine ⟨h.1.mono (by simp; exact fun k hk => .inr hk), fun p hp => ?_, ?_⟩
 ·rcases List.mem_cons.1 hp with rfl | hp
  ·exact ⟨(h.1.block _ hlt hG).trans e, .inr (by simp)⟩
  ·exact ⟨(h.2.1 p hp).1, (h.2.1 p hp).2.imp id (fun h => by simp [h])⟩
 ·rw [List.map_cons, List.pairwise_cons]
  refine ⟨fun c hc => ?_, h.2.2⟩
  obtain ⟨p, hp, rfl⟩ := List.mem_map.1 hc
  rcases (h.2.1 p hp).2 with h1 | h1
  ·show b ≠ p.1; omega
  ·intro e; exact hG (by rw [show b = p.1 from e]; exact h1)
/-- .. and no more -/
theorem Mm.OX {b : Nat} {o : Obj} (h : Mm (b :: G) w0 w L) (i : Nat) (hL : L[i]? = some (b, o)) (e : w0.heap[b]? = some o) : Mm G w0 w (L.eraseIdx i) := by
 refine ⟨⟨h.1.os, h.1.tape, h.1.output, h.1.size, fun k hk hn => ?_⟩, fun p hp => ?_, ?_⟩
 ·by_cases hkb : k = b
  ·subst hkb; rw [h.get hL, e]
  ·exact h.1.block k hk (by simp [hkb, hn])
 ·have hm := List.mem_of_mem_eraseIdx hp
  refine ⟨(h.2.1 p hm).1, (h.2.1 p hm).2.imp id fun hg => ?_⟩
  rcases List.mem_cons.1 hg with hpb | hg
  ·exfalso
   obtain ⟨j, hj⟩ := List.getElem?_of_mem hp
   rw [List.getElem?_eraseIdx] at hj
   have hne : ∀ q, L[q]? = some p → q ≠ i → False := fun q hq hqi => (h.ne (b := p.1) (c := b) (o := p.2) (p := o) hq hL hqi) hpb
   split at hj
   ·exact hne j hj (by omega)
   ·exact hne (j + 1) hj (by omega)
  ·exact hg
 ·have := h.2.2
  exact this.sublist ((List.eraseIdx_sublist L i).map _)
end
end Go.Proofs.YtdgehpocmfjbiaaDoor
