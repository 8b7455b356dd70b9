/- elf.NewFile: one round of the loop over the program headers. · elf.NewFile: the loop over the program headers. · elf.NewFile: the table of sections is -/
import Derived.Test.YtdgehpocmfjbiaaDoorSc
import Derived.Test.YtdgehpocmfjbiaaDoorSb
import Derived.Deep.AppendSrc
set_option linter.unusedVariables false
set_option linter.unusedSimpArgs false
set_option maxRecDepth 100000
set_option maxHeartbeats 2000000
namespace Go.Proofs.YtdgehpocmfjbiaaDoor
open Go.RowKit

/-- the body of the loop that begins a piece of a spine -/
def pR : Code → Code
 | .seq (.seq _ (.block _ (.loop c))) _ => c
 | c => c
theorem fF {P : Program} {t e : TypeId} {info : TypeInfo} (ht : P.underlying t = some (.slice e)) (hi : P.info? e = some info) (hs : info.size = 1) {ρ : Operand → Value} {o : Oper} {x lo : Operand} (ho : o.op = .slice t x (some lo) none none)
  {b n c : Nat} (k : Nat) {kk : IntKind} (hx : ρ x = aC b n c) (hl : ρ lo = .int kk (k : Int)) (h1 : k ≤ n) (h2 : n ≤ c) (h3 : k < c) (w : World) :
  (execOp ρ o).run P w = .ok (.value (.slice (some ⟨b, k, none⟩) (n - k) (c - k))) w := by
 have := GX ht hi hs ho k hx hl h1 h2 h3 w
 rwa [Nat.zero_add] at this
structure nN where
 ty : Nat
 flags : Nat
 off : Nat
 bU : Nat
 bV : Nat
 bP : Nat
 bY : Nat
 align : Nat

abbrev qA := fun (b : Nat) (o : Nat) (n : Nat) (c : Nat) (s : Nat) (fb : Nat) (big : Bool) (ak : Nat) (aj : Nat) (au : Nat) (ah : Nat) (pd : Nat) => ([(0, .iface 178 (.slice (some ⟨b, o, none⟩) n c)), (4, aB s), (8, aB fb), (9, (aS big)), (10, ay ak), (11, aF 32), (12, ay aj), (13, ay au), (14, aF 40), (15, ay ah), (16, ay (ah - 1)), (26, aF 40), (36, aC pd (aj * 32) (aj * 32))] : Slots)
abbrev BN := fun (fb : Nat) (dat : Int) (abi : Nat) (aH : Nat) (big : Bool) (aU : Nat) (aJ : Nat) (aG : Nat) (pg : Nat) (i : Nat) (aj : Nat) => ((fb, .cells #[aQ 1, .int .u8 dat, aQ 1, aX abi, aX aH, (aS big), bF aU, bF aJ, aI aG, aN, aC pg (i + 1) aj, aN, aN, aN] 131 (0, 0)) : Nat × Obj)
abbrev rE := fun sb (b : Nat) (o : Nat) (n : Nat) (c : Nat) (v : nN) => ((sb, .cells #[.iface 178 (.slice (some ⟨b, o, none⟩) n c), ay v.off, ay v.off, aF (((v.bP : Nat) : Int) + ((v.off : Nat) : Int)), ay v.bP] 246 (0, 0)) : Nat × Obj)
abbrev iJ := fun (fb : Nat) (dat : Int) (abi : Nat) (aH : Nat) (big : Bool) (aU : Nat) (aJ : Nat) (aG : Nat) (pg : Nat) (i : Nat) (aj : Nat) => ((fb, .cells #[aQ 1, .int .u8 dat, aQ 1, aX abi, aX aH, (aS big), bF aU, bF aJ, aI aG, aN, aC pg i aj, aN, aN, aN] 131 (0, 0)) : Nat × Obj)
abbrev oZ := fun z5 => ((z5, .cells #[aF 0, iR 0, bH 0, bH 0, bH 0, bH 0, bH 0, bH 0, .nilIface, .pointer none] 146 (0, 0)) : Nat × Obj)
abbrev fQ := fun (b : Nat) (o : Nat) (n : Nat) (c : Nat) (s : Nat) (fb : Nat) (big : Bool) (ak : Nat) (aj : Nat) (au : Nat) (ah : Nat) (pd : Nat) (i : Nat) z5 => ((qA b o n c s fb big ak aj au ah pd) ++ [(38, ay i), (39, aI (i * 32)), (40, aB z5)] : Slots)
abbrev Py := fun (pd : Nat) (i : Nat) (aj : Nat) => ((614, .slice (some ⟨pd, ((i * 32) + 0), none⟩) ((aj * 32) - ((i * 32) + 0)) ((aj * 32) - ((i * 32) + 0))) : Nat × Value)
abbrev BM := fun (b : Nat) (o : Nat) (n : Nat) (c : Nat) (s : Nat) (fb : Nat) (big : Bool) (ak : Nat) (aj : Nat) (au : Nat) (ah : Nat) (pd : Nat) (i : Nat) z5 => ((fQ b o n c s fb big ak aj au ah pd i z5) ++ [(609, aB z5), (610, (aS big)), (614, .slice (some ⟨pd, ((i * 32) + 0), none⟩) ((aj * 32) - ((i * 32) + 0)) ((aj * 32) - ((i * 32) + 0)))] : Slots)
abbrev Px := fun (pd : Nat) (i : Nat) (aj : Nat) => ((621, .slice (some ⟨pd, ((i * 32) + 24), none⟩) ((aj * 32) - ((i * 32) + 24)) ((aj * 32) - ((i * 32) + 24))) : Nat × Value)
abbrev BL := fun (b : Nat) (o : Nat) (n : Nat) (c : Nat) (s : Nat) (fb : Nat) (big : Bool) (ak : Nat) (aj : Nat) (au : Nat) (ah : Nat) (pd : Nat) (i : Nat) z5 => ((BM b o n c s fb big ak aj au ah pd i z5) ++ [(617, (aS big)), (621, .slice (some ⟨pd, ((i * 32) + 24), none⟩) ((aj * 32) - ((i * 32) + 24)) ((aj * 32) - ((i * 32) + 24)))] : Slots)
abbrev D5 := fun (pd : Nat) (i : Nat) (aj : Nat) => ((627, .slice (some ⟨pd, ((i * 32) + 4), none⟩) ((aj * 32) - ((i * 32) + 4)) ((aj * 32) - ((i * 32) + 4))) : Nat × Value)
abbrev zY := fun (b : Nat) (o : Nat) (n : Nat) (c : Nat) (s : Nat) (fb : Nat) (big : Bool) (ak : Nat) (aj : Nat) (au : Nat) (ah : Nat) (pd : Nat) (i : Nat) z5 => ((BL b o n c s fb big ak aj au ah pd i z5) ++ [(623, (aS big)), (627, .slice (some ⟨pd, ((i * 32) + 4), none⟩) ((aj * 32) - ((i * 32) + 4)) ((aj * 32) - ((i * 32) + 4)))] : Slots)
abbrev DZ := fun (pd : Nat) (i : Nat) (aj : Nat) => ((634, .slice (some ⟨pd, ((i * 32) + 8), none⟩) ((aj * 32) - ((i * 32) + 8)) ((aj * 32) - ((i * 32) + 8))) : Nat × Value)
abbrev zX := fun (b : Nat) (o : Nat) (n : Nat) (c : Nat) (s : Nat) (fb : Nat) (big : Bool) (ak : Nat) (aj : Nat) (au : Nat) (ah : Nat) (pd : Nat) (i : Nat) z5 => ((zY b o n c s fb big ak aj au ah pd i z5) ++ [(630, (aS big)), (634, .slice (some ⟨pd, ((i * 32) + 8), none⟩) ((aj * 32) - ((i * 32) + 8)) ((aj * 32) - ((i * 32) + 8)))] : Slots)
abbrev DY := fun (pd : Nat) (i : Nat) (aj : Nat) => ((641, .slice (some ⟨pd, ((i * 32) + 12), none⟩) ((aj * 32) - ((i * 32) + 12)) ((aj * 32) - ((i * 32) + 12))) : Nat × Value)
abbrev zW := fun (b : Nat) (o : Nat) (n : Nat) (c : Nat) (s : Nat) (fb : Nat) (big : Bool) (ak : Nat) (aj : Nat) (au : Nat) (ah : Nat) (pd : Nat) (i : Nat) z5 => ((zX b o n c s fb big ak aj au ah pd i z5) ++ [(637, (aS big)), (641, .slice (some ⟨pd, ((i * 32) + 12), none⟩) ((aj * 32) - ((i * 32) + 12)) ((aj * 32) - ((i * 32) + 12)))] : Slots)
abbrev DX := fun (pd : Nat) (i : Nat) (aj : Nat) => ((648, .slice (some ⟨pd, ((i * 32) + 16), none⟩) ((aj * 32) - ((i * 32) + 16)) ((aj * 32) - ((i * 32) + 16))) : Nat × Value)
abbrev zV := fun (b : Nat) (o : Nat) (n : Nat) (c : Nat) (s : Nat) (fb : Nat) (big : Bool) (ak : Nat) (aj : Nat) (au : Nat) (ah : Nat) (pd : Nat) (i : Nat) z5 => ((zW b o n c s fb big ak aj au ah pd i z5) ++ [(644, (aS big)), (648, .slice (some ⟨pd, ((i * 32) + 16), none⟩) ((aj * 32) - ((i * 32) + 16)) ((aj * 32) - ((i * 32) + 16)))] : Slots)
abbrev DW := fun (pd : Nat) (i : Nat) (aj : Nat) => ((655, .slice (some ⟨pd, ((i * 32) + 20), none⟩) ((aj * 32) - ((i * 32) + 20)) ((aj * 32) - ((i * 32) + 20))) : Nat × Value)
abbrev xO := fun (b : Nat) (o : Nat) (n : Nat) (c : Nat) (s : Nat) (fb : Nat) (big : Bool) (ak : Nat) (aj : Nat) (au : Nat) (ah : Nat) (pd : Nat) (i : Nat) z5 => ((zV b o n c s fb big ak aj au ah pd i z5) ++ [(651, (aS big)), (655, .slice (some ⟨pd, ((i * 32) + 20), none⟩) ((aj * 32) - ((i * 32) + 20)) ((aj * 32) - ((i * 32) + 20)))] : Slots)
abbrev xP := fun (pd : Nat) (i : Nat) (aj : Nat) => ((662, .slice (some ⟨pd, ((i * 32) + 28), none⟩) ((aj * 32) - ((i * 32) + 28)) ((aj * 32) - ((i * 32) + 28))) : Nat × Value)
abbrev DV := fun (b : Nat) (o : Nat) (n : Nat) (c : Nat) (s : Nat) (fb : Nat) (big : Bool) (ak : Nat) (aj : Nat) (au : Nat) (ah : Nat) (pd : Nat) (i : Nat) z5 => ((fQ b o n c s fb big ak aj au ah pd i z5) ++ [(609, aB z5), (617, (aS big)), (621, .slice (some ⟨pd, ((i * 32) + 24), none⟩) ((aj * 32) - ((i * 32) + 24)) ((aj * 32) - ((i * 32) + 24))), (623, (aS big)), (627, .slice (some ⟨pd, ((i * 32) + 4), none⟩) ((aj * 32) - ((i * 32) + 4)) ((aj * 32) - ((i * 32) + 4))), (630, (aS big)), (634, .slice (some ⟨pd, ((i * 32) + 8), none⟩) ((aj * 32) - ((i * 32) + 8)) ((aj * 32) - ((i * 32) + 8))), (637, (aS big)), (641, .slice (some ⟨pd, ((i * 32) + 12), none⟩) ((aj * 32) - ((i * 32) + 12)) ((aj * 32) - ((i * 32) + 12))), (644, (aS big)), (648, .slice (some ⟨pd, ((i * 32) + 16), none⟩) ((aj * 32) - ((i * 32) + 16)) ((aj * 32) - ((i * 32) + 16))), (651, (aS big)), (655, .slice (some ⟨pd, ((i * 32) + 20), none⟩) ((aj * 32) - ((i * 32) + 20)) ((aj * 32) - ((i * 32) + 20))), (658, (aS big)), (662, .slice (some ⟨pd, ((i * 32) + 28), none⟩) ((aj * 32) - ((i * 32) + 28)) ((aj * 32) - ((i * 32) + 28)))] : Slots)
abbrev DU := fun (b : Nat) (o : Nat) (n : Nat) (c : Nat) (s : Nat) (fb : Nat) (big : Bool) (ak : Nat) (aj : Nat) (au : Nat) (ah : Nat) (pd : Nat) (i : Nat) z5 (v : nN) => ((fQ b o n c s fb big ak aj au ah pd i z5) ++ [(609, aB z5), (630, (aS big)), (634, .slice (some ⟨pd, ((i * 32) + 8), none⟩) ((aj * 32) - ((i * 32) + 8)) ((aj * 32) - ((i * 32) + 8))), (637, (aS big)), (641, .slice (some ⟨pd, ((i * 32) + 12), none⟩) ((aj * 32) - ((i * 32) + 12)) ((aj * 32) - ((i * 32) + 12))), (644, (aS big)), (648, .slice (some ⟨pd, ((i * 32) + 16), none⟩) ((aj * 32) - ((i * 32) + 16)) ((aj * 32) - ((i * 32) + 16))), (651, (aS big)), (655, .slice (some ⟨pd, ((i * 32) + 20), none⟩) ((aj * 32) - ((i * 32) + 20)) ((aj * 32) - ((i * 32) + 20))), (658, (aS big)), (662, .slice (some ⟨pd, ((i * 32) + 28), none⟩) ((aj * 32) - ((i * 32) + 28)) ((aj * 32) - ((i * 32) + 28))), (616, ay v.ty), (622, bn v.flags)] : Slots)
abbrev DT := fun (b : Nat) (o : Nat) (n : Nat) (c : Nat) (s : Nat) (fb : Nat) (big : Bool) (ak : Nat) (aj : Nat) (au : Nat) (ah : Nat) (pd : Nat) (i : Nat) z5 (v : nN) => ((fQ b o n c s fb big ak aj au ah pd i z5) ++ [(609, aB z5), (637, (aS big)), (641, .slice (some ⟨pd, ((i * 32) + 12), none⟩) ((aj * 32) - ((i * 32) + 12)) ((aj * 32) - ((i * 32) + 12))), (644, (aS big)), (648, .slice (some ⟨pd, ((i * 32) + 16), none⟩) ((aj * 32) - ((i * 32) + 16)) ((aj * 32) - ((i * 32) + 16))), (651, (aS big)), (655, .slice (some ⟨pd, ((i * 32) + 20), none⟩) ((aj * 32) - ((i * 32) + 20)) ((aj * 32) - ((i * 32) + 20))), (658, (aS big)), (662, .slice (some ⟨pd, ((i * 32) + 28), none⟩) ((aj * 32) - ((i * 32) + 28)) ((aj * 32) - ((i * 32) + 28))), (616, ay v.ty), (622, bn v.flags), (629, aI v.off)] : Slots)
abbrev DR := fun (b : Nat) (o : Nat) (n : Nat) (c : Nat) (s : Nat) (fb : Nat) (big : Bool) (ak : Nat) (aj : Nat) (au : Nat) (ah : Nat) (pd : Nat) (i : Nat) z5 (v : nN) => ((fQ b o n c s fb big ak aj au ah pd i z5) ++ [(609, aB z5), (644, (aS big)), (648, .slice (some ⟨pd, ((i * 32) + 16), none⟩) ((aj * 32) - ((i * 32) + 16)) ((aj * 32) - ((i * 32) + 16))), (651, (aS big)), (655, .slice (some ⟨pd, ((i * 32) + 20), none⟩) ((aj * 32) - ((i * 32) + 20)) ((aj * 32) - ((i * 32) + 20))), (658, (aS big)), (662, .slice (some ⟨pd, ((i * 32) + 28), none⟩) ((aj * 32) - ((i * 32) + 28)) ((aj * 32) - ((i * 32) + 28))), (616, ay v.ty), (622, bn v.flags), (629, aI v.off), (636, aI v.bU)] : Slots)
abbrev DN := fun (b : Nat) (o : Nat) (n : Nat) (c : Nat) (s : Nat) (fb : Nat) (big : Bool) (ak : Nat) (aj : Nat) (au : Nat) (ah : Nat) (pd : Nat) (i : Nat) z5 (v : nN) => ((fQ b o n c s fb big ak aj au ah pd i z5) ++ [(609, aB z5), (651, (aS big)), (655, .slice (some ⟨pd, ((i * 32) + 20), none⟩) ((aj * 32) - ((i * 32) + 20)) ((aj * 32) - ((i * 32) + 20))), (658, (aS big)), (662, .slice (some ⟨pd, ((i * 32) + 28), none⟩) ((aj * 32) - ((i * 32) + 28)) ((aj * 32) - ((i * 32) + 28))), (616, ay v.ty), (622, bn v.flags), (629, aI v.off), (636, aI v.bU), (643, aI v.bV)] : Slots)
abbrev DL := fun (b : Nat) (o : Nat) (n : Nat) (c : Nat) (s : Nat) (fb : Nat) (big : Bool) (ak : Nat) (aj : Nat) (au : Nat) (ah : Nat) (pd : Nat) (i : Nat) z5 (v : nN) => ((fQ b o n c s fb big ak aj au ah pd i z5) ++ [(609, aB z5), (658, (aS big)), (662, .slice (some ⟨pd, ((i * 32) + 28), none⟩) ((aj * 32) - ((i * 32) + 28)) ((aj * 32) - ((i * 32) + 28))), (616, ay v.ty), (622, bn v.flags), (629, aI v.off), (636, aI v.bU), (643, aI v.bV), (650, aI v.bP)] : Slots)
abbrev vO := fun z5 (v : nN) => ((z5, .cells #[ay v.ty, bn v.flags, aI v.off, aI v.bU, aI v.bV, aI v.bP, aI v.bY, aI v.align, .nilIface, .pointer none] 146 (0, 0)) : Nat × Obj)
abbrev t_ := fun (b : Nat) (o : Nat) (n : Nat) (c : Nat) (s : Nat) (fb : Nat) (big : Bool) (ak : Nat) (aj : Nat) (au : Nat) (ah : Nat) (pd : Nat) (i : Nat) z5 => ((fQ b o n c s fb big ak aj au ah pd i z5) ++ [(763, aB z5), (764, .iface 178 (.slice (some ⟨b, o, none⟩) n c))] : Slots)
abbrev vN := fun z5 (v : nN) sb => ((z5, .cells #[ay v.ty, bn v.flags, aI v.off, aI v.bU, aI v.bV, aI v.bP, aI v.bY, aI v.align, .iface 144 (aB sb), aB sb] 146 (0, 0)) : Nat × Obj)
theorem SI (l : List UInt8) (b o n c : Nat) (hl : n = l.length) (hnc : n ≤ c) (big : Bool) (abi aH aU aJ aG ak aj au ah : Nat) (dat : Int) (b1 : aU < 65536) (b2 : aJ < 65536) (b3 : aG ≤ 18446744073709551615) (b4 : ak < 4611686018427387904) (b5 : au < 4611686018427387904) (b6 : aj < 200) (b7 : ah < 200) (X : List UInt8) (pV : X.length = (aj * 32)) (i : Nat) (hi : i < aj) (v : nN) (hv : yA (X.drop (i * 32)) false big v.ty v.flags v.bU v.bV v.bY v.align v.bP v.off)
  (v1 : v.ty < 4294967296) (v2 : v.off + v.bP < 4611686018427387904) (v3 : v.bU ≤ 18446744073709551615) (v4 : v.bV ≤ 18446744073709551615) (v5 : v.bY ≤ 18446744073709551615) (v6 : v.align ≤ 18446744073709551615) {K0 : Act → World → Prop} {Q : Exit → Act → World → Prop} (a : Act) (W1 : World) (s fb pg pd : Nat) (cur : Array Value) (hcs : cur.size = aj)
  (h1 : W1.heap[fb]? = some (.cells #[aQ 1, .int .u8 dat, aQ 1, aX abi, aX aH, (aS big), bF aU, bF aJ, aI aG, aN, aC pg i aj, aN, aN, aN] 131 (0, 0))) (h2 : W1.heap[pg]? = some (.cells cur 136 (0, 0))) (h3 : W1.heap[pd]? = some (.cells (X.map Bv).toArray 5 (0, 0))) (n1 : fb ≠ pg) (n2 : fb ≠ pd) (n3 : pg ≠ pd) (HF : Fr 1287 a ((qA b o n c s fb big ak aj au ah pd) ++ [(38, ay i)]))
  (K : ∀ a w' pb sb cur', cur'.size = aj → cur'.toList.take (i + 1) = cur.toList.take i ++ [aB pb] → Fr 1287 a ((qA b o n c s fb big ak aj au ah pd) ++ [(38, ay (i + 1))]) → Mm [fb, pg, pd] W1 w' [rE sb b o n c v, (pb, .cells #[ay v.ty, bn v.flags, aI v.off, aI v.bU, aI v.bV, aI v.bP, aI v.bY, aI v.align, .iface 144 (aB sb), aB sb] 146 (0, 0)), BN fb dat abi aH big aU aJ aG pg i aj, (pg, .cells cur' 136 (0, 0)), (pd, .cells (X.map Bv).toArray 5 (0, 0))] → K0 a w') : (pR (spine Tryd.f78 35)).wp Tryd.prog (Exit.then K0 Q) a W1 := by
 obtain ⟨i0, hi0, hs0⟩ := yD
 have e0 : num big X ((i * 32) + 0) 4 = v.ty := (gI big X (i * 32) 0 4).symm.trans hv.ty
 have e1 : num big X ((i * 32) + 24) 4 = v.flags := (gI big X (i * 32) 24 4).symm.trans hv.flags
 have e2 : num big X ((i * 32) + 4) 4 = v.off := (gI big X (i * 32) 4 4).symm.trans hv.off
 have e3 : num big X ((i * 32) + 8) 4 = v.bU := (gI big X (i * 32) 8 4).symm.trans hv.bU
 have e4 : num big X ((i * 32) + 12) 4 = v.bV := (gI big X (i * 32) 12 4).symm.trans hv.bV
 have e5 : num big X ((i * 32) + 16) 4 = v.bP := (gI big X (i * 32) 16 4).symm.trans hv.PX
 have e6 : num big X ((i * 32) + 20) 4 = v.bY := (gI big X (i * 32) 20 4).symm.trans hv.bY
 have e7 : num big X ((i * 32) + 28) 4 = v.align := (gI big X (i * 32) 28 4).symm.trans hv.align
 obtain ⟨w, hw⟩ : ∃ w, W1 = w := ⟨_, rfl⟩
 have HM : Mm [fb, pg, pd] W1 w [iJ fb dat abi aH big aU aJ aG pg i aj, (pg, .cells cur 136 (0, 0)), (pd, .cells (X.map Bv).toArray 5 (0, 0))] := hw ▸ Mm.start3 h1 h2 h3 n1 n2 n3
 conv => arg 5; rw [hw]
 clear hw
 refine wp_seq ?_
 refine wp_seq (wp_region_lit ?_)
 refine aT HF HM rfl 3 [] ((qA b o n c s fb big ak aj au ah pd) ++ [(38, ay i), (593, .bool (decide (((i : Nat) : Int) < ((aj : Nat) : Int))))]) [iJ fb dat abi aH big aU aJ aG pg i aj, (pg, .cells cur 136 (0, 0)), (pd, .cells (X.map Bv).toArray 5 (0, 0))] (by kernel_rfl) ?_
 clear HF HM; intro a w HF HM
 rw [show decide (((i : Nat) : Int) < ((aj : Nat) : Int)) = true from dK (by omega)] at HF
 refine aA ?_
 refine bD HF rfl ?_
 refine wp_skip ?_
 repeat (first | refine aK ?_ | refine aP ?_)
 replace HF := HF.sub ((qA b o n c s fb big ak aj au ah pd) ++ [(38, ay i)]) (by kernel_rfl)
 refine wp_seq (wp_block ?_)
 refine wp_seq (wp_region_lit ?_)
 refine aT HF HM rfl 2 [] ((qA b o n c s fb big ak aj au ah pd) ++ [(38, ay i), (597, bH (IntKind.u64.wrap ((i : Nat) : Int)))]) [iJ fb dat abi aH big aU aJ aG pg i aj, (pg, .cells cur 136 (0, 0)), (pd, .cells (X.map Bv).toArray 5 (0, 0))] (by kernel_rfl) ?_
 clear HF HM; intro a w HF HM
 rw [show IntKind.u64.wrap ((i : Nat) : Int) = ((i : Nat) : Int) from IntWalk.u64_in _ (by omega)] at HF
 refine aT HF HM rfl 3 [] ((qA b o n c s fb big ak aj au ah pd) ++ [(38, ay i), (600, bH (IntKind.u64.wrap (((i : Nat) : Int) * 32)))]) [iJ fb dat abi aH big aU aJ aG pg i aj, (pg, .cells cur 136 (0, 0)), (pd, .cells (X.map Bv).toArray 5 (0, 0))] (by kernel_rfl) ?_
 clear HF HM; intro a w HF HM
 rw [show IntKind.u64.wrap (((i : Nat) : Int) * 32) = (((i * 32) : Nat) : Int) from (IntWalk.u64_in _ (by omega)).trans (by omega)] at HF
 refine aT HF HM rfl 1 [] ((qA b o n c s fb big ak aj au ah pd) ++ [(38, ay i), (39, aI (i * 32))]) [iJ fb dat abi aH big aU aJ aG pg i aj, (pg, .cells cur 136 (0, 0)), (pd, .cells (X.map Bv).toArray 5 (0, 0))] (by kernel_rfl) ?_
 clear HF HM; intro a w HF HM
 refine aA ?_
 obtain ⟨z5, uG⟩ : ∃ z, w.heap.size = z := ⟨_, rfl⟩
 refine bG HF HM uG [] (fQ b o n c s fb big ak aj au ah pd i z5) [oZ z5, iJ fb dat abi aH big aU aJ aG pg i aj, (pg, .cells cur 136 (0, 0)), (pd, .cells (X.map Bv).toArray 5 (0, 0))] (by kernel_rfl) ?_
 clear HF HM uG; intro a w HF HM
 refine wp_seq ?_
 refine bG HF HM rfl [[2]] ((fQ b o n c s fb big ak aj au ah pd i z5) ++ [(606, aQ 1)]) [oZ z5, iJ fb dat abi aH big aU aJ aG pg i aj, (pg, .cells cur 136 (0, 0)), (pd, .cells (X.map Bv).toArray 5 (0, 0))] (by kernel_rfl) ?_
 clear HF HM; intro a w HF HM
 refine wp_block ?_
 refine bG HF HM rfl [] ((fQ b o n c s fb big ak aj au ah pd i z5) ++ [(606, aQ 1), (607, .bool true)]) [oZ z5, iJ fb dat abi aH big aU aJ aG pg i aj, (pg, .cells cur 136 (0, 0)), (pd, .cells (X.map Bv).toArray 5 (0, 0))] (by kernel_rfl) ?_
 clear HF HM; intro a w HF HM
 refine bD HF rfl ?_
 replace HF := HF.sub (fQ b o n c s fb big ak aj au ah pd i z5) (by kernel_rfl)
 refine wQ HM (by kernel_rfl) [(pd, .cells (X.map Bv).toArray 5 (0, 0))] [(0, false), (1, false), (2, false), (3, false), (4, false), (5, false), (8, false), (9, false), (10, false), (11, false), (12, false), (14, false), (15, false), (16, false), (17, false), (18, false), (21, false), (22, false), (23, false), (24, false), (25, false), (28, false), (29, false), (30, false), (31, false), (32, false), (35, false), (36, false), (37, false), (38, false), (39, false), (42, false), (43, false), (44, false), (45, false), (46, false), (49, false), (50, false), (51, false), (52, false), (53, false), (6, true), (7, false), (13, true), (19, true), (20, false), (26, true), (27, false), (33, true), (34, false), (40, true), (41, false), (47, true), (48, false), (54, true), (55, false), (56, false), (57, false), (58, false), (59, true)] (by kernel_rfl) ?_
 clear HM; intro w1 HM
 refine bI HF (HM.told [3] rfl) 1 [] ((fQ b o n c s fb big ak aj au ah pd i z5) ++ [(609, aB z5)]) (by kernel_rfl) ?_
 clear HF; intro a HF
 refine bI HF (HM.told [3] rfl) 4 [] ((fQ b o n c s fb big ak aj au ah pd i z5) ++ [(609, aB z5), (610, (aS big)), (611, aC pd (aj * 32) (aj * 32)), (613, bH (IntKind.u64.wrap ((((i * 32) : Nat) : Int) + 0)))]) (by kernel_rfl) ?_
 clear HF; intro a HF
 rw [show IntKind.u64.wrap ((((i * 32) : Nat) : Int) + 0) = ((((i * 32) + 0) : Nat) : Int) from (IntWalk.u64_in _ (by omega)).trans (by omega)] at HF
 refine dL rfl HF (HM.told [3] rfl) rfl (.slice (some ⟨pd, ((i * 32) + 0), none⟩) ((aj * 32) - ((i * 32) + 0)) ((aj * 32) - ((i * 32) + 0))) (by kernel_rfl) (fun w hw => fF (t := 33) Tryd.underlying33 hi0 hs0 rfl ((i * 32) + 0) (kk := .u64) rfl rfl (by omega) (by omega) (by omega) w) ?_
 clear HF; intro a HF; replace HF := HF.sub ((fQ b o n c s fb big ak aj au ah pd i z5) ++ [(609, aB z5), (610, (aS big)), (611, aC pd (aj * 32) (aj * 32)), (613, aI ((i * 32) + 0)), Py pd i aj]) (by kernel_rfl)
 replace HF := HF.sub (BM b o n c s fb big ak aj au ah pd i z5) (by kernel_rfl)
 refine bI HF (HM.told [3] rfl) 4 [] ((BM b o n c s fb big ak aj au ah pd i z5) ++ [(617, (aS big)), (618, aC pd (aj * 32) (aj * 32)), (620, bH (IntKind.u64.wrap ((((i * 32) : Nat) : Int) + 24)))]) (by kernel_rfl) ?_
 clear HF; intro a HF
 rw [show IntKind.u64.wrap ((((i * 32) : Nat) : Int) + 24) = ((((i * 32) + 24) : Nat) : Int) from (IntWalk.u64_in _ (by omega)).trans (by omega)] at HF
 refine dL rfl HF (HM.told [3] rfl) rfl (.slice (some ⟨pd, ((i * 32) + 24), none⟩) ((aj * 32) - ((i * 32) + 24)) ((aj * 32) - ((i * 32) + 24))) (by kernel_rfl) (fun w hw => fF (t := 33) Tryd.underlying33 hi0 hs0 rfl ((i * 32) + 24) (kk := .u64) rfl rfl (by omega) (by omega) (by omega) w) ?_
 clear HF; intro a HF; replace HF := HF.sub ((BM b o n c s fb big ak aj au ah pd i z5) ++ [(617, (aS big)), (618, aC pd (aj * 32) (aj * 32)), (620, aI ((i * 32) + 24)), Px pd i aj]) (by kernel_rfl)
 replace HF := HF.sub (BL b o n c s fb big ak aj au ah pd i z5) (by kernel_rfl)
 refine bI HF (HM.told [3] rfl) 4 [] ((BL b o n c s fb big ak aj au ah pd i z5) ++ [(623, (aS big)), (624, aC pd (aj * 32) (aj * 32)), (626, bH (IntKind.u64.wrap ((((i * 32) : Nat) : Int) + 4)))]) (by kernel_rfl) ?_
 clear HF; intro a HF
 rw [show IntKind.u64.wrap ((((i * 32) : Nat) : Int) + 4) = ((((i * 32) + 4) : Nat) : Int) from (IntWalk.u64_in _ (by omega)).trans (by omega)] at HF
 refine dL rfl HF (HM.told [3] rfl) rfl (.slice (some ⟨pd, ((i * 32) + 4), none⟩) ((aj * 32) - ((i * 32) + 4)) ((aj * 32) - ((i * 32) + 4))) (by kernel_rfl) (fun w hw => fF (t := 33) Tryd.underlying33 hi0 hs0 rfl ((i * 32) + 4) (kk := .u64) rfl rfl (by omega) (by omega) (by omega) w) ?_
 clear HF; intro a HF; replace HF := HF.sub ((BL b o n c s fb big ak aj au ah pd i z5) ++ [(623, (aS big)), (624, aC pd (aj * 32) (aj * 32)), (626, aI ((i * 32) + 4)), D5 pd i aj]) (by kernel_rfl)
 replace HF := HF.sub (zY b o n c s fb big ak aj au ah pd i z5) (by kernel_rfl)
 refine bI HF (HM.told [3] rfl) 4 [] ((zY b o n c s fb big ak aj au ah pd i z5) ++ [(630, (aS big)), (631, aC pd (aj * 32) (aj * 32)), (633, bH (IntKind.u64.wrap ((((i * 32) : Nat) : Int) + 8)))]) (by kernel_rfl) ?_
 clear HF; intro a HF
 rw [show IntKind.u64.wrap ((((i * 32) : Nat) : Int) + 8) = ((((i * 32) + 8) : Nat) : Int) from (IntWalk.u64_in _ (by omega)).trans (by omega)] at HF
 refine dL rfl HF (HM.told [3] rfl) rfl (.slice (some ⟨pd, ((i * 32) + 8), none⟩) ((aj * 32) - ((i * 32) + 8)) ((aj * 32) - ((i * 32) + 8))) (by kernel_rfl) (fun w hw => fF (t := 33) Tryd.underlying33 hi0 hs0 rfl ((i * 32) + 8) (kk := .u64) rfl rfl (by omega) (by omega) (by omega) w) ?_
 clear HF; intro a HF; replace HF := HF.sub ((zY b o n c s fb big ak aj au ah pd i z5) ++ [(630, (aS big)), (631, aC pd (aj * 32) (aj * 32)), (633, aI ((i * 32) + 8)), DZ pd i aj]) (by kernel_rfl)
 replace HF := HF.sub (zX b o n c s fb big ak aj au ah pd i z5) (by kernel_rfl)
 refine bI HF (HM.told [3] rfl) 4 [] ((zX b o n c s fb big ak aj au ah pd i z5) ++ [(637, (aS big)), (638, aC pd (aj * 32) (aj * 32)), (640, bH (IntKind.u64.wrap ((((i * 32) : Nat) : Int) + 12)))]) (by kernel_rfl) ?_
 clear HF; intro a HF
 rw [show IntKind.u64.wrap ((((i * 32) : Nat) : Int) + 12) = ((((i * 32) + 12) : Nat) : Int) from (IntWalk.u64_in _ (by omega)).trans (by omega)] at HF
 refine dL rfl HF (HM.told [3] rfl) rfl (.slice (some ⟨pd, ((i * 32) + 12), none⟩) ((aj * 32) - ((i * 32) + 12)) ((aj * 32) - ((i * 32) + 12))) (by kernel_rfl) (fun w hw => fF (t := 33) Tryd.underlying33 hi0 hs0 rfl ((i * 32) + 12) (kk := .u64) rfl rfl (by omega) (by omega) (by omega) w) ?_
 clear HF; intro a HF; replace HF := HF.sub ((zX b o n c s fb big ak aj au ah pd i z5) ++ [(637, (aS big)), (638, aC pd (aj * 32) (aj * 32)), (640, aI ((i * 32) + 12)), DY pd i aj]) (by kernel_rfl)
 replace HF := HF.sub (zW b o n c s fb big ak aj au ah pd i z5) (by kernel_rfl)
 refine bI HF (HM.told [3] rfl) 4 [] ((zW b o n c s fb big ak aj au ah pd i z5) ++ [(644, (aS big)), (645, aC pd (aj * 32) (aj * 32)), (647, bH (IntKind.u64.wrap ((((i * 32) : Nat) : Int) + 16)))]) (by kernel_rfl) ?_
 clear HF; intro a HF
 rw [show IntKind.u64.wrap ((((i * 32) : Nat) : Int) + 16) = ((((i * 32) + 16) : Nat) : Int) from (IntWalk.u64_in _ (by omega)).trans (by omega)] at HF
 refine dL rfl HF (HM.told [3] rfl) rfl (.slice (some ⟨pd, ((i * 32) + 16), none⟩) ((aj * 32) - ((i * 32) + 16)) ((aj * 32) - ((i * 32) + 16))) (by kernel_rfl) (fun w hw => fF (t := 33) Tryd.underlying33 hi0 hs0 rfl ((i * 32) + 16) (kk := .u64) rfl rfl (by omega) (by omega) (by omega) w) ?_
 clear HF; intro a HF; replace HF := HF.sub ((zW b o n c s fb big ak aj au ah pd i z5) ++ [(644, (aS big)), (645, aC pd (aj * 32) (aj * 32)), (647, aI ((i * 32) + 16)), DX pd i aj]) (by kernel_rfl)
 replace HF := HF.sub (zV b o n c s fb big ak aj au ah pd i z5) (by kernel_rfl)
 refine bI HF (HM.told [3] rfl) 4 [] ((zV b o n c s fb big ak aj au ah pd i z5) ++ [(651, (aS big)), (652, aC pd (aj * 32) (aj * 32)), (654, bH (IntKind.u64.wrap ((((i * 32) : Nat) : Int) + 20)))]) (by kernel_rfl) ?_
 clear HF; intro a HF
 rw [show IntKind.u64.wrap ((((i * 32) : Nat) : Int) + 20) = ((((i * 32) + 20) : Nat) : Int) from (IntWalk.u64_in _ (by omega)).trans (by omega)] at HF
 refine dL rfl HF (HM.told [3] rfl) rfl (.slice (some ⟨pd, ((i * 32) + 20), none⟩) ((aj * 32) - ((i * 32) + 20)) ((aj * 32) - ((i * 32) + 20))) (by kernel_rfl) (fun w hw => fF (t := 33) Tryd.underlying33 hi0 hs0 rfl ((i * 32) + 20) (kk := .u64) rfl rfl (by omega) (by omega) (by omega) w) ?_
 clear HF; intro a HF; replace HF := HF.sub ((zV b o n c s fb big ak aj au ah pd i z5) ++ [(651, (aS big)), (652, aC pd (aj * 32) (aj * 32)), (654, aI ((i * 32) + 20)), DW pd i aj]) (by kernel_rfl)
 replace HF := HF.sub (xO b o n c s fb big ak aj au ah pd i z5) (by kernel_rfl)
 refine bI HF (HM.told [3] rfl) 4 [] ((xO b o n c s fb big ak aj au ah pd i z5) ++ [(658, (aS big)), (659, aC pd (aj * 32) (aj * 32)), (661, bH (IntKind.u64.wrap ((((i * 32) : Nat) : Int) + 28)))]) (by kernel_rfl) ?_
 clear HF; intro a HF
 rw [show IntKind.u64.wrap ((((i * 32) : Nat) : Int) + 28) = ((((i * 32) + 28) : Nat) : Int) from (IntWalk.u64_in _ (by omega)).trans (by omega)] at HF
 refine dL rfl HF (HM.told [3] rfl) rfl (.slice (some ⟨pd, ((i * 32) + 28), none⟩) ((aj * 32) - ((i * 32) + 28)) ((aj * 32) - ((i * 32) + 28))) (by kernel_rfl) (fun w hw => fF (t := 33) Tryd.underlying33 hi0 hs0 rfl ((i * 32) + 28) (kk := .u64) rfl rfl (by omega) (by omega) (by omega) w) ?_
 clear HF; intro a HF; replace HF := HF.sub ((xO b o n c s fb big ak aj au ah pd i z5) ++ [(658, (aS big)), (659, aC pd (aj * 32) (aj * 32)), (661, aI ((i * 32) + 28)), xP pd i aj]) (by kernel_rfl)
 replace HF := HF.sub ((xO b o n c s fb big ak aj au ah pd i z5) ++ [(658, (aS big)), xP pd i aj]) (by kernel_rfl)
 refine bW rfl ?_
 refine bf HF (by kernel_rfl) 87 #[(aS big), .slice (some ⟨pd, ((i * 32) + 0), none⟩) ((aj * 32) - ((i * 32) + 0)) ((aj * 32) - ((i * 32) + 0))] (by kernel_rfl) (fun w => by kernel_rfl) (Calls.mono (kF (HM.get (i := 3) rfl) (by unfold maxLen; omega) big ((i * 32) + 0) ((aj * 32) - ((i * 32) + 0)) (by omega) (by omega) ((v.ty : Nat) : Int) (by rw [e0])) ?_)
 rintro _ w2 ⟨rfl, kM, hq⟩
 replace HM : Mm [fb, pg, pd] W1 w2 [oZ z5, iJ fb dat abi aH big aU aJ aG pg i aj, (pg, .cells cur 136 (0, 0)), (pd, .cells (X.map Bv).toArray 5 (0, 0))] := by rw [hq]; exact HM.drewN _
 clear hq
 refine ⟨_, rfl, ?_⟩; clear HF; intro a HF; replace HF := HF.sub ((xO b o n c s fb big ak aj au ah pd i z5) ++ [(658, (aS big)), xP pd i aj, (615, bn v.ty)]) (by kernel_rfl)
 refine dH (HM.told [3] rfl) ?_
 replace HF := HF.sub ((DV b o n c s fb big ak aj au ah pd i z5) ++ [(615, bn v.ty)]) (by kernel_rfl)
 refine bI HF (HM.told [3] rfl) 1 [] ((DV b o n c s fb big ak aj au ah pd i z5) ++ [(616, aF (IntKind.i64.wrap ((v.ty : Nat) : Int)))]) (by kernel_rfl) ?_
 clear HF; intro a HF
 rw [show IntKind.i64.wrap ((v.ty : Nat) : Int) = ((v.ty : Nat) : Int) from IntWalk.i64_in _ (by omega)] at HF
 refine bW rfl ?_
 refine bf HF (by kernel_rfl) 87 #[(aS big), .slice (some ⟨pd, ((i * 32) + 24), none⟩) ((aj * 32) - ((i * 32) + 24)) ((aj * 32) - ((i * 32) + 24))] (by kernel_rfl) (fun w => by kernel_rfl) (Calls.mono (kF (HM.get (i := 3) rfl) (by unfold maxLen; omega) big ((i * 32) + 24) ((aj * 32) - ((i * 32) + 24)) (by omega) (by omega) ((v.flags : Nat) : Int) (by rw [e1])) ?_)
 rintro _ w3 ⟨rfl, kM, hq⟩
 replace HM : Mm [fb, pg, pd] W1 w3 [oZ z5, iJ fb dat abi aH big aU aJ aG pg i aj, (pg, .cells cur 136 (0, 0)), (pd, .cells (X.map Bv).toArray 5 (0, 0))] := by rw [hq]; exact HM.drewN _
 clear hq
 refine ⟨_, rfl, ?_⟩; clear HF; intro a HF; replace HF := HF.sub ((DV b o n c s fb big ak aj au ah pd i z5) ++ [(616, ay v.ty), (622, bn v.flags)]) (by kernel_rfl)
 refine dH (HM.told [3] rfl) ?_
 replace HF := HF.sub ((fQ b o n c s fb big ak aj au ah pd i z5) ++ [(609, aB z5), (623, (aS big)), D5 pd i aj, (630, (aS big)), DZ pd i aj, (637, (aS big)), DY pd i aj, (644, (aS big)), DX pd i aj, (651, (aS big)), DW pd i aj, (658, (aS big)), xP pd i aj, (616, ay v.ty), (622, bn v.flags)]) (by kernel_rfl)
 refine bW rfl ?_
 refine bf HF (by kernel_rfl) 87 #[(aS big), .slice (some ⟨pd, ((i * 32) + 4), none⟩) ((aj * 32) - ((i * 32) + 4)) ((aj * 32) - ((i * 32) + 4))] (by kernel_rfl) (fun w => by kernel_rfl) (Calls.mono (kF (HM.get (i := 3) rfl) (by unfold maxLen; omega) big ((i * 32) + 4) ((aj * 32) - ((i * 32) + 4)) (by omega) (by omega) ((v.off : Nat) : Int) (by rw [e2])) ?_)
 rintro _ w4 ⟨rfl, kM, hq⟩
 replace HM : Mm [fb, pg, pd] W1 w4 [oZ z5, iJ fb dat abi aH big aU aJ aG pg i aj, (pg, .cells cur 136 (0, 0)), (pd, .cells (X.map Bv).toArray 5 (0, 0))] := by rw [hq]; exact HM.drewN _
 clear hq
 refine ⟨_, rfl, ?_⟩; clear HF; intro a HF; replace HF := HF.sub ((fQ b o n c s fb big ak aj au ah pd i z5) ++ [(609, aB z5), (623, (aS big)), D5 pd i aj, (630, (aS big)), DZ pd i aj, (637, (aS big)), DY pd i aj, (644, (aS big)), DX pd i aj, (651, (aS big)), DW pd i aj, (658, (aS big)), xP pd i aj, (616, ay v.ty), (622, bn v.flags), (628, bn v.off)]) (by kernel_rfl)
 refine dH (HM.told [3] rfl) ?_
 replace HF := HF.sub ((DU b o n c s fb big ak aj au ah pd i z5 v) ++ [(628, bn v.off)]) (by kernel_rfl)
 refine bI HF (HM.told [3] rfl) 1 [] ((DU b o n c s fb big ak aj au ah pd i z5 v) ++ [(629, bH (IntKind.u64.wrap ((v.off : Nat) : Int)))]) (by kernel_rfl) ?_
 clear HF; intro a HF
 rw [show IntKind.u64.wrap ((v.off : Nat) : Int) = ((v.off : Nat) : Int) from IntWalk.u64_in _ (by omega)] at HF
 refine bW rfl ?_
 refine bf HF (by kernel_rfl) 87 #[(aS big), .slice (some ⟨pd, ((i * 32) + 8), none⟩) ((aj * 32) - ((i * 32) + 8)) ((aj * 32) - ((i * 32) + 8))] (by kernel_rfl) (fun w => by kernel_rfl) (Calls.mono (kF (HM.get (i := 3) rfl) (by unfold maxLen; omega) big ((i * 32) + 8) ((aj * 32) - ((i * 32) + 8)) (by omega) (by omega) ((v.bU : Nat) : Int) (by rw [e3])) ?_)
 rintro _ w5 ⟨rfl, kM, hq⟩
 replace HM : Mm [fb, pg, pd] W1 w5 [oZ z5, iJ fb dat abi aH big aU aJ aG pg i aj, (pg, .cells cur 136 (0, 0)), (pd, .cells (X.map Bv).toArray 5 (0, 0))] := by rw [hq]; exact HM.drewN _
 clear hq
 refine ⟨_, rfl, ?_⟩; clear HF; intro a HF; replace HF := HF.sub ((DU b o n c s fb big ak aj au ah pd i z5 v) ++ [(629, aI v.off), (635, bn v.bU)]) (by kernel_rfl)
 refine dH (HM.told [3] rfl) ?_
 replace HF := HF.sub ((DT b o n c s fb big ak aj au ah pd i z5 v) ++ [(635, bn v.bU)]) (by kernel_rfl)
 refine bI HF (HM.told [3] rfl) 1 [] ((DT b o n c s fb big ak aj au ah pd i z5 v) ++ [(636, bH (IntKind.u64.wrap ((v.bU : Nat) : Int)))]) (by kernel_rfl) ?_
 clear HF; intro a HF
 rw [show IntKind.u64.wrap ((v.bU : Nat) : Int) = ((v.bU : Nat) : Int) from IntWalk.u64_in _ (by omega)] at HF
 refine bW rfl ?_
 refine bf HF (by kernel_rfl) 87 #[(aS big), .slice (some ⟨pd, ((i * 32) + 12), none⟩) ((aj * 32) - ((i * 32) + 12)) ((aj * 32) - ((i * 32) + 12))] (by kernel_rfl) (fun w => by kernel_rfl) (Calls.mono (kF (HM.get (i := 3) rfl) (by unfold maxLen; omega) big ((i * 32) + 12) ((aj * 32) - ((i * 32) + 12)) (by omega) (by omega) ((v.bV : Nat) : Int) (by rw [e4])) ?_)
 rintro _ w6 ⟨rfl, kM, hq⟩
 replace HM : Mm [fb, pg, pd] W1 w6 [oZ z5, iJ fb dat abi aH big aU aJ aG pg i aj, (pg, .cells cur 136 (0, 0)), (pd, .cells (X.map Bv).toArray 5 (0, 0))] := by rw [hq]; exact HM.drewN _
 clear hq
 refine ⟨_, rfl, ?_⟩; clear HF; intro a HF; replace HF := HF.sub ((DT b o n c s fb big ak aj au ah pd i z5 v) ++ [(636, aI v.bU), (642, bn v.bV)]) (by kernel_rfl)
 refine dH (HM.told [3] rfl) ?_
 replace HF := HF.sub ((DR b o n c s fb big ak aj au ah pd i z5 v) ++ [(642, bn v.bV)]) (by kernel_rfl)
 refine bI HF (HM.told [3] rfl) 1 [] ((DR b o n c s fb big ak aj au ah pd i z5 v) ++ [(643, bH (IntKind.u64.wrap ((v.bV : Nat) : Int)))]) (by kernel_rfl) ?_
 clear HF; intro a HF
 rw [show IntKind.u64.wrap ((v.bV : Nat) : Int) = ((v.bV : Nat) : Int) from IntWalk.u64_in _ (by omega)] at HF
 refine bW rfl ?_
 refine bf HF (by kernel_rfl) 87 #[(aS big), .slice (some ⟨pd, ((i * 32) + 16), none⟩) ((aj * 32) - ((i * 32) + 16)) ((aj * 32) - ((i * 32) + 16))] (by kernel_rfl) (fun w => by kernel_rfl) (Calls.mono (kF (HM.get (i := 3) rfl) (by unfold maxLen; omega) big ((i * 32) + 16) ((aj * 32) - ((i * 32) + 16)) (by omega) (by omega) ((v.bP : Nat) : Int) (by rw [e5])) ?_)
 rintro _ w7 ⟨rfl, kM, hq⟩
 replace HM : Mm [fb, pg, pd] W1 w7 [oZ z5, iJ fb dat abi aH big aU aJ aG pg i aj, (pg, .cells cur 136 (0, 0)), (pd, .cells (X.map Bv).toArray 5 (0, 0))] := by rw [hq]; exact HM.drewN _
 clear hq
 refine ⟨_, rfl, ?_⟩; clear HF; intro a HF; replace HF := HF.sub ((DR b o n c s fb big ak aj au ah pd i z5 v) ++ [(643, aI v.bV), (649, bn v.bP)]) (by kernel_rfl)
 refine dH (HM.told [3] rfl) ?_
 replace HF := HF.sub ((DN b o n c s fb big ak aj au ah pd i z5 v) ++ [(649, bn v.bP)]) (by kernel_rfl)
 refine bI HF (HM.told [3] rfl) 1 [] ((DN b o n c s fb big ak aj au ah pd i z5 v) ++ [(650, bH (IntKind.u64.wrap ((v.bP : Nat) : Int)))]) (by kernel_rfl) ?_
 clear HF; intro a HF
 rw [show IntKind.u64.wrap ((v.bP : Nat) : Int) = ((v.bP : Nat) : Int) from IntWalk.u64_in _ (by omega)] at HF
 refine bW rfl ?_
 refine bf HF (by kernel_rfl) 87 #[(aS big), .slice (some ⟨pd, ((i * 32) + 20), none⟩) ((aj * 32) - ((i * 32) + 20)) ((aj * 32) - ((i * 32) + 20))] (by kernel_rfl) (fun w => by kernel_rfl) (Calls.mono (kF (HM.get (i := 3) rfl) (by unfold maxLen; omega) big ((i * 32) + 20) ((aj * 32) - ((i * 32) + 20)) (by omega) (by omega) ((v.bY : Nat) : Int) (by rw [e6])) ?_)
 rintro _ w8 ⟨rfl, kM, hq⟩
 replace HM : Mm [fb, pg, pd] W1 w8 [oZ z5, iJ fb dat abi aH big aU aJ aG pg i aj, (pg, .cells cur 136 (0, 0)), (pd, .cells (X.map Bv).toArray 5 (0, 0))] := by rw [hq]; exact HM.drewN _
 clear hq
 refine ⟨_, rfl, ?_⟩; clear HF; intro a HF; replace HF := HF.sub ((DN b o n c s fb big ak aj au ah pd i z5 v) ++ [(650, aI v.bP), (656, bn v.bY)]) (by kernel_rfl)
 refine dH (HM.told [3] rfl) ?_
 replace HF := HF.sub ((DL b o n c s fb big ak aj au ah pd i z5 v) ++ [(656, bn v.bY)]) (by kernel_rfl)
 refine bI HF (HM.told [3] rfl) 1 [] ((DL b o n c s fb big ak aj au ah pd i z5 v) ++ [(657, bH (IntKind.u64.wrap ((v.bY : Nat) : Int)))]) (by kernel_rfl) ?_
 clear HF; intro a HF
 rw [show IntKind.u64.wrap ((v.bY : Nat) : Int) = ((v.bY : Nat) : Int) from IntWalk.u64_in _ (by omega)] at HF
 refine bW rfl ?_
 refine bf HF (by kernel_rfl) 87 #[(aS big), .slice (some ⟨pd, ((i * 32) + 28), none⟩) ((aj * 32) - ((i * 32) + 28)) ((aj * 32) - ((i * 32) + 28))] (by kernel_rfl) (fun w => by kernel_rfl) (Calls.mono (kF (HM.get (i := 3) rfl) (by unfold maxLen; omega) big ((i * 32) + 28) ((aj * 32) - ((i * 32) + 28)) (by omega) (by omega) ((v.align : Nat) : Int) (by rw [e7])) ?_)
 rintro _ w9 ⟨rfl, kM, hq⟩
 replace HM : Mm [fb, pg, pd] W1 w9 [oZ z5, iJ fb dat abi aH big aU aJ aG pg i aj, (pg, .cells cur 136 (0, 0)), (pd, .cells (X.map Bv).toArray 5 (0, 0))] := by rw [hq]; exact HM.drewN _
 clear hq
 refine ⟨_, rfl, ?_⟩; clear HF; intro a HF; replace HF := HF.sub ((DL b o n c s fb big ak aj au ah pd i z5 v) ++ [(657, aI v.bY), (663, bn v.align)]) (by kernel_rfl)
 refine dH (HM.told [3] rfl) ?_
 replace HF := HF.sub ((fQ b o n c s fb big ak aj au ah pd i z5) ++ [(609, aB z5), (616, ay v.ty), (622, bn v.flags), (629, aI v.off), (636, aI v.bU), (643, aI v.bV), (650, aI v.bP), (657, aI v.bY), (663, bn v.align)]) (by kernel_rfl)
 refine bI HF (HM.told [3] rfl) 1 [] ((fQ b o n c s fb big ak aj au ah pd i z5) ++ [(609, aB z5), (616, ay v.ty), (622, bn v.flags), (629, aI v.off), (636, aI v.bU), (643, aI v.bV), (650, aI v.bP), (657, aI v.bY), (664, bH (IntKind.u64.wrap ((v.align : Nat) : Int)))]) (by kernel_rfl) ?_
 clear HF; intro a HF
 rw [show IntKind.u64.wrap ((v.align : Nat) : Int) = ((v.align : Nat) : Int) from IntWalk.u64_in _ (by omega)] at HF
 refine bI HF (HM.told [3] rfl) 3 [] ((fQ b o n c s fb big ak aj au ah pd i z5) ++ [(609, aB z5), (616, ay v.ty), (622, bn v.flags), (629, aI v.off), (636, aI v.bU), (643, aI v.bV), (650, aI v.bP), (657, aI v.bY), (664, aI v.align), (665, .agg #[ay v.ty, bn v.flags, aI v.off, aI v.bU, aI v.bV, aI v.bP, aI v.bY, aI v.align]), (667, aB z5)]) (by kernel_rfl) ?_
 clear HF; intro a HF
 replace HF := HF.sub ((fQ b o n c s fb big ak aj au ah pd i z5) ++ [(665, .agg #[ay v.ty, bn v.flags, aI v.off, aI v.bU, aI v.bV, aI v.bP, aI v.bY, aI v.align]), (667, aB z5)]) (by kernel_rfl)
 refine bW rfl ?_
 refine aT HF HM rfl 1 [[3, 3, 3, 3, 3, 3, 3, 3]] (fQ b o n c s fb big ak aj au ah pd i z5) [vO z5 v, iJ fb dat abi aH big aU aJ aG pg i aj, (pg, .cells cur 136 (0, 0)), (pd, .cells (X.map Bv).toArray 5 (0, 0))] (by kernel_rfl) ?_
 clear HF HM; intro a w HF HM
 refine dH (HM.told [3] rfl) ?_
 refine iM ?_
 repeat (first | refine aK ?_ | refine aP ?_)
 refine wp_seq ?_
 refine wp_seq (wp_region_lit ?_)
 refine aT HF HM rfl 6 [[3]] ((fQ b o n c s fb big ak aj au ah pd i z5) ++ [(728, aF (IntKind.i64.wrap ((v.off : Nat) : Int)))]) [vO z5 v, iJ fb dat abi aH big aU aJ aG pg i aj, (pg, .cells cur 136 (0, 0)), (pd, .cells (X.map Bv).toArray 5 (0, 0))] (by kernel_rfl) ?_
 clear HF HM; intro a w HF HM
 rw [show IntKind.i64.wrap ((v.off : Nat) : Int) = ((v.off : Nat) : Int) from IntWalk.i64_in _ (by omega)] at HF
 refine aT HF HM rfl 1 [] ((fQ b o n c s fb big ak aj au ah pd i z5) ++ [(729, .bool (decide (((v.off : Nat) : Int) < 0)))]) [vO z5 v, iJ fb dat abi aH big aU aJ aG pg i aj, (pg, .cells cur 136 (0, 0)), (pd, .cells (X.map Bv).toArray 5 (0, 0))] (by kernel_rfl) ?_
 clear HF HM; intro a w HF HM
 rw [show decide (((v.off : Nat) : Int) < 0) = false from cZ (by omega)] at HF
 refine aA ?_
 refine aY HF rfl ?_
 refine wp_skip ?_
 repeat (first | refine aK ?_ | refine aP ?_)
 replace HF := HF.sub (fQ b o n c s fb big ak aj au ah pd i z5) (by kernel_rfl)
 refine wp_seq ?_
 refine wp_seq (wp_region_lit ?_)
 refine aT HF HM rfl 6 [[3]] ((fQ b o n c s fb big ak aj au ah pd i z5) ++ [(748, aF (IntKind.i64.wrap ((v.bP : Nat) : Int)))]) [vO z5 v, iJ fb dat abi aH big aU aJ aG pg i aj, (pg, .cells cur 136 (0, 0)), (pd, .cells (X.map Bv).toArray 5 (0, 0))] (by kernel_rfl) ?_
 clear HF HM; intro a w HF HM
 rw [show IntKind.i64.wrap ((v.bP : Nat) : Int) = ((v.bP : Nat) : Int) from IntWalk.i64_in _ (by omega)] at HF
 refine aT HF HM rfl 1 [] ((fQ b o n c s fb big ak aj au ah pd i z5) ++ [(749, .bool (decide (((v.bP : Nat) : Int) < 0)))]) [vO z5 v, iJ fb dat abi aH big aU aJ aG pg i aj, (pg, .cells cur 136 (0, 0)), (pd, .cells (X.map Bv).toArray 5 (0, 0))] (by kernel_rfl) ?_
 clear HF HM; intro a w HF HM
 rw [show decide (((v.bP : Nat) : Int) < 0) = false from cZ (by omega)] at HF
 refine aA ?_
 refine aY HF rfl ?_
 refine wp_skip ?_
 repeat (first | refine aK ?_ | refine aP ?_)
 replace HF := HF.sub (fQ b o n c s fb big ak aj au ah pd i z5) (by kernel_rfl)
 refine Bl HM (by kernel_rfl) (fun w => w.cell? ⟨z5, 2, none⟩ = some (aI v.off) ∧ w.cell? ⟨z5, 5, none⟩ = some (aI v.bP)) [(0, false), (1, false), (2, false), (3, false), (4, false), (5, false), (6, false), (7, false), (8, false), (9, false), (10, false), (11, false), (12, false), (13, false), (14, true), (15, false), (16, false), (17, true)] (by kernel_rfl) ?_
 clear HM; intro w10 HM
 refine jX (LS := []) (fun _ _ => kX _) HF ⟨HM.cellAt (i := 0) (k := 2) rfl rfl, HM.cellAt (i := 0) (k := 5) rfl rfl⟩ 6 [] ((t_ b o n c s fb big ak aj au ah pd i z5) ++ [(768, .pointer (some ⟨z5, 2, none⟩))]) (by kernel_rfl) ?_
 clear HF; intro a HF
 refine sV rfl HF ⟨HM.cellAt (i := 0) (k := 2) rfl rfl, HM.cellAt (i := 0) (k := 5) rfl rfl⟩ rfl (aI v.off) (by kernel_rfl) (fun w hw => dV rfl rfl (by kernel_rfl) hw.1) ?_
 clear HF; intro a HF; replace HF := HF.sub ((t_ b o n c s fb big ak aj au ah pd i z5) ++ [(768, .pointer (some ⟨z5, 2, none⟩)), (769, aI v.off)]) (by kernel_rfl)
 refine jX (LS := []) (fun _ _ => kX _) HF ⟨HM.cellAt (i := 0) (k := 2) rfl rfl, HM.cellAt (i := 0) (k := 5) rfl rfl⟩ 1 [] ((t_ b o n c s fb big ak aj au ah pd i z5) ++ [(770, aF (IntKind.i64.wrap ((v.off : Nat) : Int)))]) (by kernel_rfl) ?_
 clear HF; intro a HF
 rw [show IntKind.i64.wrap ((v.off : Nat) : Int) = ((v.off : Nat) : Int) from IntWalk.i64_in _ (by omega)] at HF
 refine jX (LS := []) (fun _ _ => kX _) HF ⟨HM.cellAt (i := 0) (k := 2) rfl rfl, HM.cellAt (i := 0) (k := 5) rfl rfl⟩ 4 [] ((t_ b o n c s fb big ak aj au ah pd i z5) ++ [(770, ay v.off), (774, .pointer (some ⟨z5, 5, none⟩))]) (by kernel_rfl) ?_
 clear HF; intro a HF
 refine sV rfl HF ⟨HM.cellAt (i := 0) (k := 2) rfl rfl, HM.cellAt (i := 0) (k := 5) rfl rfl⟩ rfl (aI v.bP) (by kernel_rfl) (fun w hw => dV rfl rfl (by kernel_rfl) hw.2) ?_
 clear HF; intro a HF; replace HF := HF.sub ((t_ b o n c s fb big ak aj au ah pd i z5) ++ [(770, ay v.off), (774, .pointer (some ⟨z5, 5, none⟩)), (775, aI v.bP)]) (by kernel_rfl)
 refine jX (LS := []) (fun _ _ => kX _) HF ⟨HM.cellAt (i := 0) (k := 2) rfl rfl, HM.cellAt (i := 0) (k := 5) rfl rfl⟩ 1 [] ((t_ b o n c s fb big ak aj au ah pd i z5) ++ [(770, ay v.off), (776, aF (IntKind.i64.wrap ((v.bP : Nat) : Int)))]) (by kernel_rfl) ?_
 clear HF; intro a HF
 rw [show IntKind.i64.wrap ((v.bP : Nat) : Int) = ((v.bP : Nat) : Int) from IntWalk.i64_in _ (by omega)] at HF
 refine qx rfl ?_
 refine bf HF (by kernel_rfl) 92 #[.iface 178 (.slice (some ⟨b, o, none⟩) n c), ay v.off, ay v.bP] (by kernel_rfl) (fun w => by kernel_rfl) (Calls.mono (rF 178 (.slice (some ⟨b, o, none⟩) n c) ((v.off : Nat) : Int) ((v.bP : Nat) : Int) (by omega) (by omega) (by omega) w10) ?_)
 rintro _ qU ⟨sb, rfl, hb, hge, hgn⟩
 replace HM : Mm [fb, pg, pd] W1 qU [rE sb b o n c v, vO z5 v, iJ fb dat abi aH big aU aJ aG pg i aj, (pg, .cells cur 136 (0, 0)), (pd, .cells (X.map Bv).toArray 5 (0, 0))] := HM.push hb hge hgn
 clear hb hge hgn
 refine ⟨_, rfl, ?_⟩; clear HF; intro a HF; replace HF := HF.sub ((t_ b o n c s fb big ak aj au ah pd i z5) ++ [(770, ay v.off), (776, ay v.bP), (777, aB sb)]) (by kernel_rfl)
 refine sW ⟨HM.cellAt (i := 1) (k := 2) rfl rfl, HM.cellAt (i := 1) (k := 5) rfl rfl⟩ ?_
 refine jX (LS := []) (fun _ _ => kX _) HF ⟨HM.cellAt (i := 1) (k := 2) rfl rfl, HM.cellAt (i := 1) (k := 5) rfl rfl⟩ 2 [] ((fQ b o n c s fb big ak aj au ah pd i z5) ++ [(777, aB sb), (779, .pointer (some ⟨z5, 9, none⟩))]) (by kernel_rfl) ?_
 clear HF; intro a HF
 refine qx rfl ?_
 refine aT HF HM rfl 1 [[3]] (fQ b o n c s fb big ak aj au ah pd i z5) [rE sb b o n c v, (z5, .cells #[ay v.ty, bn v.flags, aI v.off, aI v.bU, aI v.bV, aI v.bP, aI v.bY, aI v.align, .nilIface, aB sb] 146 (0, 0)), iJ fb dat abi aH big aU aJ aG pg i aj, (pg, .cells cur 136 (0, 0)), (pd, .cells (X.map Bv).toArray 5 (0, 0))] (by kernel_rfl) ?_
 clear HF HM; intro a w HF HM
 refine sW ⟨HM.cellAt (i := 1) (k := 2) rfl rfl, HM.cellAt (i := 1) (k := 5) rfl rfl⟩ ?_
 refine Bo (aK ?_)
 refine bG HF HM rfl [[3], [3]] (fQ b o n c s fb big ak aj au ah pd i z5) [rE sb b o n c v, vN z5 v sb, iJ fb dat abi aH big aU aJ aG pg i aj, (pg, .cells cur 136 (0, 0)), (pd, .cells (X.map Bv).toArray 5 (0, 0))] (by kernel_rfl) ?_
 clear HF HM; intro a w HF HM
 refine wp_region_lit ?_
 obtain ⟨xq, EZ⟩ : ∃ z, w.heap.size = z := ⟨_, rfl⟩
 refine aT HF HM EZ 7 [[2]] ((fQ b o n c s fb big ak aj au ah pd i z5) ++ [(788, aB fb), (792, aC pg i aj), (794, aC xq 1 1)]) [(xq, .cells #[aB z5] 136 (0, 0)), rE sb b o n c v, vN z5 v sb, iJ fb dat abi aH big aU aJ aG pg i aj, (pg, .cells cur 136 (0, 0)), (pd, .cells (X.map Bv).toArray 5 (0, 0))] (by kernel_rfl) ?_
 clear HF HM EZ; intro a w HF HM
 refine sD HF HM rfl _ _ 127 rfl rfl 136 (.pointer none) 8 Tryd.underlying127 Ah 4 0 pg _ i aj cur _ _ rfl hcs (by omega) (by unfold maxLen; omega) rfl rfl rfl rfl ?_
 intro a2 w12 cur' hcs' htk bT HF2; clear HF HM; have HM : Mm [fb, pg, pd] W1 w12 [(xq, .cells #[aB z5] 136 (0, 0)), rE sb b o n c v, vN z5 v sb, iJ fb dat abi aH big aU aJ aG pg i aj, (pg, .cells cur' 136 (0, 0)), (pd, .cells (X.map Bv).toArray 5 (0, 0))] := bT; have HF := HF2; clear bT HF2
 replace HF := HF.sub ((fQ b o n c s fb big ak aj au ah pd i z5) ++ [(788, aB fb), (795, aC pg (i + 1) aj)]) (by kernel_rfl)
 refine aT HF HM rfl 3 [[2]] (fQ b o n c s fb big ak aj au ah pd i z5) [(xq, .cells #[aB z5] 136 (0, 0)), rE sb b o n c v, vN z5 v sb, BN fb dat abi aH big aU aJ aG pg i aj, (pg, .cells cur' 136 (0, 0)), (pd, .cells (X.map Bv).toArray 5 (0, 0))] (by kernel_rfl) ?_
 clear HF HM; intro a w HF HM
 refine wpList_nil ?_
 repeat (first | refine aK ?_ | refine aP ?_)
 refine wp_region_lit ?_
 refine aT HF HM rfl 2 [] ((fQ b o n c s fb big ak aj au ah pd i z5) ++ [(595, aF (IntKind.i64.wrap (((i : Nat) : Int) + 1)))]) [(xq, .cells #[aB z5] 136 (0, 0)), rE sb b o n c v, vN z5 v sb, BN fb dat abi aH big aU aJ aG pg i aj, (pg, .cells cur' 136 (0, 0)), (pd, .cells (X.map Bv).toArray 5 (0, 0))] (by kernel_rfl) ?_
 clear HF HM; intro a w HF HM
 rw [show IntKind.i64.wrap (((i : Nat) : Int) + 1) = (((i + 1) : Nat) : Int) from (IntWalk.i64_in _ (by omega)).trans (by omega)] at HF
 refine aT HF HM rfl 1 [] ((qA b o n c s fb big ak aj au ah pd) ++ [(39, aI (i * 32)), (40, aB z5), (38, ay (i + 1))]) [(xq, .cells #[aB z5] 136 (0, 0)), rE sb b o n c v, vN z5 v sb, BN fb dat abi aH big aU aJ aG pg i aj, (pg, .cells cur' 136 (0, 0)), (pd, .cells (X.map Bv).toArray 5 (0, 0))] (by kernel_rfl) ?_
 clear HF HM; intro a w HF HM
 refine wpList_nil ?_
 repeat (first | refine aK ?_ | refine aP ?_)
 replace HF := HF.sub ((qA b o n c s fb big ak aj au ah pd) ++ [(38, ay (i + 1))]) (by kernel_rfl)
 exact K a w z5 sb cur' hcs' htk HF (HM.sub (List.Sublist.cons _ (List.Sublist.refl _)))

abbrev qy := fun (b : Nat) (o : Nat) (n : Nat) (c : Nat) (s : Nat) (fb : Nat) (big : Bool) (ak : Nat) (aj : Nat) (au : Nat) (ah : Nat) (pd : Nat) => ([(0, .iface 178 (.slice (some ⟨b, o, none⟩) n c)), (4, aB s), (8, aB fb), (9, (aS big)), (10, ay ak), (11, aF 56), (12, ay aj), (13, ay au), (14, aF 64), (15, ay ah), (16, ay (ah - 1)), (26, aF 64), (36, aC pd (aj * 56) (aj * 56))] : Slots)
abbrev BK := fun (fb : Nat) (dat : Int) (abi : Nat) (aH : Nat) (big : Bool) (aU : Nat) (aJ : Nat) (aG : Nat) (pg : Nat) (i : Nat) (aj : Nat) => ((fb, .cells #[aQ 2, .int .u8 dat, aQ 1, aX abi, aX aH, (aS big), bF aU, bF aJ, aI aG, aN, aC pg (i + 1) aj, aN, aN, aN] 131 (0, 0)) : Nat × Obj)
abbrev rD := fun sb (b : Nat) (o : Nat) (n : Nat) (c : Nat) (v : nN) => ((sb, .cells #[.iface 178 (.slice (some ⟨b, o, none⟩) n c), ay v.off, ay v.off, aF (((v.bP : Nat) : Int) + ((v.off : Nat) : Int)), ay v.bP] 246 (0, 0)) : Nat × Obj)
abbrev iG := fun (fb : Nat) (dat : Int) (abi : Nat) (aH : Nat) (big : Bool) (aU : Nat) (aJ : Nat) (aG : Nat) (pg : Nat) (i : Nat) (aj : Nat) => ((fb, .cells #[aQ 2, .int .u8 dat, aQ 1, aX abi, aX aH, (aS big), bF aU, bF aJ, aI aG, aN, aC pg i aj, aN, aN, aN] 131 (0, 0)) : Nat × Obj)
abbrev oI := fun z5 => ((z5, .cells #[aF 0, iR 0, bH 0, bH 0, bH 0, bH 0, bH 0, bH 0, .nilIface, .pointer none] 146 (0, 0)) : Nat × Obj)
abbrev eF := fun (b : Nat) (o : Nat) (n : Nat) (c : Nat) (s : Nat) (fb : Nat) (big : Bool) (ak : Nat) (aj : Nat) (au : Nat) (ah : Nat) (pd : Nat) (i : Nat) z5 => ((qy b o n c s fb big ak aj au ah pd) ++ [(38, ay i), (39, aI (i * 56)), (40, aB z5)] : Slots)
abbrev Pv := fun (pd : Nat) (i : Nat) (aj : Nat) => ((675, .slice (some ⟨pd, ((i * 56) + 0), none⟩) ((aj * 56) - ((i * 56) + 0)) ((aj * 56) - ((i * 56) + 0))) : Nat × Value)
abbrev BJ := fun (b : Nat) (o : Nat) (n : Nat) (c : Nat) (s : Nat) (fb : Nat) (big : Bool) (ak : Nat) (aj : Nat) (au : Nat) (ah : Nat) (pd : Nat) (i : Nat) z5 => ((eF b o n c s fb big ak aj au ah pd i z5) ++ [(670, aB z5), (671, (aS big)), (675, .slice (some ⟨pd, ((i * 56) + 0), none⟩) ((aj * 56) - ((i * 56) + 0)) ((aj * 56) - ((i * 56) + 0)))] : Slots)
abbrev Pq := fun (pd : Nat) (i : Nat) (aj : Nat) => ((682, .slice (some ⟨pd, ((i * 56) + 4), none⟩) ((aj * 56) - ((i * 56) + 4)) ((aj * 56) - ((i * 56) + 4))) : Nat × Value)
abbrev BI := fun (b : Nat) (o : Nat) (n : Nat) (c : Nat) (s : Nat) (fb : Nat) (big : Bool) (ak : Nat) (aj : Nat) (au : Nat) (ah : Nat) (pd : Nat) (i : Nat) z5 => ((BJ b o n c s fb big ak aj au ah pd i z5) ++ [(678, (aS big)), (682, .slice (some ⟨pd, ((i * 56) + 4), none⟩) ((aj * 56) - ((i * 56) + 4)) ((aj * 56) - ((i * 56) + 4)))] : Slots)
abbrev DK := fun (pd : Nat) (i : Nat) (aj : Nat) => ((688, .slice (some ⟨pd, ((i * 56) + 8), none⟩) ((aj * 56) - ((i * 56) + 8)) ((aj * 56) - ((i * 56) + 8))) : Nat × Value)
abbrev zU := fun (b : Nat) (o : Nat) (n : Nat) (c : Nat) (s : Nat) (fb : Nat) (big : Bool) (ak : Nat) (aj : Nat) (au : Nat) (ah : Nat) (pd : Nat) (i : Nat) z5 => ((BI b o n c s fb big ak aj au ah pd i z5) ++ [(684, (aS big)), (688, .slice (some ⟨pd, ((i * 56) + 8), none⟩) ((aj * 56) - ((i * 56) + 8)) ((aj * 56) - ((i * 56) + 8)))] : Slots)
abbrev xM := fun (pd : Nat) (i : Nat) (aj : Nat) => ((694, .slice (some ⟨pd, ((i * 56) + 16), none⟩) ((aj * 56) - ((i * 56) + 16)) ((aj * 56) - ((i * 56) + 16))) : Nat × Value)
abbrev zT := fun (b : Nat) (o : Nat) (n : Nat) (c : Nat) (s : Nat) (fb : Nat) (big : Bool) (ak : Nat) (aj : Nat) (au : Nat) (ah : Nat) (pd : Nat) (i : Nat) z5 => ((zU b o n c s fb big ak aj au ah pd i z5) ++ [(690, (aS big)), (694, .slice (some ⟨pd, ((i * 56) + 16), none⟩) ((aj * 56) - ((i * 56) + 16)) ((aj * 56) - ((i * 56) + 16)))] : Slots)
abbrev tZ := fun (pd : Nat) (i : Nat) (aj : Nat) => ((700, .slice (some ⟨pd, ((i * 56) + 24), none⟩) ((aj * 56) - ((i * 56) + 24)) ((aj * 56) - ((i * 56) + 24))) : Nat × Value)
abbrev zS := fun (b : Nat) (o : Nat) (n : Nat) (c : Nat) (s : Nat) (fb : Nat) (big : Bool) (ak : Nat) (aj : Nat) (au : Nat) (ah : Nat) (pd : Nat) (i : Nat) z5 => ((zT b o n c s fb big ak aj au ah pd i z5) ++ [(696, (aS big)), (700, .slice (some ⟨pd, ((i * 56) + 24), none⟩) ((aj * 56) - ((i * 56) + 24)) ((aj * 56) - ((i * 56) + 24)))] : Slots)
abbrev qh := fun (pd : Nat) (i : Nat) (aj : Nat) => ((706, .slice (some ⟨pd, ((i * 56) + 32), none⟩) ((aj * 56) - ((i * 56) + 32)) ((aj * 56) - ((i * 56) + 32))) : Nat × Value)
abbrev zQ := fun (b : Nat) (o : Nat) (n : Nat) (c : Nat) (s : Nat) (fb : Nat) (big : Bool) (ak : Nat) (aj : Nat) (au : Nat) (ah : Nat) (pd : Nat) (i : Nat) z5 => ((zS b o n c s fb big ak aj au ah pd i z5) ++ [(702, (aS big)), (706, .slice (some ⟨pd, ((i * 56) + 32), none⟩) ((aj * 56) - ((i * 56) + 32)) ((aj * 56) - ((i * 56) + 32)))] : Slots)
abbrev ou := fun (pd : Nat) (i : Nat) (aj : Nat) => ((712, .slice (some ⟨pd, ((i * 56) + 40), none⟩) ((aj * 56) - ((i * 56) + 40)) ((aj * 56) - ((i * 56) + 40))) : Nat × Value)
abbrev xK := fun (b : Nat) (o : Nat) (n : Nat) (c : Nat) (s : Nat) (fb : Nat) (big : Bool) (ak : Nat) (aj : Nat) (au : Nat) (ah : Nat) (pd : Nat) (i : Nat) z5 => ((zQ b o n c s fb big ak aj au ah pd i z5) ++ [(708, (aS big)), (712, .slice (some ⟨pd, ((i * 56) + 40), none⟩) ((aj * 56) - ((i * 56) + 40)) ((aj * 56) - ((i * 56) + 40)))] : Slots)
abbrev lG := fun (pd : Nat) (i : Nat) (aj : Nat) => ((718, .slice (some ⟨pd, ((i * 56) + 48), none⟩) ((aj * 56) - ((i * 56) + 48)) ((aj * 56) - ((i * 56) + 48))) : Nat × Value)
abbrev DJ := fun (b : Nat) (o : Nat) (n : Nat) (c : Nat) (s : Nat) (fb : Nat) (big : Bool) (ak : Nat) (aj : Nat) (au : Nat) (ah : Nat) (pd : Nat) (i : Nat) z5 => ((eF b o n c s fb big ak aj au ah pd i z5) ++ [(670, aB z5), (678, (aS big)), (682, .slice (some ⟨pd, ((i * 56) + 4), none⟩) ((aj * 56) - ((i * 56) + 4)) ((aj * 56) - ((i * 56) + 4))), (684, (aS big)), (688, .slice (some ⟨pd, ((i * 56) + 8), none⟩) ((aj * 56) - ((i * 56) + 8)) ((aj * 56) - ((i * 56) + 8))), (690, (aS big)), (694, .slice (some ⟨pd, ((i * 56) + 16), none⟩) ((aj * 56) - ((i * 56) + 16)) ((aj * 56) - ((i * 56) + 16))), (696, (aS big)), (700, .slice (some ⟨pd, ((i * 56) + 24), none⟩) ((aj * 56) - ((i * 56) + 24)) ((aj * 56) - ((i * 56) + 24))), (702, (aS big)), (706, .slice (some ⟨pd, ((i * 56) + 32), none⟩) ((aj * 56) - ((i * 56) + 32)) ((aj * 56) - ((i * 56) + 32))), (708, (aS big)), (712, .slice (some ⟨pd, ((i * 56) + 40), none⟩) ((aj * 56) - ((i * 56) + 40)) ((aj * 56) - ((i * 56) + 40))), (714, (aS big)), (718, .slice (some ⟨pd, ((i * 56) + 48), none⟩) ((aj * 56) - ((i * 56) + 48)) ((aj * 56) - ((i * 56) + 48)))] : Slots)
abbrev vM := fun z5 (v : nN) => ((z5, .cells #[ay v.ty, bn v.flags, aI v.off, aI v.bU, aI v.bV, aI v.bP, aI v.bY, aI v.align, .nilIface, .pointer none] 146 (0, 0)) : Nat × Obj)
abbrev tY := fun (b : Nat) (o : Nat) (n : Nat) (c : Nat) (s : Nat) (fb : Nat) (big : Bool) (ak : Nat) (aj : Nat) (au : Nat) (ah : Nat) (pd : Nat) (i : Nat) z5 => ((eF b o n c s fb big ak aj au ah pd i z5) ++ [(763, aB z5), (764, .iface 178 (.slice (some ⟨b, o, none⟩) n c))] : Slots)
abbrev vK := fun z5 (v : nN) sb => ((z5, .cells #[ay v.ty, bn v.flags, aI v.off, aI v.bU, aI v.bV, aI v.bP, aI v.bY, aI v.align, .iface 144 (aB sb), aB sb] 146 (0, 0)) : Nat × Obj)
theorem SH (l : List UInt8) (b o n c : Nat) (hl : n = l.length) (hnc : n ≤ c) (big : Bool) (abi aH aU aJ aG ak aj au ah : Nat) (dat : Int) (b1 : aU < 65536) (b2 : aJ < 65536) (b3 : aG ≤ 18446744073709551615) (b4 : ak < 4611686018427387904) (b5 : au < 4611686018427387904) (b6 : aj < 200) (b7 : ah < 200) (X : List UInt8) (pV : X.length = (aj * 56)) (i : Nat) (hi : i < aj) (v : nN) (hv : yA (X.drop (i * 56)) true big v.ty v.flags v.bU v.bV v.bY v.align v.bP v.off)
  (v1 : v.ty < 4294967296) (v2 : v.off + v.bP < 4611686018427387904) (v3 : v.bU ≤ 18446744073709551615) (v4 : v.bV ≤ 18446744073709551615) (v5 : v.bY ≤ 18446744073709551615) (v6 : v.align ≤ 18446744073709551615) {K0 : Act → World → Prop} {Q : Exit → Act → World → Prop} (a : Act) (W1 : World) (s fb pg pd : Nat) (cur : Array Value) (hcs : cur.size = aj)
  (h1 : W1.heap[fb]? = some (.cells #[aQ 2, .int .u8 dat, aQ 1, aX abi, aX aH, (aS big), bF aU, bF aJ, aI aG, aN, aC pg i aj, aN, aN, aN] 131 (0, 0))) (h2 : W1.heap[pg]? = some (.cells cur 136 (0, 0))) (h3 : W1.heap[pd]? = some (.cells (X.map Bv).toArray 5 (0, 0))) (n1 : fb ≠ pg) (n2 : fb ≠ pd) (n3 : pg ≠ pd) (HF : Fr 1287 a ((qy b o n c s fb big ak aj au ah pd) ++ [(38, ay i)]))
  (K : ∀ a w' pb sb cur', cur'.size = aj → cur'.toList.take (i + 1) = cur.toList.take i ++ [aB pb] → Fr 1287 a ((qy b o n c s fb big ak aj au ah pd) ++ [(38, ay (i + 1))]) → Mm [fb, pg, pd] W1 w' [rD sb b o n c v, (pb, .cells #[ay v.ty, bn v.flags, aI v.off, aI v.bU, aI v.bV, aI v.bP, aI v.bY, aI v.align, .iface 144 (aB sb), aB sb] 146 (0, 0)), BK fb dat abi aH big aU aJ aG pg i aj, (pg, .cells cur' 136 (0, 0)), (pd, .cells (X.map Bv).toArray 5 (0, 0))] → K0 a w') : (pR (spine Tryd.f78 35)).wp Tryd.prog (Exit.then K0 Q) a W1 := by
 obtain ⟨i0, hi0, hs0⟩ := yD
 have e0 : num big X ((i * 56) + 0) 4 = v.ty := (gI big X (i * 56) 0 4).symm.trans hv.ty
 have e1 : num big X ((i * 56) + 4) 4 = v.flags := (gI big X (i * 56) 4 4).symm.trans hv.flags
 have e2 : num big X ((i * 56) + 8) 8 = v.off := (gI big X (i * 56) 8 8).symm.trans hv.off
 have e3 : num big X ((i * 56) + 16) 8 = v.bU := (gI big X (i * 56) 16 8).symm.trans hv.bU
 have e4 : num big X ((i * 56) + 24) 8 = v.bV := (gI big X (i * 56) 24 8).symm.trans hv.bV
 have e5 : num big X ((i * 56) + 32) 8 = v.bP := (gI big X (i * 56) 32 8).symm.trans hv.PX
 have e6 : num big X ((i * 56) + 40) 8 = v.bY := (gI big X (i * 56) 40 8).symm.trans hv.bY
 have e7 : num big X ((i * 56) + 48) 8 = v.align := (gI big X (i * 56) 48 8).symm.trans hv.align
 obtain ⟨w, hw⟩ : ∃ w, W1 = w := ⟨_, rfl⟩
 have HM : Mm [fb, pg, pd] W1 w [iG fb dat abi aH big aU aJ aG pg i aj, (pg, .cells cur 136 (0, 0)), (pd, .cells (X.map Bv).toArray 5 (0, 0))] := hw ▸ Mm.start3 h1 h2 h3 n1 n2 n3
 conv => arg 5; rw [hw]
 clear hw
 refine wp_seq ?_
 refine wp_seq (wp_region_lit ?_)
 refine aT HF HM rfl 3 [] ((qy b o n c s fb big ak aj au ah pd) ++ [(38, ay i), (593, .bool (decide (((i : Nat) : Int) < ((aj : Nat) : Int))))]) [iG fb dat abi aH big aU aJ aG pg i aj, (pg, .cells cur 136 (0, 0)), (pd, .cells (X.map Bv).toArray 5 (0, 0))] (by kernel_rfl) ?_
 clear HF HM; intro a w HF HM
 rw [show decide (((i : Nat) : Int) < ((aj : Nat) : Int)) = true from dK (by omega)] at HF
 refine aA ?_
 refine bD HF rfl ?_
 refine wp_skip ?_
 repeat (first | refine aK ?_ | refine aP ?_)
 replace HF := HF.sub ((qy b o n c s fb big ak aj au ah pd) ++ [(38, ay i)]) (by kernel_rfl)
 refine wp_seq (wp_block ?_)
 refine wp_seq (wp_region_lit ?_)
 refine aT HF HM rfl 2 [] ((qy b o n c s fb big ak aj au ah pd) ++ [(38, ay i), (597, bH (IntKind.u64.wrap ((i : Nat) : Int)))]) [iG fb dat abi aH big aU aJ aG pg i aj, (pg, .cells cur 136 (0, 0)), (pd, .cells (X.map Bv).toArray 5 (0, 0))] (by kernel_rfl) ?_
 clear HF HM; intro a w HF HM
 rw [show IntKind.u64.wrap ((i : Nat) : Int) = ((i : Nat) : Int) from IntWalk.u64_in _ (by omega)] at HF
 refine aT HF HM rfl 3 [] ((qy b o n c s fb big ak aj au ah pd) ++ [(38, ay i), (600, bH (IntKind.u64.wrap (((i : Nat) : Int) * 56)))]) [iG fb dat abi aH big aU aJ aG pg i aj, (pg, .cells cur 136 (0, 0)), (pd, .cells (X.map Bv).toArray 5 (0, 0))] (by kernel_rfl) ?_
 clear HF HM; intro a w HF HM
 rw [show IntKind.u64.wrap (((i : Nat) : Int) * 56) = (((i * 56) : Nat) : Int) from (IntWalk.u64_in _ (by omega)).trans (by omega)] at HF
 refine aT HF HM rfl 1 [] ((qy b o n c s fb big ak aj au ah pd) ++ [(38, ay i), (39, aI (i * 56))]) [iG fb dat abi aH big aU aJ aG pg i aj, (pg, .cells cur 136 (0, 0)), (pd, .cells (X.map Bv).toArray 5 (0, 0))] (by kernel_rfl) ?_
 clear HF HM; intro a w HF HM
 refine aA ?_
 obtain ⟨z5, uG⟩ : ∃ z, w.heap.size = z := ⟨_, rfl⟩
 refine bG HF HM uG [] (eF b o n c s fb big ak aj au ah pd i z5) [oI z5, iG fb dat abi aH big aU aJ aG pg i aj, (pg, .cells cur 136 (0, 0)), (pd, .cells (X.map Bv).toArray 5 (0, 0))] (by kernel_rfl) ?_
 clear HF HM uG; intro a w HF HM
 refine wp_seq ?_
 refine bG HF HM rfl [[2]] ((eF b o n c s fb big ak aj au ah pd i z5) ++ [(606, aQ 2)]) [oI z5, iG fb dat abi aH big aU aJ aG pg i aj, (pg, .cells cur 136 (0, 0)), (pd, .cells (X.map Bv).toArray 5 (0, 0))] (by kernel_rfl) ?_
 clear HF HM; intro a w HF HM
 refine wp_block ?_
 refine bG HF HM rfl [] ((eF b o n c s fb big ak aj au ah pd i z5) ++ [(606, aQ 2), (607, .bool false)]) [oI z5, iG fb dat abi aH big aU aJ aG pg i aj, (pg, .cells cur 136 (0, 0)), (pd, .cells (X.map Bv).toArray 5 (0, 0))] (by kernel_rfl) ?_
 clear HF HM; intro a w HF HM
 refine aY HF rfl ?_
 refine bG HF HM rfl [] ((eF b o n c s fb big ak aj au ah pd i z5) ++ [(606, aQ 2), (668, .bool true)]) [oI z5, iG fb dat abi aH big aU aJ aG pg i aj, (pg, .cells cur 136 (0, 0)), (pd, .cells (X.map Bv).toArray 5 (0, 0))] (by kernel_rfl) ?_
 clear HF HM; intro a w HF HM
 refine bD HF rfl ?_
 replace HF := HF.sub (eF b o n c s fb big ak aj au ah pd i z5) (by kernel_rfl)
 refine wQ HM (by kernel_rfl) [(pd, .cells (X.map Bv).toArray 5 (0, 0))] [(0, false), (1, false), (2, false), (3, false), (4, false), (5, false), (8, false), (9, false), (10, false), (11, false), (12, false), (14, false), (15, false), (16, false), (17, false), (18, false), (20, false), (21, false), (22, false), (23, false), (24, false), (26, false), (27, false), (28, false), (29, false), (30, false), (32, false), (33, false), (34, false), (35, false), (36, false), (38, false), (39, false), (40, false), (41, false), (42, false), (44, false), (45, false), (46, false), (47, false), (48, false), (6, true), (7, false), (13, true), (19, true), (25, true), (31, true), (37, true), (43, true), (49, true), (50, false), (51, false), (52, false), (53, true)] (by kernel_rfl) ?_
 clear HM; intro w1 HM
 refine bI HF (HM.told [3] rfl) 1 [] ((eF b o n c s fb big ak aj au ah pd i z5) ++ [(670, aB z5)]) (by kernel_rfl) ?_
 clear HF; intro a HF
 refine bI HF (HM.told [3] rfl) 4 [] ((eF b o n c s fb big ak aj au ah pd i z5) ++ [(670, aB z5), (671, (aS big)), (672, aC pd (aj * 56) (aj * 56)), (674, bH (IntKind.u64.wrap ((((i * 56) : Nat) : Int) + 0)))]) (by kernel_rfl) ?_
 clear HF; intro a HF
 rw [show IntKind.u64.wrap ((((i * 56) : Nat) : Int) + 0) = ((((i * 56) + 0) : Nat) : Int) from (IntWalk.u64_in _ (by omega)).trans (by omega)] at HF
 refine dL rfl HF (HM.told [3] rfl) rfl (.slice (some ⟨pd, ((i * 56) + 0), none⟩) ((aj * 56) - ((i * 56) + 0)) ((aj * 56) - ((i * 56) + 0))) (by kernel_rfl) (fun w hw => fF (t := 33) Tryd.underlying33 hi0 hs0 rfl ((i * 56) + 0) (kk := .u64) rfl rfl (by omega) (by omega) (by omega) w) ?_
 clear HF; intro a HF; replace HF := HF.sub ((eF b o n c s fb big ak aj au ah pd i z5) ++ [(670, aB z5), (671, (aS big)), (672, aC pd (aj * 56) (aj * 56)), (674, aI ((i * 56) + 0)), Pv pd i aj]) (by kernel_rfl)
 replace HF := HF.sub (BJ b o n c s fb big ak aj au ah pd i z5) (by kernel_rfl)
 refine bI HF (HM.told [3] rfl) 4 [] ((BJ b o n c s fb big ak aj au ah pd i z5) ++ [(678, (aS big)), (679, aC pd (aj * 56) (aj * 56)), (681, bH (IntKind.u64.wrap ((((i * 56) : Nat) : Int) + 4)))]) (by kernel_rfl) ?_
 clear HF; intro a HF
 rw [show IntKind.u64.wrap ((((i * 56) : Nat) : Int) + 4) = ((((i * 56) + 4) : Nat) : Int) from (IntWalk.u64_in _ (by omega)).trans (by omega)] at HF
 refine dL rfl HF (HM.told [3] rfl) rfl (.slice (some ⟨pd, ((i * 56) + 4), none⟩) ((aj * 56) - ((i * 56) + 4)) ((aj * 56) - ((i * 56) + 4))) (by kernel_rfl) (fun w hw => fF (t := 33) Tryd.underlying33 hi0 hs0 rfl ((i * 56) + 4) (kk := .u64) rfl rfl (by omega) (by omega) (by omega) w) ?_
 clear HF; intro a HF; replace HF := HF.sub ((BJ b o n c s fb big ak aj au ah pd i z5) ++ [(678, (aS big)), (679, aC pd (aj * 56) (aj * 56)), (681, aI ((i * 56) + 4)), Pq pd i aj]) (by kernel_rfl)
 replace HF := HF.sub (BI b o n c s fb big ak aj au ah pd i z5) (by kernel_rfl)
 refine bI HF (HM.told [3] rfl) 4 [] ((BI b o n c s fb big ak aj au ah pd i z5) ++ [(684, (aS big)), (685, aC pd (aj * 56) (aj * 56)), (687, bH (IntKind.u64.wrap ((((i * 56) : Nat) : Int) + 8)))]) (by kernel_rfl) ?_
 clear HF; intro a HF
 rw [show IntKind.u64.wrap ((((i * 56) : Nat) : Int) + 8) = ((((i * 56) + 8) : Nat) : Int) from (IntWalk.u64_in _ (by omega)).trans (by omega)] at HF
 refine dL rfl HF (HM.told [3] rfl) rfl (.slice (some ⟨pd, ((i * 56) + 8), none⟩) ((aj * 56) - ((i * 56) + 8)) ((aj * 56) - ((i * 56) + 8))) (by kernel_rfl) (fun w hw => fF (t := 33) Tryd.underlying33 hi0 hs0 rfl ((i * 56) + 8) (kk := .u64) rfl rfl (by omega) (by omega) (by omega) w) ?_
 clear HF; intro a HF; replace HF := HF.sub ((BI b o n c s fb big ak aj au ah pd i z5) ++ [(684, (aS big)), (685, aC pd (aj * 56) (aj * 56)), (687, aI ((i * 56) + 8)), DK pd i aj]) (by kernel_rfl)
 replace HF := HF.sub (zU b o n c s fb big ak aj au ah pd i z5) (by kernel_rfl)
 refine bI HF (HM.told [3] rfl) 4 [] ((zU b o n c s fb big ak aj au ah pd i z5) ++ [(690, (aS big)), (691, aC pd (aj * 56) (aj * 56)), (693, bH (IntKind.u64.wrap ((((i * 56) : Nat) : Int) + 16)))]) (by kernel_rfl) ?_
 clear HF; intro a HF
 rw [show IntKind.u64.wrap ((((i * 56) : Nat) : Int) + 16) = ((((i * 56) + 16) : Nat) : Int) from (IntWalk.u64_in _ (by omega)).trans (by omega)] at HF
 refine dL rfl HF (HM.told [3] rfl) rfl (.slice (some ⟨pd, ((i * 56) + 16), none⟩) ((aj * 56) - ((i * 56) + 16)) ((aj * 56) - ((i * 56) + 16))) (by kernel_rfl) (fun w hw => fF (t := 33) Tryd.underlying33 hi0 hs0 rfl ((i * 56) + 16) (kk := .u64) rfl rfl (by omega) (by omega) (by omega) w) ?_
 clear HF; intro a HF; replace HF := HF.sub ((zU b o n c s fb big ak aj au ah pd i z5) ++ [(690, (aS big)), (691, aC pd (aj * 56) (aj * 56)), (693, aI ((i * 56) + 16)), xM pd i aj]) (by kernel_rfl)
 replace HF := HF.sub (zT b o n c s fb big ak aj au ah pd i z5) (by kernel_rfl)
 refine bI HF (HM.told [3] rfl) 4 [] ((zT b o n c s fb big ak aj au ah pd i z5) ++ [(696, (aS big)), (697, aC pd (aj * 56) (aj * 56)), (699, bH (IntKind.u64.wrap ((((i * 56) : Nat) : Int) + 24)))]) (by kernel_rfl) ?_
 clear HF; intro a HF
 rw [show IntKind.u64.wrap ((((i * 56) : Nat) : Int) + 24) = ((((i * 56) + 24) : Nat) : Int) from (IntWalk.u64_in _ (by omega)).trans (by omega)] at HF
 refine dL rfl HF (HM.told [3] rfl) rfl (.slice (some ⟨pd, ((i * 56) + 24), none⟩) ((aj * 56) - ((i * 56) + 24)) ((aj * 56) - ((i * 56) + 24))) (by kernel_rfl) (fun w hw => fF (t := 33) Tryd.underlying33 hi0 hs0 rfl ((i * 56) + 24) (kk := .u64) rfl rfl (by omega) (by omega) (by omega) w) ?_
 clear HF; intro a HF; replace HF := HF.sub ((zT b o n c s fb big ak aj au ah pd i z5) ++ [(696, (aS big)), (697, aC pd (aj * 56) (aj * 56)), (699, aI ((i * 56) + 24)), tZ pd i aj]) (by kernel_rfl)
 replace HF := HF.sub (zS b o n c s fb big ak aj au ah pd i z5) (by kernel_rfl)
 refine bI HF (HM.told [3] rfl) 4 [] ((zS b o n c s fb big ak aj au ah pd i z5) ++ [(702, (aS big)), (703, aC pd (aj * 56) (aj * 56)), (705, bH (IntKind.u64.wrap ((((i * 56) : Nat) : Int) + 32)))]) (by kernel_rfl) ?_
 clear HF; intro a HF
 rw [show IntKind.u64.wrap ((((i * 56) : Nat) : Int) + 32) = ((((i * 56) + 32) : Nat) : Int) from (IntWalk.u64_in _ (by omega)).trans (by omega)] at HF
 refine dL rfl HF (HM.told [3] rfl) rfl (.slice (some ⟨pd, ((i * 56) + 32), none⟩) ((aj * 56) - ((i * 56) + 32)) ((aj * 56) - ((i * 56) + 32))) (by kernel_rfl) (fun w hw => fF (t := 33) Tryd.underlying33 hi0 hs0 rfl ((i * 56) + 32) (kk := .u64) rfl rfl (by omega) (by omega) (by omega) w) ?_
 clear HF; intro a HF; replace HF := HF.sub ((zS b o n c s fb big ak aj au ah pd i z5) ++ [(702, (aS big)), (703, aC pd (aj * 56) (aj * 56)), (705, aI ((i * 56) + 32)), qh pd i aj]) (by kernel_rfl)
 replace HF := HF.sub (zQ b o n c s fb big ak aj au ah pd i z5) (by kernel_rfl)
 refine bI HF (HM.told [3] rfl) 4 [] ((zQ b o n c s fb big ak aj au ah pd i z5) ++ [(708, (aS big)), (709, aC pd (aj * 56) (aj * 56)), (711, bH (IntKind.u64.wrap ((((i * 56) : Nat) : Int) + 40)))]) (by kernel_rfl) ?_
 clear HF; intro a HF
 rw [show IntKind.u64.wrap ((((i * 56) : Nat) : Int) + 40) = ((((i * 56) + 40) : Nat) : Int) from (IntWalk.u64_in _ (by omega)).trans (by omega)] at HF
 refine dL rfl HF (HM.told [3] rfl) rfl (.slice (some ⟨pd, ((i * 56) + 40), none⟩) ((aj * 56) - ((i * 56) + 40)) ((aj * 56) - ((i * 56) + 40))) (by kernel_rfl) (fun w hw => fF (t := 33) Tryd.underlying33 hi0 hs0 rfl ((i * 56) + 40) (kk := .u64) rfl rfl (by omega) (by omega) (by omega) w) ?_
 clear HF; intro a HF; replace HF := HF.sub ((zQ b o n c s fb big ak aj au ah pd i z5) ++ [(708, (aS big)), (709, aC pd (aj * 56) (aj * 56)), (711, aI ((i * 56) + 40)), ou pd i aj]) (by kernel_rfl)
 replace HF := HF.sub (xK b o n c s fb big ak aj au ah pd i z5) (by kernel_rfl)
 refine bI HF (HM.told [3] rfl) 4 [] ((xK b o n c s fb big ak aj au ah pd i z5) ++ [(714, (aS big)), (715, aC pd (aj * 56) (aj * 56)), (717, bH (IntKind.u64.wrap ((((i * 56) : Nat) : Int) + 48)))]) (by kernel_rfl) ?_
 clear HF; intro a HF
 rw [show IntKind.u64.wrap ((((i * 56) : Nat) : Int) + 48) = ((((i * 56) + 48) : Nat) : Int) from (IntWalk.u64_in _ (by omega)).trans (by omega)] at HF
 refine dL rfl HF (HM.told [3] rfl) rfl (.slice (some ⟨pd, ((i * 56) + 48), none⟩) ((aj * 56) - ((i * 56) + 48)) ((aj * 56) - ((i * 56) + 48))) (by kernel_rfl) (fun w hw => fF (t := 33) Tryd.underlying33 hi0 hs0 rfl ((i * 56) + 48) (kk := .u64) rfl rfl (by omega) (by omega) (by omega) w) ?_
 clear HF; intro a HF; replace HF := HF.sub ((xK b o n c s fb big ak aj au ah pd i z5) ++ [(714, (aS big)), (715, aC pd (aj * 56) (aj * 56)), (717, aI ((i * 56) + 48)), lG pd i aj]) (by kernel_rfl)
 replace HF := HF.sub ((xK b o n c s fb big ak aj au ah pd i z5) ++ [(714, (aS big)), lG pd i aj]) (by kernel_rfl)
 refine bW rfl ?_
 refine bf HF (by kernel_rfl) 87 #[(aS big), .slice (some ⟨pd, ((i * 56) + 0), none⟩) ((aj * 56) - ((i * 56) + 0)) ((aj * 56) - ((i * 56) + 0))] (by kernel_rfl) (fun w => by kernel_rfl) (Calls.mono (kF (HM.get (i := 3) rfl) (by unfold maxLen; omega) big ((i * 56) + 0) ((aj * 56) - ((i * 56) + 0)) (by omega) (by omega) ((v.ty : Nat) : Int) (by rw [e0])) ?_)
 rintro _ w2 ⟨rfl, kM, hq⟩
 replace HM : Mm [fb, pg, pd] W1 w2 [oI z5, iG fb dat abi aH big aU aJ aG pg i aj, (pg, .cells cur 136 (0, 0)), (pd, .cells (X.map Bv).toArray 5 (0, 0))] := by rw [hq]; exact HM.drewN _
 clear hq
 refine ⟨_, rfl, ?_⟩; clear HF; intro a HF; replace HF := HF.sub ((xK b o n c s fb big ak aj au ah pd i z5) ++ [(714, (aS big)), lG pd i aj, (676, bn v.ty)]) (by kernel_rfl)
 refine dH (HM.told [3] rfl) ?_
 replace HF := HF.sub ((DJ b o n c s fb big ak aj au ah pd i z5) ++ [(676, bn v.ty)]) (by kernel_rfl)
 refine bI HF (HM.told [3] rfl) 1 [] ((DJ b o n c s fb big ak aj au ah pd i z5) ++ [(677, aF (IntKind.i64.wrap ((v.ty : Nat) : Int)))]) (by kernel_rfl) ?_
 clear HF; intro a HF
 rw [show IntKind.i64.wrap ((v.ty : Nat) : Int) = ((v.ty : Nat) : Int) from IntWalk.i64_in _ (by omega)] at HF
 refine bW rfl ?_
 refine bf HF (by kernel_rfl) 87 #[(aS big), .slice (some ⟨pd, ((i * 56) + 4), none⟩) ((aj * 56) - ((i * 56) + 4)) ((aj * 56) - ((i * 56) + 4))] (by kernel_rfl) (fun w => by kernel_rfl) (Calls.mono (kF (HM.get (i := 3) rfl) (by unfold maxLen; omega) big ((i * 56) + 4) ((aj * 56) - ((i * 56) + 4)) (by omega) (by omega) ((v.flags : Nat) : Int) (by rw [e1])) ?_)
 rintro _ w3 ⟨rfl, kM, hq⟩
 replace HM : Mm [fb, pg, pd] W1 w3 [oI z5, iG fb dat abi aH big aU aJ aG pg i aj, (pg, .cells cur 136 (0, 0)), (pd, .cells (X.map Bv).toArray 5 (0, 0))] := by rw [hq]; exact HM.drewN _
 clear hq
 refine ⟨_, rfl, ?_⟩; clear HF; intro a HF; replace HF := HF.sub ((DJ b o n c s fb big ak aj au ah pd i z5) ++ [(677, ay v.ty), (683, bn v.flags)]) (by kernel_rfl)
 refine dH (HM.told [3] rfl) ?_
 replace HF := HF.sub ((eF b o n c s fb big ak aj au ah pd i z5) ++ [(670, aB z5), (684, (aS big)), DK pd i aj, (690, (aS big)), xM pd i aj, (696, (aS big)), tZ pd i aj, (702, (aS big)), qh pd i aj, (708, (aS big)), ou pd i aj, (714, (aS big)), lG pd i aj, (677, ay v.ty), (683, bn v.flags)]) (by kernel_rfl)
 refine bW rfl ?_
 refine bf HF (by kernel_rfl) 88 #[(aS big), .slice (some ⟨pd, ((i * 56) + 8), none⟩) ((aj * 56) - ((i * 56) + 8)) ((aj * 56) - ((i * 56) + 8))] (by kernel_rfl) (fun w => by kernel_rfl) (Calls.mono (qI (HM.get (i := 3) rfl) (by unfold maxLen; omega) big ((i * 56) + 8) ((aj * 56) - ((i * 56) + 8)) (by omega) (by omega) ((v.off : Nat) : Int) (by rw [e2])) ?_)
 rintro _ w4 ⟨rfl, kM, hq⟩
 replace HM : Mm [fb, pg, pd] W1 w4 [oI z5, iG fb dat abi aH big aU aJ aG pg i aj, (pg, .cells cur 136 (0, 0)), (pd, .cells (X.map Bv).toArray 5 (0, 0))] := by rw [hq]; exact HM.drewN _
 clear hq
 refine ⟨_, rfl, ?_⟩; clear HF; intro a HF; replace HF := HF.sub ((eF b o n c s fb big ak aj au ah pd i z5) ++ [(670, aB z5), (684, (aS big)), DK pd i aj, (690, (aS big)), xM pd i aj, (696, (aS big)), tZ pd i aj, (702, (aS big)), qh pd i aj, (708, (aS big)), ou pd i aj, (714, (aS big)), lG pd i aj, (677, ay v.ty), (683, bn v.flags), (689, aI v.off)]) (by kernel_rfl)
 refine dH (HM.told [3] rfl) ?_
 replace HF := HF.sub ((eF b o n c s fb big ak aj au ah pd i z5) ++ [(670, aB z5), (690, (aS big)), xM pd i aj, (696, (aS big)), tZ pd i aj, (702, (aS big)), qh pd i aj, (708, (aS big)), ou pd i aj, (714, (aS big)), lG pd i aj, (677, ay v.ty), (683, bn v.flags), (689, aI v.off)]) (by kernel_rfl)
 refine bW rfl ?_
 refine bf HF (by kernel_rfl) 88 #[(aS big), .slice (some ⟨pd, ((i * 56) + 16), none⟩) ((aj * 56) - ((i * 56) + 16)) ((aj * 56) - ((i * 56) + 16))] (by kernel_rfl) (fun w => by kernel_rfl) (Calls.mono (qI (HM.get (i := 3) rfl) (by unfold maxLen; omega) big ((i * 56) + 16) ((aj * 56) - ((i * 56) + 16)) (by omega) (by omega) ((v.bU : Nat) : Int) (by rw [e3])) ?_)
 rintro _ w5 ⟨rfl, kM, hq⟩
 replace HM : Mm [fb, pg, pd] W1 w5 [oI z5, iG fb dat abi aH big aU aJ aG pg i aj, (pg, .cells cur 136 (0, 0)), (pd, .cells (X.map Bv).toArray 5 (0, 0))] := by rw [hq]; exact HM.drewN _
 clear hq
 refine ⟨_, rfl, ?_⟩; clear HF; intro a HF; replace HF := HF.sub ((eF b o n c s fb big ak aj au ah pd i z5) ++ [(670, aB z5), (690, (aS big)), xM pd i aj, (696, (aS big)), tZ pd i aj, (702, (aS big)), qh pd i aj, (708, (aS big)), ou pd i aj, (714, (aS big)), lG pd i aj, (677, ay v.ty), (683, bn v.flags), (689, aI v.off), (695, aI v.bU)]) (by kernel_rfl)
 refine dH (HM.told [3] rfl) ?_
 replace HF := HF.sub ((eF b o n c s fb big ak aj au ah pd i z5) ++ [(670, aB z5), (696, (aS big)), tZ pd i aj, (702, (aS big)), qh pd i aj, (708, (aS big)), ou pd i aj, (714, (aS big)), lG pd i aj, (677, ay v.ty), (683, bn v.flags), (689, aI v.off), (695, aI v.bU)]) (by kernel_rfl)
 refine bW rfl ?_
 refine bf HF (by kernel_rfl) 88 #[(aS big), .slice (some ⟨pd, ((i * 56) + 24), none⟩) ((aj * 56) - ((i * 56) + 24)) ((aj * 56) - ((i * 56) + 24))] (by kernel_rfl) (fun w => by kernel_rfl) (Calls.mono (qI (HM.get (i := 3) rfl) (by unfold maxLen; omega) big ((i * 56) + 24) ((aj * 56) - ((i * 56) + 24)) (by omega) (by omega) ((v.bV : Nat) : Int) (by rw [e4])) ?_)
 rintro _ w6 ⟨rfl, kM, hq⟩
 replace HM : Mm [fb, pg, pd] W1 w6 [oI z5, iG fb dat abi aH big aU aJ aG pg i aj, (pg, .cells cur 136 (0, 0)), (pd, .cells (X.map Bv).toArray 5 (0, 0))] := by rw [hq]; exact HM.drewN _
 clear hq
 refine ⟨_, rfl, ?_⟩; clear HF; intro a HF; replace HF := HF.sub ((eF b o n c s fb big ak aj au ah pd i z5) ++ [(670, aB z5), (696, (aS big)), tZ pd i aj, (702, (aS big)), qh pd i aj, (708, (aS big)), ou pd i aj, (714, (aS big)), lG pd i aj, (677, ay v.ty), (683, bn v.flags), (689, aI v.off), (695, aI v.bU), (701, aI v.bV)]) (by kernel_rfl)
 refine dH (HM.told [3] rfl) ?_
 replace HF := HF.sub ((eF b o n c s fb big ak aj au ah pd i z5) ++ [(670, aB z5), (702, (aS big)), qh pd i aj, (708, (aS big)), ou pd i aj, (714, (aS big)), lG pd i aj, (677, ay v.ty), (683, bn v.flags), (689, aI v.off), (695, aI v.bU), (701, aI v.bV)]) (by kernel_rfl)
 refine bW rfl ?_
 refine bf HF (by kernel_rfl) 88 #[(aS big), .slice (some ⟨pd, ((i * 56) + 32), none⟩) ((aj * 56) - ((i * 56) + 32)) ((aj * 56) - ((i * 56) + 32))] (by kernel_rfl) (fun w => by kernel_rfl) (Calls.mono (qI (HM.get (i := 3) rfl) (by unfold maxLen; omega) big ((i * 56) + 32) ((aj * 56) - ((i * 56) + 32)) (by omega) (by omega) ((v.bP : Nat) : Int) (by rw [e5])) ?_)
 rintro _ w7 ⟨rfl, kM, hq⟩
 replace HM : Mm [fb, pg, pd] W1 w7 [oI z5, iG fb dat abi aH big aU aJ aG pg i aj, (pg, .cells cur 136 (0, 0)), (pd, .cells (X.map Bv).toArray 5 (0, 0))] := by rw [hq]; exact HM.drewN _
 clear hq
 refine ⟨_, rfl, ?_⟩; clear HF; intro a HF; replace HF := HF.sub ((eF b o n c s fb big ak aj au ah pd i z5) ++ [(670, aB z5), (702, (aS big)), qh pd i aj, (708, (aS big)), ou pd i aj, (714, (aS big)), lG pd i aj, (677, ay v.ty), (683, bn v.flags), (689, aI v.off), (695, aI v.bU), (701, aI v.bV), (707, aI v.bP)]) (by kernel_rfl)
 refine dH (HM.told [3] rfl) ?_
 replace HF := HF.sub ((eF b o n c s fb big ak aj au ah pd i z5) ++ [(670, aB z5), (708, (aS big)), ou pd i aj, (714, (aS big)), lG pd i aj, (677, ay v.ty), (683, bn v.flags), (689, aI v.off), (695, aI v.bU), (701, aI v.bV), (707, aI v.bP)]) (by kernel_rfl)
 refine bW rfl ?_
 refine bf HF (by kernel_rfl) 88 #[(aS big), .slice (some ⟨pd, ((i * 56) + 40), none⟩) ((aj * 56) - ((i * 56) + 40)) ((aj * 56) - ((i * 56) + 40))] (by kernel_rfl) (fun w => by kernel_rfl) (Calls.mono (qI (HM.get (i := 3) rfl) (by unfold maxLen; omega) big ((i * 56) + 40) ((aj * 56) - ((i * 56) + 40)) (by omega) (by omega) ((v.bY : Nat) : Int) (by rw [e6])) ?_)
 rintro _ w8 ⟨rfl, kM, hq⟩
 replace HM : Mm [fb, pg, pd] W1 w8 [oI z5, iG fb dat abi aH big aU aJ aG pg i aj, (pg, .cells cur 136 (0, 0)), (pd, .cells (X.map Bv).toArray 5 (0, 0))] := by rw [hq]; exact HM.drewN _
 clear hq
 refine ⟨_, rfl, ?_⟩; clear HF; intro a HF; replace HF := HF.sub ((eF b o n c s fb big ak aj au ah pd i z5) ++ [(670, aB z5), (708, (aS big)), ou pd i aj, (714, (aS big)), lG pd i aj, (677, ay v.ty), (683, bn v.flags), (689, aI v.off), (695, aI v.bU), (701, aI v.bV), (707, aI v.bP), (713, aI v.bY)]) (by kernel_rfl)
 refine dH (HM.told [3] rfl) ?_
 replace HF := HF.sub ((eF b o n c s fb big ak aj au ah pd i z5) ++ [(670, aB z5), (714, (aS big)), lG pd i aj, (677, ay v.ty), (683, bn v.flags), (689, aI v.off), (695, aI v.bU), (701, aI v.bV), (707, aI v.bP), (713, aI v.bY)]) (by kernel_rfl)
 refine bW rfl ?_
 refine bf HF (by kernel_rfl) 88 #[(aS big), .slice (some ⟨pd, ((i * 56) + 48), none⟩) ((aj * 56) - ((i * 56) + 48)) ((aj * 56) - ((i * 56) + 48))] (by kernel_rfl) (fun w => by kernel_rfl) (Calls.mono (qI (HM.get (i := 3) rfl) (by unfold maxLen; omega) big ((i * 56) + 48) ((aj * 56) - ((i * 56) + 48)) (by omega) (by omega) ((v.align : Nat) : Int) (by rw [e7])) ?_)
 rintro _ w9 ⟨rfl, kM, hq⟩
 replace HM : Mm [fb, pg, pd] W1 w9 [oI z5, iG fb dat abi aH big aU aJ aG pg i aj, (pg, .cells cur 136 (0, 0)), (pd, .cells (X.map Bv).toArray 5 (0, 0))] := by rw [hq]; exact HM.drewN _
 clear hq
 refine ⟨_, rfl, ?_⟩; clear HF; intro a HF; replace HF := HF.sub ((eF b o n c s fb big ak aj au ah pd i z5) ++ [(670, aB z5), (714, (aS big)), lG pd i aj, (677, ay v.ty), (683, bn v.flags), (689, aI v.off), (695, aI v.bU), (701, aI v.bV), (707, aI v.bP), (713, aI v.bY), (719, aI v.align)]) (by kernel_rfl)
 refine dH (HM.told [3] rfl) ?_
 replace HF := HF.sub ((eF b o n c s fb big ak aj au ah pd i z5) ++ [(670, aB z5), (677, ay v.ty), (683, bn v.flags), (689, aI v.off), (695, aI v.bU), (701, aI v.bV), (707, aI v.bP), (713, aI v.bY), (719, aI v.align)]) (by kernel_rfl)
 refine bI HF (HM.told [3] rfl) 3 [] ((eF b o n c s fb big ak aj au ah pd i z5) ++ [(670, aB z5), (677, ay v.ty), (683, bn v.flags), (689, aI v.off), (695, aI v.bU), (701, aI v.bV), (707, aI v.bP), (713, aI v.bY), (719, aI v.align), (720, .agg #[ay v.ty, bn v.flags, aI v.off, aI v.bU, aI v.bV, aI v.bP, aI v.bY, aI v.align]), (722, aB z5)]) (by kernel_rfl) ?_
 clear HF; intro a HF
 replace HF := HF.sub ((eF b o n c s fb big ak aj au ah pd i z5) ++ [(720, .agg #[ay v.ty, bn v.flags, aI v.off, aI v.bU, aI v.bV, aI v.bP, aI v.bY, aI v.align]), (722, aB z5)]) (by kernel_rfl)
 refine bW rfl ?_
 refine aT HF HM rfl 1 [[3, 3, 3, 3, 3, 3, 3, 3]] (eF b o n c s fb big ak aj au ah pd i z5) [vM z5 v, iG fb dat abi aH big aU aJ aG pg i aj, (pg, .cells cur 136 (0, 0)), (pd, .cells (X.map Bv).toArray 5 (0, 0))] (by kernel_rfl) ?_
 clear HF HM; intro a w HF HM
 refine dH (HM.told [3] rfl) ?_
 refine iM ?_
 repeat (first | refine aK ?_ | refine aP ?_)
 refine wp_seq ?_
 refine wp_seq (wp_region_lit ?_)
 refine aT HF HM rfl 6 [[3]] ((eF b o n c s fb big ak aj au ah pd i z5) ++ [(728, aF (IntKind.i64.wrap ((v.off : Nat) : Int)))]) [vM z5 v, iG fb dat abi aH big aU aJ aG pg i aj, (pg, .cells cur 136 (0, 0)), (pd, .cells (X.map Bv).toArray 5 (0, 0))] (by kernel_rfl) ?_
 clear HF HM; intro a w HF HM
 rw [show IntKind.i64.wrap ((v.off : Nat) : Int) = ((v.off : Nat) : Int) from IntWalk.i64_in _ (by omega)] at HF
 refine aT HF HM rfl 1 [] ((eF b o n c s fb big ak aj au ah pd i z5) ++ [(729, .bool (decide (((v.off : Nat) : Int) < 0)))]) [vM z5 v, iG fb dat abi aH big aU aJ aG pg i aj, (pg, .cells cur 136 (0, 0)), (pd, .cells (X.map Bv).toArray 5 (0, 0))] (by kernel_rfl) ?_
 clear HF HM; intro a w HF HM
 rw [show decide (((v.off : Nat) : Int) < 0) = false from cZ (by omega)] at HF
 refine aA ?_
 refine aY HF rfl ?_
 refine wp_skip ?_
 repeat (first | refine aK ?_ | refine aP ?_)
 replace HF := HF.sub (eF b o n c s fb big ak aj au ah pd i z5) (by kernel_rfl)
 refine wp_seq ?_
 refine wp_seq (wp_region_lit ?_)
 refine aT HF HM rfl 6 [[3]] ((eF b o n c s fb big ak aj au ah pd i z5) ++ [(748, aF (IntKind.i64.wrap ((v.bP : Nat) : Int)))]) [vM z5 v, iG fb dat abi aH big aU aJ aG pg i aj, (pg, .cells cur 136 (0, 0)), (pd, .cells (X.map Bv).toArray 5 (0, 0))] (by kernel_rfl) ?_
 clear HF HM; intro a w HF HM
 rw [show IntKind.i64.wrap ((v.bP : Nat) : Int) = ((v.bP : Nat) : Int) from IntWalk.i64_in _ (by omega)] at HF
 refine aT HF HM rfl 1 [] ((eF b o n c s fb big ak aj au ah pd i z5) ++ [(749, .bool (decide (((v.bP : Nat) : Int) < 0)))]) [vM z5 v, iG fb dat abi aH big aU aJ aG pg i aj, (pg, .cells cur 136 (0, 0)), (pd, .cells (X.map Bv).toArray 5 (0, 0))] (by kernel_rfl) ?_
 clear HF HM; intro a w HF HM
 rw [show decide (((v.bP : Nat) : Int) < 0) = false from cZ (by omega)] at HF
 refine aA ?_
 refine aY HF rfl ?_
 refine wp_skip ?_
 repeat (first | refine aK ?_ | refine aP ?_)
 replace HF := HF.sub (eF b o n c s fb big ak aj au ah pd i z5) (by kernel_rfl)
 refine Bl HM (by kernel_rfl) (fun w => w.cell? ⟨z5, 2, none⟩ = some (aI v.off) ∧ w.cell? ⟨z5, 5, none⟩ = some (aI v.bP)) [(0, false), (1, false), (2, false), (3, false), (4, false), (5, false), (6, false), (7, false), (8, false), (9, false), (10, false), (11, false), (12, false), (13, false), (14, true), (15, false), (16, false), (17, true)] (by kernel_rfl) ?_
 clear HM; intro w10 HM
 refine jX (LS := []) (fun _ _ => kX _) HF ⟨HM.cellAt (i := 0) (k := 2) rfl rfl, HM.cellAt (i := 0) (k := 5) rfl rfl⟩ 6 [] ((tY b o n c s fb big ak aj au ah pd i z5) ++ [(768, .pointer (some ⟨z5, 2, none⟩))]) (by kernel_rfl) ?_
 clear HF; intro a HF
 refine sV rfl HF ⟨HM.cellAt (i := 0) (k := 2) rfl rfl, HM.cellAt (i := 0) (k := 5) rfl rfl⟩ rfl (aI v.off) (by kernel_rfl) (fun w hw => dV rfl rfl (by kernel_rfl) hw.1) ?_
 clear HF; intro a HF; replace HF := HF.sub ((tY b o n c s fb big ak aj au ah pd i z5) ++ [(768, .pointer (some ⟨z5, 2, none⟩)), (769, aI v.off)]) (by kernel_rfl)
 refine jX (LS := []) (fun _ _ => kX _) HF ⟨HM.cellAt (i := 0) (k := 2) rfl rfl, HM.cellAt (i := 0) (k := 5) rfl rfl⟩ 1 [] ((tY b o n c s fb big ak aj au ah pd i z5) ++ [(770, aF (IntKind.i64.wrap ((v.off : Nat) : Int)))]) (by kernel_rfl) ?_
 clear HF; intro a HF
 rw [show IntKind.i64.wrap ((v.off : Nat) : Int) = ((v.off : Nat) : Int) from IntWalk.i64_in _ (by omega)] at HF
 refine jX (LS := []) (fun _ _ => kX _) HF ⟨HM.cellAt (i := 0) (k := 2) rfl rfl, HM.cellAt (i := 0) (k := 5) rfl rfl⟩ 4 [] ((tY b o n c s fb big ak aj au ah pd i z5) ++ [(770, ay v.off), (774, .pointer (some ⟨z5, 5, none⟩))]) (by kernel_rfl) ?_
 clear HF; intro a HF
 refine sV rfl HF ⟨HM.cellAt (i := 0) (k := 2) rfl rfl, HM.cellAt (i := 0) (k := 5) rfl rfl⟩ rfl (aI v.bP) (by kernel_rfl) (fun w hw => dV rfl rfl (by kernel_rfl) hw.2) ?_
 clear HF; intro a HF; replace HF := HF.sub ((tY b o n c s fb big ak aj au ah pd i z5) ++ [(770, ay v.off), (774, .pointer (some ⟨z5, 5, none⟩)), (775, aI v.bP)]) (by kernel_rfl)
 refine jX (LS := []) (fun _ _ => kX _) HF ⟨HM.cellAt (i := 0) (k := 2) rfl rfl, HM.cellAt (i := 0) (k := 5) rfl rfl⟩ 1 [] ((tY b o n c s fb big ak aj au ah pd i z5) ++ [(770, ay v.off), (776, aF (IntKind.i64.wrap ((v.bP : Nat) : Int)))]) (by kernel_rfl) ?_
 clear HF; intro a HF
 rw [show IntKind.i64.wrap ((v.bP : Nat) : Int) = ((v.bP : Nat) : Int) from IntWalk.i64_in _ (by omega)] at HF
 refine qx rfl ?_
 refine bf HF (by kernel_rfl) 92 #[.iface 178 (.slice (some ⟨b, o, none⟩) n c), ay v.off, ay v.bP] (by kernel_rfl) (fun w => by kernel_rfl) (Calls.mono (rF 178 (.slice (some ⟨b, o, none⟩) n c) ((v.off : Nat) : Int) ((v.bP : Nat) : Int) (by omega) (by omega) (by omega) w10) ?_)
 rintro _ qU ⟨sb, rfl, hb, hge, hgn⟩
 replace HM : Mm [fb, pg, pd] W1 qU [rD sb b o n c v, vM z5 v, iG fb dat abi aH big aU aJ aG pg i aj, (pg, .cells cur 136 (0, 0)), (pd, .cells (X.map Bv).toArray 5 (0, 0))] := HM.push hb hge hgn
 clear hb hge hgn
 refine ⟨_, rfl, ?_⟩; clear HF; intro a HF; replace HF := HF.sub ((tY b o n c s fb big ak aj au ah pd i z5) ++ [(770, ay v.off), (776, ay v.bP), (777, aB sb)]) (by kernel_rfl)
 refine sW ⟨HM.cellAt (i := 1) (k := 2) rfl rfl, HM.cellAt (i := 1) (k := 5) rfl rfl⟩ ?_
 refine jX (LS := []) (fun _ _ => kX _) HF ⟨HM.cellAt (i := 1) (k := 2) rfl rfl, HM.cellAt (i := 1) (k := 5) rfl rfl⟩ 2 [] ((eF b o n c s fb big ak aj au ah pd i z5) ++ [(777, aB sb), (779, .pointer (some ⟨z5, 9, none⟩))]) (by kernel_rfl) ?_
 clear HF; intro a HF
 refine qx rfl ?_
 refine aT HF HM rfl 1 [[3]] (eF b o n c s fb big ak aj au ah pd i z5) [rD sb b o n c v, (z5, .cells #[ay v.ty, bn v.flags, aI v.off, aI v.bU, aI v.bV, aI v.bP, aI v.bY, aI v.align, .nilIface, aB sb] 146 (0, 0)), iG fb dat abi aH big aU aJ aG pg i aj, (pg, .cells cur 136 (0, 0)), (pd, .cells (X.map Bv).toArray 5 (0, 0))] (by kernel_rfl) ?_
 clear HF HM; intro a w HF HM
 refine sW ⟨HM.cellAt (i := 1) (k := 2) rfl rfl, HM.cellAt (i := 1) (k := 5) rfl rfl⟩ ?_
 refine Bo (aK ?_)
 refine bG HF HM rfl [[3], [3]] (eF b o n c s fb big ak aj au ah pd i z5) [rD sb b o n c v, vK z5 v sb, iG fb dat abi aH big aU aJ aG pg i aj, (pg, .cells cur 136 (0, 0)), (pd, .cells (X.map Bv).toArray 5 (0, 0))] (by kernel_rfl) ?_
 clear HF HM; intro a w HF HM
 refine wp_region_lit ?_
 obtain ⟨zk, EY⟩ : ∃ z, w.heap.size = z := ⟨_, rfl⟩
 refine aT HF HM EY 7 [[2]] ((eF b o n c s fb big ak aj au ah pd i z5) ++ [(788, aB fb), (792, aC pg i aj), (794, aC zk 1 1)]) [(zk, .cells #[aB z5] 136 (0, 0)), rD sb b o n c v, vK z5 v sb, iG fb dat abi aH big aU aJ aG pg i aj, (pg, .cells cur 136 (0, 0)), (pd, .cells (X.map Bv).toArray 5 (0, 0))] (by kernel_rfl) ?_
 clear HF HM EY; intro a w HF HM
 refine sD HF HM rfl _ _ 127 rfl rfl 136 (.pointer none) 8 Tryd.underlying127 Ah 4 0 pg _ i aj cur _ _ rfl hcs (by omega) (by unfold maxLen; omega) rfl rfl rfl rfl ?_
 intro a2 w12 cur' hcs' htk bT HF2; clear HF HM; have HM : Mm [fb, pg, pd] W1 w12 [(zk, .cells #[aB z5] 136 (0, 0)), rD sb b o n c v, vK z5 v sb, iG fb dat abi aH big aU aJ aG pg i aj, (pg, .cells cur' 136 (0, 0)), (pd, .cells (X.map Bv).toArray 5 (0, 0))] := bT; have HF := HF2; clear bT HF2
 replace HF := HF.sub ((eF b o n c s fb big ak aj au ah pd i z5) ++ [(788, aB fb), (795, aC pg (i + 1) aj)]) (by kernel_rfl)
 refine aT HF HM rfl 3 [[2]] (eF b o n c s fb big ak aj au ah pd i z5) [(zk, .cells #[aB z5] 136 (0, 0)), rD sb b o n c v, vK z5 v sb, BK fb dat abi aH big aU aJ aG pg i aj, (pg, .cells cur' 136 (0, 0)), (pd, .cells (X.map Bv).toArray 5 (0, 0))] (by kernel_rfl) ?_
 clear HF HM; intro a w HF HM
 refine wpList_nil ?_
 repeat (first | refine aK ?_ | refine aP ?_)
 refine wp_region_lit ?_
 refine aT HF HM rfl 2 [] ((eF b o n c s fb big ak aj au ah pd i z5) ++ [(595, aF (IntKind.i64.wrap (((i : Nat) : Int) + 1)))]) [(zk, .cells #[aB z5] 136 (0, 0)), rD sb b o n c v, vK z5 v sb, BK fb dat abi aH big aU aJ aG pg i aj, (pg, .cells cur' 136 (0, 0)), (pd, .cells (X.map Bv).toArray 5 (0, 0))] (by kernel_rfl) ?_
 clear HF HM; intro a w HF HM
 rw [show IntKind.i64.wrap (((i : Nat) : Int) + 1) = (((i + 1) : Nat) : Int) from (IntWalk.i64_in _ (by omega)).trans (by omega)] at HF
 refine aT HF HM rfl 1 [] ((qy b o n c s fb big ak aj au ah pd) ++ [(39, aI (i * 56)), (40, aB z5), (38, ay (i + 1))]) [(zk, .cells #[aB z5] 136 (0, 0)), rD sb b o n c v, vK z5 v sb, BK fb dat abi aH big aU aJ aG pg i aj, (pg, .cells cur' 136 (0, 0)), (pd, .cells (X.map Bv).toArray 5 (0, 0))] (by kernel_rfl) ?_
 clear HF HM; intro a w HF HM
 refine wpList_nil ?_
 repeat (first | refine aK ?_ | refine aP ?_)
 replace HF := HF.sub ((qy b o n c s fb big ak aj au ah pd) ++ [(38, ay (i + 1))]) (by kernel_rfl)
 exact K a w z5 sb cur' hcs' htk HF (HM.sub (List.Sublist.cons _ (List.Sublist.refl _)))

end Go.Proofs.YtdgehpocmfjbiaaDoor
namespace Go.Proofs.YtdgehpocmfjbiaaDoor
open Go.RowKit

theorem dD {w : World} {p g : Nat} {cs cs' : Array Value} {t t' : TypeId} {f f' : Nat × Nat} (h : w.heap[p]? = some (.cells cs t f)) (h' : w.heap[g]? = some (.cells cs' t' f')) (hne : t ≠ t') : p ≠ g := fun e => by
 subst e
 rw [h] at h'
 injection h' with h'
 injection h' with _ h2 _
 exact hne h2
theorem Mm.after {G G' : List Nat} {w0 w w' : World} {L L' : List (Nat × Obj)} (h : Mm G w0 w L) (hk : Keep G' w w') (hg : ∀ k ∈ G', w0.heap.size ≤ k ∨ k ∈ G) (hL : L'.map (·.1) = L.map (·.1)) (ht : ∀ p ∈ L', w'.heap[p.1]? = some p.2) : Mm G w0 w' L' :=
 ⟨h.1.step hk hg, fun p hp => ⟨ht p hp, by
  have : p.1 ∈ L.map (·.1) := hL ▸ List.mem_map_of_mem hp
  obtain ⟨q, hq, e⟩ := List.mem_map.1 this
  rw [← e]; exact (h.2.1 q hq).2⟩, hL ▸ h.2.2⟩
/-- the first k program headers, in memory -/
def nD (b o n c : Nat) (z : Nat) (w : World) (sg : Nat → nN) (k : Nat) (cur : Array Value) : Prop :=
 ∀ j, j < k → ∃ pb sb, cur[j]? = some (aB pb) ∧ z ≤ pb ∧ z ≤ sb ∧ w.heap[pb]? = some (.cells #[ay (sg j).ty, bn (sg j).flags, aI (sg j).off, aI (sg j).bU, aI (sg j).bV, aI (sg j).bP, aI (sg j).bY, aI (sg j).align, .iface 144 (aB sb), aB sb] 146 (0, 0)) ∧ w.heap[sb]? = some (.cells #[.iface 178 (.slice (some ⟨b, o, none⟩) n c), ay (sg j).off, ay (sg j).off, .int .i64 ((((sg j).bP : Nat) : Int) + (((sg j).off : Nat) : Int)), ay (sg j).bP] 246 (0, 0))
theorem nD.keep {b o n c z : Nat} {w w' : World} {sg : Nat → nN} {k : Nat} {cur : Array Value} {G : List Nat} (h : nD b o n c z w sg k cur) (hk : Keep G w w') (hG : ∀ g ∈ G, ∃ cs t f, w.heap[g]? = some (.cells cs t f) ∧ t ≠ 146 ∧ t ≠ 246) : nD b o n c z w' sg k cur := fun j hj => by
 obtain ⟨pb, sb, h1, h2, h3, h4, h5⟩ := h j hj
 refine ⟨pb, sb, h1, h2, h3, (hk.block pb (kH h4) fun hm => ?_).trans h4, (hk.block sb (kH h5) fun hm => ?_).trans h5⟩
 ·obtain ⟨cs, t, f, e, n1, n2⟩ := hG pb hm
  exact dD h4 e (Ne.symm n1) rfl
 ·obtain ⟨cs, t, f, e, n1, n2⟩ := hG sb hm
  exact dD h5 e (Ne.symm n2) rfl
theorem nD.next {b o n c z : Nat} {w : World} {sg : Nat → nN} {k : Nat} {cur cur' : Array Value} {pb sb : Nat} (h : nD b o n c z w sg k cur) (hs : k < cur.size) (ht : cur'.toList.take (k + 1) = cur.toList.take k ++ [aB pb]) (h2 : z ≤ pb) (h3 : z ≤ sb)
  (h4 : w.heap[pb]? = some (.cells #[ay (sg k).ty, bn (sg k).flags, aI (sg k).off, aI (sg k).bU, aI (sg k).bV, aI (sg k).bP, aI (sg k).bY, aI (sg k).align, .iface 144 (aB sb), aB sb] 146 (0, 0))) (h5 : w.heap[sb]? = some (.cells #[.iface 178 (.slice (some ⟨b, o, none⟩) n c), ay (sg k).off, ay (sg k).off, .int .i64 ((((sg k).bP : Nat) : Int) + (((sg k).off : Nat) : Int)), ay (sg k).bP] 246 (0, 0))) : nD b o n c z w sg (k + 1) cur' := fun j hj => by
 have hget : cur'[j]? = (cur'.toList.take (k + 1))[j]? := by rw [List.getElem?_take, if_pos hj]; simp
 rw [ht] at hget
 have hlen : (cur.toList.take k).length = k := by simp; omega
 rcases Nat.lt_or_ge j k with hlt | hge
 ·obtain ⟨pb', sb', g1, g2⟩ := h j hlt
  refine ⟨pb', sb', ?_, g2⟩
  rw [hget, List.getElem?_append_left (by omega), List.getElem?_take, if_pos hlt]
  simpa using g1
 ·obtain rfl : j = k := by omega
  exact ⟨pb, sb, by rw [hget, List.getElem?_append_right (by omega), hlen]; simp, h2, h3, h4, h5⟩

theorem RG (l : List UInt8) (b o n c : Nat) (hl : n = l.length) (hnc : n ≤ c) (big : Bool) (abi aH aU aJ aG ak aj au ah : Nat) (dat : Int) (b1 : aU < 65536) (b2 : aJ < 65536) (b3 : aG ≤ 18446744073709551615) (b4 : ak < 4611686018427387904) (b5 : au < 4611686018427387904) (b6 : aj < 200) (b7 : ah < 200) (X : List UInt8) (pV : X.length = (aj * 32)) (sg : Nat → nN) (hv : ∀ i, i < aj → yA (X.drop (i * 32)) false big (sg i).ty (sg i).flags (sg i).bU (sg i).bV (sg i).bY (sg i).align (sg i).bP (sg i).off)
  (v1 : ∀ i, i < aj → (sg i).ty < 4294967296) (v2 : ∀ i, i < aj → (sg i).off + (sg i).bP < 4611686018427387904) (v3 : ∀ i, i < aj → (sg i).bU ≤ 18446744073709551615) (v4 : ∀ i, i < aj → (sg i).bV ≤ 18446744073709551615) (v5 : ∀ i, i < aj → (sg i).bY ≤ 18446744073709551615) (v6 : ∀ i, i < aj → (sg i).align ≤ 18446744073709551615) (w0 : World) (s fb pg pd : Nat) {KK : Act → World → Prop} {QQ : Exit → Act → World → Prop} {KR : Act → World → Prop}
  (K : ∀ a w cur, cur.size = aj → nD b o n c w0.heap.size w sg aj cur → Fr 1287 a [(0, .iface 178 (.slice (some ⟨b, o, none⟩) n c)), (4, aB s), (8, aB fb), (9, (aS big)), (10, ay ak), (11, .int .i64 32), (12, ay aj), (13, ay au), (14, .int .i64 40), (15, ay ah), (16, ay (ah - 1)), (26, .int .i64 40), (36, aC pd (aj * 32) (aj * 32))] → Mm [] w0 w [(pd, .cells (X.map Bv).toArray 5 (0, 0)), (pg, .cells cur 136 (0, 0)), (fb, .cells #[.int .u8 1, .int .u8 dat, .int .u8 1, aX abi, aX aH, (aS big), bF aU, bF aJ, aI aG, .slice none 0 0, aC pg aj aj, .slice none 0 0, .slice none 0 0, .slice none 0 0] 131 (0, 0)), (s, .cells #[.iface 178 (.slice (some ⟨b, o, none⟩) n c), .int .i64 0, .int .i64 0, .int .i64 9223372036854775807, .int .i64 9223372036854775807] 246 (0, 0))] → KK a w) (a : Act) (w : World) (cur : Array Value) (hcs : cur.size = aj) (hP : nD b o n c w0.heap.size w sg aj cur) (HF : Fr 1287 a [(0, .iface 178 (.slice (some ⟨b, o, none⟩) n c)), (4, aB s), (8, aB fb), (9, (aS big)), (10, ay ak), (11, .int .i64 32), (12, ay aj), (13, ay au), (14, .int .i64 40), (15, ay ah), (16, ay (ah - 1)), (26, .int .i64 40), (36, aC pd (aj * 32) (aj * 32)), (38, ay aj)]) (HM : Mm [] w0 w [(pd, .cells (X.map Bv).toArray 5 (0, 0)), (pg, .cells cur 136 (0, 0)), (fb, .cells #[.int .u8 1, .int .u8 dat, .int .u8 1, aX abi, aX aH, (aS big), bF aU, bF aJ, aI aG, .slice none 0 0, aC pg aj aj, .slice none 0 0, .slice none 0 0, .slice none 0 0] 131 (0, 0)), (s, .cells #[.iface 178 (.slice (some ⟨b, o, none⟩) n c), .int .i64 0, .int .i64 0, .int .i64 9223372036854775807, .int .i64 9223372036854775807] 246 (0, 0))]) :
  (pR (spine Tryd.f78 35)).wp Tryd.prog (Exit.then KR (Exit.inBlock 5 (Exit.then KK QQ))) a w := by
 refine wp_seq ?_
 refine wp_seq (wp_region_lit ?_)
 refine wp_pure HF HM rfl 3 [] [(0, .iface 178 (.slice (some ⟨b, o, none⟩) n c)), (4, aB s), (8, aB fb), (9, (aS big)), (10, ay ak), (11, .int .i64 32), (12, ay aj), (13, ay au), (14, .int .i64 40), (15, ay ah), (16, ay (ah - 1)), (26, .int .i64 40), (36, aC pd (aj * 32) (aj * 32)), (38, ay aj), (593, .bool (decide (((aj : Nat) : Int) < ((aj : Nat) : Int))))] (by kernel_rfl) ?_
 clear HF; intro a HF
 rw [show decide (((aj : Nat) : Int) < ((aj : Nat) : Int)) = false from cZ (by omega)] at HF
 refine aA ?_
 refine aY HF rfl ?_
 replace HF := HF.sub [(0, .iface 178 (.slice (some ⟨b, o, none⟩) n c)), (4, aB s), (8, aB fb), (9, (aS big)), (10, ay ak), (11, .int .i64 32), (12, ay aj), (13, ay au), (14, .int .i64 40), (15, ay ah), (16, ay (ah - 1)), (26, .int .i64 40), (36, aC pd (aj * 32) (aj * 32)), (38, ay aj)] (by kernel_rfl)
 refine wp_exit (eH (eH (gZ (aK ?_))))
 replace HF := HF.sub [(0, .iface 178 (.slice (some ⟨b, o, none⟩) n c)), (4, aB s), (8, aB fb), (9, (aS big)), (10, ay ak), (11, .int .i64 32), (12, ay aj), (13, ay au), (14, .int .i64 40), (15, ay ah), (16, ay (ah - 1)), (26, .int .i64 40), (36, aC pd (aj * 32) (aj * 32))] (by kernel_rfl)
 have := HM.keep
 exact K a _ cur hcs hP HF HM
theorem Na (l : List UInt8) (b o n c : Nat) (hl : n = l.length) (hnc : n ≤ c) (big : Bool) (abi aH aU aJ aG ak aj au ah : Nat) (dat : Int) (b1 : aU < 65536) (b2 : aJ < 65536) (b3 : aG ≤ 18446744073709551615) (b4 : ak < 4611686018427387904) (b5 : au < 4611686018427387904) (b6 : aj < 200) (b7 : ah < 200) (X : List UInt8) (pV : X.length = (aj * 32)) (sg : Nat → nN) (hv : ∀ i, i < aj → yA (X.drop (i * 32)) false big (sg i).ty (sg i).flags (sg i).bU (sg i).bV (sg i).bY (sg i).align (sg i).bP (sg i).off)
  (v1 : ∀ i, i < aj → (sg i).ty < 4294967296) (v2 : ∀ i, i < aj → (sg i).off + (sg i).bP < 4611686018427387904) (v3 : ∀ i, i < aj → (sg i).bU ≤ 18446744073709551615) (v4 : ∀ i, i < aj → (sg i).bV ≤ 18446744073709551615) (v5 : ∀ i, i < aj → (sg i).bY ≤ 18446744073709551615) (v6 : ∀ i, i < aj → (sg i).align ≤ 18446744073709551615) (w0 : World) (s fb pg pd : Nat) {KK : Act → World → Prop} {QQ : Exit → Act → World → Prop}
  (K : ∀ a w cur, cur.size = aj → nD b o n c w0.heap.size w sg aj cur → Fr 1287 a [(0, .iface 178 (.slice (some ⟨b, o, none⟩) n c)), (4, aB s), (8, aB fb), (9, (aS big)), (10, ay ak), (11, aF 32), (12, ay aj), (13, ay au), (14, aF 40), (15, ay ah), (16, ay (ah - 1)), (26, aF 40), (36, aC pd (aj * 32) (aj * 32))] → Mm [] w0 w [(pd, .cells (X.map Bv).toArray 5 (0, 0)), (pg, .cells cur 136 (0, 0)), (fb, .cells #[aQ 1, .int .u8 dat, aQ 1, aX abi, aX aH, (aS big), bF aU, bF aJ, aI aG, aN, aC pg aj aj, aN, aN, aN] 131 (0, 0)), (s, .cells #[.iface 178 (.slice (some ⟨b, o, none⟩) n c), aF 0, aF 0, aF 9223372036854775807, aF 9223372036854775807] 246 (0, 0))] → KK a w) :
  ∀ (r i : Nat), i + r = aj → ∀ (a : Act) (w : World) (cur : Array Value), cur.size = aj → nD b o n c w0.heap.size w sg i cur → Fr 1287 a [(0, .iface 178 (.slice (some ⟨b, o, none⟩) n c)), (4, aB s), (8, aB fb), (9, (aS big)), (10, ay ak), (11, aF 32), (12, ay aj), (13, ay au), (14, aF 40), (15, ay ah), (16, ay (ah - 1)), (26, aF 40), (36, aC pd (aj * 32) (aj * 32)), (38, ay i)] → Mm [] w0 w [(pd, .cells (X.map Bv).toArray 5 (0, 0)), (pg, .cells cur 136 (0, 0)), (fb, .cells #[aQ 1, .int .u8 dat, aQ 1, aX abi, aX aH, (aS big), bF aU, bF aJ, aI aG, aN, aC pg i aj, aN, aN, aN] 131 (0, 0)), (s, .cells #[.iface 178 (.slice (some ⟨b, o, none⟩) n c), aF 0, aF 0, aF 9223372036854775807, aF 9223372036854775807] 246 (0, 0))] →
  Code.rounds Tryd.prog (pR (spine Tryd.f78 35)) (Exit.inBlock 5 (Exit.then KK QQ)) (r + 1) a w
 | 0, i, hr, a, w, cur, hcs, hP, HF, HM => by
  obtain rfl : i = aj := by omega
  rw [rounds_succ]
  exact RG l b o n c hl hnc big abi aH aU aJ aG ak i au ah dat b1 b2 b3 b4 b5 b6 b7 X pV sg hv v1 v2 v3 v4 v5 v6 w0 s fb pg pd K a w cur hcs hP HF HM
 | r + 1, i, hr, a, w, cur, hcs, hP, HF, HM => by
  have hi : i < aj := by omega
  rw [rounds_succ]
  refine SI l b o n c hl hnc big abi aH aU aJ aG ak aj au ah dat b1 b2 b3 b4 b5 b6 b7 X pV i hi (sg i) (hv i hi) (v1 i hi) (v2 i hi) (v3 i hi) (v4 i hi) (v5 i hi) (v6 i hi) a w s fb pg pd cur hcs (HM.get (i := 2) rfl) (HM.get (i := 1) rfl) (HM.get (i := 0) rfl) (HM.ne (i := 2) (j := 1) rfl rfl (by decide)) (HM.ne (i := 2) (j := 0) rfl rfl (by decide)) (HM.ne (i := 1) (j := 0) rfl rfl (by decide)) HF ?_
  intro a' w' pb sb cur' hcs' htk FY jh
  have hk := jh.keep
  have hn : ∀ g ∈ [fb, pg, pd], g < w.heap.size := by
   intro g hg
   simp only [List.mem_cons, List.not_mem_nil, or_false] at hg
   rcases hg with rfl | rfl | rfl
   ·exact HM.lt (i := 2) rfl
   ·exact HM.lt (i := 1) rfl
   ·exact HM.lt (i := 0) rfl
  have hpb : w.heap.size ≤ pb := (jh.own (i := 1) rfl).elim id fun hm => absurd (jh.get (i := 1) rfl) (by
   intro e
   simp only [List.mem_cons, List.not_mem_nil, or_false] at hm
   rcases hm with rfl | rfl | rfl
   ·exact dD e (jh.get (i := 2) rfl) (by decide) rfl
   ·exact dD e (jh.get (i := 3) rfl) (by decide) rfl
   ·exact dD e (jh.get (i := 4) rfl) (by decide) rfl)
  have hsb : w.heap.size ≤ sb := (jh.own (i := 0) rfl).elim id fun hm => absurd (jh.get (i := 0) rfl) (by
   intro e
   simp only [List.mem_cons, List.not_mem_nil, or_false] at hm
   rcases hm with rfl | rfl | rfl
   ·exact dD e (jh.get (i := 2) rfl) (by decide) rfl
   ·exact dD e (jh.get (i := 3) rfl) (by decide) rfl
   ·exact dD e (jh.get (i := 4) rfl) (by decide) rfl)
  have hsz := HM.size
  have hP2 : nD b o n c w0.heap.size w' sg i cur := hP.keep hk (by
   intro g hg
   simp only [List.mem_cons, List.not_mem_nil, or_false] at hg
   rcases hg with rfl | rfl | rfl
   ·exact ⟨_, _, _, HM.get (i := 2) rfl, by decide, by decide⟩
   ·exact ⟨_, _, _, HM.get (i := 1) rfl, by decide, by decide⟩
   ·exact ⟨_, _, _, HM.get (i := 0) rfl, by decide, by decide⟩)
  have hP3 := hP2.next (by omega) htk (by omega) (by omega) (jh.get (i := 1) rfl) (jh.get (i := 0) rfl)
  have bT : Mm [] w0 w' [(pd, .cells (X.map Bv).toArray 5 (0, 0)), (pg, .cells cur' 136 (0, 0)), (fb, .cells #[aQ 1, .int .u8 dat, aQ 1, aX abi, aX aH, (aS big), bF aU, bF aJ, aI aG, aN, aC pg (i + 1) aj, aN, aN, aN] 131 (0, 0)), (s, .cells #[.iface 178 (.slice (some ⟨b, o, none⟩) n c), aF 0, aF 0, aF 9223372036854775807, aF 9223372036854775807] 246 (0, 0))] := HM.after hk (by
   intro g hg
   simp only [List.mem_cons, List.not_mem_nil, or_false] at hg
   rcases hg with rfl | rfl | rfl
   ·exact HM.own (i := 2) rfl
   ·exact HM.own (i := 1) rfl
   ·exact HM.own (i := 0) rfl) rfl (by
   intro p hp
   simp only [List.mem_cons, List.not_mem_nil, or_false] at hp
   rcases hp with rfl | rfl | rfl | rfl
   ·exact jh.get (i := 4) rfl
   ·exact jh.get (i := 3) rfl
   ·exact jh.get (i := 2) rfl
   ·refine (hk.block s (HM.lt (i := 3) rfl) ?_).trans (HM.get (i := 3) rfl)
    simp only [List.mem_cons, List.not_mem_nil, or_false, not_or]
    exact ⟨HM.ne (i := 3) (j := 2) rfl rfl (by decide), HM.ne (i := 3) (j := 1) rfl rfl (by decide), HM.ne (i := 3) (j := 0) rfl rfl (by decide)⟩)
  exact Na l b o n c hl hnc big abi aH aU aJ aG ak aj au ah dat b1 b2 b3 b4 b5 b6 b7 X pV sg hv v1 v2 v3 v4 v5 v6 w0 s fb pg pd K r (i + 1) (by omega) a' w' cur' hcs' hP3 FY bT

theorem Po (l : List UInt8) (b o n c : Nat) (hl : n = l.length) (hnc : n ≤ c) (big : Bool) (abi aH aU aJ aG ak aj au ah : Nat) (dat : Int) (b1 : aU < 65536) (b2 : aJ < 65536) (b3 : aG ≤ 18446744073709551615) (b4 : ak < 4611686018427387904) (b5 : au < 4611686018427387904) (b6 : aj < 200) (b7 : ah < 200) (X : List UInt8) (pV : X.length = (aj * 32)) (sg : Nat → nN) (hv : ∀ i, i < aj → yA (X.drop (i * 32)) false big (sg i).ty (sg i).flags (sg i).bU (sg i).bV (sg i).bY (sg i).align (sg i).bP (sg i).off)
  (v1 : ∀ i, i < aj → (sg i).ty < 4294967296) (v2 : ∀ i, i < aj → (sg i).off + (sg i).bP < 4611686018427387904) (v3 : ∀ i, i < aj → (sg i).bU ≤ 18446744073709551615) (v4 : ∀ i, i < aj → (sg i).bV ≤ 18446744073709551615) (v5 : ∀ i, i < aj → (sg i).bY ≤ 18446744073709551615) (v6 : ∀ i, i < aj → (sg i).align ≤ 18446744073709551615) (w0 : World) (s fb pg pd : Nat) {Q : Exit → Act → World → Prop} (a : Act) (w : World) (cur : Array Value) (hcs : cur.size = aj) (HF : Fr 1287 a [(0, .iface 178 (.slice (some ⟨b, o, none⟩) n c)), (4, aB s), (8, aB fb), (9, (aS big)), (10, ay ak), (11, .int .i64 32), (12, ay aj), (13, ay au), (14, .int .i64 40), (15, ay ah), (16, ay (ah - 1)), (26, .int .i64 40), (36, aC pd (aj * 32) (aj * 32))]) (HM : Mm [] w0 w [(pd, .cells (X.map Bv).toArray 5 (0, 0)), (pg, .cells cur 136 (0, 0)), (fb, .cells #[.int .u8 1, .int .u8 dat, .int .u8 1, aX abi, aX aH, (aS big), bF aU, bF aJ, aI aG, .slice none 0 0, aC pg 0 aj, .slice none 0 0, .slice none 0 0, .slice none 0 0] 131 (0, 0)), (s, .cells #[.iface 178 (.slice (some ⟨b, o, none⟩) n c), .int .i64 0, .int .i64 0, .int .i64 9223372036854775807, .int .i64 9223372036854775807] 246 (0, 0))])
  (K : ∀ a w cur, cur.size = aj → nD b o n c w0.heap.size w sg aj cur → Fr 1287 a [(0, .iface 178 (.slice (some ⟨b, o, none⟩) n c)), (4, aB s), (8, aB fb), (9, (aS big)), (10, ay ak), (11, .int .i64 32), (12, ay aj), (13, ay au), (14, .int .i64 40), (15, ay ah), (16, ay (ah - 1)), (26, .int .i64 40), (36, aC pd (aj * 32) (aj * 32))] → Mm [] w0 w [(pd, .cells (X.map Bv).toArray 5 (0, 0)), (pg, .cells cur 136 (0, 0)), (fb, .cells #[.int .u8 1, .int .u8 dat, .int .u8 1, aX abi, aX aH, (aS big), bF aU, bF aJ, aI aG, .slice none 0 0, aC pg aj aj, .slice none 0 0, .slice none 0 0, .slice none 0 0] 131 (0, 0)), (s, .cells #[.iface 178 (.slice (some ⟨b, o, none⟩) n c), .int .i64 0, .int .i64 0, .int .i64 9223372036854775807, .int .i64 9223372036854775807] 246 (0, 0))] → (spine Tryd.f78 36).wp Tryd.prog Q a w) : (spine Tryd.f78 35).wp Tryd.prog Q a w := by
 refine wp_seq ?_
 refine bG HF HM rfl [] [(0, .iface 178 (.slice (some ⟨b, o, none⟩) n c)), (4, aB s), (8, aB fb), (9, (aS big)), (10, ay ak), (11, .int .i64 32), (12, ay aj), (13, ay au), (14, .int .i64 40), (15, ay ah), (16, ay (ah - 1)), (26, .int .i64 40), (36, aC pd (aj * 32) (aj * 32)), (38, ay 0)] [(pd, .cells (X.map Bv).toArray 5 (0, 0)), (pg, .cells cur 136 (0, 0)), (fb, .cells #[.int .u8 1, .int .u8 dat, .int .u8 1, aX abi, aX aH, (aS big), bF aU, bF aJ, aI aG, .slice none 0 0, aC pg 0 aj, .slice none 0 0, .slice none 0 0, .slice none 0 0] 131 (0, 0)), (s, .cells #[.iface 178 (.slice (some ⟨b, o, none⟩) n c), .int .i64 0, .int .i64 0, .int .i64 9223372036854775807, .int .i64 9223372036854775807] 246 (0, 0))] (by kernel_rfl) ?_
 clear HF HM; intro a w HF HM
 refine wp_block (wp_loop_rounds (aj + 1) ?_)
 exact Na l b o n c hl hnc big abi aH aU aJ aG ak aj au ah dat b1 b2 b3 b4 b5 b6 b7 X pV sg hv v1 v2 v3 v4 v5 v6 w0 s fb pg pd K aj 0 (by omega) a w cur hcs (fun j hj => absurd hj (Nat.not_lt_zero j)) HF HM

theorem RF (l : List UInt8) (b o n c : Nat) (hl : n = l.length) (hnc : n ≤ c) (big : Bool) (abi aH aU aJ aG ak aj au ah : Nat) (dat : Int) (b1 : aU < 65536) (b2 : aJ < 65536) (b3 : aG ≤ 18446744073709551615) (b4 : ak < 4611686018427387904) (b5 : au < 4611686018427387904) (b6 : aj < 200) (b7 : ah < 200) (X : List UInt8) (pV : X.length = (aj * 56)) (sg : Nat → nN) (hv : ∀ i, i < aj → yA (X.drop (i * 56)) true big (sg i).ty (sg i).flags (sg i).bU (sg i).bV (sg i).bY (sg i).align (sg i).bP (sg i).off)
  (v1 : ∀ i, i < aj → (sg i).ty < 4294967296) (v2 : ∀ i, i < aj → (sg i).off + (sg i).bP < 4611686018427387904) (v3 : ∀ i, i < aj → (sg i).bU ≤ 18446744073709551615) (v4 : ∀ i, i < aj → (sg i).bV ≤ 18446744073709551615) (v5 : ∀ i, i < aj → (sg i).bY ≤ 18446744073709551615) (v6 : ∀ i, i < aj → (sg i).align ≤ 18446744073709551615) (w0 : World) (s fb pg pd : Nat) {KK : Act → World → Prop} {QQ : Exit → Act → World → Prop} {KR : Act → World → Prop}
  (K : ∀ a w cur, cur.size = aj → nD b o n c w0.heap.size w sg aj cur → Fr 1287 a [(0, .iface 178 (.slice (some ⟨b, o, none⟩) n c)), (4, aB s), (8, aB fb), (9, (aS big)), (10, ay ak), (11, .int .i64 56), (12, ay aj), (13, ay au), (14, .int .i64 64), (15, ay ah), (16, ay (ah - 1)), (26, .int .i64 64), (36, aC pd (aj * 56) (aj * 56))] → Mm [] w0 w [(pd, .cells (X.map Bv).toArray 5 (0, 0)), (pg, .cells cur 136 (0, 0)), (fb, .cells #[.int .u8 2, .int .u8 dat, .int .u8 1, aX abi, aX aH, (aS big), bF aU, bF aJ, aI aG, .slice none 0 0, aC pg aj aj, .slice none 0 0, .slice none 0 0, .slice none 0 0] 131 (0, 0)), (s, .cells #[.iface 178 (.slice (some ⟨b, o, none⟩) n c), .int .i64 0, .int .i64 0, .int .i64 9223372036854775807, .int .i64 9223372036854775807] 246 (0, 0))] → KK a w) (a : Act) (w : World) (cur : Array Value) (hcs : cur.size = aj) (hP : nD b o n c w0.heap.size w sg aj cur) (HF : Fr 1287 a [(0, .iface 178 (.slice (some ⟨b, o, none⟩) n c)), (4, aB s), (8, aB fb), (9, (aS big)), (10, ay ak), (11, .int .i64 56), (12, ay aj), (13, ay au), (14, .int .i64 64), (15, ay ah), (16, ay (ah - 1)), (26, .int .i64 64), (36, aC pd (aj * 56) (aj * 56)), (38, ay aj)]) (HM : Mm [] w0 w [(pd, .cells (X.map Bv).toArray 5 (0, 0)), (pg, .cells cur 136 (0, 0)), (fb, .cells #[.int .u8 2, .int .u8 dat, .int .u8 1, aX abi, aX aH, (aS big), bF aU, bF aJ, aI aG, .slice none 0 0, aC pg aj aj, .slice none 0 0, .slice none 0 0, .slice none 0 0] 131 (0, 0)), (s, .cells #[.iface 178 (.slice (some ⟨b, o, none⟩) n c), .int .i64 0, .int .i64 0, .int .i64 9223372036854775807, .int .i64 9223372036854775807] 246 (0, 0))]) :
  (pR (spine Tryd.f78 35)).wp Tryd.prog (Exit.then KR (Exit.inBlock 5 (Exit.then KK QQ))) a w := by
 refine wp_seq ?_
 refine wp_seq (wp_region_lit ?_)
 refine wp_pure HF HM rfl 3 [] [(0, .iface 178 (.slice (some ⟨b, o, none⟩) n c)), (4, aB s), (8, aB fb), (9, (aS big)), (10, ay ak), (11, .int .i64 56), (12, ay aj), (13, ay au), (14, .int .i64 64), (15, ay ah), (16, ay (ah - 1)), (26, .int .i64 64), (36, aC pd (aj * 56) (aj * 56)), (38, ay aj), (593, .bool (decide (((aj : Nat) : Int) < ((aj : Nat) : Int))))] (by kernel_rfl) ?_
 clear HF; intro a HF
 rw [show decide (((aj : Nat) : Int) < ((aj : Nat) : Int)) = false from cZ (by omega)] at HF
 refine aA ?_
 refine aY HF rfl ?_
 replace HF := HF.sub [(0, .iface 178 (.slice (some ⟨b, o, none⟩) n c)), (4, aB s), (8, aB fb), (9, (aS big)), (10, ay ak), (11, .int .i64 56), (12, ay aj), (13, ay au), (14, .int .i64 64), (15, ay ah), (16, ay (ah - 1)), (26, .int .i64 64), (36, aC pd (aj * 56) (aj * 56)), (38, ay aj)] (by kernel_rfl)
 refine wp_exit (eH (eH (gZ (aK ?_))))
 replace HF := HF.sub [(0, .iface 178 (.slice (some ⟨b, o, none⟩) n c)), (4, aB s), (8, aB fb), (9, (aS big)), (10, ay ak), (11, .int .i64 56), (12, ay aj), (13, ay au), (14, .int .i64 64), (15, ay ah), (16, ay (ah - 1)), (26, .int .i64 64), (36, aC pd (aj * 56) (aj * 56))] (by kernel_rfl)
 have := HM.keep
 exact K a _ cur hcs hP HF HM
theorem M_ (l : List UInt8) (b o n c : Nat) (hl : n = l.length) (hnc : n ≤ c) (big : Bool) (abi aH aU aJ aG ak aj au ah : Nat) (dat : Int) (b1 : aU < 65536) (b2 : aJ < 65536) (b3 : aG ≤ 18446744073709551615) (b4 : ak < 4611686018427387904) (b5 : au < 4611686018427387904) (b6 : aj < 200) (b7 : ah < 200) (X : List UInt8) (pV : X.length = (aj * 56)) (sg : Nat → nN) (hv : ∀ i, i < aj → yA (X.drop (i * 56)) true big (sg i).ty (sg i).flags (sg i).bU (sg i).bV (sg i).bY (sg i).align (sg i).bP (sg i).off)
  (v1 : ∀ i, i < aj → (sg i).ty < 4294967296) (v2 : ∀ i, i < aj → (sg i).off + (sg i).bP < 4611686018427387904) (v3 : ∀ i, i < aj → (sg i).bU ≤ 18446744073709551615) (v4 : ∀ i, i < aj → (sg i).bV ≤ 18446744073709551615) (v5 : ∀ i, i < aj → (sg i).bY ≤ 18446744073709551615) (v6 : ∀ i, i < aj → (sg i).align ≤ 18446744073709551615) (w0 : World) (s fb pg pd : Nat) {KK : Act → World → Prop} {QQ : Exit → Act → World → Prop}
  (K : ∀ a w cur, cur.size = aj → nD b o n c w0.heap.size w sg aj cur → Fr 1287 a [(0, .iface 178 (.slice (some ⟨b, o, none⟩) n c)), (4, aB s), (8, aB fb), (9, (aS big)), (10, ay ak), (11, aF 56), (12, ay aj), (13, ay au), (14, aF 64), (15, ay ah), (16, ay (ah - 1)), (26, aF 64), (36, aC pd (aj * 56) (aj * 56))] → Mm [] w0 w [(pd, .cells (X.map Bv).toArray 5 (0, 0)), (pg, .cells cur 136 (0, 0)), (fb, .cells #[aQ 2, .int .u8 dat, aQ 1, aX abi, aX aH, (aS big), bF aU, bF aJ, aI aG, aN, aC pg aj aj, aN, aN, aN] 131 (0, 0)), (s, .cells #[.iface 178 (.slice (some ⟨b, o, none⟩) n c), aF 0, aF 0, aF 9223372036854775807, aF 9223372036854775807] 246 (0, 0))] → KK a w) :
  ∀ (r i : Nat), i + r = aj → ∀ (a : Act) (w : World) (cur : Array Value), cur.size = aj → nD b o n c w0.heap.size w sg i cur → Fr 1287 a [(0, .iface 178 (.slice (some ⟨b, o, none⟩) n c)), (4, aB s), (8, aB fb), (9, (aS big)), (10, ay ak), (11, aF 56), (12, ay aj), (13, ay au), (14, aF 64), (15, ay ah), (16, ay (ah - 1)), (26, aF 64), (36, aC pd (aj * 56) (aj * 56)), (38, ay i)] → Mm [] w0 w [(pd, .cells (X.map Bv).toArray 5 (0, 0)), (pg, .cells cur 136 (0, 0)), (fb, .cells #[aQ 2, .int .u8 dat, aQ 1, aX abi, aX aH, (aS big), bF aU, bF aJ, aI aG, aN, aC pg i aj, aN, aN, aN] 131 (0, 0)), (s, .cells #[.iface 178 (.slice (some ⟨b, o, none⟩) n c), aF 0, aF 0, aF 9223372036854775807, aF 9223372036854775807] 246 (0, 0))] →
  Code.rounds Tryd.prog (pR (spine Tryd.f78 35)) (Exit.inBlock 5 (Exit.then KK QQ)) (r + 1) a w
 | 0, i, hr, a, w, cur, hcs, hP, HF, HM => by
  obtain rfl : i = aj := by omega
  rw [rounds_succ]
  exact RF l b o n c hl hnc big abi aH aU aJ aG ak i au ah dat b1 b2 b3 b4 b5 b6 b7 X pV sg hv v1 v2 v3 v4 v5 v6 w0 s fb pg pd K a w cur hcs hP HF HM
 | r + 1, i, hr, a, w, cur, hcs, hP, HF, HM => by
  have hi : i < aj := by omega
  rw [rounds_succ]
  refine SH l b o n c hl hnc big abi aH aU aJ aG ak aj au ah dat b1 b2 b3 b4 b5 b6 b7 X pV i hi (sg i) (hv i hi) (v1 i hi) (v2 i hi) (v3 i hi) (v4 i hi) (v5 i hi) (v6 i hi) a w s fb pg pd cur hcs (HM.get (i := 2) rfl) (HM.get (i := 1) rfl) (HM.get (i := 0) rfl) (HM.ne (i := 2) (j := 1) rfl rfl (by decide)) (HM.ne (i := 2) (j := 0) rfl rfl (by decide)) (HM.ne (i := 1) (j := 0) rfl rfl (by decide)) HF ?_
  intro a' w' pb sb cur' hcs' htk FY jh
  have hk := jh.keep
  have hn : ∀ g ∈ [fb, pg, pd], g < w.heap.size := by
   intro g hg
   simp only [List.mem_cons, List.not_mem_nil, or_false] at hg
   rcases hg with rfl | rfl | rfl
   ·exact HM.lt (i := 2) rfl
   ·exact HM.lt (i := 1) rfl
   ·exact HM.lt (i := 0) rfl
  have hpb : w.heap.size ≤ pb := (jh.own (i := 1) rfl).elim id fun hm => absurd (jh.get (i := 1) rfl) (by
   intro e
   simp only [List.mem_cons, List.not_mem_nil, or_false] at hm
   rcases hm with rfl | rfl | rfl
   ·exact dD e (jh.get (i := 2) rfl) (by decide) rfl
   ·exact dD e (jh.get (i := 3) rfl) (by decide) rfl
   ·exact dD e (jh.get (i := 4) rfl) (by decide) rfl)
  have hsb : w.heap.size ≤ sb := (jh.own (i := 0) rfl).elim id fun hm => absurd (jh.get (i := 0) rfl) (by
   intro e
   simp only [List.mem_cons, List.not_mem_nil, or_false] at hm
   rcases hm with rfl | rfl | rfl
   ·exact dD e (jh.get (i := 2) rfl) (by decide) rfl
   ·exact dD e (jh.get (i := 3) rfl) (by decide) rfl
   ·exact dD e (jh.get (i := 4) rfl) (by decide) rfl)
  have hsz := HM.size
  have hP2 : nD b o n c w0.heap.size w' sg i cur := hP.keep hk (by
   intro g hg
   simp only [List.mem_cons, List.not_mem_nil, or_false] at hg
   rcases hg with rfl | rfl | rfl
   ·exact ⟨_, _, _, HM.get (i := 2) rfl, by decide, by decide⟩
   ·exact ⟨_, _, _, HM.get (i := 1) rfl, by decide, by decide⟩
   ·exact ⟨_, _, _, HM.get (i := 0) rfl, by decide, by decide⟩)
  have hP3 := hP2.next (by omega) htk (by omega) (by omega) (jh.get (i := 1) rfl) (jh.get (i := 0) rfl)
  have bT : Mm [] w0 w' [(pd, .cells (X.map Bv).toArray 5 (0, 0)), (pg, .cells cur' 136 (0, 0)), (fb, .cells #[aQ 2, .int .u8 dat, aQ 1, aX abi, aX aH, (aS big), bF aU, bF aJ, aI aG, aN, aC pg (i + 1) aj, aN, aN, aN] 131 (0, 0)), (s, .cells #[.iface 178 (.slice (some ⟨b, o, none⟩) n c), aF 0, aF 0, aF 9223372036854775807, aF 9223372036854775807] 246 (0, 0))] := HM.after hk (by
   intro g hg
   simp only [List.mem_cons, List.not_mem_nil, or_false] at hg
   rcases hg with rfl | rfl | rfl
   ·exact HM.own (i := 2) rfl
   ·exact HM.own (i := 1) rfl
   ·exact HM.own (i := 0) rfl) rfl (by
   intro p hp
   simp only [List.mem_cons, List.not_mem_nil, or_false] at hp
   rcases hp with rfl | rfl | rfl | rfl
   ·exact jh.get (i := 4) rfl
   ·exact jh.get (i := 3) rfl
   ·exact jh.get (i := 2) rfl
   ·refine (hk.block s (HM.lt (i := 3) rfl) ?_).trans (HM.get (i := 3) rfl)
    simp only [List.mem_cons, List.not_mem_nil, or_false, not_or]
    exact ⟨HM.ne (i := 3) (j := 2) rfl rfl (by decide), HM.ne (i := 3) (j := 1) rfl rfl (by decide), HM.ne (i := 3) (j := 0) rfl rfl (by decide)⟩)
  exact M_ l b o n c hl hnc big abi aH aU aJ aG ak aj au ah dat b1 b2 b3 b4 b5 b6 b7 X pV sg hv v1 v2 v3 v4 v5 v6 w0 s fb pg pd K r (i + 1) (by omega) a' w' cur' hcs' hP3 FY bT

theorem Pn (l : List UInt8) (b o n c : Nat) (hl : n = l.length) (hnc : n ≤ c) (big : Bool) (abi aH aU aJ aG ak aj au ah : Nat) (dat : Int) (b1 : aU < 65536) (b2 : aJ < 65536) (b3 : aG ≤ 18446744073709551615) (b4 : ak < 4611686018427387904) (b5 : au < 4611686018427387904) (b6 : aj < 200) (b7 : ah < 200) (X : List UInt8) (pV : X.length = (aj * 56)) (sg : Nat → nN) (hv : ∀ i, i < aj → yA (X.drop (i * 56)) true big (sg i).ty (sg i).flags (sg i).bU (sg i).bV (sg i).bY (sg i).align (sg i).bP (sg i).off)
  (v1 : ∀ i, i < aj → (sg i).ty < 4294967296) (v2 : ∀ i, i < aj → (sg i).off + (sg i).bP < 4611686018427387904) (v3 : ∀ i, i < aj → (sg i).bU ≤ 18446744073709551615) (v4 : ∀ i, i < aj → (sg i).bV ≤ 18446744073709551615) (v5 : ∀ i, i < aj → (sg i).bY ≤ 18446744073709551615) (v6 : ∀ i, i < aj → (sg i).align ≤ 18446744073709551615) (w0 : World) (s fb pg pd : Nat) {Q : Exit → Act → World → Prop} (a : Act) (w : World) (cur : Array Value) (hcs : cur.size = aj) (HF : Fr 1287 a [(0, .iface 178 (.slice (some ⟨b, o, none⟩) n c)), (4, aB s), (8, aB fb), (9, (aS big)), (10, ay ak), (11, .int .i64 56), (12, ay aj), (13, ay au), (14, .int .i64 64), (15, ay ah), (16, ay (ah - 1)), (26, .int .i64 64), (36, aC pd (aj * 56) (aj * 56))]) (HM : Mm [] w0 w [(pd, .cells (X.map Bv).toArray 5 (0, 0)), (pg, .cells cur 136 (0, 0)), (fb, .cells #[.int .u8 2, .int .u8 dat, .int .u8 1, aX abi, aX aH, (aS big), bF aU, bF aJ, aI aG, .slice none 0 0, aC pg 0 aj, .slice none 0 0, .slice none 0 0, .slice none 0 0] 131 (0, 0)), (s, .cells #[.iface 178 (.slice (some ⟨b, o, none⟩) n c), .int .i64 0, .int .i64 0, .int .i64 9223372036854775807, .int .i64 9223372036854775807] 246 (0, 0))])
  (K : ∀ a w cur, cur.size = aj → nD b o n c w0.heap.size w sg aj cur → Fr 1287 a [(0, .iface 178 (.slice (some ⟨b, o, none⟩) n c)), (4, aB s), (8, aB fb), (9, (aS big)), (10, ay ak), (11, .int .i64 56), (12, ay aj), (13, ay au), (14, .int .i64 64), (15, ay ah), (16, ay (ah - 1)), (26, .int .i64 64), (36, aC pd (aj * 56) (aj * 56))] → Mm [] w0 w [(pd, .cells (X.map Bv).toArray 5 (0, 0)), (pg, .cells cur 136 (0, 0)), (fb, .cells #[.int .u8 2, .int .u8 dat, .int .u8 1, aX abi, aX aH, (aS big), bF aU, bF aJ, aI aG, .slice none 0 0, aC pg aj aj, .slice none 0 0, .slice none 0 0, .slice none 0 0] 131 (0, 0)), (s, .cells #[.iface 178 (.slice (some ⟨b, o, none⟩) n c), .int .i64 0, .int .i64 0, .int .i64 9223372036854775807, .int .i64 9223372036854775807] 246 (0, 0))] → (spine Tryd.f78 36).wp Tryd.prog Q a w) : (spine Tryd.f78 35).wp Tryd.prog Q a w := by
 refine wp_seq ?_
 refine bG HF HM rfl [] [(0, .iface 178 (.slice (some ⟨b, o, none⟩) n c)), (4, aB s), (8, aB fb), (9, (aS big)), (10, ay ak), (11, .int .i64 56), (12, ay aj), (13, ay au), (14, .int .i64 64), (15, ay ah), (16, ay (ah - 1)), (26, .int .i64 64), (36, aC pd (aj * 56) (aj * 56)), (38, ay 0)] [(pd, .cells (X.map Bv).toArray 5 (0, 0)), (pg, .cells cur 136 (0, 0)), (fb, .cells #[.int .u8 2, .int .u8 dat, .int .u8 1, aX abi, aX aH, (aS big), bF aU, bF aJ, aI aG, .slice none 0 0, aC pg 0 aj, .slice none 0 0, .slice none 0 0, .slice none 0 0] 131 (0, 0)), (s, .cells #[.iface 178 (.slice (some ⟨b, o, none⟩) n c), .int .i64 0, .int .i64 0, .int .i64 9223372036854775807, .int .i64 9223372036854775807] 246 (0, 0))] (by kernel_rfl) ?_
 clear HF HM; intro a w HF HM
 refine wp_block (wp_loop_rounds (aj + 1) ?_)
 exact M_ l b o n c hl hnc big abi aH aU aJ aG ak aj au ah dat b1 b2 b3 b4 b5 b6 b7 X pV sg hv v1 v2 v3 v4 v5 v6 w0 s fb pg pd K aj 0 (by omega) a w cur hcs (fun j hj => absurd hj (Nat.not_lt_zero j)) HF HM

end Go.Proofs.YtdgehpocmfjbiaaDoor
namespace Go.Proofs.YtdgehpocmfjbiaaDoor
open Go.RowKit

theorem AO : (Tryd.prog.info? 36).map (fun i => (i.zero, i.size, i.bytes)) = some (some (.int .u32 0), 1, 4) := by kernel_rfl

abbrev iw := fun (b : Nat) (o : Nat) (n : Nat) (c : Nat) (s : Nat) (fb : Nat) (big : Bool) (ak : Nat) (aj : Nat) (au : Nat) (ah : Nat) => ([(0, .iface 178 (.slice (some ⟨b, o, none⟩) n c)), (4, aB s), (8, aB fb), (9, (aS big)), (10, ay ak), (11, aF 32), (12, ay aj), (13, ay au), (14, aF 40), (15, ay ah), (16, ay (ah - 1)), (26, aF 40)] : Slots)
theorem PK (l : List UInt8) (b o n c : Nat) (hl : n = l.length) (hnc : n ≤ c) (big : Bool) (abi aH aU aJ aG ak aj au ah : Nat) (dat : Int) (b1 : aU < 65536) (b2 : aJ < 65536) (b3 : aG ≤ 18446744073709551615) (b4 : ak < 4611686018427387904) (b5 : au < 4611686018427387904) (b6 : aj < 200) (b7 : ah < 200) (c1 : 0 < au) (c2 : 0 < ah) (c4 : au < n) (c5 : au + (ah * 40) ≤ n) {Q : Exit → Act → World → Prop} (w0 : World) (hbl : b < w0.heap.size) (hr : Row w0 (some ⟨b, o, none⟩) (l.map Bv)) (G : List Nat) (yc : b ∉ G) (a : Act) (w : World) (s fb pg : Nat) (hbs : b ≠ s) (HF : Fr 1287 a (iw b o n c s fb big ak aj au ah)) (HM : Mm G w0 w [(fb, .cells #[aQ 1, .int .u8 dat, aQ 1, aX abi, aX aH, (aS big), bF aU, bF aJ, aI aG, aN, aC pg aj aj, aN, aN, aN] 131 (0, 0)), (s, .cells #[.iface 178 (.slice (some ⟨b, o, none⟩) n c), aF 0, aF 0, aF 9223372036854775807, aF 9223372036854775807] 246 (0, 0))])
  (K : ∀ a w aV lF aW mg sd, lF.size = ah → mg.size = ah → Fr 1287 a ((iw b o n c s fb big ak aj au ah) ++ [(41, aC aW 0 ah), (42, aC sd (ah * 40) (ah * 40))]) → Mm G w0 w [(sd, .cells (((l.drop au).take (ah * 40)).map Bv).toArray 5 (0, 0)), (aW, .cells mg 36 (0, 0)), (aV, .cells lF 133 (0, 0)), (fb, .cells #[aQ 1, .int .u8 dat, aQ 1, aX abi, aX aH, (aS big), bF aU, bF aJ, aI aG, aC aV 0 ah, aC pg aj aj, aN, aN, aN] 131 (0, 0)), (s, .cells #[.iface 178 (.slice (some ⟨b, o, none⟩) n c), aF 0, aF 0, aF 9223372036854775807, aF 9223372036854775807] 246 (0, 0))] → (spine Tryd.f78 44).wp Tryd.prog Q a w) : (spine Tryd.f78 36).wp Tryd.prog Q a w := by
 refine wp_seq ?_
 refine wp_seq (wp_region_lit ?_)
 refine aT HF HM rfl 2 [] ((iw b o n c s fb big ak aj au ah) ++ [(799, .bool (decide (0 < ((ah : Nat) : Int))))]) [(fb, .cells #[aQ 1, .int .u8 dat, aQ 1, aX abi, aX aH, (aS big), bF aU, bF aJ, aI aG, aN, aC pg aj aj, aN, aN, aN] 131 (0, 0)), (s, .cells #[.iface 178 (.slice (some ⟨b, o, none⟩) n c), aF 0, aF 0, aF 9223372036854775807, aF 9223372036854775807] 246 (0, 0))] (by kernel_rfl) ?_
 clear HF HM; intro a w HF HM
 rw [show decide (0 < ((ah : Nat) : Int)) = true from dK (by omega)] at HF
 refine aT HF HM rfl 5 [] ((iw b o n c s fb big ak aj au ah) ++ [(804, .bool false)]) [(fb, .cells #[aQ 1, .int .u8 dat, aQ 1, aX abi, aX aH, (aS big), bF aU, bF aJ, aI aG, aN, aC pg aj aj, aN, aN, aN] 131 (0, 0)), (s, .cells #[.iface 178 (.slice (some ⟨b, o, none⟩) n c), aF 0, aF 0, aF 9223372036854775807, aF 9223372036854775807] 246 (0, 0))] (by kernel_rfl) ?_
 clear HF HM; intro a w HF HM
 refine aA ?_
 refine aY HF rfl ?_
 refine wp_skip ?_
 repeat (first | refine aK ?_ | refine aP ?_)
 replace HF := HF.sub (iw b o n c s fb big ak aj au ah) (by kernel_rfl)
 refine wp_seq (wp_region_lit ?_)
 refine aT HF HM rfl 2 [] ((iw b o n c s fb big ak aj au ah) ++ [(811, bH (IntKind.u64.wrap ((ah : Nat) : Int)))]) [(fb, .cells #[aQ 1, .int .u8 dat, aQ 1, aX abi, aX aH, (aS big), bF aU, bF aJ, aI aG, aN, aC pg aj aj, aN, aN, aN] 131 (0, 0)), (s, .cells #[.iface 178 (.slice (some ⟨b, o, none⟩) n c), aF 0, aF 0, aF 9223372036854775807, aF 9223372036854775807] 246 (0, 0))] (by kernel_rfl) ?_
 clear HF HM; intro a w HF HM
 rw [show IntKind.u64.wrap ((ah : Nat) : Int) = ((ah : Nat) : Int) from IntWalk.u64_in _ (by omega)] at HF
 refine bf HF (by kernel_rfl) 98 #[bH 120, aI ah] (by kernel_rfl) (fun w => by kernel_rfl) (Calls.mono (EF ah (by omega) w) ?_)
 rintro _ w1 ⟨rfl, hq⟩
 replace HM : Mm G w0 w1 [(fb, .cells #[aQ 1, .int .u8 dat, aQ 1, aX abi, aX aH, (aS big), bF aU, bF aJ, aI aG, aN, aC pg aj aj, aN, aN, aN] 131 (0, 0)), (s, .cells #[.iface 178 (.slice (some ⟨b, o, none⟩) n c), aF 0, aF 0, aF 9223372036854775807, aF 9223372036854775807] 246 (0, 0))] := by first | (rw [hq]; exact HM) | (rw [← hq]; exact HM)
 clear hq
 refine ⟨_, rfl, ?_⟩; clear HF; intro a HF; replace HF := HF.sub ((iw b o n c s fb big ak aj au ah) ++ [(811, aI ah), (812, ay ah)]) (by kernel_rfl)
 refine aT HF HM rfl 1 [] ((iw b o n c s fb big ak aj au ah) ++ [(35, ay ah)]) [(fb, .cells #[aQ 1, .int .u8 dat, aQ 1, aX abi, aX aH, (aS big), bF aU, bF aJ, aI aG, aN, aC pg aj aj, aN, aN, aN] 131 (0, 0)), (s, .cells #[.iface 178 (.slice (some ⟨b, o, none⟩) n c), aF 0, aF 0, aF 9223372036854775807, aF 9223372036854775807] 246 (0, 0))] (by kernel_rfl) ?_
 clear HF HM; intro a w HF HM
 refine aA ?_
 refine wp_seq ?_
 refine wp_seq (wp_region_lit ?_)
 refine aT HF HM rfl 2 [] ((iw b o n c s fb big ak aj au ah) ++ [(35, ay ah), (814, .bool (decide (((ah : Nat) : Int) < 0)))]) [(fb, .cells #[aQ 1, .int .u8 dat, aQ 1, aX abi, aX aH, (aS big), bF aU, bF aJ, aI aG, aN, aC pg aj aj, aN, aN, aN] 131 (0, 0)), (s, .cells #[.iface 178 (.slice (some ⟨b, o, none⟩) n c), aF 0, aF 0, aF 9223372036854775807, aF 9223372036854775807] 246 (0, 0))] (by kernel_rfl) ?_
 clear HF HM; intro a w HF HM
 rw [show decide (((ah : Nat) : Int) < 0) = false from cZ (by omega)] at HF
 refine aA ?_
 refine aY HF rfl ?_
 refine wp_skip ?_
 repeat (first | refine aK ?_ | refine aP ?_)
 replace HF := HF.sub ((iw b o n c s fb big ak aj au ah) ++ [(35, ay ah)]) (by kernel_rfl)
 refine wp_seq ?_
 refine wp_seq (wp_region_lit ?_)
 refine aT HF HM rfl 2 [] ((iw b o n c s fb big ak aj au ah) ++ [(35, ay ah), (821, .bool (decide (0 < ((ah : Nat) : Int))))]) [(fb, .cells #[aQ 1, .int .u8 dat, aQ 1, aX abi, aX aH, (aS big), bF aU, bF aJ, aI aG, aN, aC pg aj aj, aN, aN, aN] 131 (0, 0)), (s, .cells #[.iface 178 (.slice (some ⟨b, o, none⟩) n c), aF 0, aF 0, aF 9223372036854775807, aF 9223372036854775807] 246 (0, 0))] (by kernel_rfl) ?_
 clear HF HM; intro a w HF HM
 rw [show decide (0 < ((ah : Nat) : Int)) = true from dK (by omega)] at HF
 refine aT HF HM rfl 3 [] ((iw b o n c s fb big ak aj au ah) ++ [(35, ay ah), (821, .bool true), (822, .bool true), (824, bH (IntKind.u64.wrap ((ah : Nat) : Int)))]) [(fb, .cells #[aQ 1, .int .u8 dat, aQ 1, aX abi, aX aH, (aS big), bF aU, bF aJ, aI aG, aN, aC pg aj aj, aN, aN, aN] 131 (0, 0)), (s, .cells #[.iface 178 (.slice (some ⟨b, o, none⟩) n c), aF 0, aF 0, aF 9223372036854775807, aF 9223372036854775807] 246 (0, 0))] (by kernel_rfl) ?_
 clear HF HM; intro a w HF HM
 rw [show IntKind.u64.wrap ((ah : Nat) : Int) = ((ah : Nat) : Int) from IntWalk.u64_in _ (by omega)] at HF
 refine dG HF (by kernel_rfl) (bH (IntKind.u64.wrap ((18446744073709551615 : Int).tdiv ((ah : Nat) : Int)))) (by kernel_rfl) (F8 rfl rfl rfl (by omega)) ?_
 clear HF; intro a HF; replace HF := HF.sub [(0, .iface 178 (.slice (some ⟨b, o, none⟩) n c)), (4, aB s), (8, aB fb), (9, (aS big)), (10, ay ak), (11, aF 32), (12, ay aj), (13, ay au), (14, aF 40), (15, ay ah), (16, ay (ah - 1)), (26, aF 40), (35, ay ah), (821, .bool true), (822, .bool true), (824, aI ah), (825, bH (IntKind.u64.wrap ((18446744073709551615 : Int).tdiv ((ah : Nat) : Int))))] (by kernel_rfl)
 have hq := Gn ah c2 b7
 rw [IntWalk.u64_in ((18446744073709551615 : Int).tdiv ((ah : Nat) : Int)) (by omega)] at HF
 refine aT HF HM rfl 3 [] ((iw b o n c s fb big ak aj au ah) ++ [(35, ay ah), (821, .bool true), (822, .bool true), (828, .bool (decide (((18446744073709551615 : Int).tdiv ((ah : Nat) : Int)) < 40)))]) [(fb, .cells #[aQ 1, .int .u8 dat, aQ 1, aX abi, aX aH, (aS big), bF aU, bF aJ, aI aG, aN, aC pg aj aj, aN, aN, aN] 131 (0, 0)), (s, .cells #[.iface 178 (.slice (some ⟨b, o, none⟩) n c), aF 0, aF 0, aF 9223372036854775807, aF 9223372036854775807] 246 (0, 0))] (by kernel_rfl) ?_
 clear HF HM; intro a w HF HM
 rw [show decide (((18446744073709551615 : Int).tdiv ((ah : Nat) : Int)) < 40) = false from cZ (by omega)] at HF
 refine aT HF HM rfl 1 [] ((iw b o n c s fb big ak aj au ah) ++ [(35, ay ah), (829, .bool false)]) [(fb, .cells #[aQ 1, .int .u8 dat, aQ 1, aX abi, aX aH, (aS big), bF aU, bF aJ, aI aG, aN, aC pg aj aj, aN, aN, aN] 131 (0, 0)), (s, .cells #[.iface 178 (.slice (some ⟨b, o, none⟩) n c), aF 0, aF 0, aF 9223372036854775807, aF 9223372036854775807] 246 (0, 0))] (by kernel_rfl) ?_
 clear HF HM; intro a w HF HM
 refine aA ?_
 refine aY HF rfl ?_
 refine wp_skip ?_
 repeat (first | refine aK ?_ | refine aP ?_)
 replace HF := HF.sub ((iw b o n c s fb big ak aj au ah) ++ [(35, ay ah)]) (by kernel_rfl)
 refine wp_seq (wp_region_lit ?_)
 refine aT HF HM rfl 2 [] ((iw b o n c s fb big ak aj au ah) ++ [(35, ay ah), (835, aB fb), (836, ay ah)]) [(fb, .cells #[aQ 1, .int .u8 dat, aQ 1, aX abi, aX aH, (aS big), bF aU, bF aJ, aI aG, aN, aC pg aj aj, aN, aN, aN] 131 (0, 0)), (s, .cells #[.iface 178 (.slice (some ⟨b, o, none⟩) n c), aF 0, aF 0, aF 9223372036854775807, aF 9223372036854775807] 246 (0, 0))] (by kernel_rfl) ?_
 clear HF HM; intro a w HF HM
 refine qo HF HM rfl _ _ 126 rfl rfl 133 (.pointer none) 8 Tryd.underlying126 CV .i64 .i64 ah rfl rfl (by omega) (by unfold maxLen; omega) ?_
 intro a2 w2 aV lF hgw Qx bT HF2; clear HF HM hgw; have HM := bT; have HF := HF2; clear bT HF2
 replace HF := HF.sub ((iw b o n c s fb big ak aj au ah) ++ [(35, ay ah), (835, aB fb), (837, aC aV 0 ah)]) (by kernel_rfl)
 refine aT HF HM rfl 3 [[1]] ((iw b o n c s fb big ak aj au ah) ++ [(35, ay ah)]) [(aV, .cells lF 133 (0, 0)), (fb, .cells #[aQ 1, .int .u8 dat, aQ 1, aX abi, aX aH, (aS big), bF aU, bF aJ, aI aG, aC aV 0 ah, aC pg aj aj, aN, aN, aN] 131 (0, 0)), (s, .cells #[.iface 178 (.slice (some ⟨b, o, none⟩) n c), aF 0, aF 0, aF 9223372036854775807, aF 9223372036854775807] 246 (0, 0))] (by kernel_rfl) ?_
 clear HF HM; intro a w HF HM
 refine aA ?_
 refine wp_seq (wp_region_lit ?_)
 refine aT HF HM rfl 1 [] ((iw b o n c s fb big ak aj au ah) ++ [(35, ay ah), (840, ay ah)]) [(aV, .cells lF 133 (0, 0)), (fb, .cells #[aQ 1, .int .u8 dat, aQ 1, aX abi, aX aH, (aS big), bF aU, bF aJ, aI aG, aC aV 0 ah, aC pg aj aj, aN, aN, aN] 131 (0, 0)), (s, .cells #[.iface 178 (.slice (some ⟨b, o, none⟩) n c), aF 0, aF 0, aF 9223372036854775807, aF 9223372036854775807] 246 (0, 0))] (by kernel_rfl) ?_
 clear HF HM; intro a w HF HM
 refine qo HF HM rfl _ _ 222 rfl rfl 36 (iR 0) 4 Tryd.underlying222 AO .i64 .i64 ah rfl rfl (by omega) (by unfold maxLen; omega) ?_
 intro a2 w3 aW mg hgw QB bT HF2; clear HF HM hgw; have HM := bT; have HF := HF2; clear bT HF2
 replace HF := HF.sub ((iw b o n c s fb big ak aj au ah) ++ [(35, ay ah), (841, aC aW 0 ah)]) (by kernel_rfl)
 refine aT HF HM rfl 1 [] ((iw b o n c s fb big ak aj au ah) ++ [(35, ay ah), (41, aC aW 0 ah)]) [(aW, .cells mg 36 (0, 0)), (aV, .cells lF 133 (0, 0)), (fb, .cells #[aQ 1, .int .u8 dat, aQ 1, aX abi, aX aH, (aS big), bF aU, bF aJ, aI aG, aC aV 0 ah, aC pg aj aj, aN, aN, aN] 131 (0, 0)), (s, .cells #[.iface 178 (.slice (some ⟨b, o, none⟩) n c), aF 0, aF 0, aF 9223372036854775807, aF 9223372036854775807] 246 (0, 0))] (by kernel_rfl) ?_
 clear HF HM; intro a w HF HM
 refine aA ?_
 refine wp_seq (wp_region_lit ?_)
 refine aT HF HM rfl 4 [] ((iw b o n c s fb big ak aj au ah) ++ [(35, ay ah), (41, aC aW 0 ah), (844, .iface 144 (aB s)), (846, bH (IntKind.u64.wrap ((ah : Nat) : Int)))]) [(aW, .cells mg 36 (0, 0)), (aV, .cells lF 133 (0, 0)), (fb, .cells #[aQ 1, .int .u8 dat, aQ 1, aX abi, aX aH, (aS big), bF aU, bF aJ, aI aG, aC aV 0 ah, aC pg aj aj, aN, aN, aN] 131 (0, 0)), (s, .cells #[.iface 178 (.slice (some ⟨b, o, none⟩) n c), aF 0, aF 0, aF 9223372036854775807, aF 9223372036854775807] 246 (0, 0))] (by kernel_rfl) ?_
 clear HF HM; intro a w HF HM
 rw [show IntKind.u64.wrap ((ah : Nat) : Int) = ((ah : Nat) : Int) from IntWalk.u64_in _ (by omega)] at HF
 refine aT HF HM rfl 3 [] ((iw b o n c s fb big ak aj au ah) ++ [(35, ay ah), (41, aC aW 0 ah), (844, .iface 144 (aB s)), (849, bH (IntKind.u64.wrap (((ah : Nat) : Int) * 40)))]) [(aW, .cells mg 36 (0, 0)), (aV, .cells lF 133 (0, 0)), (fb, .cells #[aQ 1, .int .u8 dat, aQ 1, aX abi, aX aH, (aS big), bF aU, bF aJ, aI aG, aC aV 0 ah, aC pg aj aj, aN, aN, aN] 131 (0, 0)), (s, .cells #[.iface 178 (.slice (some ⟨b, o, none⟩) n c), aF 0, aF 0, aF 9223372036854775807, aF 9223372036854775807] 246 (0, 0))] (by kernel_rfl) ?_
 clear HF HM; intro a w HF HM
 rw [show IntKind.u64.wrap (((ah : Nat) : Int) * 40) = (((ah * 40) : Nat) : Int) from (IntWalk.u64_in _ (by omega)).trans (by omega)] at HF
 refine aT HF HM rfl 1 [] ((iw b o n c s fb big ak aj au ah) ++ [(35, ay ah), (41, aC aW 0 ah), (844, .iface 144 (aB s)), (849, aI (ah * 40)), (850, ay au)]) [(aW, .cells mg 36 (0, 0)), (aV, .cells lF 133 (0, 0)), (fb, .cells #[aQ 1, .int .u8 dat, aQ 1, aX abi, aX aH, (aS big), bF aU, bF aJ, aI aG, aC aV 0 ah, aC pg aj aj, aN, aN, aN] 131 (0, 0)), (s, .cells #[.iface 178 (.slice (some ⟨b, o, none⟩) n c), aF 0, aF 0, aF 9223372036854775807, aF 9223372036854775807] 246 (0, 0))] (by kernel_rfl) ?_
 clear HF HM; intro a w HF HM
 refine bf HF (by kernel_rfl) 99 #[.iface 144 (aB s), aI (ah * 40), ay au] (by kernel_rfl) (fun w => by kernel_rfl) (Calls.mono (pG l b o n c hl hnc s (ah * 40) 0 au 0 9223372036854775807 9223372036854775807 (by omega) (by omega) (by omega) (by omega) (by omega) (by omega) w (HM.row hr (by intro b' o' s' e; injection e with e; injection e with e; subst e; exact yc)) (Nat.lt_of_lt_of_le hbl HM.size) hbs (HM.get (i := 3) rfl)) ?_)
 rintro _ w4 ⟨sd, rfl, hb, hge, hgn⟩
 replace HM : Mm G w0 w4 [(sd, .cells (((l.drop (0 + au)).take (ah * 40)).map Bv).toArray 5 (0, 0)), (aW, .cells mg 36 (0, 0)), (aV, .cells lF 133 (0, 0)), (fb, .cells #[aQ 1, .int .u8 dat, aQ 1, aX abi, aX aH, (aS big), bF aU, bF aJ, aI aG, aC aV 0 ah, aC pg aj aj, aN, aN, aN] 131 (0, 0)), (s, .cells #[.iface 178 (.slice (some ⟨b, o, none⟩) n c), aF 0, aF 0, aF 9223372036854775807, aF 9223372036854775807] 246 (0, 0))] := HM.push hb hge hgn
 clear hge hgn
 refine ⟨_, rfl, ?_⟩; clear HF; intro a HF; replace HF := HF.sub ((iw b o n c s fb big ak aj au ah) ++ [(35, ay ah), (41, aC aW 0 ah), (844, .iface 144 (aB s)), (849, aI (ah * 40)), (850, ay au), (851, .tuple #[aC sd (ah * 40) (ah * 40), .nilIface])]) (by kernel_rfl)
 refine aT HF HM rfl 5 [] ((iw b o n c s fb big ak aj au ah) ++ [(35, ay ah), (41, aC aW 0 ah), (42, aC sd (ah * 40) (ah * 40)), (37, .nilIface)]) [(sd, .cells (((l.drop (0 + au)).take (ah * 40)).map Bv).toArray 5 (0, 0)), (aW, .cells mg 36 (0, 0)), (aV, .cells lF 133 (0, 0)), (fb, .cells #[aQ 1, .int .u8 dat, aQ 1, aX abi, aX aH, (aS big), bF aU, bF aJ, aI aG, aC aV 0 ah, aC pg aj aj, aN, aN, aN] 131 (0, 0)), (s, .cells #[.iface 178 (.slice (some ⟨b, o, none⟩) n c), aF 0, aF 0, aF 9223372036854775807, aF 9223372036854775807] 246 (0, 0))] (by kernel_rfl) ?_
 clear HF HM; intro a w HF HM
 refine aA ?_
 refine wp_seq ?_
 refine wp_seq (wp_region_lit ?_)
 refine aT HF HM rfl 2 [] ((iw b o n c s fb big ak aj au ah) ++ [(35, ay ah), (41, aC aW 0 ah), (42, aC sd (ah * 40) (ah * 40)), (37, .nilIface), (855, .bool false)]) [(sd, .cells (((l.drop (0 + au)).take (ah * 40)).map Bv).toArray 5 (0, 0)), (aW, .cells mg 36 (0, 0)), (aV, .cells lF 133 (0, 0)), (fb, .cells #[aQ 1, .int .u8 dat, aQ 1, aX abi, aX aH, (aS big), bF aU, bF aJ, aI aG, aC aV 0 ah, aC pg aj aj, aN, aN, aN] 131 (0, 0)), (s, .cells #[.iface 178 (.slice (some ⟨b, o, none⟩) n c), aF 0, aF 0, aF 9223372036854775807, aF 9223372036854775807] 246 (0, 0))] (by kernel_rfl) ?_
 clear HF HM; intro a w HF HM
 refine aA ?_
 refine aY HF rfl ?_
 refine wp_skip ?_
 repeat (first | refine aK ?_ | refine aP ?_)
 replace HF := HF.sub ((iw b o n c s fb big ak aj au ah) ++ [(41, aC aW 0 ah), (42, aC sd (ah * 40) (ah * 40))]) (by kernel_rfl)
 replace HF := HF.sub ((iw b o n c s fb big ak aj au ah) ++ [(41, aC aW 0 ah), (42, aC sd (ah * 40) (ah * 40))]) (by kernel_rfl)
 rw [Nat.zero_add] at HM
 exact K a w aV lF aW mg sd Qx QB HF HM

abbrev iq := fun (b : Nat) (o : Nat) (n : Nat) (c : Nat) (s : Nat) (fb : Nat) (big : Bool) (ak : Nat) (aj : Nat) (au : Nat) (ah : Nat) => ([(0, .iface 178 (.slice (some ⟨b, o, none⟩) n c)), (4, aB s), (8, aB fb), (9, (aS big)), (10, ay ak), (11, aF 56), (12, ay aj), (13, ay au), (14, aF 64), (15, ay ah), (16, ay (ah - 1)), (26, aF 64)] : Slots)
theorem PI (l : List UInt8) (b o n c : Nat) (hl : n = l.length) (hnc : n ≤ c) (big : Bool) (abi aH aU aJ aG ak aj au ah : Nat) (dat : Int) (b1 : aU < 65536) (b2 : aJ < 65536) (b3 : aG ≤ 18446744073709551615) (b4 : ak < 4611686018427387904) (b5 : au < 4611686018427387904) (b6 : aj < 200) (b7 : ah < 200) (c1 : 0 < au) (c2 : 0 < ah) (c4 : au < n) (c5 : au + (ah * 64) ≤ n) {Q : Exit → Act → World → Prop} (w0 : World) (hbl : b < w0.heap.size) (hr : Row w0 (some ⟨b, o, none⟩) (l.map Bv)) (G : List Nat) (yc : b ∉ G) (a : Act) (w : World) (s fb pg : Nat) (hbs : b ≠ s) (HF : Fr 1287 a (iq b o n c s fb big ak aj au ah)) (HM : Mm G w0 w [(fb, .cells #[aQ 2, .int .u8 dat, aQ 1, aX abi, aX aH, (aS big), bF aU, bF aJ, aI aG, aN, aC pg aj aj, aN, aN, aN] 131 (0, 0)), (s, .cells #[.iface 178 (.slice (some ⟨b, o, none⟩) n c), aF 0, aF 0, aF 9223372036854775807, aF 9223372036854775807] 246 (0, 0))])
  (K : ∀ a w aV lF aW mg sd, lF.size = ah → mg.size = ah → Fr 1287 a ((iq b o n c s fb big ak aj au ah) ++ [(41, aC aW 0 ah), (42, aC sd (ah * 64) (ah * 64))]) → Mm G w0 w [(sd, .cells (((l.drop au).take (ah * 64)).map Bv).toArray 5 (0, 0)), (aW, .cells mg 36 (0, 0)), (aV, .cells lF 133 (0, 0)), (fb, .cells #[aQ 2, .int .u8 dat, aQ 1, aX abi, aX aH, (aS big), bF aU, bF aJ, aI aG, aC aV 0 ah, aC pg aj aj, aN, aN, aN] 131 (0, 0)), (s, .cells #[.iface 178 (.slice (some ⟨b, o, none⟩) n c), aF 0, aF 0, aF 9223372036854775807, aF 9223372036854775807] 246 (0, 0))] → (spine Tryd.f78 44).wp Tryd.prog Q a w) : (spine Tryd.f78 36).wp Tryd.prog Q a w := by
 refine wp_seq ?_
 refine wp_seq (wp_region_lit ?_)
 refine aT HF HM rfl 2 [] ((iq b o n c s fb big ak aj au ah) ++ [(799, .bool (decide (0 < ((ah : Nat) : Int))))]) [(fb, .cells #[aQ 2, .int .u8 dat, aQ 1, aX abi, aX aH, (aS big), bF aU, bF aJ, aI aG, aN, aC pg aj aj, aN, aN, aN] 131 (0, 0)), (s, .cells #[.iface 178 (.slice (some ⟨b, o, none⟩) n c), aF 0, aF 0, aF 9223372036854775807, aF 9223372036854775807] 246 (0, 0))] (by kernel_rfl) ?_
 clear HF HM; intro a w HF HM
 rw [show decide (0 < ((ah : Nat) : Int)) = true from dK (by omega)] at HF
 refine aT HF HM rfl 5 [] ((iq b o n c s fb big ak aj au ah) ++ [(804, .bool false)]) [(fb, .cells #[aQ 2, .int .u8 dat, aQ 1, aX abi, aX aH, (aS big), bF aU, bF aJ, aI aG, aN, aC pg aj aj, aN, aN, aN] 131 (0, 0)), (s, .cells #[.iface 178 (.slice (some ⟨b, o, none⟩) n c), aF 0, aF 0, aF 9223372036854775807, aF 9223372036854775807] 246 (0, 0))] (by kernel_rfl) ?_
 clear HF HM; intro a w HF HM
 refine aA ?_
 refine aY HF rfl ?_
 refine wp_skip ?_
 repeat (first | refine aK ?_ | refine aP ?_)
 replace HF := HF.sub (iq b o n c s fb big ak aj au ah) (by kernel_rfl)
 refine wp_seq (wp_region_lit ?_)
 refine aT HF HM rfl 2 [] ((iq b o n c s fb big ak aj au ah) ++ [(811, bH (IntKind.u64.wrap ((ah : Nat) : Int)))]) [(fb, .cells #[aQ 2, .int .u8 dat, aQ 1, aX abi, aX aH, (aS big), bF aU, bF aJ, aI aG, aN, aC pg aj aj, aN, aN, aN] 131 (0, 0)), (s, .cells #[.iface 178 (.slice (some ⟨b, o, none⟩) n c), aF 0, aF 0, aF 9223372036854775807, aF 9223372036854775807] 246 (0, 0))] (by kernel_rfl) ?_
 clear HF HM; intro a w HF HM
 rw [show IntKind.u64.wrap ((ah : Nat) : Int) = ((ah : Nat) : Int) from IntWalk.u64_in _ (by omega)] at HF
 refine bf HF (by kernel_rfl) 98 #[bH 120, aI ah] (by kernel_rfl) (fun w => by kernel_rfl) (Calls.mono (EF ah (by omega) w) ?_)
 rintro _ w1 ⟨rfl, hq⟩
 replace HM : Mm G w0 w1 [(fb, .cells #[aQ 2, .int .u8 dat, aQ 1, aX abi, aX aH, (aS big), bF aU, bF aJ, aI aG, aN, aC pg aj aj, aN, aN, aN] 131 (0, 0)), (s, .cells #[.iface 178 (.slice (some ⟨b, o, none⟩) n c), aF 0, aF 0, aF 9223372036854775807, aF 9223372036854775807] 246 (0, 0))] := by first | (rw [hq]; exact HM) | (rw [← hq]; exact HM)
 clear hq
 refine ⟨_, rfl, ?_⟩; clear HF; intro a HF; replace HF := HF.sub ((iq b o n c s fb big ak aj au ah) ++ [(811, aI ah), (812, ay ah)]) (by kernel_rfl)
 refine aT HF HM rfl 1 [] ((iq b o n c s fb big ak aj au ah) ++ [(35, ay ah)]) [(fb, .cells #[aQ 2, .int .u8 dat, aQ 1, aX abi, aX aH, (aS big), bF aU, bF aJ, aI aG, aN, aC pg aj aj, aN, aN, aN] 131 (0, 0)), (s, .cells #[.iface 178 (.slice (some ⟨b, o, none⟩) n c), aF 0, aF 0, aF 9223372036854775807, aF 9223372036854775807] 246 (0, 0))] (by kernel_rfl) ?_
 clear HF HM; intro a w HF HM
 refine aA ?_
 refine wp_seq ?_
 refine wp_seq (wp_region_lit ?_)
 refine aT HF HM rfl 2 [] ((iq b o n c s fb big ak aj au ah) ++ [(35, ay ah), (814, .bool (decide (((ah : Nat) : Int) < 0)))]) [(fb, .cells #[aQ 2, .int .u8 dat, aQ 1, aX abi, aX aH, (aS big), bF aU, bF aJ, aI aG, aN, aC pg aj aj, aN, aN, aN] 131 (0, 0)), (s, .cells #[.iface 178 (.slice (some ⟨b, o, none⟩) n c), aF 0, aF 0, aF 9223372036854775807, aF 9223372036854775807] 246 (0, 0))] (by kernel_rfl) ?_
 clear HF HM; intro a w HF HM
 rw [show decide (((ah : Nat) : Int) < 0) = false from cZ (by omega)] at HF
 refine aA ?_
 refine aY HF rfl ?_
 refine wp_skip ?_
 repeat (first | refine aK ?_ | refine aP ?_)
 replace HF := HF.sub ((iq b o n c s fb big ak aj au ah) ++ [(35, ay ah)]) (by kernel_rfl)
 refine wp_seq ?_
 refine wp_seq (wp_region_lit ?_)
 refine aT HF HM rfl 2 [] ((iq b o n c s fb big ak aj au ah) ++ [(35, ay ah), (821, .bool (decide (0 < ((ah : Nat) : Int))))]) [(fb, .cells #[aQ 2, .int .u8 dat, aQ 1, aX abi, aX aH, (aS big), bF aU, bF aJ, aI aG, aN, aC pg aj aj, aN, aN, aN] 131 (0, 0)), (s, .cells #[.iface 178 (.slice (some ⟨b, o, none⟩) n c), aF 0, aF 0, aF 9223372036854775807, aF 9223372036854775807] 246 (0, 0))] (by kernel_rfl) ?_
 clear HF HM; intro a w HF HM
 rw [show decide (0 < ((ah : Nat) : Int)) = true from dK (by omega)] at HF
 refine aT HF HM rfl 3 [] ((iq b o n c s fb big ak aj au ah) ++ [(35, ay ah), (821, .bool true), (822, .bool true), (824, bH (IntKind.u64.wrap ((ah : Nat) : Int)))]) [(fb, .cells #[aQ 2, .int .u8 dat, aQ 1, aX abi, aX aH, (aS big), bF aU, bF aJ, aI aG, aN, aC pg aj aj, aN, aN, aN] 131 (0, 0)), (s, .cells #[.iface 178 (.slice (some ⟨b, o, none⟩) n c), aF 0, aF 0, aF 9223372036854775807, aF 9223372036854775807] 246 (0, 0))] (by kernel_rfl) ?_
 clear HF HM; intro a w HF HM
 rw [show IntKind.u64.wrap ((ah : Nat) : Int) = ((ah : Nat) : Int) from IntWalk.u64_in _ (by omega)] at HF
 refine dG HF (by kernel_rfl) (bH (IntKind.u64.wrap ((18446744073709551615 : Int).tdiv ((ah : Nat) : Int)))) (by kernel_rfl) (F8 rfl rfl rfl (by omega)) ?_
 clear HF; intro a HF; replace HF := HF.sub [(0, .iface 178 (.slice (some ⟨b, o, none⟩) n c)), (4, aB s), (8, aB fb), (9, (aS big)), (10, ay ak), (11, aF 56), (12, ay aj), (13, ay au), (14, aF 64), (15, ay ah), (16, ay (ah - 1)), (26, aF 64), (35, ay ah), (821, .bool true), (822, .bool true), (824, aI ah), (825, bH (IntKind.u64.wrap ((18446744073709551615 : Int).tdiv ((ah : Nat) : Int))))] (by kernel_rfl)
 have hq := Gn ah c2 b7
 rw [IntWalk.u64_in ((18446744073709551615 : Int).tdiv ((ah : Nat) : Int)) (by omega)] at HF
 refine aT HF HM rfl 3 [] ((iq b o n c s fb big ak aj au ah) ++ [(35, ay ah), (821, .bool true), (822, .bool true), (828, .bool (decide (((18446744073709551615 : Int).tdiv ((ah : Nat) : Int)) < 64)))]) [(fb, .cells #[aQ 2, .int .u8 dat, aQ 1, aX abi, aX aH, (aS big), bF aU, bF aJ, aI aG, aN, aC pg aj aj, aN, aN, aN] 131 (0, 0)), (s, .cells #[.iface 178 (.slice (some ⟨b, o, none⟩) n c), aF 0, aF 0, aF 9223372036854775807, aF 9223372036854775807] 246 (0, 0))] (by kernel_rfl) ?_
 clear HF HM; intro a w HF HM
 rw [show decide (((18446744073709551615 : Int).tdiv ((ah : Nat) : Int)) < 64) = false from cZ (by omega)] at HF
 refine aT HF HM rfl 1 [] ((iq b o n c s fb big ak aj au ah) ++ [(35, ay ah), (829, .bool false)]) [(fb, .cells #[aQ 2, .int .u8 dat, aQ 1, aX abi, aX aH, (aS big), bF aU, bF aJ, aI aG, aN, aC pg aj aj, aN, aN, aN] 131 (0, 0)), (s, .cells #[.iface 178 (.slice (some ⟨b, o, none⟩) n c), aF 0, aF 0, aF 9223372036854775807, aF 9223372036854775807] 246 (0, 0))] (by kernel_rfl) ?_
 clear HF HM; intro a w HF HM
 refine aA ?_
 refine aY HF rfl ?_
 refine wp_skip ?_
 repeat (first | refine aK ?_ | refine aP ?_)
 replace HF := HF.sub ((iq b o n c s fb big ak aj au ah) ++ [(35, ay ah)]) (by kernel_rfl)
 refine wp_seq (wp_region_lit ?_)
 refine aT HF HM rfl 2 [] ((iq b o n c s fb big ak aj au ah) ++ [(35, ay ah), (835, aB fb), (836, ay ah)]) [(fb, .cells #[aQ 2, .int .u8 dat, aQ 1, aX abi, aX aH, (aS big), bF aU, bF aJ, aI aG, aN, aC pg aj aj, aN, aN, aN] 131 (0, 0)), (s, .cells #[.iface 178 (.slice (some ⟨b, o, none⟩) n c), aF 0, aF 0, aF 9223372036854775807, aF 9223372036854775807] 246 (0, 0))] (by kernel_rfl) ?_
 clear HF HM; intro a w HF HM
 refine qo HF HM rfl _ _ 126 rfl rfl 133 (.pointer none) 8 Tryd.underlying126 CV .i64 .i64 ah rfl rfl (by omega) (by unfold maxLen; omega) ?_
 intro a2 w2 aV lF hgw Qx bT HF2; clear HF HM hgw; have HM := bT; have HF := HF2; clear bT HF2
 replace HF := HF.sub ((iq b o n c s fb big ak aj au ah) ++ [(35, ay ah), (835, aB fb), (837, aC aV 0 ah)]) (by kernel_rfl)
 refine aT HF HM rfl 3 [[1]] ((iq b o n c s fb big ak aj au ah) ++ [(35, ay ah)]) [(aV, .cells lF 133 (0, 0)), (fb, .cells #[aQ 2, .int .u8 dat, aQ 1, aX abi, aX aH, (aS big), bF aU, bF aJ, aI aG, aC aV 0 ah, aC pg aj aj, aN, aN, aN] 131 (0, 0)), (s, .cells #[.iface 178 (.slice (some ⟨b, o, none⟩) n c), aF 0, aF 0, aF 9223372036854775807, aF 9223372036854775807] 246 (0, 0))] (by kernel_rfl) ?_
 clear HF HM; intro a w HF HM
 refine aA ?_
 refine wp_seq (wp_region_lit ?_)
 refine aT HF HM rfl 1 [] ((iq b o n c s fb big ak aj au ah) ++ [(35, ay ah), (840, ay ah)]) [(aV, .cells lF 133 (0, 0)), (fb, .cells #[aQ 2, .int .u8 dat, aQ 1, aX abi, aX aH, (aS big), bF aU, bF aJ, aI aG, aC aV 0 ah, aC pg aj aj, aN, aN, aN] 131 (0, 0)), (s, .cells #[.iface 178 (.slice (some ⟨b, o, none⟩) n c), aF 0, aF 0, aF 9223372036854775807, aF 9223372036854775807] 246 (0, 0))] (by kernel_rfl) ?_
 clear HF HM; intro a w HF HM
 refine qo HF HM rfl _ _ 222 rfl rfl 36 (iR 0) 4 Tryd.underlying222 AO .i64 .i64 ah rfl rfl (by omega) (by unfold maxLen; omega) ?_
 intro a2 w3 aW mg hgw QB bT HF2; clear HF HM hgw; have HM := bT; have HF := HF2; clear bT HF2
 replace HF := HF.sub ((iq b o n c s fb big ak aj au ah) ++ [(35, ay ah), (841, aC aW 0 ah)]) (by kernel_rfl)
 refine aT HF HM rfl 1 [] ((iq b o n c s fb big ak aj au ah) ++ [(35, ay ah), (41, aC aW 0 ah)]) [(aW, .cells mg 36 (0, 0)), (aV, .cells lF 133 (0, 0)), (fb, .cells #[aQ 2, .int .u8 dat, aQ 1, aX abi, aX aH, (aS big), bF aU, bF aJ, aI aG, aC aV 0 ah, aC pg aj aj, aN, aN, aN] 131 (0, 0)), (s, .cells #[.iface 178 (.slice (some ⟨b, o, none⟩) n c), aF 0, aF 0, aF 9223372036854775807, aF 9223372036854775807] 246 (0, 0))] (by kernel_rfl) ?_
 clear HF HM; intro a w HF HM
 refine aA ?_
 refine wp_seq (wp_region_lit ?_)
 refine aT HF HM rfl 4 [] ((iq b o n c s fb big ak aj au ah) ++ [(35, ay ah), (41, aC aW 0 ah), (844, .iface 144 (aB s)), (846, bH (IntKind.u64.wrap ((ah : Nat) : Int)))]) [(aW, .cells mg 36 (0, 0)), (aV, .cells lF 133 (0, 0)), (fb, .cells #[aQ 2, .int .u8 dat, aQ 1, aX abi, aX aH, (aS big), bF aU, bF aJ, aI aG, aC aV 0 ah, aC pg aj aj, aN, aN, aN] 131 (0, 0)), (s, .cells #[.iface 178 (.slice (some ⟨b, o, none⟩) n c), aF 0, aF 0, aF 9223372036854775807, aF 9223372036854775807] 246 (0, 0))] (by kernel_rfl) ?_
 clear HF HM; intro a w HF HM
 rw [show IntKind.u64.wrap ((ah : Nat) : Int) = ((ah : Nat) : Int) from IntWalk.u64_in _ (by omega)] at HF
 refine aT HF HM rfl 3 [] ((iq b o n c s fb big ak aj au ah) ++ [(35, ay ah), (41, aC aW 0 ah), (844, .iface 144 (aB s)), (849, bH (IntKind.u64.wrap (((ah : Nat) : Int) * 64)))]) [(aW, .cells mg 36 (0, 0)), (aV, .cells lF 133 (0, 0)), (fb, .cells #[aQ 2, .int .u8 dat, aQ 1, aX abi, aX aH, (aS big), bF aU, bF aJ, aI aG, aC aV 0 ah, aC pg aj aj, aN, aN, aN] 131 (0, 0)), (s, .cells #[.iface 178 (.slice (some ⟨b, o, none⟩) n c), aF 0, aF 0, aF 9223372036854775807, aF 9223372036854775807] 246 (0, 0))] (by kernel_rfl) ?_
 clear HF HM; intro a w HF HM
 rw [show IntKind.u64.wrap (((ah : Nat) : Int) * 64) = (((ah * 64) : Nat) : Int) from (IntWalk.u64_in _ (by omega)).trans (by omega)] at HF
 refine aT HF HM rfl 1 [] ((iq b o n c s fb big ak aj au ah) ++ [(35, ay ah), (41, aC aW 0 ah), (844, .iface 144 (aB s)), (849, aI (ah * 64)), (850, ay au)]) [(aW, .cells mg 36 (0, 0)), (aV, .cells lF 133 (0, 0)), (fb, .cells #[aQ 2, .int .u8 dat, aQ 1, aX abi, aX aH, (aS big), bF aU, bF aJ, aI aG, aC aV 0 ah, aC pg aj aj, aN, aN, aN] 131 (0, 0)), (s, .cells #[.iface 178 (.slice (some ⟨b, o, none⟩) n c), aF 0, aF 0, aF 9223372036854775807, aF 9223372036854775807] 246 (0, 0))] (by kernel_rfl) ?_
 clear HF HM; intro a w HF HM
 refine bf HF (by kernel_rfl) 99 #[.iface 144 (aB s), aI (ah * 64), ay au] (by kernel_rfl) (fun w => by kernel_rfl) (Calls.mono (pG l b o n c hl hnc s (ah * 64) 0 au 0 9223372036854775807 9223372036854775807 (by omega) (by omega) (by omega) (by omega) (by omega) (by omega) w (HM.row hr (by intro b' o' s' e; injection e with e; injection e with e; subst e; exact yc)) (Nat.lt_of_lt_of_le hbl HM.size) hbs (HM.get (i := 3) rfl)) ?_)
 rintro _ w4 ⟨sd, rfl, hb, hge, hgn⟩
 replace HM : Mm G w0 w4 [(sd, .cells (((l.drop (0 + au)).take (ah * 64)).map Bv).toArray 5 (0, 0)), (aW, .cells mg 36 (0, 0)), (aV, .cells lF 133 (0, 0)), (fb, .cells #[aQ 2, .int .u8 dat, aQ 1, aX abi, aX aH, (aS big), bF aU, bF aJ, aI aG, aC aV 0 ah, aC pg aj aj, aN, aN, aN] 131 (0, 0)), (s, .cells #[.iface 178 (.slice (some ⟨b, o, none⟩) n c), aF 0, aF 0, aF 9223372036854775807, aF 9223372036854775807] 246 (0, 0))] := HM.push hb hge hgn
 clear hge hgn
 refine ⟨_, rfl, ?_⟩; clear HF; intro a HF; replace HF := HF.sub ((iq b o n c s fb big ak aj au ah) ++ [(35, ay ah), (41, aC aW 0 ah), (844, .iface 144 (aB s)), (849, aI (ah * 64)), (850, ay au), (851, .tuple #[aC sd (ah * 64) (ah * 64), .nilIface])]) (by kernel_rfl)
 refine aT HF HM rfl 5 [] ((iq b o n c s fb big ak aj au ah) ++ [(35, ay ah), (41, aC aW 0 ah), (42, aC sd (ah * 64) (ah * 64)), (37, .nilIface)]) [(sd, .cells (((l.drop (0 + au)).take (ah * 64)).map Bv).toArray 5 (0, 0)), (aW, .cells mg 36 (0, 0)), (aV, .cells lF 133 (0, 0)), (fb, .cells #[aQ 2, .int .u8 dat, aQ 1, aX abi, aX aH, (aS big), bF aU, bF aJ, aI aG, aC aV 0 ah, aC pg aj aj, aN, aN, aN] 131 (0, 0)), (s, .cells #[.iface 178 (.slice (some ⟨b, o, none⟩) n c), aF 0, aF 0, aF 9223372036854775807, aF 9223372036854775807] 246 (0, 0))] (by kernel_rfl) ?_
 clear HF HM; intro a w HF HM
 refine aA ?_
 refine wp_seq ?_
 refine wp_seq (wp_region_lit ?_)
 refine aT HF HM rfl 2 [] ((iq b o n c s fb big ak aj au ah) ++ [(35, ay ah), (41, aC aW 0 ah), (42, aC sd (ah * 64) (ah * 64)), (37, .nilIface), (855, .bool false)]) [(sd, .cells (((l.drop (0 + au)).take (ah * 64)).map Bv).toArray 5 (0, 0)), (aW, .cells mg 36 (0, 0)), (aV, .cells lF 133 (0, 0)), (fb, .cells #[aQ 2, .int .u8 dat, aQ 1, aX abi, aX aH, (aS big), bF aU, bF aJ, aI aG, aC aV 0 ah, aC pg aj aj, aN, aN, aN] 131 (0, 0)), (s, .cells #[.iface 178 (.slice (some ⟨b, o, none⟩) n c), aF 0, aF 0, aF 9223372036854775807, aF 9223372036854775807] 246 (0, 0))] (by kernel_rfl) ?_
 clear HF HM; intro a w HF HM
 refine aA ?_
 refine aY HF rfl ?_
 refine wp_skip ?_
 repeat (first | refine aK ?_ | refine aP ?_)
 replace HF := HF.sub ((iq b o n c s fb big ak aj au ah) ++ [(41, aC aW 0 ah), (42, aC sd (ah * 64) (ah * 64))]) (by kernel_rfl)
 replace HF := HF.sub ((iq b o n c s fb big ak aj au ah) ++ [(41, aC aW 0 ah), (42, aC sd (ah * 64) (ah * 64))]) (by kernel_rfl)
 rw [Nat.zero_add] at HM
 exact K a w aV lF aW mg sd Qx QB HF HM

end Go.Proofs.YtdgehpocmfjbiaaDoor
namespace Go.Proofs.YtdgehpocmfjbiaaDoor
open Go.RowKit

theorem Og (l : List UInt8) (hl : l.length < 4611686018427387904) (w0 : World) {KK : Act → World → Prop} {QQ : Exit → Act → World → Prop} (Kt : 0 ∉ l → ∀ a, Fr 14 a [(0, .string ⟨l.toArray⟩)] → KK a w0) (Kf : 0 ∈ l → ∀ a, Fr 14 a [(2, .bool false)] → QQ .ret a w0) (i : Nat) (hi : i = l.length) (h0 : 0 ∉ l) {KX : Act → World → Prop}  (a : Act) (HF : Fr 14 a [(0, .string ⟨l.toArray⟩), (3, ay i)]) :
  (pR (spine Tryd.f53 1)).wp Tryd.prog (Exit.then KX (Exit.inBlock 0 (Exit.then KK QQ))) a w0 := by
 have HM : Mm [] w0 w0 [] := Mm.start w0
 have hsz : ((⟨l.toArray⟩ : ByteArray).size : Nat) = l.length := by simp [ByteArray.size]
 refine wp_seq ?_
 refine wp_seq (wp_region_lit ?_)
 refine wp_pure HF HM rfl 4 [] [(0, .string ⟨l.toArray⟩), (3, ay i), (7, .bool (decide (((i : Nat) : Int) < (((⟨l.toArray⟩ : ByteArray).size : Nat) : Int))))] (by kernel_rfl) ?_
 clear HF; intro a HF
 rw [show decide (((i : Nat) : Int) < (((⟨l.toArray⟩ : ByteArray).size : Nat) : Int)) = false from cZ (by omega)] at HF
 refine aA ?_
 refine aY HF rfl ?_
 replace HF := HF.sub [(0, .string ⟨l.toArray⟩)] (by kernel_rfl)
 refine wp_exit ?_
 repeat (first | refine eH ?_ | refine gZ ?_ | refine aK ?_)
 exact Kt (by assumption) a HF

theorem MN (l : List UInt8) (hl : l.length < 4611686018427387904) (w0 : World) {KK : Act → World → Prop} {QQ : Exit → Act → World → Prop} (Kt : 0 ∉ l → ∀ a, Fr 14 a [(0, .string ⟨l.toArray⟩)] → KK a w0) (Kf : 0 ∈ l → ∀ a, Fr 14 a [(2, .bool false)] → QQ .ret a w0) (i : Nat) (b : UInt8) (hb : l[i]? = some b) (hlt : i < l.length) (hz : (((b.toNat : Nat) : Int) == 0) = true) (h0 : 0 ∈ l) {KX : Act → World → Prop}  (a : Act) (HF : Fr 14 a [(0, .string ⟨l.toArray⟩), (3, ay i)]) :
  (pR (spine Tryd.f53 1)).wp Tryd.prog (Exit.then KX (Exit.inBlock 0 (Exit.then KK QQ))) a w0 := by
 have HM : Mm [] w0 w0 [] := Mm.start w0
 have hsz : ((⟨l.toArray⟩ : ByteArray).size : Nat) = l.length := by simp [ByteArray.size]
 refine wp_seq ?_
 refine wp_seq (wp_region_lit ?_)
 refine wp_pure HF HM rfl 4 [] [(0, .string ⟨l.toArray⟩), (3, ay i), (7, .bool (decide (((i : Nat) : Int) < (((⟨l.toArray⟩ : ByteArray).size : Nat) : Int))))] (by kernel_rfl) ?_
 clear HF; intro a HF
 rw [show decide (((i : Nat) : Int) < (((⟨l.toArray⟩ : ByteArray).size : Nat) : Int)) = true from dK (by omega)] at HF
 refine aA ?_
 refine bD HF rfl ?_
 refine wp_skip ?_
 repeat (first | refine aK ?_ | refine aP ?_)
 replace HF := HF.sub [(0, .string ⟨l.toArray⟩), (3, ay i)] (by kernel_rfl)
 refine wp_seq (wp_block ?_)
 refine wp_seq (wp_region_lit ?_)
 refine wp_pure HF HM rfl 2 [] [(0, .string ⟨l.toArray⟩), (3, ay i), (10, .string ⟨l.toArray⟩), (11, ay i)] (by kernel_rfl) ?_
 clear HF; intro a HF
 refine dG HF (by kernel_rfl) (aX b.toNat) (by kernel_rfl) (Ei Tryd.underlying9 rfl rfl rfl hb) ?_
 clear HF; intro a HF; replace HF := HF.sub [(0, .string ⟨l.toArray⟩), (3, ay i), (10, .string ⟨l.toArray⟩), (11, ay i), (12, aX b.toNat)] (by kernel_rfl)
 refine wp_pure HF HM rfl 1 [] [(0, .string ⟨l.toArray⟩), (3, ay i), (13, .bool (((b.toNat : Nat) : Int) == 0))] (by kernel_rfl) ?_
 clear HF; intro a HF
 rw [show (((b.toNat : Nat) : Int) == 0) = true from hz] at HF
 refine aA ?_
 refine bD HF rfl ?_
 replace HF := HF.sub [(0, .string ⟨l.toArray⟩), (3, ay i)] (by kernel_rfl)
 refine wp_seq (wp_region_lit ?_)
 refine wp_pure HF HM rfl 1 [] [(2, .bool false)] (by kernel_rfl) ?_
 clear HF; intro a HF
 refine aA ?_
 refine wp_ret ?_
 repeat (first | refine bJ ?_ | refine bM ?_)
 exact Kf (by assumption) a HF

theorem MO (l : List UInt8) (hl : l.length < 4611686018427387904) (w0 : World) {KK : Act → World → Prop} {QQ : Exit → Act → World → Prop} (Kt : 0 ∉ l → ∀ a, Fr 14 a [(0, .string ⟨l.toArray⟩)] → KK a w0) (Kf : 0 ∈ l → ∀ a, Fr 14 a [(2, .bool false)] → QQ .ret a w0) (i : Nat) (b : UInt8) (hb : l[i]? = some b) (hlt : i < l.length) (hz : (((b.toNat : Nat) : Int) == 0) = false) {KX : Act → World → Prop} (KR : ∀ a, Fr 14 a [(0, .string ⟨l.toArray⟩), (3, ay (i + 1))] → KX a w0) (a : Act) (HF : Fr 14 a [(0, .string ⟨l.toArray⟩), (3, ay i)]) :
  (pR (spine Tryd.f53 1)).wp Tryd.prog (Exit.then KX (Exit.inBlock 0 (Exit.then KK QQ))) a w0 := by
 have HM : Mm [] w0 w0 [] := Mm.start w0
 have hsz : ((⟨l.toArray⟩ : ByteArray).size : Nat) = l.length := by simp [ByteArray.size]
 refine wp_seq ?_
 refine wp_seq (wp_region_lit ?_)
 refine wp_pure HF HM rfl 4 [] [(0, .string ⟨l.toArray⟩), (3, ay i), (7, .bool (decide (((i : Nat) : Int) < (((⟨l.toArray⟩ : ByteArray).size : Nat) : Int))))] (by kernel_rfl) ?_
 clear HF; intro a HF
 rw [show decide (((i : Nat) : Int) < (((⟨l.toArray⟩ : ByteArray).size : Nat) : Int)) = true from dK (by omega)] at HF
 refine aA ?_
 refine bD HF rfl ?_
 refine wp_skip ?_
 repeat (first | refine aK ?_ | refine aP ?_)
 replace HF := HF.sub [(0, .string ⟨l.toArray⟩), (3, ay i)] (by kernel_rfl)
 refine wp_seq (wp_block ?_)
 refine wp_seq (wp_region_lit ?_)
 refine wp_pure HF HM rfl 2 [] [(0, .string ⟨l.toArray⟩), (3, ay i), (10, .string ⟨l.toArray⟩), (11, ay i)] (by kernel_rfl) ?_
 clear HF; intro a HF
 refine dG HF (by kernel_rfl) (aX b.toNat) (by kernel_rfl) (Ei Tryd.underlying9 rfl rfl rfl hb) ?_
 clear HF; intro a HF; replace HF := HF.sub [(0, .string ⟨l.toArray⟩), (3, ay i), (10, .string ⟨l.toArray⟩), (11, ay i), (12, aX b.toNat)] (by kernel_rfl)
 refine wp_pure HF HM rfl 1 [] [(0, .string ⟨l.toArray⟩), (3, ay i), (13, .bool (((b.toNat : Nat) : Int) == 0))] (by kernel_rfl) ?_
 clear HF; intro a HF
 rw [show (((b.toNat : Nat) : Int) == 0) = false from hz] at HF
 refine aA ?_
 refine aY HF rfl ?_
 replace HF := HF.sub [(0, .string ⟨l.toArray⟩), (3, ay i)] (by kernel_rfl)
 refine wp_skip ?_
 repeat (first | refine aK ?_ | refine aP ?_)
 refine wp_region_lit ?_
 refine wp_pure HF HM rfl 2 [] [(0, .string ⟨l.toArray⟩), (3, ay i), (9, .int .i64 (IntKind.i64.wrap (((i : Nat) : Int) + 1)))] (by kernel_rfl) ?_
 clear HF; intro a HF
 rw [show IntKind.i64.wrap (((i : Nat) : Int) + 1) = (((i + 1) : Nat) : Int) from (IntWalk.i64_in _ (by omega)).trans (by omega)] at HF
 refine wp_pure HF HM rfl 1 [] [(0, .string ⟨l.toArray⟩), (3, ay (i + 1))] (by kernel_rfl) ?_
 clear HF; intro a HF
 refine wpList_nil ?_
 repeat (first | refine aK ?_ | refine aP ?_)
 exact KR a HF
theorem Eo (l : List UInt8) (hl : l.length < 4611686018427387904) (w0 : World) {KK : Act → World → Prop} {QQ : Exit → Act → World → Prop} (Kt : 0 ∉ l → ∀ a, Fr 14 a [(0, .string ⟨l.toArray⟩)] → KK a w0) (Kf : 0 ∈ l → ∀ a, Fr 14 a [(2, .bool false)] → QQ .ret a w0) : ∀ (r i : Nat), i + r = l.length → (∀ j, j < i → l[j]? ≠ some 0) → ∀ a, Fr 14 a [(0, .string ⟨l.toArray⟩), (3, ay i)] →
  Code.rounds Tryd.prog (pR (spine Tryd.f53 1)) (Exit.inBlock 0 (Exit.then KK QQ)) (r + 1) a w0
 | 0, i, hr, hp, a, HF => by
  rw [rounds_succ]
  refine Og l hl w0 Kt Kf i (by omega) (fun hm => ?_) a HF
  obtain ⟨j, hj, e⟩ := List.getElem_of_mem hm
  exact hp j (by omega) (by rw [List.getElem?_eq_getElem hj, e])
 | r + 1, i, hr, hp, a, HF => by
  rw [rounds_succ]
  have hlt : i < l.length := by omega
  have hb : l[i]? = some l[i] := List.getElem?_eq_getElem hlt
  by_cases hz : l[i] = 0
  ·exact MN l hl w0 Kt Kf i l[i] hb hlt (by rw [hz]; rfl) (hz ▸ List.getElem_mem hlt) a HF
  ·refine MO l hl w0 Kt Kf i l[i] hb hlt (beq_eq_false_iff_ne.2 fun e => hz (UInt8.toNat_inj.1 (by simpa using e))) (fun a HF => ?_) a HF
   refine Eo l hl w0 Kt Kf r (i + 1) (by omega) (fun j hj => ?_) a HF
   rcases Nat.lt_or_ge j i with h | h
   ·exact hp j h
   ·obtain rfl : j = i := by omega
    rw [hb]
    exact fun e => hz (Option.some.inj e)

theorem Ig (l : List UInt8) (hl : l.length < 4611686018427387904) (w0 : World) : Calls Tryd.prog 53 #[.string ⟨l.toArray⟩] w0 fun e w' => e = .returned (.bool (decide (0 ∉ l))) ∧ w' = w0 := by
 have HM : Mm [] w0 w0 [] := Mm.start w0
 refine cu Tryd.func53 rfl Tryd.ntmps53 [(0, .string ⟨l.toArray⟩)] (by kernel_rfl) (Nat.le_of_ble_eq_true rfl) ?_
 intro a HF
 refine oK HF HM rfl [] [(0, .string ⟨l.toArray⟩), (2, .bool false)] (by kernel_rfl) ?_
 clear HF; intro a HF
 replace HF := HF.sub [(0, .string ⟨l.toArray⟩)] (by kernel_rfl)
 refine wp_seq ?_
 refine oK HF HM rfl [] [(0, .string ⟨l.toArray⟩), (3, ay 0)] (by kernel_rfl) ?_
 clear HF; intro a HF
 refine wp_block (wp_loop_rounds (l.length + 1) ?_)
 refine Eo l hl w0 (fun h a HF => ?_) (fun h a HF => ?_) l.length 0 (by omega) (fun j hj => absurd hj (Nat.not_lt_zero j)) a HF
 ·have _ := h
  refine wp_seq (wp_region_lit ?_)
  refine wp_pure HF HM rfl 1 [] [(2, .bool true)] (by kernel_rfl) ?_
  clear HF; intro a HF
  refine aA ?_
  refine wp_ret ?_
  exact bQ HF rfl rfl ⟨by rw [decide_eq_true h], rfl⟩
 ·exact bQ HF rfl rfl ⟨by rw [decide_eq_false (by simpa using h)], rfl⟩
end Go.Proofs.YtdgehpocmfjbiaaDoor
namespace Go.Proofs.YtdgehpocmfjbiaaDoor
open Go.RowKit

theorem nZ {α : Type} [BEq α] [LawfulBEq α] {x y : α} (h : x = y) : (x == y) = true := by simpa using h
theorem oM {α : Type} [BEq α] [LawfulBEq α] {x y : α} (h : ¬ x = y) : (x == y) = false := by simpa using h
theorem Gm {α : Type} [BEq α] [LawfulBEq α] {x y : α} (h : x ≠ y) : (x != y) = true := by simpa using h
theorem yS {α : Type} [BEq α] [LawfulBEq α] {x y : α} (h : ¬ x ≠ y) : (x != y) = false := by simpa using h
theorem Ik (b : Bool) : b = true ∨ b = false := by cases b <;> simp
theorem dZ (b : Bool) : b = false ∨ b = true := by cases b <;> simp

/-- a loop of n rounds, by an invariant -/
theorem kC {P : Program} {body : Code} {Q : Exit → Act → World → Prop} {a : Act} {w : World} (n : Nat) (Inv : Nat → Act → World → Prop) (h0 : Inv 0 a w)
  (step : ∀ i a w (KX : Act → World → Prop), i < n → Inv i a w → (∀ a w, Inv (i + 1) a w → KX a w) → body.wp P (Exit.then KX Q) a w)
  (last : ∀ a w (KX : Act → World → Prop), Inv n a w → body.wp P (Exit.then KX Q) a w) : (Code.loop body).wp P Q a w := by
 refine wp_loop_rounds (n + 1) ?_
 have key : ∀ r i a w, i + r = n → Inv i a w → Code.rounds P body Q (r + 1) a w := by
  intro r
  induction r with
  | zero =>
   intro i a w hi h
   rw [rounds_succ]
   obtain rfl : i = n := by omega
   exact last a w _ h
  | succ r ih =>
   intro i a w hi h
   rw [rounds_succ]
   exact step i a w _ (by omega) h fun a w h => ih (i + 1) a w (by omega) h
 exact key n 0 a w (by omega) h0

/-- the ways through a piece of code meet again -/
theorem pJ {P : Program} {c : Code} {Q : Exit → Act → World → Prop} {a : Act} {w : World} (I : Act → World → Prop) (h : c.wp P (Exit.then I Q) a w) (hr : ∀ a w, I a w → Q .normal a w) : c.wp P Q a w :=
 Code.wp_mono (fun e a w h => by
  cases e with
  | normal => exact hr a w h
  | _ => exact h) h

section
variable {P : Program} {N : Nat} {G : List Nat} {w0 w : World} {a : Act} {L : List (Nat × Obj)} {ops : Array Oper}
theorem Fr.tell {S : Slots} (h : Fr N a S) (t : Nat) {v u : Value} (e : Go.Proofs.YtdgehpocmfjbiaaDoor.lk S t = some v) (hv : v = u) : Fr N a ((t, u) :: S) :=
 ⟨h.1, h.2.1, fun p hp => by
  rcases List.mem_cons.1 hp with rfl | hp
  ·exact hv ▸ h.lk e
  ·exact h.2.2 p hp⟩
theorem Mm.rH {w' : World} {g : Nat} (h : Mm G w0 w L) (hb : Below g w w') (hL : ∀ p ∈ L, p.1 < g) (hg : w0.heap.size ≤ g) : Mm G w0 w' L :=
 ⟨⟨hb.os.trans h.1.os, hb.tape.trans h.1.tape, hb.output.trans h.1.output, Nat.le_trans h.1.size hb.size, fun k hk hn => (hb.block k (Nat.lt_of_lt_of_le hk hg)).trans (h.1.block k hk hn)⟩,
  fun p hp => ⟨(hb.block p.1 (hL p hp)).trans (h.2.1 p hp).1, (h.2.1 p hp).2⟩, h.2.2⟩
theorem Mm.pick (h : Mm G w0 w L) (idx : List Nat) (K : List (Nat × Obj)) (e : idx.map (fun i => L[i]?) = K.map some) (hd : idx.Pairwise (· ≠ ·)) : Mm G w0 w K := by
 have hlen : idx.length = K.length := by simpa using congrArg List.length e
 have hat : ∀ (j : Nat) (hj : j < idx.length) (hk : j < K.length), L[idx[j]]? = some K[j] := by
  intro j hj hk
  have := congrArg (fun l => l[j]?) e
  simp only [List.getElem?_map, List.getElem?_eq_getElem hj, List.getElem?_eq_getElem hk, Option.map_some] at this
  exact Option.some.inj this
 refine ⟨h.1, fun p hp => ?_, ?_⟩
 ·obtain ⟨j, hj, e2⟩ := List.getElem_of_mem hp
  have := hat j (by omega) hj
  rw [e2] at this
  exact h.2.1 p (List.mem_of_getElem? this)
 ·rw [List.pairwise_iff_getElem]
  intro i j hi hj hij
  simp only [List.length_map] at hi hj
  simp only [List.getElem_map]
  have h1 := hat i (by omega) hi
  have h2 := hat j (by omega) hj
  have hne : idx[i]'(by omega) ≠ idx[j]'(by omega) := List.pairwise_iff_getElem.1 hd i j (by omega) (by omega) hij
  exact h.ne (b := K[i].1) (c := K[j].1) (o := K[i].2) (p := K[j].2) h1 h2 hne

/-- append, there is room, onto a told block -/
theorem Dk (t tx ty e : TypeId) (i : TypeInfo) (ht : P.underlying t = some (.slice e)) (hi : P.info? e = some i) (g n cap : Nat) (x : Value) (m : Nat) (news : List Value) (hs : Src P i.size tx x m news w)
  (cur : Array Value) (hg : w.heap[g]? = some (.cells cur e (0, 0))) (hroom : n + m ≤ cap) (hfit : n * i.size + news.length ≤ cur.size) :
  (Builtin.append_ #[t, tx] ty #[.slice (some ⟨g, 0, none⟩) n cap, x]).run P w = .ok (.slice (some ⟨g, 0, none⟩) (n + m) cap) (w.setRow g (cur.toList.take (n * i.size) ++ news ++ cur.toList.drop (n * i.size + news.length)).toArray) := by
 have hst := run_storeCells_at P g (n * i.size) e news 0 cur w hg (by simpa using hfit) hs.one
 rw [Nat.add_zero] at hst
 have ha : (⟨g, 0, none⟩ : Addr).add (n * i.size) = ⟨g, n * i.size, none⟩ := by rw [addr_add, Nat.zero_add]
 rcases hs.kind with ⟨e', hk⟩ | hk <;> simp [Builtin.append_, run_underlying ht, run_underlying hk, sizeOf, typeInfo, hi, hs.len, hroom, hs.cells, ha, hst]

theorem fZ {Q : Exit → Act → World → Prop} {rest : List Oper} {o : Oper} {S : Slots} (HF : Fr N a S) (HM : Mm G w0 w L) (hgd : o.guard = none) (s x : Operand) (t tx : TypeId)
  (ho : o.op = .call { callee := .builtin .append, args := #[s, x], argTypes := #[t, tx] }) (hd : okD N o.dst = true)
  (e : TypeId) {z : Value} {size bytes : Nat} (ht : P.underlying t = some (.slice e)) (hi : (P.info? e).map (fun i => (i.zero, i.size, i.bytes)) = some (some z, size, bytes)) (hzs : z.cells.size = size) (hsz : 0 < size)
  (i g n cap : Nat) (cur : Array Value) (hL : L[i]? = some (g, .cells cur e (0, 0))) (hs : ev S s = some (.slice (some ⟨g, 0, none⟩) n cap)) (hnc : n ≤ cap) (hcm : cap ≤ maxLen) (hcs : cur.size = cap * size) (xs : List Value) (hxs : cur.toList.take (n * size) = xs)
  (xv : Value) (m : Nat) (news : List Value) (hx : ev S x = some xv) (hsrc : Src P size tx xv m news w)
  (h63 : n + m ≤ maxLen) (hbytes : (n + m) * bytes ≤ 140737488355328)
  (hK : ∀ a' w' g' cap' cur', Mm G w0 w' (L.set i (g', .cells cur' e (0, 0))) → cur'.toList.take ((n + m) * size) = xs ++ news → cur'.size = cap' * size → n + m ≤ cap' → cap' ≤ maxLen → Fr N a' (uP S o.dst (.slice (some ⟨g', 0, none⟩) (n + m) cap')) → wpList P ops Q rest a' w') : wpList P ops Q (o :: rest) a w := by
 obtain ⟨inf, hi0, hz0, hz1, hz2⟩ := info_parts hi
 have hsx : Src P inf.size tx xv m news w := by rw [hz1]; exact hsrc
 have hnl := hsrc.newsLen
 have hnn : (n + m) * size = n * size + m * size := Nat.add_mul _ _ _
 have hle : n * size ≤ cap * size := Nat.mul_le_mul_right _ hnc
 have hxl : xs.length = n * size := by rw [← hxs, List.length_take, Array.length_toList, hcs]; omega
 have hg := HM.get hL
 refine wpList_plain hgd fun K hK' => ?_
 unfold Oper.wp execOp
 have hd1 := HF.ev hs
 have hd2 := HF.ev hx
 by_cases hroom : n + m ≤ cap
 ·have hlm : (n + m) * size ≤ cap * size := Nat.mul_le_mul_right _ hroom
  have hr := Dk (P := P) t tx o.type e inf ht hi0 g n cap xv m news hsx cur hg hroom (by rw [hz1, hcs, hnl]; omega)
  rw [hz1] at hr
  simp only [ho, resolve, invoke, builtin, Sem.run_bind, Sem.run_pure, Result.andThen_ok, List.map_toArray, List.map_cons, List.map_nil, hd1, hd2, hr]
  refine hK' _ _ (hK _ _ g cap _ (HM.set hL _) ?_ ?_ hroom hcm (HF.put _ _ (kY hd)))
  ·simp only [hxs]
   rw [hnn, ← hxl, ← hnl, ← List.length_append, List.take_left]
  ·simp only [List.size_toArray, List.length_append, List.length_take, List.length_drop, Array.length_toList]
   omega
 ·have holds : (Builtin.firstCells inf.size n (.slice (some ⟨g, 0, none⟩) n cap)).run P w.drew = .ok xs.toArray w.drew := by
   refine run_firstCells_some w.drew inf.size n ⟨g, 0, none⟩ n cap xs (by rw [hz1]; exact hxl) fun j u hj => ?_
   rw [addr_add]
   have hc := cell_of_row w.drew g (0 + j) cur e (0, 0) hg
   rw [hc, Nat.zero_add]
   have : (cur.toList.take (n * size))[j]? = some u := by rw [hxs]; exact hj
   rw [List.getElem?_take] at this
   split at this
   ·simpa using this
   ·cases this
  have hr := run_append_grow_src (P := P) w t tx o.type e inf z ht hi0 hz0 (some ⟨g, 0, none⟩) n cap xs holds xv m news hsx (by omega) (by simp only [maxLen] at h63; omega) (growslice_fits (by omega) (by rw [hz2]; exact hbytes))
  simp only [ho, resolve, invoke, builtin, Sem.run_bind, Sem.run_pure, Result.andThen_ok, List.map_toArray, List.map_cons, List.map_nil, hd1, hd2, hr]
  have hge := grownCap_ge w (n + m) cap e
  have hcm2 : grownCap w (n + m) cap e ≤ maxLen := grownCap_le_maxLen w (n + m) cap e h63
  have hM2 := (HM.drewN 1).alloc (.cells ((xs ++ news).toArray ++ Builtin.zeroCells z.cells (grownCap w (n + m) cap e - (n + m))) e)
  refine hK' _ _ (hK _ _ w.heap.size (grownCap w (n + m) cap e) ((xs ++ news).toArray ++ Builtin.zeroCells z.cells (grownCap w (n + m) cap e - (n + m))) ?_ ?_ ?_ hge hcm2 (HF.put _ _ (kY hd)))
  ·refine ⟨hM2.1, fun p hp => ?_, ?_⟩
   ·obtain ⟨j, hj⟩ := List.getElem?_of_mem hp
    rw [List.getElem?_set] at hj
    split at hj
    ·split at hj
     ·injection hj with hj
      subst hj
      exact hM2.2.1 _ List.mem_cons_self
     ·cases hj
    ·exact hM2.2.1 _ (List.mem_cons_of_mem _ (List.mem_of_getElem? hj))
   ·have hp := hM2.2.2
    rw [List.map_cons, List.pairwise_cons] at hp
    rw [List.map_set, List.pairwise_iff_getElem]
    intro j k hj hk hjk
    simp only [List.length_set, List.length_map] at hj hk
    simp only [List.getElem_set, List.getElem_map]
    have h2 := List.pairwise_iff_getElem.1 hp.2 j k (by simpa using hj) (by simpa using hk) hjk
    simp only [List.getElem_map] at h2
    have hm1 : ∀ q (hq : q < L.length), w.heap.size ≠ (L[q]'hq).1 := fun q hq => hp.1 _ (List.mem_map.2 ⟨_, List.getElem_mem hq, rfl⟩)
    split
    ·split
     ·omega
     ·exact hm1 k hk
    ·split
     ·exact (hm1 j hj).symm
     ·exact h2
  ·rw [Array.toList_append, List.toList_toArray, hnn, ← hxl, ← hnl, ← List.length_append, List.take_left]
  ·simp only [Array.size_append, List.size_toArray, size_zeroCells, hzs, List.length_append, hxl, hnl, ← Nat.add_mul]
   congr 1
   omega

/-- append of zeros ('append(x, make([]byte, m)...)') onto a full told block: a new row -/
theorem Ht {Q : Exit → Act → World → Prop} {rest : List Oper} {o : Oper} {S : Slots} (HF : Fr N a S) (HM : Mm G w0 w L) (hgd : o.guard = none) (s x : Operand) (t tx : TypeId)
  (ho : o.op = .call { callee := .builtin .append, args := #[s, x], argTypes := #[t, tx] }) (hd : okD N o.dst = true)
  (e : TypeId) (ht : P.underlying t = some (.slice e)) (htx : P.underlying tx = some (.int .i64)) (hi : (P.info? e).map (fun i => (i.zero, i.size, i.bytes)) = some (some (.int .u8 0), 1, 1))
  (i g n : Nat) (cur : Array Value) (hL : L[i]? = some (g, .cells cur e (0, 0))) (hs : ev S s = some (.slice (some ⟨g, 0, none⟩) n n)) (hcs : cur.size = n)
  (m : Nat) (hm0 : 0 < m) (hm : m ≤ 1000) (hn : n ≤ 1000) (hx : ev S x = some (.int .i64 (m : Int)))
  (hK : ∀ a' w' g' cap' cur', Mm G w0 w' ((g', .cells cur' e (0, 0)) :: L) → w.heap.size ≤ g' → cur'.toList.take ((n + m) * 1) = cur.toList ++ List.replicate m (.int .u8 0) → cur'.size = cap' * 1 → n + m ≤ cap' → cap' ≤ maxLen → Fr N a' (uP S o.dst (.slice (some ⟨g', 0, none⟩) (n + m) cap')) → wpList P ops Q rest a' w') : wpList P ops Q (o :: rest) a w := by
 obtain ⟨inf, hi0, hz0, hz1, hz2⟩ := info_parts hi
 have hg := HM.get hL
 refine wpList_plain hgd fun K hK' => ?_
 unfold Oper.wp execOp
 have hd1 := HF.ev hs
 have hd2 := HF.ev hx
 have holds : (Builtin.firstCells inf.size n (.slice (some ⟨g, 0, none⟩) n n)).run P w.drew = .ok cur.toList.toArray w.drew := by
  refine run_firstCells_some w.drew inf.size n ⟨g, 0, none⟩ n n cur.toList (by rw [hz1, Array.length_toList, hcs, Nat.mul_one]) fun j u hj => ?_
  rw [addr_add]
  have hc := cell_of_row w.drew g (0 + j) cur e (0, 0) hg
  rw [hc, Nat.zero_add]
  simpa using hj
 have hw : IntKind.i64.wrap (m : Int) = (m : Int) := IntWalk.i64_in _ (by omega)
 have hc1 : ¬ (n + m ≤ n) := by omega
 have hge := grownCap_ge w (n + m) n e
 have h63 : n + m ≤ maxLen := by unfold maxLen; omega
 have hcm2 : grownCap w (n + m) n e ≤ maxLen := grownCap_le_maxLen w (n + m) n e h63
 have hfit := growslice_fits (need := n + m) (old := n) (bytes := 1) (by omega) (by omega)
 have hr : (Builtin.append_ #[t, tx] o.type #[.slice (some ⟨g, 0, none⟩) n n, .int .i64 (m : Int)]).run P w = .ok (.slice (some ⟨w.heap.size, 0, none⟩) (n + m) (grownCap w (n + m) n e))
    (w.drew.alloc (.cells ((cur.toList ++ List.replicate m (Value.int .u8 0)).toArray ++ Builtin.zeroCells #[Value.int .u8 0] (grownCap w (n + m) n e - (n + m))) e)) := by
  have h1 : ¬ ((m : Int) < 0) := by omega
  have h2 : ¬ (281474976710656 < (m : Int)) := by omega
  have h3 : ¬ (9223372036854775807 < ((n : Int) + (m : Int))) := by omega
  have h4 : ¬ (281474976710656 < Builtin.nextslicecap (n + m) n * 1) := by omega
  have h4' : ¬ (281474976710656 < Builtin.nextslicecap (n + m) n) := by omega
  have h5 : ¬ (m = 0) := by omega
  rw [hz1] at holds
  have hzc : Builtin.zeroCells #[Value.int .u8 0] m = (List.replicate m (Value.int .u8 0)).toArray := by
   apply Array.ext'
   apply List.ext_getElem
   ·simp [Builtin.zeroCells]
   ·intro j h1 h2
    simp [Builtin.zeroCells, Nat.mod_one]
  simp [Builtin.append_, run_underlying ht, run_underlying htx, sizeOf, typeInfo, zeroValue, hi0, hz0, hz1, hz2, asInt, asIntOf, hw, h1, h2, h3, h4, h5, hc1, Question.forced, newRow, grownCap, Value.cells, hzc, h4', holds]
  congr 2
  apply Array.ext'
  simp [List.append_assoc]
 simp only [ho, resolve, invoke, builtin, Sem.run_bind, Sem.run_pure, Result.andThen_ok, List.map_toArray, List.map_cons, List.map_nil, hd1, hd2, hr]
 refine hK' _ _ (hK _ _ w.heap.size (grownCap w (n + m) n e) _ ((HM.drewN 1).alloc _) (Nat.le_refl _) ?_ ?_ hge hcm2 (HF.put _ _ (kY hd)))
 ·rw [Array.toList_append, List.toList_toArray, Nat.mul_one]
  have hl : (cur.toList ++ List.replicate m (Value.int .u8 0)).length = n + m := by simp [hcs]
  rw [← hl, List.take_left]
 ·simp only [Array.size_append, List.size_toArray, size_zeroCells, List.length_append, Array.length_toList, List.length_replicate, hcs]
  simp
  omega
theorem lW {size : Nat} {tx e' : TypeId} (hk : P.underlying tx = some (.slice e')) {A : Option Addr} {m c : Nat} {news : List Value} (hm : news.length = m * size) (hsz : 0 < size) (hr : Row w A news) (h1 : ∀ u ∈ news, u.oneCell' = true) :
  Src P size tx (.slice A m c) m news w := by
 rcases A with _ | ad
 ·have hn : news = [] := by
   rcases news with _ | ⟨x, l⟩
   ·rfl
   ·obtain ⟨b, off, e, _⟩ := hr 0 x rfl
    cases e
  subst hn
  have hm0 : m = 0 := by
   rcases Nat.eq_zero_or_pos m with h0 | h0
   ·exact h0
   ·have := Nat.mul_pos h0 hsz
    simp at hm
    omega
  subst hm0
  exact Src.ofNil w hk c
 ·refine Src.ofSlice w hk ad m c news hm (fun j u hu => ?_) h1
  obtain ⟨b, off, e, hc⟩ := hr j u hu
  injection e with e
  subst e
  rw [addr_add]
  exact hc
theorem EG {w : World} {A : Option Addr} {cs : List Value} (h : Row w A cs) (k : Nat) : Row w A (cs.take k) := fun i v hv => by
 rw [List.getElem?_take] at hv
 split at hv
 ·exact h i v hv
 ·cases hv
theorem lu {l : List Value} (h : l.all (·.oneCell') = true) : ∀ u ∈ l, u.oneCell' = true := fun u hu => List.all_eq_true.1 h u hu
theorem IE {cur : Array Value} {n size cap : Nat} {xs : List Value} (tk : cur.toList.take (n * size) = xs) (sz : cur.size = cap * size) (nc : n ≤ cap) : xs.length = n * size := by
 have hle : n * size ≤ cap * size := Nat.mul_le_mul_right _ nc
 rw [← tk, List.length_take, Array.length_toList, sz]
 omega
theorem Hf {α : Type} {f : α → List Value} {k : Nat} (hk : ∀ a, (f a).length = k) : ∀ l : List α, (l.flatMap f).length = l.length * k
 | [] => by simp
 | x :: l => by rw [List.flatMap_cons, List.length_append, hk, Hf hk l, List.length_cons, Nat.succ_mul, Nat.add_comm]
theorem Lm {α : Type} {f : α → List Value} (h : ∀ a, (f a).all (·.oneCell') = true) (l : List α) : ∀ u ∈ l.flatMap f, u.oneCell' = true := fun u hu => by
 obtain ⟨a, _, ha⟩ := List.mem_flatMap.1 hu
 exact List.all_eq_true.1 (h a) u ha
theorem IJ {α : Type} {f : α → Value} (h : ∀ a, (f a).oneCell' = true) (l : List α) : ∀ u ∈ l.map f, u.oneCell' = true := fun u hu => by
 obtain ⟨a, _, rfl⟩ := List.mem_map.1 hu
 exact h a
/-- a row of a callee's own, as its contract tells it -/
structure Own (B : Nat) (w : World) (e : TypeId) (size g n cap : Nat) (cur : Array Value) (xs : List Value) : Prop where
 new : B ≤ g
 obj : w.heap[g]? = some (.cells cur e (0, 0))
 tk : cur.toList.take (n * size) = xs
 sz : cur.size = cap * size
 nc : n ≤ cap
 cm : cap ≤ maxLen
theorem Own.row {B : Nat} {w : World} {e : TypeId} {size g n cap : Nat} {cur : Array Value} {xs : List Value} (h : Own B w e size g n cap cur xs) : Row w (some ⟨g, 0, none⟩) xs := by
 have hr : Row w (some ⟨g, 0, none⟩) cur.toList := Row.of_cells fun j hj => by
  rw [cell_of_row w g (0 + j) cur e (0, 0) h.obj, Nat.zero_add]
  have : j < cur.size := by simpa using hj
  simp [this]
 have := EG hr (n * size)
 rwa [h.tk] at this
theorem Own.below {B : Nat} {w w' : World} {e : TypeId} {size g n cap : Nat} {cur : Array Value} {xs : List Value} (h : Own B w e size g n cap cur xs) (hb : Below w.heap.size w w') : Own B w' e size g n cap cur xs :=
 { h with obj := (hb.block g (kH h.obj)).trans h.obj }
theorem Mm.QV {w' : World} (h : Mm G w0 w L) (hb : Below w.heap.size w w') {b c : Nat} {o p : Obj} (hg : w.heap.size ≤ b) (ho : w'.heap[b]? = some o) (hc : w.heap.size ≤ c) (hp : w'.heap[c]? = some p) (hne : c ≠ b) : Mm G w0 w' ((c, p) :: (b, o) :: L) := by
 have h1 := h.push hb hg ho
 refine ⟨h1.1, fun q hq => ?_, ?_⟩
 ·rcases List.mem_cons.1 hq with rfl | hq
  ·exact ⟨hp, .inl (Nat.le_trans h.size hc)⟩
  ·exact h1.2.1 q hq
 ·rw [List.map_cons, List.pairwise_cons]
  refine ⟨fun d hd => ?_, h1.2.2⟩
  rw [List.map_cons, List.mem_cons] at hd
  rcases hd with rfl | hd
  ·exact hne
  ·obtain ⟨q, hq, rfl⟩ := List.mem_map.1 hd
   have := kH (h.2.1 q hq).1
   show c ≠ q.1
   omega
theorem NR {tx : TypeId} (hk : P.underlying tx = some .string) (l : List UInt8) : Src P 1 tx (.string ⟨l.toArray⟩) l.length (l.map Bv) w := by
 have h := Src.ofString (P := P) w hk (⟨l.toArray⟩ : ByteArray)
 have e : byteCells ⟨l.toArray⟩ = l.map Bv := by simp [byteCells, Bv]
 rw [e] at h
 exact h
/-- the row that a told block of the call's own holds -/
theorem Mm.lZ (h : Mm G w0 w L) {i g k : Nat} {cur : Array Value} {t : TypeId} {f : Nat × Nat} {xs : List Value} (e : L[i]? = some (g, .cells cur t f)) (hx : cur.toList.take k = xs) : Row w (some ⟨g, 0, none⟩) xs := by
 have := EG (h.rowAt e) k
 rwa [hx] at this
theorem Told.lZ {LS : List (Nat × Obj)} (h : Told LS w) {i g k : Nat} {cur : Array Value} {t : TypeId} {f : Nat × Nat} {xs : List Value} (e : LS[i]? = some (g, .cells cur t f)) (hx : cur.toList.take k = xs) : Row w (some ⟨g, 0, none⟩) xs := by
 have hg : w.heap[g]? = some (.cells cur t f) := h _ (List.mem_of_getElem? e)
 have hr : Row w (some ⟨g, 0, none⟩) cur.toList := Row.of_cells fun j hj => by
  rw [cell_of_row w g (0 + j) cur t f hg, Nat.zero_add]
  have : j < cur.size := by simpa using hj
  simp [this]
 have := EG hr k
 rwa [hx] at this
/-- a cell of an own row is stored -/
theorem Ew {Q : Exit → Act → World → Prop} {rest : List Oper} {o : Oper} {S : Slots} (HF : Fr N a S) (HM : Mm G w0 w L) (hgd : o.guard = none) (ty : TypeId) (x y : Operand) (ho : o.op = .store ty x y) (hd : okD N o.dst = true)
  (i g j : Nat) (cur : Array Value) (e : TypeId) (hL : L[i]? = some (g, .cells cur e (0, 0))) (hx : ev S x = some (.pointer (some ⟨g, j, none⟩))) (v : Value) (hy : ev S y = some v) (hv : v.cells = #[v]) (h1 : v.oneCell' = true) (hj : j < cur.size) (hi : (P.info? ty).map (·.size) = some 1)
  (hK : ∀ a' w' cur', Mm G w0 w' (L.set i (g, .cells cur' e (0, 0))) → cur'.toList = cur.toList.set j v → Fr N a' (uP S o.dst undef) → wpList P ops Q rest a' w') : wpList P ops Q (o :: rest) a w := by
 have hn : ((cur.toList.take j ++ v.cells.toList ++ cur.toList.drop (j + v.cells.size)).toArray).toList = cur.toList.take j ++ v.cells.toList ++ cur.toList.drop (j + v.cells.size) := rfl
 refine OM HM hgd ty x y ho g j (HF.ev hx) v (HF.ev hy) i cur e hL _ hn (by rw [hi, hv]; rfl) (Nat.ble_eq_true_of_le (by rw [hv]; show j + 1 ≤ _; omega)) (by rw [hv]; simp [h1]) fun w' jh => ?_
 refine hK _ _ _ jh ?_ (HF.put _ _ (kY hd))
 rw [hn, hv]
 have hl : j < cur.toList.length := by simpa using hj
 rw [List.set_eq_take_append_cons_drop, if_pos hl, List.append_assoc]
 rfl
/-- element j of a row of structs -/
theorem ku {α : Type} {A : Option Addr} {f : α → List Value} {k : Nat} {l : List α} (hk : ∀ a, (f a).length = k) (hr : Row w A (l.flatMap f)) (j : Nat) {m : α} (hj : l[j]? = some m) : Row w (A.map (·.add (j * k))) (f m) := by
 obtain ⟨hlt, e⟩ := List.getElem?_eq_some_iff.1 hj
 have hl : ∀ l : List α, (l.flatMap f).length = l.length * k := fun l => by
  induction l with
  | nil => simp
  | cons x l ih => rw [List.flatMap_cons, List.length_append, hk, ih, List.length_cons, Nat.succ_mul, Nat.add_comm]
 have h1 : l.flatMap f = (l.take j).flatMap f ++ (f m ++ (l.drop (j + 1)).flatMap f) := by
  have : l = l.take j ++ (l[j] :: l.drop (j + 1)) := by rw [← List.drop_eq_getElem_cons hlt, List.take_append_drop]
  have h2 : l.flatMap f = (l.take j ++ (l[j] :: l.drop (j + 1))).flatMap f := by rw [← this]
  rw [h2, List.flatMap_append, List.flatMap_cons, e]
 have h3 : ((l.take j).flatMap f).length = j * k := by rw [hl, List.length_take]; congr 1; omega
 have h4 := (hr.drop (j * k)).take k
 rw [h1, ← h3, List.drop_left, ← hk m, List.take_left, h3] at h4
 exact h4
theorem kU {α : Type} {A : Option Addr} {f : α → Value} {l : List α} (hr : Row w A (l.map f)) (j : Nat) {m : α} (hj : l[j]? = some m) : Row w (A.map (·.add (j * 1))) [f m] := by
 have := ku (f := fun a => [f a]) (k := 1) (fun _ => rfl) (l := l) (by rw [← List.map_eq_flatMap]; exact hr) j hj
 exact this
theorem Ky {A : Option Addr} {cs : List Value} (hr : Row w A cs) (h : 0 < cs.length) : ∃ b off, A = some ⟨b, off, none⟩ := by
 obtain ⟨b, off, e, _⟩ := hr 0 cs[0] (List.getElem?_eq_getElem h)
 exact ⟨b, off, e⟩
theorem ji {A : Option Addr} {k : Nat} {cs : List Value} (hr : Row w (A.map (·.add k)) cs) (h : 0 < cs.length) : A ≠ none := by
 obtain ⟨b, off, e⟩ := Ky hr h
 intro h0; subst h0; cases e
/-- the address of element j -/
theorem fD {t e : TypeId} {k : Nat} (ht : P.underlying t = some (.slice e)) (hi : (P.info? e).map (·.size) = some k) {ρ : Operand → Value} {o : Oper} {x ix : Operand} (ho : o.op = .indexAddr t x ix) {A : Option Addr} {n c : Nat} (j : Nat) {kk : IntKind} (hx : ρ x = .slice A n c) (hj : ρ ix = .int kk (j : Int)) (h : j < n) (hA : A ≠ none) :
  (execOp ρ o).run P w = .ok (.value (.pointer (A.map (·.add (j * k))))) w := by
 obtain ⟨inf, hi1, hi2⟩ := Option.map_eq_some_iff.1 hi
 obtain ⟨ad, rfl⟩ := Option.ne_none_iff_exists'.1 hA
 unfold execOp
 simp only [ho, hx, hj]
 simp [Instr.indexAt, asIntOf, run_underlying ht, sizeOf, typeInfo, hi1, hi2, h]
/-- a struct that lies in a row -/
theorem lJ {ρ : Operand → Value} {o : Oper} {ty : TypeId} {x : Operand} (ho : o.op = .load ty x) {A : Option Addr} (hx : ρ x = .pointer A) {cs : List Value} (hr : Row w A cs) (h0 : 0 < cs.length) {d : TypeDesc} (hu : P.underlying ty = some d) (hd : (match d with | .struct _ | .array _ _ => true | _ => false) = true) (hi : (P.info? ty).map (·.size) = some cs.length) :
  (execOp ρ o).run P w = .ok (.value (.agg cs.toArray)) w := by
 obtain ⟨b, off, rfl⟩ := Ky hr h0
 have hl : (loadCells ⟨b, off, none⟩ cs.length).run P w = .ok cs.toArray w :=
  run_loadCells_list (P := P) w ⟨b, off, none⟩ cs (fun j v hv => by
   obtain ⟨b', off', e, hc⟩ := hr j v hv
   injection e with e; injection e with e1 e2
   subst e1; subst e2
   rw [BX]; exact hc)
 cases hq : P.info? ty with
 | none => simp [hq] at hi
 | some i =>
  have hs : i.size = cs.length := by simpa [hq] using hi
  have hagg : (isAgg ty).run P w = .ok true w := by
   unfold isAgg
   rw [Sem.run_bind, run_underlying hu w]
   cases d <;> simp_all
  unfold execOp
  simp only [ho, hx, Instr.loadAt, Instr.sureAddr, Sem.run_bind, Sem.run_pure, Result.andThen_ok]
  simp [loadVar, Sem.run_bind, hagg, sizeOf, typeInfo, hq, hs, hl]
theorem lI {ρ : Operand → Value} {o : Oper} {ty : TypeId} {x : Operand} (ho : o.op = .load ty x) {A : Option Addr} (hx : ρ x = .pointer A) {v : Value} (hr : Row w A [v]) (hf : JR P ty = true) :
  (execOp ρ o).run P w = .ok (.value v) w := by
 obtain ⟨b, off, rfl, hc⟩ := hr 0 v rfl
 exact dV ho hx hf hc
end
end Go.Proofs.YtdgehpocmfjbiaaDoor
namespace Go.Proofs.YtdgehpocmfjbiaaDoor
open Go.RowKit

section
variable {P : Program} {N : Nat} {G : List Nat} {w0 w : World} {a : Act} {L : List (Nat × Obj)} {ops : Array Oper}
theorem Mm.old (h : Mm [] w0 w L) {b : Nat} {o : Obj} (e : w0.heap[b]? = some o) : w.heap[b]? = some o := (h.1.block b (kH e) (by simp)).trans e
/-- an old block is told from here on -/
theorem Mm.F6 (h : Mm G w0 w L) {b : Nat} {o : Obj} (e : w0.heap[b]? = some o) (hG : b ∉ G) : Mm (b :: G) w0 w ((b, o) :: L) := by
 have hlt := kH e
 refine ⟨h.1.mono (by simp; exact fun k hk => .inr hk), fun p hp => ?_, ?_⟩
 ·rcases List.mem_cons.1 hp with rfl | hp
  ·exact ⟨(h.1.block _ hlt hG).trans e, .inr (by simp)⟩
  ·exact ⟨(h.2.1 p hp).1, (h.2.1 p hp).2.imp id (fun h => by simp [h])⟩
 ·rw [List.map_cons, List.pairwise_cons]
  refine ⟨fun c hc => ?_, h.2.2⟩
  obtain ⟨p, hp, rfl⟩ := List.mem_map.1 hc
  rcases (h.2.1 p hp).2 with h1 | h1
  ·show b ≠ p.1; omega
  ·intro e; exact hG (by rw [show b = p.1 from e]; exact h1)
/-- .. and no more -/
theorem Mm.xg {b : Nat} {o : Obj} (h : Mm (b :: G) w0 w L) (i : Nat) (hL : L[i]? = some (b, o)) (e : w0.heap[b]? = some o) : Mm G w0 w (L.eraseIdx i) := by
 refine ⟨⟨h.1.os, h.1.tape, h.1.output, h.1.size, fun k hk hn => ?_⟩, fun p hp => ?_, ?_⟩
 ·by_cases hkb : k = b
  ·subst hkb; rw [h.get hL, e]
  ·exact h.1.block k hk (by simp [hkb, hn])
 ·have hm := List.mem_of_mem_eraseIdx hp
  refine ⟨(h.2.1 p hm).1, (h.2.1 p hm).2.imp id fun hg => ?_⟩
  rcases List.mem_cons.1 hg with hpb | hg
  ·exfalso
   obtain ⟨j, hj⟩ := List.getElem?_of_mem hp
   rw [List.getElem?_eraseIdx] at hj
   have hne : ∀ q, L[q]? = some p → q ≠ i → False := fun q hq hqi => (h.ne (b := p.1) (c := b) (o := p.2) (p := o) hq hL hqi) hpb
   split at hj
   ·exact hne j hj (by omega)
   ·exact hne (j + 1) hj (by omega)
  ·exact hg
 ·have := h.2.2
  exact this.sublist ((List.eraseIdx_sublist L i).map _)
end
end Go.Proofs.YtdgehpocmfjbiaaDoor
