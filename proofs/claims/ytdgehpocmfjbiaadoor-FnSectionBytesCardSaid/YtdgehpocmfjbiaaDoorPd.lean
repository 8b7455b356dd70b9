/- elf.NewFile: one round of the loop over the program headers. · elf.NewFile: the loop over the program headers. · elf.NewFile: the table of sections is read. · spec.IsText. · Laws of the automatic walk: loops by an invariant, told blocks chosen, append onto a told block, loads out of rows. · Old blocks, told for a while. -/
import Derived.Test.YtdgehpocmfjbiaaDoorPc
import Derived.Test.YtdgehpocmfjbiaaDoorPb
import Derived.Deep.AppendSrc
set_option linter.unusedVariables false
set_option linter.unusedSimpArgs false
namespace Go.Proofs.YtdgehpocmfjbiaaDoor
open Go.RowKit

/-- the body of the loop that begins a piece of a spine -/
def lpOf : Code → Code
  | .seq (.seq _ (.block _ (.loop c))) _ => c
  | c => c
theorem run_open0 {P : Program} {t e : TypeId} {info : TypeInfo} (ht : P.underlying t = some (.slice e)) (hi : P.info? e = some info) (hs : info.size = 1) {ρ : Operand → Value} {o : Oper} {x lo : Operand} (ho : o.op = .slice t x (some lo) none none)
    {b n c : Nat} (k : Nat) {kk : IntKind} (hx : ρ x = sl_ b n c) (hl : ρ lo = .int kk (k : Int)) (h1 : k ≤ n) (h2 : n ≤ c) (h3 : k < c) (w : World) :
    (execOp ρ o).run P w = .ok (.value (.slice (some ⟨b, k, none⟩) (n - k) (c - k))) w := by
  have := run_open ht hi hs ho k hx hl h1 h2 h3 w
  rwa [Nat.zero_add] at this
structure SegV where
  ty : Nat
  flags : Nat
  off : Nat
  vaddr : Nat
  paddr : Nat
  fsz : Nat
  memsz : Nat
  align : Nat

abbrev nf_P_t_S0 := fun (b : Nat) (o : Nat) (n : Nat) (c : Nat) (s : Nat) (fb : Nat) (big : Bool) (phoffN : Nat) (phnumN : Nat) (shoffN : Nat) (shnumN : Nat) (pd : Nat) => ([(0, .iface 178 (.slice (some ⟨b, o, none⟩) n c)), (4, pt_ s), (8, pt_ fb), (9, (boV big)), (10, i6_ phoffN), (11, iI_ 32), (12, i6_ phnumN), (13, i6_ shoffN), (14, iI_ 40), (15, i6_ shnumN), (16, i6_ (shnumN - 1)), (26, iI_ 40), (36, sl_ pd (phnumN * 32) (phnumN * 32))] : Slots)
abbrev nf_P_t_B1 := fun (fb : Nat) (dat : Int) (abi : Nat) (abiv : Nat) (big : Bool) (tyN : Nat) (machN : Nat) (entryN : Nat) (pg : Nat) (i : Nat) (phnumN : Nat) => ((fb, .cells #[iB_ 1, .int .u8 dat, iB_ 1, u8_ abi, u8_ abiv, (boV big), u2_ tyN, u2_ machN, u6_ entryN, nl_, sl_ pg (i + 1) phnumN, nl_, nl_, nl_] 131 (0, 0)) : Nat × Obj)
abbrev nf_P_t_B2 := fun sb (b : Nat) (o : Nat) (n : Nat) (c : Nat) (v : SegV) => ((sb, .cells #[.iface 178 (.slice (some ⟨b, o, none⟩) n c), i6_ v.off, i6_ v.off, iI_ (((v.fsz : Nat) : Int) + ((v.off : Nat) : Int)), i6_ v.fsz] 246 (0, 0)) : Nat × Obj)
abbrev nf_P_t_B3 := fun (fb : Nat) (dat : Int) (abi : Nat) (abiv : Nat) (big : Bool) (tyN : Nat) (machN : Nat) (entryN : Nat) (pg : Nat) (i : Nat) (phnumN : Nat) => ((fb, .cells #[iB_ 1, .int .u8 dat, iB_ 1, u8_ abi, u8_ abiv, (boV big), u2_ tyN, u2_ machN, u6_ entryN, nl_, sl_ pg i phnumN, nl_, nl_, nl_] 131 (0, 0)) : Nat × Obj)
abbrev nf_P_t_B4 := fun z5 => ((z5, .cells #[iI_ 0, iT_ 0, iL_ 0, iL_ 0, iL_ 0, iL_ 0, iL_ 0, iL_ 0, .nilIface, .pointer none] 146 (0, 0)) : Nat × Obj)
abbrev nf_P_t_S5 := fun (b : Nat) (o : Nat) (n : Nat) (c : Nat) (s : Nat) (fb : Nat) (big : Bool) (phoffN : Nat) (phnumN : Nat) (shoffN : Nat) (shnumN : Nat) (pd : Nat) (i : Nat) z5 => ((nf_P_t_S0 b o n c s fb big phoffN phnumN shoffN shnumN pd) ++ [(38, i6_ i), (39, u6_ (i * 32)), (40, pt_ z5)] : Slots)
abbrev nf_P_t_P6 := fun (pd : Nat) (i : Nat) (phnumN : Nat) => ((614, .slice (some ⟨pd, ((i * 32) + 0), none⟩) ((phnumN * 32) - ((i * 32) + 0)) ((phnumN * 32) - ((i * 32) + 0))) : Nat × Value)
abbrev nf_P_t_S7 := fun (b : Nat) (o : Nat) (n : Nat) (c : Nat) (s : Nat) (fb : Nat) (big : Bool) (phoffN : Nat) (phnumN : Nat) (shoffN : Nat) (shnumN : Nat) (pd : Nat) (i : Nat) z5 => ((nf_P_t_S5 b o n c s fb big phoffN phnumN shoffN shnumN pd i z5) ++ [(609, pt_ z5), (610, (boV big)), (614, .slice (some ⟨pd, ((i * 32) + 0), none⟩) ((phnumN * 32) - ((i * 32) + 0)) ((phnumN * 32) - ((i * 32) + 0)))] : Slots)
abbrev nf_P_t_P8 := fun (pd : Nat) (i : Nat) (phnumN : Nat) => ((621, .slice (some ⟨pd, ((i * 32) + 24), none⟩) ((phnumN * 32) - ((i * 32) + 24)) ((phnumN * 32) - ((i * 32) + 24))) : Nat × Value)
abbrev nf_P_t_S9 := fun (b : Nat) (o : Nat) (n : Nat) (c : Nat) (s : Nat) (fb : Nat) (big : Bool) (phoffN : Nat) (phnumN : Nat) (shoffN : Nat) (shnumN : Nat) (pd : Nat) (i : Nat) z5 => ((nf_P_t_S7 b o n c s fb big phoffN phnumN shoffN shnumN pd i z5) ++ [(617, (boV big)), (621, .slice (some ⟨pd, ((i * 32) + 24), none⟩) ((phnumN * 32) - ((i * 32) + 24)) ((phnumN * 32) - ((i * 32) + 24)))] : Slots)
abbrev nf_P_t_P10 := fun (pd : Nat) (i : Nat) (phnumN : Nat) => ((627, .slice (some ⟨pd, ((i * 32) + 4), none⟩) ((phnumN * 32) - ((i * 32) + 4)) ((phnumN * 32) - ((i * 32) + 4))) : Nat × Value)
abbrev nf_P_t_S11 := fun (b : Nat) (o : Nat) (n : Nat) (c : Nat) (s : Nat) (fb : Nat) (big : Bool) (phoffN : Nat) (phnumN : Nat) (shoffN : Nat) (shnumN : Nat) (pd : Nat) (i : Nat) z5 => ((nf_P_t_S9 b o n c s fb big phoffN phnumN shoffN shnumN pd i z5) ++ [(623, (boV big)), (627, .slice (some ⟨pd, ((i * 32) + 4), none⟩) ((phnumN * 32) - ((i * 32) + 4)) ((phnumN * 32) - ((i * 32) + 4)))] : Slots)
abbrev nf_P_t_P12 := fun (pd : Nat) (i : Nat) (phnumN : Nat) => ((634, .slice (some ⟨pd, ((i * 32) + 8), none⟩) ((phnumN * 32) - ((i * 32) + 8)) ((phnumN * 32) - ((i * 32) + 8))) : Nat × Value)
abbrev nf_P_t_S13 := fun (b : Nat) (o : Nat) (n : Nat) (c : Nat) (s : Nat) (fb : Nat) (big : Bool) (phoffN : Nat) (phnumN : Nat) (shoffN : Nat) (shnumN : Nat) (pd : Nat) (i : Nat) z5 => ((nf_P_t_S11 b o n c s fb big phoffN phnumN shoffN shnumN pd i z5) ++ [(630, (boV big)), (634, .slice (some ⟨pd, ((i * 32) + 8), none⟩) ((phnumN * 32) - ((i * 32) + 8)) ((phnumN * 32) - ((i * 32) + 8)))] : Slots)
abbrev nf_P_t_P14 := fun (pd : Nat) (i : Nat) (phnumN : Nat) => ((641, .slice (some ⟨pd, ((i * 32) + 12), none⟩) ((phnumN * 32) - ((i * 32) + 12)) ((phnumN * 32) - ((i * 32) + 12))) : Nat × Value)
abbrev nf_P_t_S15 := fun (b : Nat) (o : Nat) (n : Nat) (c : Nat) (s : Nat) (fb : Nat) (big : Bool) (phoffN : Nat) (phnumN : Nat) (shoffN : Nat) (shnumN : Nat) (pd : Nat) (i : Nat) z5 => ((nf_P_t_S13 b o n c s fb big phoffN phnumN shoffN shnumN pd i z5) ++ [(637, (boV big)), (641, .slice (some ⟨pd, ((i * 32) + 12), none⟩) ((phnumN * 32) - ((i * 32) + 12)) ((phnumN * 32) - ((i * 32) + 12)))] : Slots)
abbrev nf_P_t_P16 := fun (pd : Nat) (i : Nat) (phnumN : Nat) => ((648, .slice (some ⟨pd, ((i * 32) + 16), none⟩) ((phnumN * 32) - ((i * 32) + 16)) ((phnumN * 32) - ((i * 32) + 16))) : Nat × Value)
abbrev nf_P_t_S17 := fun (b : Nat) (o : Nat) (n : Nat) (c : Nat) (s : Nat) (fb : Nat) (big : Bool) (phoffN : Nat) (phnumN : Nat) (shoffN : Nat) (shnumN : Nat) (pd : Nat) (i : Nat) z5 => ((nf_P_t_S15 b o n c s fb big phoffN phnumN shoffN shnumN pd i z5) ++ [(644, (boV big)), (648, .slice (some ⟨pd, ((i * 32) + 16), none⟩) ((phnumN * 32) - ((i * 32) + 16)) ((phnumN * 32) - ((i * 32) + 16)))] : Slots)
abbrev nf_P_t_P18 := fun (pd : Nat) (i : Nat) (phnumN : Nat) => ((655, .slice (some ⟨pd, ((i * 32) + 20), none⟩) ((phnumN * 32) - ((i * 32) + 20)) ((phnumN * 32) - ((i * 32) + 20))) : Nat × Value)
abbrev nf_P_t_S19 := fun (b : Nat) (o : Nat) (n : Nat) (c : Nat) (s : Nat) (fb : Nat) (big : Bool) (phoffN : Nat) (phnumN : Nat) (shoffN : Nat) (shnumN : Nat) (pd : Nat) (i : Nat) z5 => ((nf_P_t_S17 b o n c s fb big phoffN phnumN shoffN shnumN pd i z5) ++ [(651, (boV big)), (655, .slice (some ⟨pd, ((i * 32) + 20), none⟩) ((phnumN * 32) - ((i * 32) + 20)) ((phnumN * 32) - ((i * 32) + 20)))] : Slots)
abbrev nf_P_t_P20 := fun (pd : Nat) (i : Nat) (phnumN : Nat) => ((662, .slice (some ⟨pd, ((i * 32) + 28), none⟩) ((phnumN * 32) - ((i * 32) + 28)) ((phnumN * 32) - ((i * 32) + 28))) : Nat × Value)
abbrev nf_P_t_S21 := fun (b : Nat) (o : Nat) (n : Nat) (c : Nat) (s : Nat) (fb : Nat) (big : Bool) (phoffN : Nat) (phnumN : Nat) (shoffN : Nat) (shnumN : Nat) (pd : Nat) (i : Nat) z5 => ((nf_P_t_S5 b o n c s fb big phoffN phnumN shoffN shnumN pd i z5) ++ [(609, pt_ z5), (617, (boV big)), (621, .slice (some ⟨pd, ((i * 32) + 24), none⟩) ((phnumN * 32) - ((i * 32) + 24)) ((phnumN * 32) - ((i * 32) + 24))), (623, (boV big)), (627, .slice (some ⟨pd, ((i * 32) + 4), none⟩) ((phnumN * 32) - ((i * 32) + 4)) ((phnumN * 32) - ((i * 32) + 4))), (630, (boV big)), (634, .slice (some ⟨pd, ((i * 32) + 8), none⟩) ((phnumN * 32) - ((i * 32) + 8)) ((phnumN * 32) - ((i * 32) + 8))), (637, (boV big)), (641, .slice (some ⟨pd, ((i * 32) + 12), none⟩) ((phnumN * 32) - ((i * 32) + 12)) ((phnumN * 32) - ((i * 32) + 12))), (644, (boV big)), (648, .slice (some ⟨pd, ((i * 32) + 16), none⟩) ((phnumN * 32) - ((i * 32) + 16)) ((phnumN * 32) - ((i * 32) + 16))), (651, (boV big)), (655, .slice (some ⟨pd, ((i * 32) + 20), none⟩) ((phnumN * 32) - ((i * 32) + 20)) ((phnumN * 32) - ((i * 32) + 20))), (658, (boV big)), (662, .slice (some ⟨pd, ((i * 32) + 28), none⟩) ((phnumN * 32) - ((i * 32) + 28)) ((phnumN * 32) - ((i * 32) + 28)))] : Slots)
abbrev nf_P_t_S22 := fun (b : Nat) (o : Nat) (n : Nat) (c : Nat) (s : Nat) (fb : Nat) (big : Bool) (phoffN : Nat) (phnumN : Nat) (shoffN : Nat) (shnumN : Nat) (pd : Nat) (i : Nat) z5 (v : SegV) => ((nf_P_t_S5 b o n c s fb big phoffN phnumN shoffN shnumN pd i z5) ++ [(609, pt_ z5), (630, (boV big)), (634, .slice (some ⟨pd, ((i * 32) + 8), none⟩) ((phnumN * 32) - ((i * 32) + 8)) ((phnumN * 32) - ((i * 32) + 8))), (637, (boV big)), (641, .slice (some ⟨pd, ((i * 32) + 12), none⟩) ((phnumN * 32) - ((i * 32) + 12)) ((phnumN * 32) - ((i * 32) + 12))), (644, (boV big)), (648, .slice (some ⟨pd, ((i * 32) + 16), none⟩) ((phnumN * 32) - ((i * 32) + 16)) ((phnumN * 32) - ((i * 32) + 16))), (651, (boV big)), (655, .slice (some ⟨pd, ((i * 32) + 20), none⟩) ((phnumN * 32) - ((i * 32) + 20)) ((phnumN * 32) - ((i * 32) + 20))), (658, (boV big)), (662, .slice (some ⟨pd, ((i * 32) + 28), none⟩) ((phnumN * 32) - ((i * 32) + 28)) ((phnumN * 32) - ((i * 32) + 28))), (616, i6_ v.ty), (622, u3_ v.flags)] : Slots)
abbrev nf_P_t_S23 := fun (b : Nat) (o : Nat) (n : Nat) (c : Nat) (s : Nat) (fb : Nat) (big : Bool) (phoffN : Nat) (phnumN : Nat) (shoffN : Nat) (shnumN : Nat) (pd : Nat) (i : Nat) z5 (v : SegV) => ((nf_P_t_S5 b o n c s fb big phoffN phnumN shoffN shnumN pd i z5) ++ [(609, pt_ z5), (637, (boV big)), (641, .slice (some ⟨pd, ((i * 32) + 12), none⟩) ((phnumN * 32) - ((i * 32) + 12)) ((phnumN * 32) - ((i * 32) + 12))), (644, (boV big)), (648, .slice (some ⟨pd, ((i * 32) + 16), none⟩) ((phnumN * 32) - ((i * 32) + 16)) ((phnumN * 32) - ((i * 32) + 16))), (651, (boV big)), (655, .slice (some ⟨pd, ((i * 32) + 20), none⟩) ((phnumN * 32) - ((i * 32) + 20)) ((phnumN * 32) - ((i * 32) + 20))), (658, (boV big)), (662, .slice (some ⟨pd, ((i * 32) + 28), none⟩) ((phnumN * 32) - ((i * 32) + 28)) ((phnumN * 32) - ((i * 32) + 28))), (616, i6_ v.ty), (622, u3_ v.flags), (629, u6_ v.off)] : Slots)
abbrev nf_P_t_S24 := fun (b : Nat) (o : Nat) (n : Nat) (c : Nat) (s : Nat) (fb : Nat) (big : Bool) (phoffN : Nat) (phnumN : Nat) (shoffN : Nat) (shnumN : Nat) (pd : Nat) (i : Nat) z5 (v : SegV) => ((nf_P_t_S5 b o n c s fb big phoffN phnumN shoffN shnumN pd i z5) ++ [(609, pt_ z5), (644, (boV big)), (648, .slice (some ⟨pd, ((i * 32) + 16), none⟩) ((phnumN * 32) - ((i * 32) + 16)) ((phnumN * 32) - ((i * 32) + 16))), (651, (boV big)), (655, .slice (some ⟨pd, ((i * 32) + 20), none⟩) ((phnumN * 32) - ((i * 32) + 20)) ((phnumN * 32) - ((i * 32) + 20))), (658, (boV big)), (662, .slice (some ⟨pd, ((i * 32) + 28), none⟩) ((phnumN * 32) - ((i * 32) + 28)) ((phnumN * 32) - ((i * 32) + 28))), (616, i6_ v.ty), (622, u3_ v.flags), (629, u6_ v.off), (636, u6_ v.vaddr)] : Slots)
abbrev nf_P_t_S25 := fun (b : Nat) (o : Nat) (n : Nat) (c : Nat) (s : Nat) (fb : Nat) (big : Bool) (phoffN : Nat) (phnumN : Nat) (shoffN : Nat) (shnumN : Nat) (pd : Nat) (i : Nat) z5 (v : SegV) => ((nf_P_t_S5 b o n c s fb big phoffN phnumN shoffN shnumN pd i z5) ++ [(609, pt_ z5), (651, (boV big)), (655, .slice (some ⟨pd, ((i * 32) + 20), none⟩) ((phnumN * 32) - ((i * 32) + 20)) ((phnumN * 32) - ((i * 32) + 20))), (658, (boV big)), (662, .slice (some ⟨pd, ((i * 32) + 28), none⟩) ((phnumN * 32) - ((i * 32) + 28)) ((phnumN * 32) - ((i * 32) + 28))), (616, i6_ v.ty), (622, u3_ v.flags), (629, u6_ v.off), (636, u6_ v.vaddr), (643, u6_ v.paddr)] : Slots)
abbrev nf_P_t_S26 := fun (b : Nat) (o : Nat) (n : Nat) (c : Nat) (s : Nat) (fb : Nat) (big : Bool) (phoffN : Nat) (phnumN : Nat) (shoffN : Nat) (shnumN : Nat) (pd : Nat) (i : Nat) z5 (v : SegV) => ((nf_P_t_S5 b o n c s fb big phoffN phnumN shoffN shnumN pd i z5) ++ [(609, pt_ z5), (658, (boV big)), (662, .slice (some ⟨pd, ((i * 32) + 28), none⟩) ((phnumN * 32) - ((i * 32) + 28)) ((phnumN * 32) - ((i * 32) + 28))), (616, i6_ v.ty), (622, u3_ v.flags), (629, u6_ v.off), (636, u6_ v.vaddr), (643, u6_ v.paddr), (650, u6_ v.fsz)] : Slots)
abbrev nf_P_t_B27 := fun z5 (v : SegV) => ((z5, .cells #[i6_ v.ty, u3_ v.flags, u6_ v.off, u6_ v.vaddr, u6_ v.paddr, u6_ v.fsz, u6_ v.memsz, u6_ v.align, .nilIface, .pointer none] 146 (0, 0)) : Nat × Obj)
abbrev nf_P_t_S28 := fun (b : Nat) (o : Nat) (n : Nat) (c : Nat) (s : Nat) (fb : Nat) (big : Bool) (phoffN : Nat) (phnumN : Nat) (shoffN : Nat) (shnumN : Nat) (pd : Nat) (i : Nat) z5 => ((nf_P_t_S5 b o n c s fb big phoffN phnumN shoffN shnumN pd i z5) ++ [(763, pt_ z5), (764, .iface 178 (.slice (some ⟨b, o, none⟩) n c))] : Slots)
abbrev nf_P_t_B29 := fun z5 (v : SegV) sb => ((z5, .cells #[i6_ v.ty, u3_ v.flags, u6_ v.off, u6_ v.vaddr, u6_ v.paddr, u6_ v.fsz, u6_ v.memsz, u6_ v.align, .iface 144 (pt_ sb), pt_ sb] 146 (0, 0)) : Nat × Obj)
set_option maxRecDepth 100000 in
set_option maxHeartbeats 1000000 in
theorem nf_P_t (l : List UInt8) (b o n c : Nat) (hl : n = l.length) (hnc : n ≤ c) (big : Bool) (abi abiv tyN machN entryN phoffN phnumN shoffN shnumN : Nat) (dat : Int) (b1 : tyN < 65536) (b2 : machN < 65536) (b3 : entryN ≤ 18446744073709551615) (b4 : phoffN < 4611686018427387904) (b5 : shoffN < 4611686018427387904) (b6 : phnumN < 200) (b7 : shnumN < 200) (X : List UInt8) (hXl : X.length = (phnumN * 32)) (i : Nat) (hi : i < phnumN) (v : SegV) (hv : SegOk (X.drop (i * 32)) false big v.ty v.flags v.vaddr v.paddr v.memsz v.align v.fsz v.off)
    (v1 : v.ty < 4294967296) (v2 : v.off + v.fsz < 4611686018427387904) (v3 : v.vaddr ≤ 18446744073709551615) (v4 : v.paddr ≤ 18446744073709551615) (v5 : v.memsz ≤ 18446744073709551615) (v6 : v.align ≤ 18446744073709551615) {K0 : Act → World → Prop} {Q : Exit → Act → World → Prop} (a : Act) (W1 : World) (s fb pg pd : Nat) (cur : Array Value) (hcs : cur.size = phnumN)
    (h1 : W1.heap[fb]? = some (.cells #[iB_ 1, .int .u8 dat, iB_ 1, u8_ abi, u8_ abiv, (boV big), u2_ tyN, u2_ machN, u6_ entryN, nl_, sl_ pg i phnumN, nl_, nl_, nl_] 131 (0, 0))) (h2 : W1.heap[pg]? = some (.cells cur 136 (0, 0))) (h3 : W1.heap[pd]? = some (.cells (X.map Bv).toArray 5 (0, 0))) (n1 : fb ≠ pg) (n2 : fb ≠ pd) (n3 : pg ≠ pd) (HF : Fr 1287 a ((nf_P_t_S0 b o n c s fb big phoffN phnumN shoffN shnumN pd) ++ [(38, i6_ i)]))
    (K : ∀ a w' pb sb cur', cur'.size = phnumN → cur'.toList.take (i + 1) = cur.toList.take i ++ [pt_ pb] → Fr 1287 a ((nf_P_t_S0 b o n c s fb big phoffN phnumN shoffN shnumN pd) ++ [(38, i6_ (i + 1))]) → Mm [fb, pg, pd] W1 w' [nf_P_t_B2 sb b o n c v, (pb, .cells #[i6_ v.ty, u3_ v.flags, u6_ v.off, u6_ v.vaddr, u6_ v.paddr, u6_ v.fsz, u6_ v.memsz, u6_ v.align, .iface 144 (pt_ sb), pt_ sb] 146 (0, 0)), nf_P_t_B1 fb dat abi abiv big tyN machN entryN pg i phnumN, (pg, .cells cur' 136 (0, 0)), (pd, .cells (X.map Bv).toArray 5 (0, 0))] → K0 a w') : (lpOf (spine Tryd.f78 35)).wp Tryd.prog (Exit.then K0 Q) a W1 := by
  obtain ⟨i0, hi0, hs0⟩ := size_u8
  have e0 : num big X ((i * 32) + 0) 4 = v.ty := (num_drop big X (i * 32) 0 4).symm.trans hv.ty
  have e1 : num big X ((i * 32) + 24) 4 = v.flags := (num_drop big X (i * 32) 24 4).symm.trans hv.flags
  have e2 : num big X ((i * 32) + 4) 4 = v.off := (num_drop big X (i * 32) 4 4).symm.trans hv.off
  have e3 : num big X ((i * 32) + 8) 4 = v.vaddr := (num_drop big X (i * 32) 8 4).symm.trans hv.vaddr
  have e4 : num big X ((i * 32) + 12) 4 = v.paddr := (num_drop big X (i * 32) 12 4).symm.trans hv.paddr
  have e5 : num big X ((i * 32) + 16) 4 = v.fsz := (num_drop big X (i * 32) 16 4).symm.trans hv.filesz
  have e6 : num big X ((i * 32) + 20) 4 = v.memsz := (num_drop big X (i * 32) 20 4).symm.trans hv.memsz
  have e7 : num big X ((i * 32) + 28) 4 = v.align := (num_drop big X (i * 32) 28 4).symm.trans hv.align
  obtain ⟨w, hw⟩ : ∃ w, W1 = w := ⟨_, rfl⟩
  have HM : Mm [fb, pg, pd] W1 w [nf_P_t_B3 fb dat abi abiv big tyN machN entryN pg i phnumN, (pg, .cells cur 136 (0, 0)), (pd, .cells (X.map Bv).toArray 5 (0, 0))] := hw ▸ Mm.start3 h1 h2 h3 n1 n2 n3
  conv => arg 5; rw [hw]
  clear hw
  refine wp_seq ?_
  refine wp_seq (wp_region_lit ?_)
  refine wp_sym HF HM rfl 3 [] ((nf_P_t_S0 b o n c s fb big phoffN phnumN shoffN shnumN pd) ++ [(38, i6_ i), (593, .bool (decide (((i : Nat) : Int) < ((phnumN : Nat) : Int))))]) [nf_P_t_B3 fb dat abi abiv big tyN machN entryN pg i phnumN, (pg, .cells cur 136 (0, 0)), (pd, .cells (X.map Bv).toArray 5 (0, 0))] (by kernel_rfl) ?_
  clear HF HM; intro a w HF HM
  rw [show decide (((i : Nat) : Int) < ((phnumN : Nat) : Int)) = true from dec_t (by omega)] at HF
  refine nil_then ?_
  refine wp_condT HF rfl ?_
  refine wp_skip ?_
  repeat (first | refine then_norm ?_ | refine inb_norm ?_)
  replace HF := HF.sub ((nf_P_t_S0 b o n c s fb big phoffN phnumN shoffN shnumN pd) ++ [(38, i6_ i)]) (by kernel_rfl)
  refine wp_seq (wp_block ?_)
  refine wp_seq (wp_region_lit ?_)
  refine wp_sym HF HM rfl 2 [] ((nf_P_t_S0 b o n c s fb big phoffN phnumN shoffN shnumN pd) ++ [(38, i6_ i), (597, iL_ (IntKind.u64.wrap ((i : Nat) : Int)))]) [nf_P_t_B3 fb dat abi abiv big tyN machN entryN pg i phnumN, (pg, .cells cur 136 (0, 0)), (pd, .cells (X.map Bv).toArray 5 (0, 0))] (by kernel_rfl) ?_
  clear HF HM; intro a w HF HM
  rw [show IntKind.u64.wrap ((i : Nat) : Int) = ((i : Nat) : Int) from IntWalk.u64_in _ (by omega)] at HF
  refine wp_sym HF HM rfl 3 [] ((nf_P_t_S0 b o n c s fb big phoffN phnumN shoffN shnumN pd) ++ [(38, i6_ i), (600, iL_ (IntKind.u64.wrap (((i : Nat) : Int) * 32)))]) [nf_P_t_B3 fb dat abi abiv big tyN machN entryN pg i phnumN, (pg, .cells cur 136 (0, 0)), (pd, .cells (X.map Bv).toArray 5 (0, 0))] (by kernel_rfl) ?_
  clear HF HM; intro a w HF HM
  rw [show IntKind.u64.wrap (((i : Nat) : Int) * 32) = (((i * 32) : Nat) : Int) from (IntWalk.u64_in _ (by omega)).trans (by omega)] at HF
  refine wp_sym HF HM rfl 1 [] ((nf_P_t_S0 b o n c s fb big phoffN phnumN shoffN shnumN pd) ++ [(38, i6_ i), (39, u6_ (i * 32))]) [nf_P_t_B3 fb dat abi abiv big tyN machN entryN pg i phnumN, (pg, .cells cur 136 (0, 0)), (pd, .cells (X.map Bv).toArray 5 (0, 0))] (by kernel_rfl) ?_
  clear HF HM; intro a w HF HM
  refine nil_then ?_
  obtain ⟨z5, hz5⟩ : ∃ z, w.heap.size = z := ⟨_, rfl⟩
  refine reg_sym HF HM hz5 [] (nf_P_t_S5 b o n c s fb big phoffN phnumN shoffN shnumN pd i z5) [nf_P_t_B4 z5, nf_P_t_B3 fb dat abi abiv big tyN machN entryN pg i phnumN, (pg, .cells cur 136 (0, 0)), (pd, .cells (X.map Bv).toArray 5 (0, 0))] (by kernel_rfl) ?_
  clear HF HM hz5; intro a w HF HM
  refine wp_seq ?_
  refine reg_sym HF HM rfl [[2]] ((nf_P_t_S5 b o n c s fb big phoffN phnumN shoffN shnumN pd i z5) ++ [(606, iB_ 1)]) [nf_P_t_B4 z5, nf_P_t_B3 fb dat abi abiv big tyN machN entryN pg i phnumN, (pg, .cells cur 136 (0, 0)), (pd, .cells (X.map Bv).toArray 5 (0, 0))] (by kernel_rfl) ?_
  clear HF HM; intro a w HF HM
  refine wp_block ?_
  refine reg_sym HF HM rfl [] ((nf_P_t_S5 b o n c s fb big phoffN phnumN shoffN shnumN pd i z5) ++ [(606, iB_ 1), (607, .bool true)]) [nf_P_t_B4 z5, nf_P_t_B3 fb dat abi abiv big tyN machN entryN pg i phnumN, (pg, .cells cur 136 (0, 0)), (pd, .cells (X.map Bv).toArray 5 (0, 0))] (by kernel_rfl) ?_
  clear HF HM; intro a w HF HM
  refine wp_condT HF rfl ?_
  replace HF := HF.sub (nf_P_t_S5 b o n c s fb big phoffN phnumN shoffN shnumN pd i z5) (by kernel_rfl)
  refine reg_plan1 HM (by kernel_rfl) [(pd, .cells (X.map Bv).toArray 5 (0, 0))] [(0, false), (1, false), (2, false), (3, false), (4, false), (5, false), (8, false), (9, false), (10, false), (11, false), (12, false), (14, false), (15, false), (16, false), (17, false), (18, false), (21, false), (22, false), (23, false), (24, false), (25, false), (28, false), (29, false), (30, false), (31, false), (32, false), (35, false), (36, false), (37, false), (38, false), (39, false), (42, false), (43, false), (44, false), (45, false), (46, false), (49, false), (50, false), (51, false), (52, false), (53, false), (6, true), (7, false), (13, true), (19, true), (20, false), (26, true), (27, false), (33, true), (34, false), (40, true), (41, false), (47, true), (48, false), (54, true), (55, false), (56, false), (57, false), (58, false), (59, true)] (by kernel_rfl) ?_
  clear HM; intro w1 HM
  refine plan_sym HF (HM.told [3] rfl) 1 [] ((nf_P_t_S5 b o n c s fb big phoffN phnumN shoffN shnumN pd i z5) ++ [(609, pt_ z5)]) (by kernel_rfl) ?_
  clear HF; intro a HF
  refine plan_sym HF (HM.told [3] rfl) 4 [] ((nf_P_t_S5 b o n c s fb big phoffN phnumN shoffN shnumN pd i z5) ++ [(609, pt_ z5), (610, (boV big)), (611, sl_ pd (phnumN * 32) (phnumN * 32)), (613, iL_ (IntKind.u64.wrap ((((i * 32) : Nat) : Int) + 0)))]) (by kernel_rfl) ?_
  clear HF; intro a HF
  rw [show IntKind.u64.wrap ((((i * 32) : Nat) : Int) + 0) = ((((i * 32) + 0) : Nat) : Int) from (IntWalk.u64_in _ (by omega)).trans (by omega)] at HF
  refine plan_run rfl HF (HM.told [3] rfl) rfl (.slice (some ⟨pd, ((i * 32) + 0), none⟩) ((phnumN * 32) - ((i * 32) + 0)) ((phnumN * 32) - ((i * 32) + 0))) (by kernel_rfl) (fun w hw => run_open0 (t := 33) Tryd.underlying33 hi0 hs0 rfl ((i * 32) + 0) (kk := .u64) rfl rfl (by omega) (by omega) (by omega) w) ?_
  clear HF; intro a HF; replace HF := HF.sub ((nf_P_t_S5 b o n c s fb big phoffN phnumN shoffN shnumN pd i z5) ++ [(609, pt_ z5), (610, (boV big)), (611, sl_ pd (phnumN * 32) (phnumN * 32)), (613, u6_ ((i * 32) + 0)), nf_P_t_P6 pd i phnumN]) (by kernel_rfl)
  replace HF := HF.sub (nf_P_t_S7 b o n c s fb big phoffN phnumN shoffN shnumN pd i z5) (by kernel_rfl)
  refine plan_sym HF (HM.told [3] rfl) 4 [] ((nf_P_t_S7 b o n c s fb big phoffN phnumN shoffN shnumN pd i z5) ++ [(617, (boV big)), (618, sl_ pd (phnumN * 32) (phnumN * 32)), (620, iL_ (IntKind.u64.wrap ((((i * 32) : Nat) : Int) + 24)))]) (by kernel_rfl) ?_
  clear HF; intro a HF
  rw [show IntKind.u64.wrap ((((i * 32) : Nat) : Int) + 24) = ((((i * 32) + 24) : Nat) : Int) from (IntWalk.u64_in _ (by omega)).trans (by omega)] at HF
  refine plan_run rfl HF (HM.told [3] rfl) rfl (.slice (some ⟨pd, ((i * 32) + 24), none⟩) ((phnumN * 32) - ((i * 32) + 24)) ((phnumN * 32) - ((i * 32) + 24))) (by kernel_rfl) (fun w hw => run_open0 (t := 33) Tryd.underlying33 hi0 hs0 rfl ((i * 32) + 24) (kk := .u64) rfl rfl (by omega) (by omega) (by omega) w) ?_
  clear HF; intro a HF; replace HF := HF.sub ((nf_P_t_S7 b o n c s fb big phoffN phnumN shoffN shnumN pd i z5) ++ [(617, (boV big)), (618, sl_ pd (phnumN * 32) (phnumN * 32)), (620, u6_ ((i * 32) + 24)), nf_P_t_P8 pd i phnumN]) (by kernel_rfl)
  replace HF := HF.sub (nf_P_t_S9 b o n c s fb big phoffN phnumN shoffN shnumN pd i z5) (by kernel_rfl)
  refine plan_sym HF (HM.told [3] rfl) 4 [] ((nf_P_t_S9 b o n c s fb big phoffN phnumN shoffN shnumN pd i z5) ++ [(623, (boV big)), (624, sl_ pd (phnumN * 32) (phnumN * 32)), (626, iL_ (IntKind.u64.wrap ((((i * 32) : Nat) : Int) + 4)))]) (by kernel_rfl) ?_
  clear HF; intro a HF
  rw [show IntKind.u64.wrap ((((i * 32) : Nat) : Int) + 4) = ((((i * 32) + 4) : Nat) : Int) from (IntWalk.u64_in _ (by omega)).trans (by omega)] at HF
  refine plan_run rfl HF (HM.told [3] rfl) rfl (.slice (some ⟨pd, ((i * 32) + 4), none⟩) ((phnumN * 32) - ((i * 32) + 4)) ((phnumN * 32) - ((i * 32) + 4))) (by kernel_rfl) (fun w hw => run_open0 (t := 33) Tryd.underlying33 hi0 hs0 rfl ((i * 32) + 4) (kk := .u64) rfl rfl (by omega) (by omega) (by omega) w) ?_
  clear HF; intro a HF; replace HF := HF.sub ((nf_P_t_S9 b o n c s fb big phoffN phnumN shoffN shnumN pd i z5) ++ [(623, (boV big)), (624, sl_ pd (phnumN * 32) (phnumN * 32)), (626, u6_ ((i * 32) + 4)), nf_P_t_P10 pd i phnumN]) (by kernel_rfl)
  replace HF := HF.sub (nf_P_t_S11 b o n c s fb big phoffN phnumN shoffN shnumN pd i z5) (by kernel_rfl)
  refine plan_sym HF (HM.told [3] rfl) 4 [] ((nf_P_t_S11 b o n c s fb big phoffN phnumN shoffN shnumN pd i z5) ++ [(630, (boV big)), (631, sl_ pd (phnumN * 32) (phnumN * 32)), (633, iL_ (IntKind.u64.wrap ((((i * 32) : Nat) : Int) + 8)))]) (by kernel_rfl) ?_
  clear HF; intro a HF
  rw [show IntKind.u64.wrap ((((i * 32) : Nat) : Int) + 8) = ((((i * 32) + 8) : Nat) : Int) from (IntWalk.u64_in _ (by omega)).trans (by omega)] at HF
  refine plan_run rfl HF (HM.told [3] rfl) rfl (.slice (some ⟨pd, ((i * 32) + 8), none⟩) ((phnumN * 32) - ((i * 32) + 8)) ((phnumN * 32) - ((i * 32) + 8))) (by kernel_rfl) (fun w hw => run_open0 (t := 33) Tryd.underlying33 hi0 hs0 rfl ((i * 32) + 8) (kk := .u64) rfl rfl (by omega) (by omega) (by omega) w) ?_
  clear HF; intro a HF; replace HF := HF.sub ((nf_P_t_S11 b o n c s fb big phoffN phnumN shoffN shnumN pd i z5) ++ [(630, (boV big)), (631, sl_ pd (phnumN * 32) (phnumN * 32)), (633, u6_ ((i * 32) + 8)), nf_P_t_P12 pd i phnumN]) (by kernel_rfl)
  replace HF := HF.sub (nf_P_t_S13 b o n c s fb big phoffN phnumN shoffN shnumN pd i z5) (by kernel_rfl)
  refine plan_sym HF (HM.told [3] rfl) 4 [] ((nf_P_t_S13 b o n c s fb big phoffN phnumN shoffN shnumN pd i z5) ++ [(637, (boV big)), (638, sl_ pd (phnumN * 32) (phnumN * 32)), (640, iL_ (IntKind.u64.wrap ((((i * 32) : Nat) : Int) + 12)))]) (by kernel_rfl) ?_
  clear HF; intro a HF
  rw [show IntKind.u64.wrap ((((i * 32) : Nat) : Int) + 12) = ((((i * 32) + 12) : Nat) : Int) from (IntWalk.u64_in _ (by omega)).trans (by omega)] at HF
  refine plan_run rfl HF (HM.told [3] rfl) rfl (.slice (some ⟨pd, ((i * 32) + 12), none⟩) ((phnumN * 32) - ((i * 32) + 12)) ((phnumN * 32) - ((i * 32) + 12))) (by kernel_rfl) (fun w hw => run_open0 (t := 33) Tryd.underlying33 hi0 hs0 rfl ((i * 32) + 12) (kk := .u64) rfl rfl (by omega) (by omega) (by omega) w) ?_
  clear HF; intro a HF; replace HF := HF.sub ((nf_P_t_S13 b o n c s fb big phoffN phnumN shoffN shnumN pd i z5) ++ [(637, (boV big)), (638, sl_ pd (phnumN * 32) (phnumN * 32)), (640, u6_ ((i * 32) + 12)), nf_P_t_P14 pd i phnumN]) (by kernel_rfl)
  replace HF := HF.sub (nf_P_t_S15 b o n c s fb big phoffN phnumN shoffN shnumN pd i z5) (by kernel_rfl)
  refine plan_sym HF (HM.told [3] rfl) 4 [] ((nf_P_t_S15 b o n c s fb big phoffN phnumN shoffN shnumN pd i z5) ++ [(644, (boV big)), (645, sl_ pd (phnumN * 32) (phnumN * 32)), (647, iL_ (IntKind.u64.wrap ((((i * 32) : Nat) : Int) + 16)))]) (by kernel_rfl) ?_
  clear HF; intro a HF
  rw [show IntKind.u64.wrap ((((i * 32) : Nat) : Int) + 16) = ((((i * 32) + 16) : Nat) : Int) from (IntWalk.u64_in _ (by omega)).trans (by omega)] at HF
  refine plan_run rfl HF (HM.told [3] rfl) rfl (.slice (some ⟨pd, ((i * 32) + 16), none⟩) ((phnumN * 32) - ((i * 32) + 16)) ((phnumN * 32) - ((i * 32) + 16))) (by kernel_rfl) (fun w hw => run_open0 (t := 33) Tryd.underlying33 hi0 hs0 rfl ((i * 32) + 16) (kk := .u64) rfl rfl (by omega) (by omega) (by omega) w) ?_
  clear HF; intro a HF; replace HF := HF.sub ((nf_P_t_S15 b o n c s fb big phoffN phnumN shoffN shnumN pd i z5) ++ [(644, (boV big)), (645, sl_ pd (phnumN * 32) (phnumN * 32)), (647, u6_ ((i * 32) + 16)), nf_P_t_P16 pd i phnumN]) (by kernel_rfl)
  replace HF := HF.sub (nf_P_t_S17 b o n c s fb big phoffN phnumN shoffN shnumN pd i z5) (by kernel_rfl)
  refine plan_sym HF (HM.told [3] rfl) 4 [] ((nf_P_t_S17 b o n c s fb big phoffN phnumN shoffN shnumN pd i z5) ++ [(651, (boV big)), (652, sl_ pd (phnumN * 32) (phnumN * 32)), (654, iL_ (IntKind.u64.wrap ((((i * 32) : Nat) : Int) + 20)))]) (by kernel_rfl) ?_
  clear HF; intro a HF
  rw [show IntKind.u64.wrap ((((i * 32) : Nat) : Int) + 20) = ((((i * 32) + 20) : Nat) : Int) from (IntWalk.u64_in _ (by omega)).trans (by omega)] at HF
  refine plan_run rfl HF (HM.told [3] rfl) rfl (.slice (some ⟨pd, ((i * 32) + 20), none⟩) ((phnumN * 32) - ((i * 32) + 20)) ((phnumN * 32) - ((i * 32) + 20))) (by kernel_rfl) (fun w hw => run_open0 (t := 33) Tryd.underlying33 hi0 hs0 rfl ((i * 32) + 20) (kk := .u64) rfl rfl (by omega) (by omega) (by omega) w) ?_
  clear HF; intro a HF; replace HF := HF.sub ((nf_P_t_S17 b o n c s fb big phoffN phnumN shoffN shnumN pd i z5) ++ [(651, (boV big)), (652, sl_ pd (phnumN * 32) (phnumN * 32)), (654, u6_ ((i * 32) + 20)), nf_P_t_P18 pd i phnumN]) (by kernel_rfl)
  replace HF := HF.sub (nf_P_t_S19 b o n c s fb big phoffN phnumN shoffN shnumN pd i z5) (by kernel_rfl)
  refine plan_sym HF (HM.told [3] rfl) 4 [] ((nf_P_t_S19 b o n c s fb big phoffN phnumN shoffN shnumN pd i z5) ++ [(658, (boV big)), (659, sl_ pd (phnumN * 32) (phnumN * 32)), (661, iL_ (IntKind.u64.wrap ((((i * 32) : Nat) : Int) + 28)))]) (by kernel_rfl) ?_
  clear HF; intro a HF
  rw [show IntKind.u64.wrap ((((i * 32) : Nat) : Int) + 28) = ((((i * 32) + 28) : Nat) : Int) from (IntWalk.u64_in _ (by omega)).trans (by omega)] at HF
  refine plan_run rfl HF (HM.told [3] rfl) rfl (.slice (some ⟨pd, ((i * 32) + 28), none⟩) ((phnumN * 32) - ((i * 32) + 28)) ((phnumN * 32) - ((i * 32) + 28))) (by kernel_rfl) (fun w hw => run_open0 (t := 33) Tryd.underlying33 hi0 hs0 rfl ((i * 32) + 28) (kk := .u64) rfl rfl (by omega) (by omega) (by omega) w) ?_
  clear HF; intro a HF; replace HF := HF.sub ((nf_P_t_S19 b o n c s fb big phoffN phnumN shoffN shnumN pd i z5) ++ [(658, (boV big)), (659, sl_ pd (phnumN * 32) (phnumN * 32)), (661, u6_ ((i * 32) + 28)), nf_P_t_P20 pd i phnumN]) (by kernel_rfl)
  replace HF := HF.sub ((nf_P_t_S19 b o n c s fb big phoffN phnumN shoffN shnumN pd i z5) ++ [(658, (boV big)), nf_P_t_P20 pd i phnumN]) (by kernel_rfl)
  refine plan_force rfl ?_
  refine wp_call HF (by kernel_rfl) 87 #[(boV big), .slice (some ⟨pd, ((i * 32) + 0), none⟩) ((phnumN * 32) - ((i * 32) + 0)) ((phnumN * 32) - ((i * 32) + 0))] (by kernel_rfl) (fun w => by kernel_rfl) (Calls.mono (u32_at (HM.get (i := 3) rfl) (by unfold maxLen; omega) big ((i * 32) + 0) ((phnumN * 32) - ((i * 32) + 0)) (by omega) (by omega) ((v.ty : Nat) : Int) (by rw [e0])) ?_)
  rintro _ w2 ⟨rfl, dk_, hq⟩
  replace HM : Mm [fb, pg, pd] W1 w2 [nf_P_t_B4 z5, nf_P_t_B3 fb dat abi abiv big tyN machN entryN pg i phnumN, (pg, .cells cur 136 (0, 0)), (pd, .cells (X.map Bv).toArray 5 (0, 0))] := by rw [hq]; exact HM.drewN _
  clear hq
  refine ⟨_, rfl, ?_⟩; clear HF; intro a HF; replace HF := HF.sub ((nf_P_t_S19 b o n c s fb big phoffN phnumN shoffN shnumN pd i z5) ++ [(658, (boV big)), nf_P_t_P20 pd i phnumN, (615, u3_ v.ty)]) (by kernel_rfl)
  refine only_end (HM.told [3] rfl) ?_
  replace HF := HF.sub ((nf_P_t_S21 b o n c s fb big phoffN phnumN shoffN shnumN pd i z5) ++ [(615, u3_ v.ty)]) (by kernel_rfl)
  refine plan_sym HF (HM.told [3] rfl) 1 [] ((nf_P_t_S21 b o n c s fb big phoffN phnumN shoffN shnumN pd i z5) ++ [(616, iI_ (IntKind.i64.wrap ((v.ty : Nat) : Int)))]) (by kernel_rfl) ?_
  clear HF; intro a HF
  rw [show IntKind.i64.wrap ((v.ty : Nat) : Int) = ((v.ty : Nat) : Int) from IntWalk.i64_in _ (by omega)] at HF
  refine plan_force rfl ?_
  refine wp_call HF (by kernel_rfl) 87 #[(boV big), .slice (some ⟨pd, ((i * 32) + 24), none⟩) ((phnumN * 32) - ((i * 32) + 24)) ((phnumN * 32) - ((i * 32) + 24))] (by kernel_rfl) (fun w => by kernel_rfl) (Calls.mono (u32_at (HM.get (i := 3) rfl) (by unfold maxLen; omega) big ((i * 32) + 24) ((phnumN * 32) - ((i * 32) + 24)) (by omega) (by omega) ((v.flags : Nat) : Int) (by rw [e1])) ?_)
  rintro _ w3 ⟨rfl, dk_, hq⟩
  replace HM : Mm [fb, pg, pd] W1 w3 [nf_P_t_B4 z5, nf_P_t_B3 fb dat abi abiv big tyN machN entryN pg i phnumN, (pg, .cells cur 136 (0, 0)), (pd, .cells (X.map Bv).toArray 5 (0, 0))] := by rw [hq]; exact HM.drewN _
  clear hq
  refine ⟨_, rfl, ?_⟩; clear HF; intro a HF; replace HF := HF.sub ((nf_P_t_S21 b o n c s fb big phoffN phnumN shoffN shnumN pd i z5) ++ [(616, i6_ v.ty), (622, u3_ v.flags)]) (by kernel_rfl)
  refine only_end (HM.told [3] rfl) ?_
  replace HF := HF.sub ((nf_P_t_S5 b o n c s fb big phoffN phnumN shoffN shnumN pd i z5) ++ [(609, pt_ z5), (623, (boV big)), nf_P_t_P10 pd i phnumN, (630, (boV big)), nf_P_t_P12 pd i phnumN, (637, (boV big)), nf_P_t_P14 pd i phnumN, (644, (boV big)), nf_P_t_P16 pd i phnumN, (651, (boV big)), nf_P_t_P18 pd i phnumN, (658, (boV big)), nf_P_t_P20 pd i phnumN, (616, i6_ v.ty), (622, u3_ v.flags)]) (by kernel_rfl)
  refine plan_force rfl ?_
  refine wp_call HF (by kernel_rfl) 87 #[(boV big), .slice (some ⟨pd, ((i * 32) + 4), none⟩) ((phnumN * 32) - ((i * 32) + 4)) ((phnumN * 32) - ((i * 32) + 4))] (by kernel_rfl) (fun w => by kernel_rfl) (Calls.mono (u32_at (HM.get (i := 3) rfl) (by unfold maxLen; omega) big ((i * 32) + 4) ((phnumN * 32) - ((i * 32) + 4)) (by omega) (by omega) ((v.off : Nat) : Int) (by rw [e2])) ?_)
  rintro _ w4 ⟨rfl, dk_, hq⟩
  replace HM : Mm [fb, pg, pd] W1 w4 [nf_P_t_B4 z5, nf_P_t_B3 fb dat abi abiv big tyN machN entryN pg i phnumN, (pg, .cells cur 136 (0, 0)), (pd, .cells (X.map Bv).toArray 5 (0, 0))] := by rw [hq]; exact HM.drewN _
  clear hq
  refine ⟨_, rfl, ?_⟩; clear HF; intro a HF; replace HF := HF.sub ((nf_P_t_S5 b o n c s fb big phoffN phnumN shoffN shnumN pd i z5) ++ [(609, pt_ z5), (623, (boV big)), nf_P_t_P10 pd i phnumN, (630, (boV big)), nf_P_t_P12 pd i phnumN, (637, (boV big)), nf_P_t_P14 pd i phnumN, (644, (boV big)), nf_P_t_P16 pd i phnumN, (651, (boV big)), nf_P_t_P18 pd i phnumN, (658, (boV big)), nf_P_t_P20 pd i phnumN, (616, i6_ v.ty), (622, u3_ v.flags), (628, u3_ v.off)]) (by kernel_rfl)
  refine only_end (HM.told [3] rfl) ?_
  replace HF := HF.sub ((nf_P_t_S22 b o n c s fb big phoffN phnumN shoffN shnumN pd i z5 v) ++ [(628, u3_ v.off)]) (by kernel_rfl)
  refine plan_sym HF (HM.told [3] rfl) 1 [] ((nf_P_t_S22 b o n c s fb big phoffN phnumN shoffN shnumN pd i z5 v) ++ [(629, iL_ (IntKind.u64.wrap ((v.off : Nat) : Int)))]) (by kernel_rfl) ?_
  clear HF; intro a HF
  rw [show IntKind.u64.wrap ((v.off : Nat) : Int) = ((v.off : Nat) : Int) from IntWalk.u64_in _ (by omega)] at HF
  refine plan_force rfl ?_
  refine wp_call HF (by kernel_rfl) 87 #[(boV big), .slice (some ⟨pd, ((i * 32) + 8), none⟩) ((phnumN * 32) - ((i * 32) + 8)) ((phnumN * 32) - ((i * 32) + 8))] (by kernel_rfl) (fun w => by kernel_rfl) (Calls.mono (u32_at (HM.get (i := 3) rfl) (by unfold maxLen; omega) big ((i * 32) + 8) ((phnumN * 32) - ((i * 32) + 8)) (by omega) (by omega) ((v.vaddr : Nat) : Int) (by rw [e3])) ?_)
  rintro _ w5 ⟨rfl, dk_, hq⟩
  replace HM : Mm [fb, pg, pd] W1 w5 [nf_P_t_B4 z5, nf_P_t_B3 fb dat abi abiv big tyN machN entryN pg i phnumN, (pg, .cells cur 136 (0, 0)), (pd, .cells (X.map Bv).toArray 5 (0, 0))] := by rw [hq]; exact HM.drewN _
  clear hq
  refine ⟨_, rfl, ?_⟩; clear HF; intro a HF; replace HF := HF.sub ((nf_P_t_S22 b o n c s fb big phoffN phnumN shoffN shnumN pd i z5 v) ++ [(629, u6_ v.off), (635, u3_ v.vaddr)]) (by kernel_rfl)
  refine only_end (HM.told [3] rfl) ?_
  replace HF := HF.sub ((nf_P_t_S23 b o n c s fb big phoffN phnumN shoffN shnumN pd i z5 v) ++ [(635, u3_ v.vaddr)]) (by kernel_rfl)
  refine plan_sym HF (HM.told [3] rfl) 1 [] ((nf_P_t_S23 b o n c s fb big phoffN phnumN shoffN shnumN pd i z5 v) ++ [(636, iL_ (IntKind.u64.wrap ((v.vaddr : Nat) : Int)))]) (by kernel_rfl) ?_
  clear HF; intro a HF
  rw [show IntKind.u64.wrap ((v.vaddr : Nat) : Int) = ((v.vaddr : Nat) : Int) from IntWalk.u64_in _ (by omega)] at HF
  refine plan_force rfl ?_
  refine wp_call HF (by kernel_rfl) 87 #[(boV big), .slice (some ⟨pd, ((i * 32) + 12), none⟩) ((phnumN * 32) - ((i * 32) + 12)) ((phnumN * 32) - ((i * 32) + 12))] (by kernel_rfl) (fun w => by kernel_rfl) (Calls.mono (u32_at (HM.get (i := 3) rfl) (by unfold maxLen; omega) big ((i * 32) + 12) ((phnumN * 32) - ((i * 32) + 12)) (by omega) (by omega) ((v.paddr : Nat) : Int) (by rw [e4])) ?_)
  rintro _ w6 ⟨rfl, dk_, hq⟩
  replace HM : Mm [fb, pg, pd] W1 w6 [nf_P_t_B4 z5, nf_P_t_B3 fb dat abi abiv big tyN machN entryN pg i phnumN, (pg, .cells cur 136 (0, 0)), (pd, .cells (X.map Bv).toArray 5 (0, 0))] := by rw [hq]; exact HM.drewN _
  clear hq
  refine ⟨_, rfl, ?_⟩; clear HF; intro a HF; replace HF := HF.sub ((nf_P_t_S23 b o n c s fb big phoffN phnumN shoffN shnumN pd i z5 v) ++ [(636, u6_ v.vaddr), (642, u3_ v.paddr)]) (by kernel_rfl)
  refine only_end (HM.told [3] rfl) ?_
  replace HF := HF.sub ((nf_P_t_S24 b o n c s fb big phoffN phnumN shoffN shnumN pd i z5 v) ++ [(642, u3_ v.paddr)]) (by kernel_rfl)
  refine plan_sym HF (HM.told [3] rfl) 1 [] ((nf_P_t_S24 b o n c s fb big phoffN phnumN shoffN shnumN pd i z5 v) ++ [(643, iL_ (IntKind.u64.wrap ((v.paddr : Nat) : Int)))]) (by kernel_rfl) ?_
  clear HF; intro a HF
  rw [show IntKind.u64.wrap ((v.paddr : Nat) : Int) = ((v.paddr : Nat) : Int) from IntWalk.u64_in _ (by omega)] at HF
  refine plan_force rfl ?_
  refine wp_call HF (by kernel_rfl) 87 #[(boV big), .slice (some ⟨pd, ((i * 32) + 16), none⟩) ((phnumN * 32) - ((i * 32) + 16)) ((phnumN * 32) - ((i * 32) + 16))] (by kernel_rfl) (fun w => by kernel_rfl) (Calls.mono (u32_at (HM.get (i := 3) rfl) (by unfold maxLen; omega) big ((i * 32) + 16) ((phnumN * 32) - ((i * 32) + 16)) (by omega) (by omega) ((v.fsz : Nat) : Int) (by rw [e5])) ?_)
  rintro _ w7 ⟨rfl, dk_, hq⟩
  replace HM : Mm [fb, pg, pd] W1 w7 [nf_P_t_B4 z5, nf_P_t_B3 fb dat abi abiv big tyN machN entryN pg i phnumN, (pg, .cells cur 136 (0, 0)), (pd, .cells (X.map Bv).toArray 5 (0, 0))] := by rw [hq]; exact HM.drewN _
  clear hq
  refine ⟨_, rfl, ?_⟩; clear HF; intro a HF; replace HF := HF.sub ((nf_P_t_S24 b o n c s fb big phoffN phnumN shoffN shnumN pd i z5 v) ++ [(643, u6_ v.paddr), (649, u3_ v.fsz)]) (by kernel_rfl)
  refine only_end (HM.told [3] rfl) ?_
  replace HF := HF.sub ((nf_P_t_S25 b o n c s fb big phoffN phnumN shoffN shnumN pd i z5 v) ++ [(649, u3_ v.fsz)]) (by kernel_rfl)
  refine plan_sym HF (HM.told [3] rfl) 1 [] ((nf_P_t_S25 b o n c s fb big phoffN phnumN shoffN shnumN pd i z5 v) ++ [(650, iL_ (IntKind.u64.wrap ((v.fsz : Nat) : Int)))]) (by kernel_rfl) ?_
  clear HF; intro a HF
  rw [show IntKind.u64.wrap ((v.fsz : Nat) : Int) = ((v.fsz : Nat) : Int) from IntWalk.u64_in _ (by omega)] at HF
  refine plan_force rfl ?_
  refine wp_call HF (by kernel_rfl) 87 #[(boV big), .slice (some ⟨pd, ((i * 32) + 20), none⟩) ((phnumN * 32) - ((i * 32) + 20)) ((phnumN * 32) - ((i * 32) + 20))] (by kernel_rfl) (fun w => by kernel_rfl) (Calls.mono (u32_at (HM.get (i := 3) rfl) (by unfold maxLen; omega) big ((i * 32) + 20) ((phnumN * 32) - ((i * 32) + 20)) (by omega) (by omega) ((v.memsz : Nat) : Int) (by rw [e6])) ?_)
  rintro _ w8 ⟨rfl, dk_, hq⟩
  replace HM : Mm [fb, pg, pd] W1 w8 [nf_P_t_B4 z5, nf_P_t_B3 fb dat abi abiv big tyN machN entryN pg i phnumN, (pg, .cells cur 136 (0, 0)), (pd, .cells (X.map Bv).toArray 5 (0, 0))] := by rw [hq]; exact HM.drewN _
  clear hq
  refine ⟨_, rfl, ?_⟩; clear HF; intro a HF; replace HF := HF.sub ((nf_P_t_S25 b o n c s fb big phoffN phnumN shoffN shnumN pd i z5 v) ++ [(650, u6_ v.fsz), (656, u3_ v.memsz)]) (by kernel_rfl)
  refine only_end (HM.told [3] rfl) ?_
  replace HF := HF.sub ((nf_P_t_S26 b o n c s fb big phoffN phnumN shoffN shnumN pd i z5 v) ++ [(656, u3_ v.memsz)]) (by kernel_rfl)
  refine plan_sym HF (HM.told [3] rfl) 1 [] ((nf_P_t_S26 b o n c s fb big phoffN phnumN shoffN shnumN pd i z5 v) ++ [(657, iL_ (IntKind.u64.wrap ((v.memsz : Nat) : Int)))]) (by kernel_rfl) ?_
  clear HF; intro a HF
  rw [show IntKind.u64.wrap ((v.memsz : Nat) : Int) = ((v.memsz : Nat) : Int) from IntWalk.u64_in _ (by omega)] at HF
  refine plan_force rfl ?_
  refine wp_call HF (by kernel_rfl) 87 #[(boV big), .slice (some ⟨pd, ((i * 32) + 28), none⟩) ((phnumN * 32) - ((i * 32) + 28)) ((phnumN * 32) - ((i * 32) + 28))] (by kernel_rfl) (fun w => by kernel_rfl) (Calls.mono (u32_at (HM.get (i := 3) rfl) (by unfold maxLen; omega) big ((i * 32) + 28) ((phnumN * 32) - ((i * 32) + 28)) (by omega) (by omega) ((v.align : Nat) : Int) (by rw [e7])) ?_)
  rintro _ w9 ⟨rfl, dk_, hq⟩
  replace HM : Mm [fb, pg, pd] W1 w9 [nf_P_t_B4 z5, nf_P_t_B3 fb dat abi abiv big tyN machN entryN pg i phnumN, (pg, .cells cur 136 (0, 0)), (pd, .cells (X.map Bv).toArray 5 (0, 0))] := by rw [hq]; exact HM.drewN _
  clear hq
  refine ⟨_, rfl, ?_⟩; clear HF; intro a HF; replace HF := HF.sub ((nf_P_t_S26 b o n c s fb big phoffN phnumN shoffN shnumN pd i z5 v) ++ [(657, u6_ v.memsz), (663, u3_ v.align)]) (by kernel_rfl)
  refine only_end (HM.told [3] rfl) ?_
  replace HF := HF.sub ((nf_P_t_S5 b o n c s fb big phoffN phnumN shoffN shnumN pd i z5) ++ [(609, pt_ z5), (616, i6_ v.ty), (622, u3_ v.flags), (629, u6_ v.off), (636, u6_ v.vaddr), (643, u6_ v.paddr), (650, u6_ v.fsz), (657, u6_ v.memsz), (663, u3_ v.align)]) (by kernel_rfl)
  refine plan_sym HF (HM.told [3] rfl) 1 [] ((nf_P_t_S5 b o n c s fb big phoffN phnumN shoffN shnumN pd i z5) ++ [(609, pt_ z5), (616, i6_ v.ty), (622, u3_ v.flags), (629, u6_ v.off), (636, u6_ v.vaddr), (643, u6_ v.paddr), (650, u6_ v.fsz), (657, u6_ v.memsz), (664, iL_ (IntKind.u64.wrap ((v.align : Nat) : Int)))]) (by kernel_rfl) ?_
  clear HF; intro a HF
  rw [show IntKind.u64.wrap ((v.align : Nat) : Int) = ((v.align : Nat) : Int) from IntWalk.u64_in _ (by omega)] at HF
  refine plan_sym HF (HM.told [3] rfl) 3 [] ((nf_P_t_S5 b o n c s fb big phoffN phnumN shoffN shnumN pd i z5) ++ [(609, pt_ z5), (616, i6_ v.ty), (622, u3_ v.flags), (629, u6_ v.off), (636, u6_ v.vaddr), (643, u6_ v.paddr), (650, u6_ v.fsz), (657, u6_ v.memsz), (664, u6_ v.align), (665, .agg #[i6_ v.ty, u3_ v.flags, u6_ v.off, u6_ v.vaddr, u6_ v.paddr, u6_ v.fsz, u6_ v.memsz, u6_ v.align]), (667, pt_ z5)]) (by kernel_rfl) ?_
  clear HF; intro a HF
  replace HF := HF.sub ((nf_P_t_S5 b o n c s fb big phoffN phnumN shoffN shnumN pd i z5) ++ [(665, .agg #[i6_ v.ty, u3_ v.flags, u6_ v.off, u6_ v.vaddr, u6_ v.paddr, u6_ v.fsz, u6_ v.memsz, u6_ v.align]), (667, pt_ z5)]) (by kernel_rfl)
  refine plan_force rfl ?_
  refine wp_sym HF HM rfl 1 [[3, 3, 3, 3, 3, 3, 3, 3]] (nf_P_t_S5 b o n c s fb big phoffN phnumN shoffN shnumN pd i z5) [nf_P_t_B27 z5 v, nf_P_t_B3 fb dat abi abiv big tyN machN entryN pg i phnumN, (pg, .cells cur 136 (0, 0)), (pd, .cells (X.map Bv).toArray 5 (0, 0))] (by kernel_rfl) ?_
  clear HF HM; intro a w HF HM
  refine only_end (HM.told [3] rfl) ?_
  refine plan_end ?_
  repeat (first | refine then_norm ?_ | refine inb_norm ?_)
  refine wp_seq ?_
  refine wp_seq (wp_region_lit ?_)
  refine wp_sym HF HM rfl 6 [[3]] ((nf_P_t_S5 b o n c s fb big phoffN phnumN shoffN shnumN pd i z5) ++ [(728, iI_ (IntKind.i64.wrap ((v.off : Nat) : Int)))]) [nf_P_t_B27 z5 v, nf_P_t_B3 fb dat abi abiv big tyN machN entryN pg i phnumN, (pg, .cells cur 136 (0, 0)), (pd, .cells (X.map Bv).toArray 5 (0, 0))] (by kernel_rfl) ?_
  clear HF HM; intro a w HF HM
  rw [show IntKind.i64.wrap ((v.off : Nat) : Int) = ((v.off : Nat) : Int) from IntWalk.i64_in _ (by omega)] at HF
  refine wp_sym HF HM rfl 1 [] ((nf_P_t_S5 b o n c s fb big phoffN phnumN shoffN shnumN pd i z5) ++ [(729, .bool (decide (((v.off : Nat) : Int) < 0)))]) [nf_P_t_B27 z5 v, nf_P_t_B3 fb dat abi abiv big tyN machN entryN pg i phnumN, (pg, .cells cur 136 (0, 0)), (pd, .cells (X.map Bv).toArray 5 (0, 0))] (by kernel_rfl) ?_
  clear HF HM; intro a w HF HM
  rw [show decide (((v.off : Nat) : Int) < 0) = false from dec_f (by omega)] at HF
  refine nil_then ?_
  refine wp_condF HF rfl ?_
  refine wp_skip ?_
  repeat (first | refine then_norm ?_ | refine inb_norm ?_)
  replace HF := HF.sub (nf_P_t_S5 b o n c s fb big phoffN phnumN shoffN shnumN pd i z5) (by kernel_rfl)
  refine wp_seq ?_
  refine wp_seq (wp_region_lit ?_)
  refine wp_sym HF HM rfl 6 [[3]] ((nf_P_t_S5 b o n c s fb big phoffN phnumN shoffN shnumN pd i z5) ++ [(748, iI_ (IntKind.i64.wrap ((v.fsz : Nat) : Int)))]) [nf_P_t_B27 z5 v, nf_P_t_B3 fb dat abi abiv big tyN machN entryN pg i phnumN, (pg, .cells cur 136 (0, 0)), (pd, .cells (X.map Bv).toArray 5 (0, 0))] (by kernel_rfl) ?_
  clear HF HM; intro a w HF HM
  rw [show IntKind.i64.wrap ((v.fsz : Nat) : Int) = ((v.fsz : Nat) : Int) from IntWalk.i64_in _ (by omega)] at HF
  refine wp_sym HF HM rfl 1 [] ((nf_P_t_S5 b o n c s fb big phoffN phnumN shoffN shnumN pd i z5) ++ [(749, .bool (decide (((v.fsz : Nat) : Int) < 0)))]) [nf_P_t_B27 z5 v, nf_P_t_B3 fb dat abi abiv big tyN machN entryN pg i phnumN, (pg, .cells cur 136 (0, 0)), (pd, .cells (X.map Bv).toArray 5 (0, 0))] (by kernel_rfl) ?_
  clear HF HM; intro a w HF HM
  rw [show decide (((v.fsz : Nat) : Int) < 0) = false from dec_f (by omega)] at HF
  refine nil_then ?_
  refine wp_condF HF rfl ?_
  refine wp_skip ?_
  repeat (first | refine then_norm ?_ | refine inb_norm ?_)
  replace HF := HF.sub (nf_P_t_S5 b o n c s fb big phoffN phnumN shoffN shnumN pd i z5) (by kernel_rfl)
  refine reg_planS HM (by kernel_rfl) (fun w => w.cell? ⟨z5, 2, none⟩ = some (u6_ v.off) ∧ w.cell? ⟨z5, 5, none⟩ = some (u6_ v.fsz)) [(0, false), (1, false), (2, false), (3, false), (4, false), (5, false), (6, false), (7, false), (8, false), (9, false), (10, false), (11, false), (12, false), (13, false), (14, true), (15, false), (16, false), (17, true)] (by kernel_rfl) ?_
  clear HM; intro w10 HM
  refine plan_symS (LS := []) (fun _ _ => told_nil _) HF ⟨HM.cellAt (i := 0) (k := 2) rfl rfl, HM.cellAt (i := 0) (k := 5) rfl rfl⟩ 6 [] ((nf_P_t_S28 b o n c s fb big phoffN phnumN shoffN shnumN pd i z5) ++ [(768, .pointer (some ⟨z5, 2, none⟩))]) (by kernel_rfl) ?_
  clear HF; intro a HF
  refine plan_runS rfl HF ⟨HM.cellAt (i := 0) (k := 2) rfl rfl, HM.cellAt (i := 0) (k := 5) rfl rfl⟩ rfl (u6_ v.off) (by kernel_rfl) (fun w hw => run_load_one rfl rfl (by kernel_rfl) hw.1) ?_
  clear HF; intro a HF; replace HF := HF.sub ((nf_P_t_S28 b o n c s fb big phoffN phnumN shoffN shnumN pd i z5) ++ [(768, .pointer (some ⟨z5, 2, none⟩)), (769, u6_ v.off)]) (by kernel_rfl)
  refine plan_symS (LS := []) (fun _ _ => told_nil _) HF ⟨HM.cellAt (i := 0) (k := 2) rfl rfl, HM.cellAt (i := 0) (k := 5) rfl rfl⟩ 1 [] ((nf_P_t_S28 b o n c s fb big phoffN phnumN shoffN shnumN pd i z5) ++ [(770, iI_ (IntKind.i64.wrap ((v.off : Nat) : Int)))]) (by kernel_rfl) ?_
  clear HF; intro a HF
  rw [show IntKind.i64.wrap ((v.off : Nat) : Int) = ((v.off : Nat) : Int) from IntWalk.i64_in _ (by omega)] at HF
  refine plan_symS (LS := []) (fun _ _ => told_nil _) HF ⟨HM.cellAt (i := 0) (k := 2) rfl rfl, HM.cellAt (i := 0) (k := 5) rfl rfl⟩ 4 [] ((nf_P_t_S28 b o n c s fb big phoffN phnumN shoffN shnumN pd i z5) ++ [(770, i6_ v.off), (774, .pointer (some ⟨z5, 5, none⟩))]) (by kernel_rfl) ?_
  clear HF; intro a HF
  refine plan_runS rfl HF ⟨HM.cellAt (i := 0) (k := 2) rfl rfl, HM.cellAt (i := 0) (k := 5) rfl rfl⟩ rfl (u6_ v.fsz) (by kernel_rfl) (fun w hw => run_load_one rfl rfl (by kernel_rfl) hw.2) ?_
  clear HF; intro a HF; replace HF := HF.sub ((nf_P_t_S28 b o n c s fb big phoffN phnumN shoffN shnumN pd i z5) ++ [(770, i6_ v.off), (774, .pointer (some ⟨z5, 5, none⟩)), (775, u6_ v.fsz)]) (by kernel_rfl)
  refine plan_symS (LS := []) (fun _ _ => told_nil _) HF ⟨HM.cellAt (i := 0) (k := 2) rfl rfl, HM.cellAt (i := 0) (k := 5) rfl rfl⟩ 1 [] ((nf_P_t_S28 b o n c s fb big phoffN phnumN shoffN shnumN pd i z5) ++ [(770, i6_ v.off), (776, iI_ (IntKind.i64.wrap ((v.fsz : Nat) : Int)))]) (by kernel_rfl) ?_
  clear HF; intro a HF
  rw [show IntKind.i64.wrap ((v.fsz : Nat) : Int) = ((v.fsz : Nat) : Int) from IntWalk.i64_in _ (by omega)] at HF
  refine plan_forceS rfl ?_
  refine wp_call HF (by kernel_rfl) 92 #[.iface 178 (.slice (some ⟨b, o, none⟩) n c), i6_ v.off, i6_ v.fsz] (by kernel_rfl) (fun w => by kernel_rfl) (Calls.mono (newSR_any 178 (.slice (some ⟨b, o, none⟩) n c) ((v.off : Nat) : Int) ((v.fsz : Nat) : Int) (by omega) (by omega) (by omega) w10) ?_)
  rintro _ w11 ⟨sb, rfl, hb, hge, hgn⟩
  replace HM : Mm [fb, pg, pd] W1 w11 [nf_P_t_B2 sb b o n c v, nf_P_t_B27 z5 v, nf_P_t_B3 fb dat abi abiv big tyN machN entryN pg i phnumN, (pg, .cells cur 136 (0, 0)), (pd, .cells (X.map Bv).toArray 5 (0, 0))] := HM.push hb hge hgn
  clear hb hge hgn
  refine ⟨_, rfl, ?_⟩; clear HF; intro a HF; replace HF := HF.sub ((nf_P_t_S28 b o n c s fb big phoffN phnumN shoffN shnumN pd i z5) ++ [(770, i6_ v.off), (776, i6_ v.fsz), (777, pt_ sb)]) (by kernel_rfl)
  refine only_endS ⟨HM.cellAt (i := 1) (k := 2) rfl rfl, HM.cellAt (i := 1) (k := 5) rfl rfl⟩ ?_
  refine plan_symS (LS := []) (fun _ _ => told_nil _) HF ⟨HM.cellAt (i := 1) (k := 2) rfl rfl, HM.cellAt (i := 1) (k := 5) rfl rfl⟩ 2 [] ((nf_P_t_S5 b o n c s fb big phoffN phnumN shoffN shnumN pd i z5) ++ [(777, pt_ sb), (779, .pointer (some ⟨z5, 9, none⟩))]) (by kernel_rfl) ?_
  clear HF; intro a HF
  refine plan_forceS rfl ?_
  refine wp_sym HF HM rfl 1 [[3]] (nf_P_t_S5 b o n c s fb big phoffN phnumN shoffN shnumN pd i z5) [nf_P_t_B2 sb b o n c v, (z5, .cells #[i6_ v.ty, u3_ v.flags, u6_ v.off, u6_ v.vaddr, u6_ v.paddr, u6_ v.fsz, u6_ v.memsz, u6_ v.align, .nilIface, pt_ sb] 146 (0, 0)), nf_P_t_B3 fb dat abi abiv big tyN machN entryN pg i phnumN, (pg, .cells cur 136 (0, 0)), (pd, .cells (X.map Bv).toArray 5 (0, 0))] (by kernel_rfl) ?_
  clear HF HM; intro a w HF HM
  refine only_endS ⟨HM.cellAt (i := 1) (k := 2) rfl rfl, HM.cellAt (i := 1) (k := 5) rfl rfl⟩ ?_
  refine plan_endS (then_norm ?_)
  refine reg_sym HF HM rfl [[3], [3]] (nf_P_t_S5 b o n c s fb big phoffN phnumN shoffN shnumN pd i z5) [nf_P_t_B2 sb b o n c v, nf_P_t_B29 z5 v sb, nf_P_t_B3 fb dat abi abiv big tyN machN entryN pg i phnumN, (pg, .cells cur 136 (0, 0)), (pd, .cells (X.map Bv).toArray 5 (0, 0))] (by kernel_rfl) ?_
  clear HF HM; intro a w HF HM
  refine wp_region_lit ?_
  obtain ⟨z15, hz15⟩ : ∃ z, w.heap.size = z := ⟨_, rfl⟩
  refine wp_sym HF HM hz15 7 [[2]] ((nf_P_t_S5 b o n c s fb big phoffN phnumN shoffN shnumN pd i z5) ++ [(788, pt_ fb), (792, sl_ pg i phnumN), (794, sl_ z15 1 1)]) [(z15, .cells #[pt_ z5] 136 (0, 0)), nf_P_t_B2 sb b o n c v, nf_P_t_B29 z5 v sb, nf_P_t_B3 fb dat abi abiv big tyN machN entryN pg i phnumN, (pg, .cells cur 136 (0, 0)), (pd, .cells (X.map Bv).toArray 5 (0, 0))] (by kernel_rfl) ?_
  clear HF HM hz15; intro a w HF HM
  refine wp_append_in HF HM rfl _ _ 127 rfl rfl 136 (.pointer none) 8 Tryd.underlying127 info_pp 4 0 pg _ i phnumN cur _ _ rfl hcs (by omega) (by unfold maxLen; omega) rfl rfl rfl rfl ?_
  intro a2 w12 cur' hcs' htk HM2 HF2; clear HF HM; have HM : Mm [fb, pg, pd] W1 w12 [(z15, .cells #[pt_ z5] 136 (0, 0)), nf_P_t_B2 sb b o n c v, nf_P_t_B29 z5 v sb, nf_P_t_B3 fb dat abi abiv big tyN machN entryN pg i phnumN, (pg, .cells cur' 136 (0, 0)), (pd, .cells (X.map Bv).toArray 5 (0, 0))] := HM2; have HF := HF2; clear HM2 HF2
  replace HF := HF.sub ((nf_P_t_S5 b o n c s fb big phoffN phnumN shoffN shnumN pd i z5) ++ [(788, pt_ fb), (795, sl_ pg (i + 1) phnumN)]) (by kernel_rfl)
  refine wp_sym HF HM rfl 3 [[2]] (nf_P_t_S5 b o n c s fb big phoffN phnumN shoffN shnumN pd i z5) [(z15, .cells #[pt_ z5] 136 (0, 0)), nf_P_t_B2 sb b o n c v, nf_P_t_B29 z5 v sb, nf_P_t_B1 fb dat abi abiv big tyN machN entryN pg i phnumN, (pg, .cells cur' 136 (0, 0)), (pd, .cells (X.map Bv).toArray 5 (0, 0))] (by kernel_rfl) ?_
  clear HF HM; intro a w HF HM
  refine wpList_nil ?_
  repeat (first | refine then_norm ?_ | refine inb_norm ?_)
  refine wp_region_lit ?_
  refine wp_sym HF HM rfl 2 [] ((nf_P_t_S5 b o n c s fb big phoffN phnumN shoffN shnumN pd i z5) ++ [(595, iI_ (IntKind.i64.wrap (((i : Nat) : Int) + 1)))]) [(z15, .cells #[pt_ z5] 136 (0, 0)), nf_P_t_B2 sb b o n c v, nf_P_t_B29 z5 v sb, nf_P_t_B1 fb dat abi abiv big tyN machN entryN pg i phnumN, (pg, .cells cur' 136 (0, 0)), (pd, .cells (X.map Bv).toArray 5 (0, 0))] (by kernel_rfl) ?_
  clear HF HM; intro a w HF HM
  rw [show IntKind.i64.wrap (((i : Nat) : Int) + 1) = (((i + 1) : Nat) : Int) from (IntWalk.i64_in _ (by omega)).trans (by omega)] at HF
  refine wp_sym HF HM rfl 1 [] ((nf_P_t_S0 b o n c s fb big phoffN phnumN shoffN shnumN pd) ++ [(39, u6_ (i * 32)), (40, pt_ z5), (38, i6_ (i + 1))]) [(z15, .cells #[pt_ z5] 136 (0, 0)), nf_P_t_B2 sb b o n c v, nf_P_t_B29 z5 v sb, nf_P_t_B1 fb dat abi abiv big tyN machN entryN pg i phnumN, (pg, .cells cur' 136 (0, 0)), (pd, .cells (X.map Bv).toArray 5 (0, 0))] (by kernel_rfl) ?_
  clear HF HM; intro a w HF HM
  refine wpList_nil ?_
  repeat (first | refine then_norm ?_ | refine inb_norm ?_)
  replace HF := HF.sub ((nf_P_t_S0 b o n c s fb big phoffN phnumN shoffN shnumN pd) ++ [(38, i6_ (i + 1))]) (by kernel_rfl)
  exact K a w z5 sb cur' hcs' htk HF (HM.sub (List.Sublist.cons _ (List.Sublist.refl _)))

abbrev nf_P_w_S0 := fun (b : Nat) (o : Nat) (n : Nat) (c : Nat) (s : Nat) (fb : Nat) (big : Bool) (phoffN : Nat) (phnumN : Nat) (shoffN : Nat) (shnumN : Nat) (pd : Nat) => ([(0, .iface 178 (.slice (some ⟨b, o, none⟩) n c)), (4, pt_ s), (8, pt_ fb), (9, (boV big)), (10, i6_ phoffN), (11, iI_ 56), (12, i6_ phnumN), (13, i6_ shoffN), (14, iI_ 64), (15, i6_ shnumN), (16, i6_ (shnumN - 1)), (26, iI_ 64), (36, sl_ pd (phnumN * 56) (phnumN * 56))] : Slots)
abbrev nf_P_w_B1 := fun (fb : Nat) (dat : Int) (abi : Nat) (abiv : Nat) (big : Bool) (tyN : Nat) (machN : Nat) (entryN : Nat) (pg : Nat) (i : Nat) (phnumN : Nat) => ((fb, .cells #[iB_ 2, .int .u8 dat, iB_ 1, u8_ abi, u8_ abiv, (boV big), u2_ tyN, u2_ machN, u6_ entryN, nl_, sl_ pg (i + 1) phnumN, nl_, nl_, nl_] 131 (0, 0)) : Nat × Obj)
abbrev nf_P_w_B2 := fun sb (b : Nat) (o : Nat) (n : Nat) (c : Nat) (v : SegV) => ((sb, .cells #[.iface 178 (.slice (some ⟨b, o, none⟩) n c), i6_ v.off, i6_ v.off, iI_ (((v.fsz : Nat) : Int) + ((v.off : Nat) : Int)), i6_ v.fsz] 246 (0, 0)) : Nat × Obj)
abbrev nf_P_w_B3 := fun (fb : Nat) (dat : Int) (abi : Nat) (abiv : Nat) (big : Bool) (tyN : Nat) (machN : Nat) (entryN : Nat) (pg : Nat) (i : Nat) (phnumN : Nat) => ((fb, .cells #[iB_ 2, .int .u8 dat, iB_ 1, u8_ abi, u8_ abiv, (boV big), u2_ tyN, u2_ machN, u6_ entryN, nl_, sl_ pg i phnumN, nl_, nl_, nl_] 131 (0, 0)) : Nat × Obj)
abbrev nf_P_w_B4 := fun z5 => ((z5, .cells #[iI_ 0, iT_ 0, iL_ 0, iL_ 0, iL_ 0, iL_ 0, iL_ 0, iL_ 0, .nilIface, .pointer none] 146 (0, 0)) : Nat × Obj)
abbrev nf_P_w_S5 := fun (b : Nat) (o : Nat) (n : Nat) (c : Nat) (s : Nat) (fb : Nat) (big : Bool) (phoffN : Nat) (phnumN : Nat) (shoffN : Nat) (shnumN : Nat) (pd : Nat) (i : Nat) z5 => ((nf_P_w_S0 b o n c s fb big phoffN phnumN shoffN shnumN pd) ++ [(38, i6_ i), (39, u6_ (i * 56)), (40, pt_ z5)] : Slots)
abbrev nf_P_w_P6 := fun (pd : Nat) (i : Nat) (phnumN : Nat) => ((675, .slice (some ⟨pd, ((i * 56) + 0), none⟩) ((phnumN * 56) - ((i * 56) + 0)) ((phnumN * 56) - ((i * 56) + 0))) : Nat × Value)
abbrev nf_P_w_S7 := fun (b : Nat) (o : Nat) (n : Nat) (c : Nat) (s : Nat) (fb : Nat) (big : Bool) (phoffN : Nat) (phnumN : Nat) (shoffN : Nat) (shnumN : Nat) (pd : Nat) (i : Nat) z5 => ((nf_P_w_S5 b o n c s fb big phoffN phnumN shoffN shnumN pd i z5) ++ [(670, pt_ z5), (671, (boV big)), (675, .slice (some ⟨pd, ((i * 56) + 0), none⟩) ((phnumN * 56) - ((i * 56) + 0)) ((phnumN * 56) - ((i * 56) + 0)))] : Slots)
abbrev nf_P_w_P8 := fun (pd : Nat) (i : Nat) (phnumN : Nat) => ((682, .slice (some ⟨pd, ((i * 56) + 4), none⟩) ((phnumN * 56) - ((i * 56) + 4)) ((phnumN * 56) - ((i * 56) + 4))) : Nat × Value)
abbrev nf_P_w_S9 := fun (b : Nat) (o : Nat) (n : Nat) (c : Nat) (s : Nat) (fb : Nat) (big : Bool) (phoffN : Nat) (phnumN : Nat) (shoffN : Nat) (shnumN : Nat) (pd : Nat) (i : Nat) z5 => ((nf_P_w_S7 b o n c s fb big phoffN phnumN shoffN shnumN pd i z5) ++ [(678, (boV big)), (682, .slice (some ⟨pd, ((i * 56) + 4), none⟩) ((phnumN * 56) - ((i * 56) + 4)) ((phnumN * 56) - ((i * 56) + 4)))] : Slots)
abbrev nf_P_w_P10 := fun (pd : Nat) (i : Nat) (phnumN : Nat) => ((688, .slice (some ⟨pd, ((i * 56) + 8), none⟩) ((phnumN * 56) - ((i * 56) + 8)) ((phnumN * 56) - ((i * 56) + 8))) : Nat × Value)
abbrev nf_P_w_S11 := fun (b : Nat) (o : Nat) (n : Nat) (c : Nat) (s : Nat) (fb : Nat) (big : Bool) (phoffN : Nat) (phnumN : Nat) (shoffN : Nat) (shnumN : Nat) (pd : Nat) (i : Nat) z5 => ((nf_P_w_S9 b o n c s fb big phoffN phnumN shoffN shnumN pd i z5) ++ [(684, (boV big)), (688, .slice (some ⟨pd, ((i * 56) + 8), none⟩) ((phnumN * 56) - ((i * 56) + 8)) ((phnumN * 56) - ((i * 56) + 8)))] : Slots)
abbrev nf_P_w_P12 := fun (pd : Nat) (i : Nat) (phnumN : Nat) => ((694, .slice (some ⟨pd, ((i * 56) + 16), none⟩) ((phnumN * 56) - ((i * 56) + 16)) ((phnumN * 56) - ((i * 56) + 16))) : Nat × Value)
abbrev nf_P_w_S13 := fun (b : Nat) (o : Nat) (n : Nat) (c : Nat) (s : Nat) (fb : Nat) (big : Bool) (phoffN : Nat) (phnumN : Nat) (shoffN : Nat) (shnumN : Nat) (pd : Nat) (i : Nat) z5 => ((nf_P_w_S11 b o n c s fb big phoffN phnumN shoffN shnumN pd i z5) ++ [(690, (boV big)), (694, .slice (some ⟨pd, ((i * 56) + 16), none⟩) ((phnumN * 56) - ((i * 56) + 16)) ((phnumN * 56) - ((i * 56) + 16)))] : Slots)
abbrev nf_P_w_P14 := fun (pd : Nat) (i : Nat) (phnumN : Nat) => ((700, .slice (some ⟨pd, ((i * 56) + 24), none⟩) ((phnumN * 56) - ((i * 56) + 24)) ((phnumN * 56) - ((i * 56) + 24))) : Nat × Value)
abbrev nf_P_w_S15 := fun (b : Nat) (o : Nat) (n : Nat) (c : Nat) (s : Nat) (fb : Nat) (big : Bool) (phoffN : Nat) (phnumN : Nat) (shoffN : Nat) (shnumN : Nat) (pd : Nat) (i : Nat) z5 => ((nf_P_w_S13 b o n c s fb big phoffN phnumN shoffN shnumN pd i z5) ++ [(696, (boV big)), (700, .slice (some ⟨pd, ((i * 56) + 24), none⟩) ((phnumN * 56) - ((i * 56) + 24)) ((phnumN * 56) - ((i * 56) + 24)))] : Slots)
abbrev nf_P_w_P16 := fun (pd : Nat) (i : Nat) (phnumN : Nat) => ((706, .slice (some ⟨pd, ((i * 56) + 32), none⟩) ((phnumN * 56) - ((i * 56) + 32)) ((phnumN * 56) - ((i * 56) + 32))) : Nat × Value)
abbrev nf_P_w_S17 := fun (b : Nat) (o : Nat) (n : Nat) (c : Nat) (s : Nat) (fb : Nat) (big : Bool) (phoffN : Nat) (phnumN : Nat) (shoffN : Nat) (shnumN : Nat) (pd : Nat) (i : Nat) z5 => ((nf_P_w_S15 b o n c s fb big phoffN phnumN shoffN shnumN pd i z5) ++ [(702, (boV big)), (706, .slice (some ⟨pd, ((i * 56) + 32), none⟩) ((phnumN * 56) - ((i * 56) + 32)) ((phnumN * 56) - ((i * 56) + 32)))] : Slots)
abbrev nf_P_w_P18 := fun (pd : Nat) (i : Nat) (phnumN : Nat) => ((712, .slice (some ⟨pd, ((i * 56) + 40), none⟩) ((phnumN * 56) - ((i * 56) + 40)) ((phnumN * 56) - ((i * 56) + 40))) : Nat × Value)
abbrev nf_P_w_S19 := fun (b : Nat) (o : Nat) (n : Nat) (c : Nat) (s : Nat) (fb : Nat) (big : Bool) (phoffN : Nat) (phnumN : Nat) (shoffN : Nat) (shnumN : Nat) (pd : Nat) (i : Nat) z5 => ((nf_P_w_S17 b o n c s fb big phoffN phnumN shoffN shnumN pd i z5) ++ [(708, (boV big)), (712, .slice (some ⟨pd, ((i * 56) + 40), none⟩) ((phnumN * 56) - ((i * 56) + 40)) ((phnumN * 56) - ((i * 56) + 40)))] : Slots)
abbrev nf_P_w_P20 := fun (pd : Nat) (i : Nat) (phnumN : Nat) => ((718, .slice (some ⟨pd, ((i * 56) + 48), none⟩) ((phnumN * 56) - ((i * 56) + 48)) ((phnumN * 56) - ((i * 56) + 48))) : Nat × Value)
abbrev nf_P_w_S21 := fun (b : Nat) (o : Nat) (n : Nat) (c : Nat) (s : Nat) (fb : Nat) (big : Bool) (phoffN : Nat) (phnumN : Nat) (shoffN : Nat) (shnumN : Nat) (pd : Nat) (i : Nat) z5 => ((nf_P_w_S5 b o n c s fb big phoffN phnumN shoffN shnumN pd i z5) ++ [(670, pt_ z5), (678, (boV big)), (682, .slice (some ⟨pd, ((i * 56) + 4), none⟩) ((phnumN * 56) - ((i * 56) + 4)) ((phnumN * 56) - ((i * 56) + 4))), (684, (boV big)), (688, .slice (some ⟨pd, ((i * 56) + 8), none⟩) ((phnumN * 56) - ((i * 56) + 8)) ((phnumN * 56) - ((i * 56) + 8))), (690, (boV big)), (694, .slice (some ⟨pd, ((i * 56) + 16), none⟩) ((phnumN * 56) - ((i * 56) + 16)) ((phnumN * 56) - ((i * 56) + 16))), (696, (boV big)), (700, .slice (some ⟨pd, ((i * 56) + 24), none⟩) ((phnumN * 56) - ((i * 56) + 24)) ((phnumN * 56) - ((i * 56) + 24))), (702, (boV big)), (706, .slice (some ⟨pd, ((i * 56) + 32), none⟩) ((phnumN * 56) - ((i * 56) + 32)) ((phnumN * 56) - ((i * 56) + 32))), (708, (boV big)), (712, .slice (some ⟨pd, ((i * 56) + 40), none⟩) ((phnumN * 56) - ((i * 56) + 40)) ((phnumN * 56) - ((i * 56) + 40))), (714, (boV big)), (718, .slice (some ⟨pd, ((i * 56) + 48), none⟩) ((phnumN * 56) - ((i * 56) + 48)) ((phnumN * 56) - ((i * 56) + 48)))] : Slots)
abbrev nf_P_w_B22 := fun z5 (v : SegV) => ((z5, .cells #[i6_ v.ty, u3_ v.flags, u6_ v.off, u6_ v.vaddr, u6_ v.paddr, u6_ v.fsz, u6_ v.memsz, u6_ v.align, .nilIface, .pointer none] 146 (0, 0)) : Nat × Obj)
abbrev nf_P_w_S23 := fun (b : Nat) (o : Nat) (n : Nat) (c : Nat) (s : Nat) (fb : Nat) (big : Bool) (phoffN : Nat) (phnumN : Nat) (shoffN : Nat) (shnumN : Nat) (pd : Nat) (i : Nat) z5 => ((nf_P_w_S5 b o n c s fb big phoffN phnumN shoffN shnumN pd i z5) ++ [(763, pt_ z5), (764, .iface 178 (.slice (some ⟨b, o, none⟩) n c))] : Slots)
abbrev nf_P_w_B24 := fun z5 (v : SegV) sb => ((z5, .cells #[i6_ v.ty, u3_ v.flags, u6_ v.off, u6_ v.vaddr, u6_ v.paddr, u6_ v.fsz, u6_ v.memsz, u6_ v.align, .iface 144 (pt_ sb), pt_ sb] 146 (0, 0)) : Nat × Obj)
set_option maxRecDepth 100000 in
set_option maxHeartbeats 1000000 in
theorem nf_P_w (l : List UInt8) (b o n c : Nat) (hl : n = l.length) (hnc : n ≤ c) (big : Bool) (abi abiv tyN machN entryN phoffN phnumN shoffN shnumN : Nat) (dat : Int) (b1 : tyN < 65536) (b2 : machN < 65536) (b3 : entryN ≤ 18446744073709551615) (b4 : phoffN < 4611686018427387904) (b5 : shoffN < 4611686018427387904) (b6 : phnumN < 200) (b7 : shnumN < 200) (X : List UInt8) (hXl : X.length = (phnumN * 56)) (i : Nat) (hi : i < phnumN) (v : SegV) (hv : SegOk (X.drop (i * 56)) true big v.ty v.flags v.vaddr v.paddr v.memsz v.align v.fsz v.off)
    (v1 : v.ty < 4294967296) (v2 : v.off + v.fsz < 4611686018427387904) (v3 : v.vaddr ≤ 18446744073709551615) (v4 : v.paddr ≤ 18446744073709551615) (v5 : v.memsz ≤ 18446744073709551615) (v6 : v.align ≤ 18446744073709551615) {K0 : Act → World → Prop} {Q : Exit → Act → World → Prop} (a : Act) (W1 : World) (s fb pg pd : Nat) (cur : Array Value) (hcs : cur.size = phnumN)
    (h1 : W1.heap[fb]? = some (.cells #[iB_ 2, .int .u8 dat, iB_ 1, u8_ abi, u8_ abiv, (boV big), u2_ tyN, u2_ machN, u6_ entryN, nl_, sl_ pg i phnumN, nl_, nl_, nl_] 131 (0, 0))) (h2 : W1.heap[pg]? = some (.cells cur 136 (0, 0))) (h3 : W1.heap[pd]? = some (.cells (X.map Bv).toArray 5 (0, 0))) (n1 : fb ≠ pg) (n2 : fb ≠ pd) (n3 : pg ≠ pd) (HF : Fr 1287 a ((nf_P_w_S0 b o n c s fb big phoffN phnumN shoffN shnumN pd) ++ [(38, i6_ i)]))
    (K : ∀ a w' pb sb cur', cur'.size = phnumN → cur'.toList.take (i + 1) = cur.toList.take i ++ [pt_ pb] → Fr 1287 a ((nf_P_w_S0 b o n c s fb big phoffN phnumN shoffN shnumN pd) ++ [(38, i6_ (i + 1))]) → Mm [fb, pg, pd] W1 w' [nf_P_w_B2 sb b o n c v, (pb, .cells #[i6_ v.ty, u3_ v.flags, u6_ v.off, u6_ v.vaddr, u6_ v.paddr, u6_ v.fsz, u6_ v.memsz, u6_ v.align, .iface 144 (pt_ sb), pt_ sb] 146 (0, 0)), nf_P_w_B1 fb dat abi abiv big tyN machN entryN pg i phnumN, (pg, .cells cur' 136 (0, 0)), (pd, .cells (X.map Bv).toArray 5 (0, 0))] → K0 a w') : (lpOf (spine Tryd.f78 35)).wp Tryd.prog (Exit.then K0 Q) a W1 := by
  obtain ⟨i0, hi0, hs0⟩ := size_u8
  have e0 : num big X ((i * 56) + 0) 4 = v.ty := (num_drop big X (i * 56) 0 4).symm.trans hv.ty
  have e1 : num big X ((i * 56) + 4) 4 = v.flags := (num_drop big X (i * 56) 4 4).symm.trans hv.flags
  have e2 : num big X ((i * 56) + 8) 8 = v.off := (num_drop big X (i * 56) 8 8).symm.trans hv.off
  have e3 : num big X ((i * 56) + 16) 8 = v.vaddr := (num_drop big X (i * 56) 16 8).symm.trans hv.vaddr
  have e4 : num big X ((i * 56) + 24) 8 = v.paddr := (num_drop big X (i * 56) 24 8).symm.trans hv.paddr
  have e5 : num big X ((i * 56) + 32) 8 = v.fsz := (num_drop big X (i * 56) 32 8).symm.trans hv.filesz
  have e6 : num big X ((i * 56) + 40) 8 = v.memsz := (num_drop big X (i * 56) 40 8).symm.trans hv.memsz
  have e7 : num big X ((i * 56) + 48) 8 = v.align := (num_drop big X (i * 56) 48 8).symm.trans hv.align
  obtain ⟨w, hw⟩ : ∃ w, W1 = w := ⟨_, rfl⟩
  have HM : Mm [fb, pg, pd] W1 w [nf_P_w_B3 fb dat abi abiv big tyN machN entryN pg i phnumN, (pg, .cells cur 136 (0, 0)), (pd, .cells (X.map Bv).toArray 5 (0, 0))] := hw ▸ Mm.start3 h1 h2 h3 n1 n2 n3
  conv => arg 5; rw [hw]
  clear hw
  refine wp_seq ?_
  refine wp_seq (wp_region_lit ?_)
  refine wp_sym HF HM rfl 3 [] ((nf_P_w_S0 b o n c s fb big phoffN phnumN shoffN shnumN pd) ++ [(38, i6_ i), (593, .bool (decide (((i : Nat) : Int) < ((phnumN : Nat) : Int))))]) [nf_P_w_B3 fb dat abi abiv big tyN machN entryN pg i phnumN, (pg, .cells cur 136 (0, 0)), (pd, .cells (X.map Bv).toArray 5 (0, 0))] (by kernel_rfl) ?_
  clear HF HM; intro a w HF HM
  rw [show decide (((i : Nat) : Int) < ((phnumN : Nat) : Int)) = true from dec_t (by omega)] at HF
  refine nil_then ?_
  refine wp_condT HF rfl ?_
  refine wp_skip ?_
  repeat (first | refine then_norm ?_ | refine inb_norm ?_)
  replace HF := HF.sub ((nf_P_w_S0 b o n c s fb big phoffN phnumN shoffN shnumN pd) ++ [(38, i6_ i)]) (by kernel_rfl)
  refine wp_seq (wp_block ?_)
  refine wp_seq (wp_region_lit ?_)
  refine wp_sym HF HM rfl 2 [] ((nf_P_w_S0 b o n c s fb big phoffN phnumN shoffN shnumN pd) ++ [(38, i6_ i), (597, iL_ (IntKind.u64.wrap ((i : Nat) : Int)))]) [nf_P_w_B3 fb dat abi abiv big tyN machN entryN pg i phnumN, (pg, .cells cur 136 (0, 0)), (pd, .cells (X.map Bv).toArray 5 (0, 0))] (by kernel_rfl) ?_
  clear HF HM; intro a w HF HM
  rw [show IntKind.u64.wrap ((i : Nat) : Int) = ((i : Nat) : Int) from IntWalk.u64_in _ (by omega)] at HF
  refine wp_sym HF HM rfl 3 [] ((nf_P_w_S0 b o n c s fb big phoffN phnumN shoffN shnumN pd) ++ [(38, i6_ i), (600, iL_ (IntKind.u64.wrap (((i : Nat) : Int) * 56)))]) [nf_P_w_B3 fb dat abi abiv big tyN machN entryN pg i phnumN, (pg, .cells cur 136 (0, 0)), (pd, .cells (X.map Bv).toArray 5 (0, 0))] (by kernel_rfl) ?_
  clear HF HM; intro a w HF HM
  rw [show IntKind.u64.wrap (((i : Nat) : Int) * 56) = (((i * 56) : Nat) : Int) from (IntWalk.u64_in _ (by omega)).trans (by omega)] at HF
  refine wp_sym HF HM rfl 1 [] ((nf_P_w_S0 b o n c s fb big phoffN phnumN shoffN shnumN pd) ++ [(38, i6_ i), (39, u6_ (i * 56))]) [nf_P_w_B3 fb dat abi abiv big tyN machN entryN pg i phnumN, (pg, .cells cur 136 (0, 0)), (pd, .cells (X.map Bv).toArray 5 (0, 0))] (by kernel_rfl) ?_
  clear HF HM; intro a w HF HM
  refine nil_then ?_
  obtain ⟨z5, hz5⟩ : ∃ z, w.heap.size = z := ⟨_, rfl⟩
  refine reg_sym HF HM hz5 [] (nf_P_w_S5 b o n c s fb big phoffN phnumN shoffN shnumN pd i z5) [nf_P_w_B4 z5, nf_P_w_B3 fb dat abi abiv big tyN machN entryN pg i phnumN, (pg, .cells cur 136 (0, 0)), (pd, .cells (X.map Bv).toArray 5 (0, 0))] (by kernel_rfl) ?_
  clear HF HM hz5; intro a w HF HM
  refine wp_seq ?_
  refine reg_sym HF HM rfl [[2]] ((nf_P_w_S5 b o n c s fb big phoffN phnumN shoffN shnumN pd i z5) ++ [(606, iB_ 2)]) [nf_P_w_B4 z5, nf_P_w_B3 fb dat abi abiv big tyN machN entryN pg i phnumN, (pg, .cells cur 136 (0, 0)), (pd, .cells (X.map Bv).toArray 5 (0, 0))] (by kernel_rfl) ?_
  clear HF HM; intro a w HF HM
  refine wp_block ?_
  refine reg_sym HF HM rfl [] ((nf_P_w_S5 b o n c s fb big phoffN phnumN shoffN shnumN pd i z5) ++ [(606, iB_ 2), (607, .bool false)]) [nf_P_w_B4 z5, nf_P_w_B3 fb dat abi abiv big tyN machN entryN pg i phnumN, (pg, .cells cur 136 (0, 0)), (pd, .cells (X.map Bv).toArray 5 (0, 0))] (by kernel_rfl) ?_
  clear HF HM; intro a w HF HM
  refine wp_condF HF rfl ?_
  refine reg_sym HF HM rfl [] ((nf_P_w_S5 b o n c s fb big phoffN phnumN shoffN shnumN pd i z5) ++ [(606, iB_ 2), (668, .bool true)]) [nf_P_w_B4 z5, nf_P_w_B3 fb dat abi abiv big tyN machN entryN pg i phnumN, (pg, .cells cur 136 (0, 0)), (pd, .cells (X.map Bv).toArray 5 (0, 0))] (by kernel_rfl) ?_
  clear HF HM; intro a w HF HM
  refine wp_condT HF rfl ?_
  replace HF := HF.sub (nf_P_w_S5 b o n c s fb big phoffN phnumN shoffN shnumN pd i z5) (by kernel_rfl)
  refine reg_plan1 HM (by kernel_rfl) [(pd, .cells (X.map Bv).toArray 5 (0, 0))] [(0, false), (1, false), (2, false), (3, false), (4, false), (5, false), (8, false), (9, false), (10, false), (11, false), (12, false), (14, false), (15, false), (16, false), (17, false), (18, false), (20, false), (21, false), (22, false), (23, false), (24, false), (26, false), (27, false), (28, false), (29, false), (30, false), (32, false), (33, false), (34, false), (35, false), (36, false), (38, false), (39, false), (40, false), (41, false), (42, false), (44, false), (45, false), (46, false), (47, false), (48, false), (6, true), (7, false), (13, true), (19, true), (25, true), (31, true), (37, true), (43, true), (49, true), (50, false), (51, false), (52, false), (53, true)] (by kernel_rfl) ?_
  clear HM; intro w1 HM
  refine plan_sym HF (HM.told [3] rfl) 1 [] ((nf_P_w_S5 b o n c s fb big phoffN phnumN shoffN shnumN pd i z5) ++ [(670, pt_ z5)]) (by kernel_rfl) ?_
  clear HF; intro a HF
  refine plan_sym HF (HM.told [3] rfl) 4 [] ((nf_P_w_S5 b o n c s fb big phoffN phnumN shoffN shnumN pd i z5) ++ [(670, pt_ z5), (671, (boV big)), (672, sl_ pd (phnumN * 56) (phnumN * 56)), (674, iL_ (IntKind.u64.wrap ((((i * 56) : Nat) : Int) + 0)))]) (by kernel_rfl) ?_
  clear HF; intro a HF
  rw [show IntKind.u64.wrap ((((i * 56) : Nat) : Int) + 0) = ((((i * 56) + 0) : Nat) : Int) from (IntWalk.u64_in _ (by omega)).trans (by omega)] at HF
  refine plan_run rfl HF (HM.told [3] rfl) rfl (.slice (some ⟨pd, ((i * 56) + 0), none⟩) ((phnumN * 56) - ((i * 56) + 0)) ((phnumN * 56) - ((i * 56) + 0))) (by kernel_rfl) (fun w hw => run_open0 (t := 33) Tryd.underlying33 hi0 hs0 rfl ((i * 56) + 0) (kk := .u64) rfl rfl (by omega) (by omega) (by omega) w) ?_
  clear HF; intro a HF; replace HF := HF.sub ((nf_P_w_S5 b o n c s fb big phoffN phnumN shoffN shnumN pd i z5) ++ [(670, pt_ z5), (671, (boV big)), (672, sl_ pd (phnumN * 56) (phnumN * 56)), (674, u6_ ((i * 56) + 0)), nf_P_w_P6 pd i phnumN]) (by kernel_rfl)
  replace HF := HF.sub (nf_P_w_S7 b o n c s fb big phoffN phnumN shoffN shnumN pd i z5) (by kernel_rfl)
  refine plan_sym HF (HM.told [3] rfl) 4 [] ((nf_P_w_S7 b o n c s fb big phoffN phnumN shoffN shnumN pd i z5) ++ [(678, (boV big)), (679, sl_ pd (phnumN * 56) (phnumN * 56)), (681, iL_ (IntKind.u64.wrap ((((i * 56) : Nat) : Int) + 4)))]) (by kernel_rfl) ?_
  clear HF; intro a HF
  rw [show IntKind.u64.wrap ((((i * 56) : Nat) : Int) + 4) = ((((i * 56) + 4) : Nat) : Int) from (IntWalk.u64_in _ (by omega)).trans (by omega)] at HF
  refine plan_run rfl HF (HM.told [3] rfl) rfl (.slice (some ⟨pd, ((i * 56) + 4), none⟩) ((phnumN * 56) - ((i * 56) + 4)) ((phnumN * 56) - ((i * 56) + 4))) (by kernel_rfl) (fun w hw => run_open0 (t := 33) Tryd.underlying33 hi0 hs0 rfl ((i * 56) + 4) (kk := .u64) rfl rfl (by omega) (by omega) (by omega) w) ?_
  clear HF; intro a HF; replace HF := HF.sub ((nf_P_w_S7 b o n c s fb big phoffN phnumN shoffN shnumN pd i z5) ++ [(678, (boV big)), (679, sl_ pd (phnumN * 56) (phnumN * 56)), (681, u6_ ((i * 56) + 4)), nf_P_w_P8 pd i phnumN]) (by kernel_rfl)
  replace HF := HF.sub (nf_P_w_S9 b o n c s fb big phoffN phnumN shoffN shnumN pd i z5) (by kernel_rfl)
  refine plan_sym HF (HM.told [3] rfl) 4 [] ((nf_P_w_S9 b o n c s fb big phoffN phnumN shoffN shnumN pd i z5) ++ [(684, (boV big)), (685, sl_ pd (phnumN * 56) (phnumN * 56)), (687, iL_ (IntKind.u64.wrap ((((i * 56) : Nat) : Int) + 8)))]) (by kernel_rfl) ?_
  clear HF; intro a HF
  rw [show IntKind.u64.wrap ((((i * 56) : Nat) : Int) + 8) = ((((i * 56) + 8) : Nat) : Int) from (IntWalk.u64_in _ (by omega)).trans (by omega)] at HF
  refine plan_run rfl HF (HM.told [3] rfl) rfl (.slice (some ⟨pd, ((i * 56) + 8), none⟩) ((phnumN * 56) - ((i * 56) + 8)) ((phnumN * 56) - ((i * 56) + 8))) (by kernel_rfl) (fun w hw => run_open0 (t := 33) Tryd.underlying33 hi0 hs0 rfl ((i * 56) + 8) (kk := .u64) rfl rfl (by omega) (by omega) (by omega) w) ?_
  clear HF; intro a HF; replace HF := HF.sub ((nf_P_w_S9 b o n c s fb big phoffN phnumN shoffN shnumN pd i z5) ++ [(684, (boV big)), (685, sl_ pd (phnumN * 56) (phnumN * 56)), (687, u6_ ((i * 56) + 8)), nf_P_w_P10 pd i phnumN]) (by kernel_rfl)
  replace HF := HF.sub (nf_P_w_S11 b o n c s fb big phoffN phnumN shoffN shnumN pd i z5) (by kernel_rfl)
  refine plan_sym HF (HM.told [3] rfl) 4 [] ((nf_P_w_S11 b o n c s fb big phoffN phnumN shoffN shnumN pd i z5) ++ [(690, (boV big)), (691, sl_ pd (phnumN * 56) (phnumN * 56)), (693, iL_ (IntKind.u64.wrap ((((i * 56) : Nat) : Int) + 16)))]) (by kernel_rfl) ?_
  clear HF; intro a HF
  rw [show IntKind.u64.wrap ((((i * 56) : Nat) : Int) + 16) = ((((i * 56) + 16) : Nat) : Int) from (IntWalk.u64_in _ (by omega)).trans (by omega)] at HF
  refine plan_run rfl HF (HM.told [3] rfl) rfl (.slice (some ⟨pd, ((i * 56) + 16), none⟩) ((phnumN * 56) - ((i * 56) + 16)) ((phnumN * 56) - ((i * 56) + 16))) (by kernel_rfl) (fun w hw => run_open0 (t := 33) Tryd.underlying33 hi0 hs0 rfl ((i * 56) + 16) (kk := .u64) rfl rfl (by omega) (by omega) (by omega) w) ?_
  clear HF; intro a HF; replace HF := HF.sub ((nf_P_w_S11 b o n c s fb big phoffN phnumN shoffN shnumN pd i z5) ++ [(690, (boV big)), (691, sl_ pd (phnumN * 56) (phnumN * 56)), (693, u6_ ((i * 56) + 16)), nf_P_w_P12 pd i phnumN]) (by kernel_rfl)
  replace HF := HF.sub (nf_P_w_S13 b o n c s fb big phoffN phnumN shoffN shnumN pd i z5) (by kernel_rfl)
  refine plan_sym HF (HM.told [3] rfl) 4 [] ((nf_P_w_S13 b o n c s fb big phoffN phnumN shoffN shnumN pd i z5) ++ [(696, (boV big)), (697, sl_ pd (phnumN * 56) (phnumN * 56)), (699, iL_ (IntKind.u64.wrap ((((i * 56) : Nat) : Int) + 24)))]) (by kernel_rfl) ?_
  clear HF; intro a HF
  rw [show IntKind.u64.wrap ((((i * 56) : Nat) : Int) + 24) = ((((i * 56) + 24) : Nat) : Int) from (IntWalk.u64_in _ (by omega)).trans (by omega)] at HF
  refine plan_run rfl HF (HM.told [3] rfl) rfl (.slice (some ⟨pd, ((i * 56) + 24), none⟩) ((phnumN * 56) - ((i * 56) + 24)) ((phnumN * 56) - ((i * 56) + 24))) (by kernel_rfl) (fun w hw => run_open0 (t := 33) Tryd.underlying33 hi0 hs0 rfl ((i * 56) + 24) (kk := .u64) rfl rfl (by omega) (by omega) (by omega) w) ?_
  clear HF; intro a HF; replace HF := HF.sub ((nf_P_w_S13 b o n c s fb big phoffN phnumN shoffN shnumN pd i z5) ++ [(696, (boV big)), (697, sl_ pd (phnumN * 56) (phnumN * 56)), (699, u6_ ((i * 56) + 24)), nf_P_w_P14 pd i phnumN]) (by kernel_rfl)
  replace HF := HF.sub (nf_P_w_S15 b o n c s fb big phoffN phnumN shoffN shnumN pd i z5) (by kernel_rfl)
  refine plan_sym HF (HM.told [3] rfl) 4 [] ((nf_P_w_S15 b o n c s fb big phoffN phnumN shoffN shnumN pd i z5) ++ [(702, (boV big)), (703, sl_ pd (phnumN * 56) (phnumN * 56)), (705, iL_ (IntKind.u64.wrap ((((i * 56) : Nat) : Int) + 32)))]) (by kernel_rfl) ?_
  clear HF; intro a HF
  rw [show IntKind.u64.wrap ((((i * 56) : Nat) : Int) + 32) = ((((i * 56) + 32) : Nat) : Int) from (IntWalk.u64_in _ (by omega)).trans (by omega)] at HF
  refine plan_run rfl HF (HM.told [3] rfl) rfl (.slice (some ⟨pd, ((i * 56) + 32), none⟩) ((phnumN * 56) - ((i * 56) + 32)) ((phnumN * 56) - ((i * 56) + 32))) (by kernel_rfl) (fun w hw => run_open0 (t := 33) Tryd.underlying33 hi0 hs0 rfl ((i * 56) + 32) (kk := .u64) rfl rfl (by omega) (by omega) (by omega) w) ?_
  clear HF; intro a HF; replace HF := HF.sub ((nf_P_w_S15 b o n c s fb big phoffN phnumN shoffN shnumN pd i z5) ++ [(702, (boV big)), (703, sl_ pd (phnumN * 56) (phnumN * 56)), (705, u6_ ((i * 56) + 32)), nf_P_w_P16 pd i phnumN]) (by kernel_rfl)
  replace HF := HF.sub (nf_P_w_S17 b o n c s fb big phoffN phnumN shoffN shnumN pd i z5) (by kernel_rfl)
  refine plan_sym HF (HM.told [3] rfl) 4 [] ((nf_P_w_S17 b o n c s fb big phoffN phnumN shoffN shnumN pd i z5) ++ [(708, (boV big)), (709, sl_ pd (phnumN * 56) (phnumN * 56)), (711, iL_ (IntKind.u64.wrap ((((i * 56) : Nat) : Int) + 40)))]) (by kernel_rfl) ?_
  clear HF; intro a HF
  rw [show IntKind.u64.wrap ((((i * 56) : Nat) : Int) + 40) = ((((i * 56) + 40) : Nat) : Int) from (IntWalk.u64_in _ (by omega)).trans (by omega)] at HF
  refine plan_run rfl HF (HM.told [3] rfl) rfl (.slice (some ⟨pd, ((i * 56) + 40), none⟩) ((phnumN * 56) - ((i * 56) + 40)) ((phnumN * 56) - ((i * 56) + 40))) (by kernel_rfl) (fun w hw => run_open0 (t := 33) Tryd.underlying33 hi0 hs0 rfl ((i * 56) + 40) (kk := .u64) rfl rfl (by omega) (by omega) (by omega) w) ?_
  clear HF; intro a HF; replace HF := HF.sub ((nf_P_w_S17 b o n c s fb big phoffN phnumN shoffN shnumN pd i z5) ++ [(708, (boV big)), (709, sl_ pd (phnumN * 56) (phnumN * 56)), (711, u6_ ((i * 56) + 40)), nf_P_w_P18 pd i phnumN]) (by kernel_rfl)
  replace HF := HF.sub (nf_P_w_S19 b o n c s fb big phoffN phnumN shoffN shnumN pd i z5) (by kernel_rfl)
  refine plan_sym HF (HM.told [3] rfl) 4 [] ((nf_P_w_S19 b o n c s fb big phoffN phnumN shoffN shnumN pd i z5) ++ [(714, (boV big)), (715, sl_ pd (phnumN * 56) (phnumN * 56)), (717, iL_ (IntKind.u64.wrap ((((i * 56) : Nat) : Int) + 48)))]) (by kernel_rfl) ?_
  clear HF; intro a HF
  rw [show IntKind.u64.wrap ((((i * 56) : Nat) : Int) + 48) = ((((i * 56) + 48) : Nat) : Int) from (IntWalk.u64_in _ (by omega)).trans (by omega)] at HF
  refine plan_run rfl HF (HM.told [3] rfl) rfl (.slice (some ⟨pd, ((i * 56) + 48), none⟩) ((phnumN * 56) - ((i * 56) + 48)) ((phnumN * 56) - ((i * 56) + 48))) (by kernel_rfl) (fun w hw => run_open0 (t := 33) Tryd.underlying33 hi0 hs0 rfl ((i * 56) + 48) (kk := .u64) rfl rfl (by omega) (by omega) (by omega) w) ?_
  clear HF; intro a HF; replace HF := HF.sub ((nf_P_w_S19 b o n c s fb big phoffN phnumN shoffN shnumN pd i z5) ++ [(714, (boV big)), (715, sl_ pd (phnumN * 56) (phnumN * 56)), (717, u6_ ((i * 56) + 48)), nf_P_w_P20 pd i phnumN]) (by kernel_rfl)
  replace HF := HF.sub ((nf_P_w_S19 b o n c s fb big phoffN phnumN shoffN shnumN pd i z5) ++ [(714, (boV big)), nf_P_w_P20 pd i phnumN]) (by kernel_rfl)
  refine plan_force rfl ?_
  refine wp_call HF (by kernel_rfl) 87 #[(boV big), .slice (some ⟨pd, ((i * 56) + 0), none⟩) ((phnumN * 56) - ((i * 56) + 0)) ((phnumN * 56) - ((i * 56) + 0))] (by kernel_rfl) (fun w => by kernel_rfl) (Calls.mono (u32_at (HM.get (i := 3) rfl) (by unfold maxLen; omega) big ((i * 56) + 0) ((phnumN * 56) - ((i * 56) + 0)) (by omega) (by omega) ((v.ty : Nat) : Int) (by rw [e0])) ?_)
  rintro _ w2 ⟨rfl, dk_, hq⟩
  replace HM : Mm [fb, pg, pd] W1 w2 [nf_P_w_B4 z5, nf_P_w_B3 fb dat abi abiv big tyN machN entryN pg i phnumN, (pg, .cells cur 136 (0, 0)), (pd, .cells (X.map Bv).toArray 5 (0, 0))] := by rw [hq]; exact HM.drewN _
  clear hq
  refine ⟨_, rfl, ?_⟩; clear HF; intro a HF; replace HF := HF.sub ((nf_P_w_S19 b o n c s fb big phoffN phnumN shoffN shnumN pd i z5) ++ [(714, (boV big)), nf_P_w_P20 pd i phnumN, (676, u3_ v.ty)]) (by kernel_rfl)
  refine only_end (HM.told [3] rfl) ?_
  replace HF := HF.sub ((nf_P_w_S21 b o n c s fb big phoffN phnumN shoffN shnumN pd i z5) ++ [(676, u3_ v.ty)]) (by kernel_rfl)
  refine plan_sym HF (HM.told [3] rfl) 1 [] ((nf_P_w_S21 b o n c s fb big phoffN phnumN shoffN shnumN pd i z5) ++ [(677, iI_ (IntKind.i64.wrap ((v.ty : Nat) : Int)))]) (by kernel_rfl) ?_
  clear HF; intro a HF
  rw [show IntKind.i64.wrap ((v.ty : Nat) : Int) = ((v.ty : Nat) : Int) from IntWalk.i64_in _ (by omega)] at HF
  refine plan_force rfl ?_
  refine wp_call HF (by kernel_rfl) 87 #[(boV big), .slice (some ⟨pd, ((i * 56) + 4), none⟩) ((phnumN * 56) - ((i * 56) + 4)) ((phnumN * 56) - ((i * 56) + 4))] (by kernel_rfl) (fun w => by kernel_rfl) (Calls.mono (u32_at (HM.get (i := 3) rfl) (by unfold maxLen; omega) big ((i * 56) + 4) ((phnumN * 56) - ((i * 56) + 4)) (by omega) (by omega) ((v.flags : Nat) : Int) (by rw [e1])) ?_)
  rintro _ w3 ⟨rfl, dk_, hq⟩
  replace HM : Mm [fb, pg, pd] W1 w3 [nf_P_w_B4 z5, nf_P_w_B3 fb dat abi abiv big tyN machN entryN pg i phnumN, (pg, .cells cur 136 (0, 0)), (pd, .cells (X.map Bv).toArray 5 (0, 0))] := by rw [hq]; exact HM.drewN _
  clear hq
  refine ⟨_, rfl, ?_⟩; clear HF; intro a HF; replace HF := HF.sub ((nf_P_w_S21 b o n c s fb big phoffN phnumN shoffN shnumN pd i z5) ++ [(677, i6_ v.ty), (683, u3_ v.flags)]) (by kernel_rfl)
  refine only_end (HM.told [3] rfl) ?_
  replace HF := HF.sub ((nf_P_w_S5 b o n c s fb big phoffN phnumN shoffN shnumN pd i z5) ++ [(670, pt_ z5), (684, (boV big)), nf_P_w_P10 pd i phnumN, (690, (boV big)), nf_P_w_P12 pd i phnumN, (696, (boV big)), nf_P_w_P14 pd i phnumN, (702, (boV big)), nf_P_w_P16 pd i phnumN, (708, (boV big)), nf_P_w_P18 pd i phnumN, (714, (boV big)), nf_P_w_P20 pd i phnumN, (677, i6_ v.ty), (683, u3_ v.flags)]) (by kernel_rfl)
  refine plan_force rfl ?_
  refine wp_call HF (by kernel_rfl) 88 #[(boV big), .slice (some ⟨pd, ((i * 56) + 8), none⟩) ((phnumN * 56) - ((i * 56) + 8)) ((phnumN * 56) - ((i * 56) + 8))] (by kernel_rfl) (fun w => by kernel_rfl) (Calls.mono (u64_at (HM.get (i := 3) rfl) (by unfold maxLen; omega) big ((i * 56) + 8) ((phnumN * 56) - ((i * 56) + 8)) (by omega) (by omega) ((v.off : Nat) : Int) (by rw [e2])) ?_)
  rintro _ w4 ⟨rfl, dk_, hq⟩
  replace HM : Mm [fb, pg, pd] W1 w4 [nf_P_w_B4 z5, nf_P_w_B3 fb dat abi abiv big tyN machN entryN pg i phnumN, (pg, .cells cur 136 (0, 0)), (pd, .cells (X.map Bv).toArray 5 (0, 0))] := by rw [hq]; exact HM.drewN _
  clear hq
  refine ⟨_, rfl, ?_⟩; clear HF; intro a HF; replace HF := HF.sub ((nf_P_w_S5 b o n c s fb big phoffN phnumN shoffN shnumN pd i z5) ++ [(670, pt_ z5), (684, (boV big)), nf_P_w_P10 pd i phnumN, (690, (boV big)), nf_P_w_P12 pd i phnumN, (696, (boV big)), nf_P_w_P14 pd i phnumN, (702, (boV big)), nf_P_w_P16 pd i phnumN, (708, (boV big)), nf_P_w_P18 pd i phnumN, (714, (boV big)), nf_P_w_P20 pd i phnumN, (677, i6_ v.ty), (683, u3_ v.flags), (689, u6_ v.off)]) (by kernel_rfl)
  refine only_end (HM.told [3] rfl) ?_
  replace HF := HF.sub ((nf_P_w_S5 b o n c s fb big phoffN phnumN shoffN shnumN pd i z5) ++ [(670, pt_ z5), (690, (boV big)), nf_P_w_P12 pd i phnumN, (696, (boV big)), nf_P_w_P14 pd i phnumN, (702, (boV big)), nf_P_w_P16 pd i phnumN, (708, (boV big)), nf_P_w_P18 pd i phnumN, (714, (boV big)), nf_P_w_P20 pd i phnumN, (677, i6_ v.ty), (683, u3_ v.flags), (689, u6_ v.off)]) (by kernel_rfl)
  refine plan_force rfl ?_
  refine wp_call HF (by kernel_rfl) 88 #[(boV big), .slice (some ⟨pd, ((i * 56) + 16), none⟩) ((phnumN * 56) - ((i * 56) + 16)) ((phnumN * 56) - ((i * 56) + 16))] (by kernel_rfl) (fun w => by kernel_rfl) (Calls.mono (u64_at (HM.get (i := 3) rfl) (by unfold maxLen; omega) big ((i * 56) + 16) ((phnumN * 56) - ((i * 56) + 16)) (by omega) (by omega) ((v.vaddr : Nat) : Int) (by rw [e3])) ?_)
  rintro _ w5 ⟨rfl, dk_, hq⟩
  replace HM : Mm [fb, pg, pd] W1 w5 [nf_P_w_B4 z5, nf_P_w_B3 fb dat abi abiv big tyN machN entryN pg i phnumN, (pg, .cells cur 136 (0, 0)), (pd, .cells (X.map Bv).toArray 5 (0, 0))] := by rw [hq]; exact HM.drewN _
  clear hq
  refine ⟨_, rfl, ?_⟩; clear HF; intro a HF; replace HF := HF.sub ((nf_P_w_S5 b o n c s fb big phoffN phnumN shoffN shnumN pd i z5) ++ [(670, pt_ z5), (690, (boV big)), nf_P_w_P12 pd i phnumN, (696, (boV big)), nf_P_w_P14 pd i phnumN, (702, (boV big)), nf_P_w_P16 pd i phnumN, (708, (boV big)), nf_P_w_P18 pd i phnumN, (714, (boV big)), nf_P_w_P20 pd i phnumN, (677, i6_ v.ty), (683, u3_ v.flags), (689, u6_ v.off), (695, u6_ v.vaddr)]) (by kernel_rfl)
  refine only_end (HM.told [3] rfl) ?_
  replace HF := HF.sub ((nf_P_w_S5 b o n c s fb big phoffN phnumN shoffN shnumN pd i z5) ++ [(670, pt_ z5), (696, (boV big)), nf_P_w_P14 pd i phnumN, (702, (boV big)), nf_P_w_P16 pd i phnumN, (708, (boV big)), nf_P_w_P18 pd i phnumN, (714, (boV big)), nf_P_w_P20 pd i phnumN, (677, i6_ v.ty), (683, u3_ v.flags), (689, u6_ v.off), (695, u6_ v.vaddr)]) (by kernel_rfl)
  refine plan_force rfl ?_
  refine wp_call HF (by kernel_rfl) 88 #[(boV big), .slice (some ⟨pd, ((i * 56) + 24), none⟩) ((phnumN * 56) - ((i * 56) + 24)) ((phnumN * 56) - ((i * 56) + 24))] (by kernel_rfl) (fun w => by kernel_rfl) (Calls.mono (u64_at (HM.get (i := 3) rfl) (by unfold maxLen; omega) big ((i * 56) + 24) ((phnumN * 56) - ((i * 56) + 24)) (by omega) (by omega) ((v.paddr : Nat) : Int) (by rw [e4])) ?_)
  rintro _ w6 ⟨rfl, dk_, hq⟩
  replace HM : Mm [fb, pg, pd] W1 w6 [nf_P_w_B4 z5, nf_P_w_B3 fb dat abi abiv big tyN machN entryN pg i phnumN, (pg, .cells cur 136 (0, 0)), (pd, .cells (X.map Bv).toArray 5 (0, 0))] := by rw [hq]; exact HM.drewN _
  clear hq
  refine ⟨_, rfl, ?_⟩; clear HF; intro a HF; replace HF := HF.sub ((nf_P_w_S5 b o n c s fb big phoffN phnumN shoffN shnumN pd i z5) ++ [(670, pt_ z5), (696, (boV big)), nf_P_w_P14 pd i phnumN, (702, (boV big)), nf_P_w_P16 pd i phnumN, (708, (boV big)), nf_P_w_P18 pd i phnumN, (714, (boV big)), nf_P_w_P20 pd i phnumN, (677, i6_ v.ty), (683, u3_ v.flags), (689, u6_ v.off), (695, u6_ v.vaddr), (701, u6_ v.paddr)]) (by kernel_rfl)
  refine only_end (HM.told [3] rfl) ?_
  replace HF := HF.sub ((nf_P_w_S5 b o n c s fb big phoffN phnumN shoffN shnumN pd i z5) ++ [(670, pt_ z5), (702, (boV big)), nf_P_w_P16 pd i phnumN, (708, (boV big)), nf_P_w_P18 pd i phnumN, (714, (boV big)), nf_P_w_P20 pd i phnumN, (677, i6_ v.ty), (683, u3_ v.flags), (689, u6_ v.off), (695, u6_ v.vaddr), (701, u6_ v.paddr)]) (by kernel_rfl)
  refine plan_force rfl ?_
  refine wp_call HF (by kernel_rfl) 88 #[(boV big), .slice (some ⟨pd, ((i * 56) + 32), none⟩) ((phnumN * 56) - ((i * 56) + 32)) ((phnumN * 56) - ((i * 56) + 32))] (by kernel_rfl) (fun w => by kernel_rfl) (Calls.mono (u64_at (HM.get (i := 3) rfl) (by unfold maxLen; omega) big ((i * 56) + 32) ((phnumN * 56) - ((i * 56) + 32)) (by omega) (by omega) ((v.fsz : Nat) : Int) (by rw [e5])) ?_)
  rintro _ w7 ⟨rfl, dk_, hq⟩
  replace HM : Mm [fb, pg, pd] W1 w7 [nf_P_w_B4 z5, nf_P_w_B3 fb dat abi abiv big tyN machN entryN pg i phnumN, (pg, .cells cur 136 (0, 0)), (pd, .cells (X.map Bv).toArray 5 (0, 0))] := by rw [hq]; exact HM.drewN _
  clear hq
  refine ⟨_, rfl, ?_⟩; clear HF; intro a HF; replace HF := HF.sub ((nf_P_w_S5 b o n c s fb big phoffN phnumN shoffN shnumN pd i z5) ++ [(670, pt_ z5), (702, (boV big)), nf_P_w_P16 pd i phnumN, (708, (boV big)), nf_P_w_P18 pd i phnumN, (714, (boV big)), nf_P_w_P20 pd i phnumN, (677, i6_ v.ty), (683, u3_ v.flags), (689, u6_ v.off), (695, u6_ v.vaddr), (701, u6_ v.paddr), (707, u6_ v.fsz)]) (by kernel_rfl)
  refine only_end (HM.told [3] rfl) ?_
  replace HF := HF.sub ((nf_P_w_S5 b o n c s fb big phoffN phnumN shoffN shnumN pd i z5) ++ [(670, pt_ z5), (708, (boV big)), nf_P_w_P18 pd i phnumN, (714, (boV big)), nf_P_w_P20 pd i phnumN, (677, i6_ v.ty), (683, u3_ v.flags), (689, u6_ v.off), (695, u6_ v.vaddr), (701, u6_ v.paddr), (707, u6_ v.fsz)]) (by kernel_rfl)
  refine plan_force rfl ?_
  refine wp_call HF (by kernel_rfl) 88 #[(boV big), .slice (some ⟨pd, ((i * 56) + 40), none⟩) ((phnumN * 56) - ((i * 56) + 40)) ((phnumN * 56) - ((i * 56) + 40))] (by kernel_rfl) (fun w => by kernel_rfl) (Calls.mono (u64_at (HM.get (i := 3) rfl) (by unfold maxLen; omega) big ((i * 56) + 40) ((phnumN * 56) - ((i * 56) + 40)) (by omega) (by omega) ((v.memsz : Nat) : Int) (by rw [e6])) ?_)
  rintro _ w8 ⟨rfl, dk_, hq⟩
  replace HM : Mm [fb, pg, pd] W1 w8 [nf_P_w_B4 z5, nf_P_w_B3 fb dat abi abiv big tyN machN entryN pg i phnumN, (pg, .cells cur 136 (0, 0)), (pd, .cells (X.map Bv).toArray 5 (0, 0))] := by rw [hq]; exact HM.drewN _
  clear hq
  refine ⟨_, rfl, ?_⟩; clear HF; intro a HF; replace HF := HF.sub ((nf_P_w_S5 b o n c s fb big phoffN phnumN shoffN shnumN pd i z5) ++ [(670, pt_ z5), (708, (boV big)), nf_P_w_P18 pd i phnumN, (714, (boV big)), nf_P_w_P20 pd i phnumN, (677, i6_ v.ty), (683, u3_ v.flags), (689, u6_ v.off), (695, u6_ v.vaddr), (701, u6_ v.paddr), (707, u6_ v.fsz), (713, u6_ v.memsz)]) (by kernel_rfl)
  refine only_end (HM.told [3] rfl) ?_
  replace HF := HF.sub ((nf_P_w_S5 b o n c s fb big phoffN phnumN shoffN shnumN pd i z5) ++ [(670, pt_ z5), (714, (boV big)), nf_P_w_P20 pd i phnumN, (677, i6_ v.ty), (683, u3_ v.flags), (689, u6_ v.off), (695, u6_ v.vaddr), (701, u6_ v.paddr), (707, u6_ v.fsz), (713, u6_ v.memsz)]) (by kernel_rfl)
  refine plan_force rfl ?_
  refine wp_call HF (by kernel_rfl) 88 #[(boV big), .slice (some ⟨pd, ((i * 56) + 48), none⟩) ((phnumN * 56) - ((i * 56) + 48)) ((phnumN * 56) - ((i * 56) + 48))] (by kernel_rfl) (fun w => by kernel_rfl) (Calls.mono (u64_at (HM.get (i := 3) rfl) (by unfold maxLen; omega) big ((i * 56) + 48) ((phnumN * 56) - ((i * 56) + 48)) (by omega) (by omega) ((v.align : Nat) : Int) (by rw [e7])) ?_)
  rintro _ w9 ⟨rfl, dk_, hq⟩
  replace HM : Mm [fb, pg, pd] W1 w9 [nf_P_w_B4 z5, nf_P_w_B3 fb dat abi abiv big tyN machN entryN pg i phnumN, (pg, .cells cur 136 (0, 0)), (pd, .cells (X.map Bv).toArray 5 (0, 0))] := by rw [hq]; exact HM.drewN _
  clear hq
  refine ⟨_, rfl, ?_⟩; clear HF; intro a HF; replace HF := HF.sub ((nf_P_w_S5 b o n c s fb big phoffN phnumN shoffN shnumN pd i z5) ++ [(670, pt_ z5), (714, (boV big)), nf_P_w_P20 pd i phnumN, (677, i6_ v.ty), (683, u3_ v.flags), (689, u6_ v.off), (695, u6_ v.vaddr), (701, u6_ v.paddr), (707, u6_ v.fsz), (713, u6_ v.memsz), (719, u6_ v.align)]) (by kernel_rfl)
  refine only_end (HM.told [3] rfl) ?_
  replace HF := HF.sub ((nf_P_w_S5 b o n c s fb big phoffN phnumN shoffN shnumN pd i z5) ++ [(670, pt_ z5), (677, i6_ v.ty), (683, u3_ v.flags), (689, u6_ v.off), (695, u6_ v.vaddr), (701, u6_ v.paddr), (707, u6_ v.fsz), (713, u6_ v.memsz), (719, u6_ v.align)]) (by kernel_rfl)
  refine plan_sym HF (HM.told [3] rfl) 3 [] ((nf_P_w_S5 b o n c s fb big phoffN phnumN shoffN shnumN pd i z5) ++ [(670, pt_ z5), (677, i6_ v.ty), (683, u3_ v.flags), (689, u6_ v.off), (695, u6_ v.vaddr), (701, u6_ v.paddr), (707, u6_ v.fsz), (713, u6_ v.memsz), (719, u6_ v.align), (720, .agg #[i6_ v.ty, u3_ v.flags, u6_ v.off, u6_ v.vaddr, u6_ v.paddr, u6_ v.fsz, u6_ v.memsz, u6_ v.align]), (722, pt_ z5)]) (by kernel_rfl) ?_
  clear HF; intro a HF
  replace HF := HF.sub ((nf_P_w_S5 b o n c s fb big phoffN phnumN shoffN shnumN pd i z5) ++ [(720, .agg #[i6_ v.ty, u3_ v.flags, u6_ v.off, u6_ v.vaddr, u6_ v.paddr, u6_ v.fsz, u6_ v.memsz, u6_ v.align]), (722, pt_ z5)]) (by kernel_rfl)
  refine plan_force rfl ?_
  refine wp_sym HF HM rfl 1 [[3, 3, 3, 3, 3, 3, 3, 3]] (nf_P_w_S5 b o n c s fb big phoffN phnumN shoffN shnumN pd i z5) [nf_P_w_B22 z5 v, nf_P_w_B3 fb dat abi abiv big tyN machN entryN pg i phnumN, (pg, .cells cur 136 (0, 0)), (pd, .cells (X.map Bv).toArray 5 (0, 0))] (by kernel_rfl) ?_
  clear HF HM; intro a w HF HM
  refine only_end (HM.told [3] rfl) ?_
  refine plan_end ?_
  repeat (first | refine then_norm ?_ | refine inb_norm ?_)
  refine wp_seq ?_
  refine wp_seq (wp_region_lit ?_)
  refine wp_sym HF HM rfl 6 [[3]] ((nf_P_w_S5 b o n c s fb big phoffN phnumN shoffN shnumN pd i z5) ++ [(728, iI_ (IntKind.i64.wrap ((v.off : Nat) : Int)))]) [nf_P_w_B22 z5 v, nf_P_w_B3 fb dat abi abiv big tyN machN entryN pg i phnumN, (pg, .cells cur 136 (0, 0)), (pd, .cells (X.map Bv).toArray 5 (0, 0))] (by kernel_rfl) ?_
  clear HF HM; intro a w HF HM
  rw [show IntKind.i64.wrap ((v.off : Nat) : Int) = ((v.off : Nat) : Int) from IntWalk.i64_in _ (by omega)] at HF
  refine wp_sym HF HM rfl 1 [] ((nf_P_w_S5 b o n c s fb big phoffN phnumN shoffN shnumN pd i z5) ++ [(729, .bool (decide (((v.off : Nat) : Int) < 0)))]) [nf_P_w_B22 z5 v, nf_P_w_B3 fb dat abi abiv big tyN machN entryN pg i phnumN, (pg, .cells cur 136 (0, 0)), (pd, .cells (X.map Bv).toArray 5 (0, 0))] (by kernel_rfl) ?_
  clear HF HM; intro a w HF HM
  rw [show decide (((v.off : Nat) : Int) < 0) = false from dec_f (by omega)] at HF
  refine nil_then ?_
  refine wp_condF HF rfl ?_
  refine wp_skip ?_
  repeat (first | refine then_norm ?_ | refine inb_norm ?_)
  replace HF := HF.sub (nf_P_w_S5 b o n c s fb big phoffN phnumN shoffN shnumN pd i z5) (by kernel_rfl)
  refine wp_seq ?_
  refine wp_seq (wp_region_lit ?_)
  refine wp_sym HF HM rfl 6 [[3]] ((nf_P_w_S5 b o n c s fb big phoffN phnumN shoffN shnumN pd i z5) ++ [(748, iI_ (IntKind.i64.wrap ((v.fsz : Nat) : Int)))]) [nf_P_w_B22 z5 v, nf_P_w_B3 fb dat abi abiv big tyN machN entryN pg i phnumN, (pg, .cells cur 136 (0, 0)), (pd, .cells (X.map Bv).toArray 5 (0, 0))] (by kernel_rfl) ?_
  clear HF HM; intro a w HF HM
  rw [show IntKind.i64.wrap ((v.fsz : Nat) : Int) = ((v.fsz : Nat) : Int) from IntWalk.i64_in _ (by omega)] at HF
  refine wp_sym HF HM rfl 1 [] ((nf_P_w_S5 b o n c s fb big phoffN phnumN shoffN shnumN pd i z5) ++ [(749, .bool (decide (((v.fsz : Nat) : Int) < 0)))]) [nf_P_w_B22 z5 v, nf_P_w_B3 fb dat abi abiv big tyN machN entryN pg i phnumN, (pg, .cells cur 136 (0, 0)), (pd, .cells (X.map Bv).toArray 5 (0, 0))] (by kernel_rfl) ?_
  clear HF HM; intro a w HF HM
  rw [show decide (((v.fsz : Nat) : Int) < 0) = false from dec_f (by omega)] at HF
  refine nil_then ?_
  refine wp_condF HF rfl ?_
  refine wp_skip ?_
  repeat (first | refine then_norm ?_ | refine inb_norm ?_)
  replace HF := HF.sub (nf_P_w_S5 b o n c s fb big phoffN phnumN shoffN shnumN pd i z5) (by kernel_rfl)
  refine reg_planS HM (by kernel_rfl) (fun w => w.cell? ⟨z5, 2, none⟩ = some (u6_ v.off) ∧ w.cell? ⟨z5, 5, none⟩ = some (u6_ v.fsz)) [(0, false), (1, false), (2, false), (3, false), (4, false), (5, false), (6, false), (7, false), (8, false), (9, false), (10, false), (11, false), (12, false), (13, false), (14, true), (15, false), (16, false), (17, true)] (by kernel_rfl) ?_
  clear HM; intro w10 HM
  refine plan_symS (LS := []) (fun _ _ => told_nil _) HF ⟨HM.cellAt (i := 0) (k := 2) rfl rfl, HM.cellAt (i := 0) (k := 5) rfl rfl⟩ 6 [] ((nf_P_w_S23 b o n c s fb big phoffN phnumN shoffN shnumN pd i z5) ++ [(768, .pointer (some ⟨z5, 2, none⟩))]) (by kernel_rfl) ?_
  clear HF; intro a HF
  refine plan_runS rfl HF ⟨HM.cellAt (i := 0) (k := 2) rfl rfl, HM.cellAt (i := 0) (k := 5) rfl rfl⟩ rfl (u6_ v.off) (by kernel_rfl) (fun w hw => run_load_one rfl rfl (by kernel_rfl) hw.1) ?_
  clear HF; intro a HF; replace HF := HF.sub ((nf_P_w_S23 b o n c s fb big phoffN phnumN shoffN shnumN pd i z5) ++ [(768, .pointer (some ⟨z5, 2, none⟩)), (769, u6_ v.off)]) (by kernel_rfl)
  refine plan_symS (LS := []) (fun _ _ => told_nil _) HF ⟨HM.cellAt (i := 0) (k := 2) rfl rfl, HM.cellAt (i := 0) (k := 5) rfl rfl⟩ 1 [] ((nf_P_w_S23 b o n c s fb big phoffN phnumN shoffN shnumN pd i z5) ++ [(770, iI_ (IntKind.i64.wrap ((v.off : Nat) : Int)))]) (by kernel_rfl) ?_
  clear HF; intro a HF
  rw [show IntKind.i64.wrap ((v.off : Nat) : Int) = ((v.off : Nat) : Int) from IntWalk.i64_in _ (by omega)] at HF
  refine plan_symS (LS := []) (fun _ _ => told_nil _) HF ⟨HM.cellAt (i := 0) (k := 2) rfl rfl, HM.cellAt (i := 0) (k := 5) rfl rfl⟩ 4 [] ((nf_P_w_S23 b o n c s fb big phoffN phnumN shoffN shnumN pd i z5) ++ [(770, i6_ v.off), (774, .pointer (some ⟨z5, 5, none⟩))]) (by kernel_rfl) ?_
  clear HF; intro a HF
  refine plan_runS rfl HF ⟨HM.cellAt (i := 0) (k := 2) rfl rfl, HM.cellAt (i := 0) (k := 5) rfl rfl⟩ rfl (u6_ v.fsz) (by kernel_rfl) (fun w hw => run_load_one rfl rfl (by kernel_rfl) hw.2) ?_
  clear HF; intro a HF; replace HF := HF.sub ((nf_P_w_S23 b o n c s fb big phoffN phnumN shoffN shnumN pd i z5) ++ [(770, i6_ v.off), (774, .pointer (some ⟨z5, 5, none⟩)), (775, u6_ v.fsz)]) (by kernel_rfl)
  refine plan_symS (LS := []) (fun _ _ => told_nil _) HF ⟨HM.cellAt (i := 0) (k := 2) rfl rfl, HM.cellAt (i := 0) (k := 5) rfl rfl⟩ 1 [] ((nf_P_w_S23 b o n c s fb big phoffN phnumN shoffN shnumN pd i z5) ++ [(770, i6_ v.off), (776, iI_ (IntKind.i64.wrap ((v.fsz : Nat) : Int)))]) (by kernel_rfl) ?_
  clear HF; intro a HF
  rw [show IntKind.i64.wrap ((v.fsz : Nat) : Int) = ((v.fsz : Nat) : Int) from IntWalk.i64_in _ (by omega)] at HF
  refine plan_forceS rfl ?_
  refine wp_call HF (by kernel_rfl) 92 #[.iface 178 (.slice (some ⟨b, o, none⟩) n c), i6_ v.off, i6_ v.fsz] (by kernel_rfl) (fun w => by kernel_rfl) (Calls.mono (newSR_any 178 (.slice (some ⟨b, o, none⟩) n c) ((v.off : Nat) : Int) ((v.fsz : Nat) : Int) (by omega) (by omega) (by omega) w10) ?_)
  rintro _ w11 ⟨sb, rfl, hb, hge, hgn⟩
  replace HM : Mm [fb, pg, pd] W1 w11 [nf_P_w_B2 sb b o n c v, nf_P_w_B22 z5 v, nf_P_w_B3 fb dat abi abiv big tyN machN entryN pg i phnumN, (pg, .cells cur 136 (0, 0)), (pd, .cells (X.map Bv).toArray 5 (0, 0))] := HM.push hb hge hgn
  clear hb hge hgn
  refine ⟨_, rfl, ?_⟩; clear HF; intro a HF; replace HF := HF.sub ((nf_P_w_S23 b o n c s fb big phoffN phnumN shoffN shnumN pd i z5) ++ [(770, i6_ v.off), (776, i6_ v.fsz), (777, pt_ sb)]) (by kernel_rfl)
  refine only_endS ⟨HM.cellAt (i := 1) (k := 2) rfl rfl, HM.cellAt (i := 1) (k := 5) rfl rfl⟩ ?_
  refine plan_symS (LS := []) (fun _ _ => told_nil _) HF ⟨HM.cellAt (i := 1) (k := 2) rfl rfl, HM.cellAt (i := 1) (k := 5) rfl rfl⟩ 2 [] ((nf_P_w_S5 b o n c s fb big phoffN phnumN shoffN shnumN pd i z5) ++ [(777, pt_ sb), (779, .pointer (some ⟨z5, 9, none⟩))]) (by kernel_rfl) ?_
  clear HF; intro a HF
  refine plan_forceS rfl ?_
  refine wp_sym HF HM rfl 1 [[3]] (nf_P_w_S5 b o n c s fb big phoffN phnumN shoffN shnumN pd i z5) [nf_P_w_B2 sb b o n c v, (z5, .cells #[i6_ v.ty, u3_ v.flags, u6_ v.off, u6_ v.vaddr, u6_ v.paddr, u6_ v.fsz, u6_ v.memsz, u6_ v.align, .nilIface, pt_ sb] 146 (0, 0)), nf_P_w_B3 fb dat abi abiv big tyN machN entryN pg i phnumN, (pg, .cells cur 136 (0, 0)), (pd, .cells (X.map Bv).toArray 5 (0, 0))] (by kernel_rfl) ?_
  clear HF HM; intro a w HF HM
  refine only_endS ⟨HM.cellAt (i := 1) (k := 2) rfl rfl, HM.cellAt (i := 1) (k := 5) rfl rfl⟩ ?_
  refine plan_endS (then_norm ?_)
  refine reg_sym HF HM rfl [[3], [3]] (nf_P_w_S5 b o n c s fb big phoffN phnumN shoffN shnumN pd i z5) [nf_P_w_B2 sb b o n c v, nf_P_w_B24 z5 v sb, nf_P_w_B3 fb dat abi abiv big tyN machN entryN pg i phnumN, (pg, .cells cur 136 (0, 0)), (pd, .cells (X.map Bv).toArray 5 (0, 0))] (by kernel_rfl) ?_
  clear HF HM; intro a w HF HM
  refine wp_region_lit ?_
  obtain ⟨z16, hz16⟩ : ∃ z, w.heap.size = z := ⟨_, rfl⟩
  refine wp_sym HF HM hz16 7 [[2]] ((nf_P_w_S5 b o n c s fb big phoffN phnumN shoffN shnumN pd i z5) ++ [(788, pt_ fb), (792, sl_ pg i phnumN), (794, sl_ z16 1 1)]) [(z16, .cells #[pt_ z5] 136 (0, 0)), nf_P_w_B2 sb b o n c v, nf_P_w_B24 z5 v sb, nf_P_w_B3 fb dat abi abiv big tyN machN entryN pg i phnumN, (pg, .cells cur 136 (0, 0)), (pd, .cells (X.map Bv).toArray 5 (0, 0))] (by kernel_rfl) ?_
  clear HF HM hz16; intro a w HF HM
  refine wp_append_in HF HM rfl _ _ 127 rfl rfl 136 (.pointer none) 8 Tryd.underlying127 info_pp 4 0 pg _ i phnumN cur _ _ rfl hcs (by omega) (by unfold maxLen; omega) rfl rfl rfl rfl ?_
  intro a2 w12 cur' hcs' htk HM2 HF2; clear HF HM; have HM : Mm [fb, pg, pd] W1 w12 [(z16, .cells #[pt_ z5] 136 (0, 0)), nf_P_w_B2 sb b o n c v, nf_P_w_B24 z5 v sb, nf_P_w_B3 fb dat abi abiv big tyN machN entryN pg i phnumN, (pg, .cells cur' 136 (0, 0)), (pd, .cells (X.map Bv).toArray 5 (0, 0))] := HM2; have HF := HF2; clear HM2 HF2
  replace HF := HF.sub ((nf_P_w_S5 b o n c s fb big phoffN phnumN shoffN shnumN pd i z5) ++ [(788, pt_ fb), (795, sl_ pg (i + 1) phnumN)]) (by kernel_rfl)
  refine wp_sym HF HM rfl 3 [[2]] (nf_P_w_S5 b o n c s fb big phoffN phnumN shoffN shnumN pd i z5) [(z16, .cells #[pt_ z5] 136 (0, 0)), nf_P_w_B2 sb b o n c v, nf_P_w_B24 z5 v sb, nf_P_w_B1 fb dat abi abiv big tyN machN entryN pg i phnumN, (pg, .cells cur' 136 (0, 0)), (pd, .cells (X.map Bv).toArray 5 (0, 0))] (by kernel_rfl) ?_
  clear HF HM; intro a w HF HM
  refine wpList_nil ?_
  repeat (first | refine then_norm ?_ | refine inb_norm ?_)
  refine wp_region_lit ?_
  refine wp_sym HF HM rfl 2 [] ((nf_P_w_S5 b o n c s fb big phoffN phnumN shoffN shnumN pd i z5) ++ [(595, iI_ (IntKind.i64.wrap (((i : Nat) : Int) + 1)))]) [(z16, .cells #[pt_ z5] 136 (0, 0)), nf_P_w_B2 sb b o n c v, nf_P_w_B24 z5 v sb, nf_P_w_B1 fb dat abi abiv big tyN machN entryN pg i phnumN, (pg, .cells cur' 136 (0, 0)), (pd, .cells (X.map Bv).toArray 5 (0, 0))] (by kernel_rfl) ?_
  clear HF HM; intro a w HF HM
  rw [show IntKind.i64.wrap (((i : Nat) : Int) + 1) = (((i + 1) : Nat) : Int) from (IntWalk.i64_in _ (by omega)).trans (by omega)] at HF
  refine wp_sym HF HM rfl 1 [] ((nf_P_w_S0 b o n c s fb big phoffN phnumN shoffN shnumN pd) ++ [(39, u6_ (i * 56)), (40, pt_ z5), (38, i6_ (i + 1))]) [(z16, .cells #[pt_ z5] 136 (0, 0)), nf_P_w_B2 sb b o n c v, nf_P_w_B24 z5 v sb, nf_P_w_B1 fb dat abi abiv big tyN machN entryN pg i phnumN, (pg, .cells cur' 136 (0, 0)), (pd, .cells (X.map Bv).toArray 5 (0, 0))] (by kernel_rfl) ?_
  clear HF HM; intro a w HF HM
  refine wpList_nil ?_
  repeat (first | refine then_norm ?_ | refine inb_norm ?_)
  replace HF := HF.sub ((nf_P_w_S0 b o n c s fb big phoffN phnumN shoffN shnumN pd) ++ [(38, i6_ (i + 1))]) (by kernel_rfl)
  exact K a w z5 sb cur' hcs' htk HF (HM.sub (List.Sublist.cons _ (List.Sublist.refl _)))

end Go.Proofs.YtdgehpocmfjbiaaDoor
namespace Go.Proofs.YtdgehpocmfjbiaaDoor
open Go.RowKit

theorem other_block {w : World} {p g : Nat} {cs cs' : Array Value} {t t' : TypeId} {f f' : Nat × Nat} (h : w.heap[p]? = some (.cells cs t f)) (h' : w.heap[g]? = some (.cells cs' t' f')) (hne : t ≠ t') : p ≠ g := fun e => by
  subst e
  rw [h] at h'
  injection h' with h'
  injection h' with _ h2 _
  exact hne h2
theorem Mm.after {G G' : List Nat} {w0 w w' : World} {L L' : List (Nat × Obj)} (h : Mm G w0 w L) (hk : Keep G' w w') (hg : ∀ k ∈ G', w0.heap.size ≤ k ∨ k ∈ G) (hL : L'.map (·.1) = L.map (·.1)) (ht : ∀ p ∈ L', w'.heap[p.1]? = some p.2) : Mm G w0 w' L' :=
  ⟨h.1.step hk hg, fun p hp => ⟨ht p hp, by
    have : p.1 ∈ L.map (·.1) := hL ▸ List.mem_map_of_mem hp
    obtain ⟨q, hq, e⟩ := List.mem_map.1 this
    rw [← e]; exact (h.2.1 q hq).2⟩, hL ▸ h.2.2⟩
/-- the first k program headers, in memory -/
def ProgsAt (b o n c : Nat) (z : Nat) (w : World) (sg : Nat → SegV) (k : Nat) (cur : Array Value) : Prop :=
  ∀ j, j < k → ∃ pb sb, cur[j]? = some (pt_ pb) ∧ z ≤ pb ∧ z ≤ sb ∧ w.heap[pb]? = some (.cells #[i6_ (sg j).ty, u3_ (sg j).flags, u6_ (sg j).off, u6_ (sg j).vaddr, u6_ (sg j).paddr, u6_ (sg j).fsz, u6_ (sg j).memsz, u6_ (sg j).align, .iface 144 (pt_ sb), pt_ sb] 146 (0, 0)) ∧ w.heap[sb]? = some (.cells #[.iface 178 (.slice (some ⟨b, o, none⟩) n c), i6_ (sg j).off, i6_ (sg j).off, .int .i64 ((((sg j).fsz : Nat) : Int) + (((sg j).off : Nat) : Int)), i6_ (sg j).fsz] 246 (0, 0))
theorem ProgsAt.keep {b o n c z : Nat} {w w' : World} {sg : Nat → SegV} {k : Nat} {cur : Array Value} {G : List Nat} (h : ProgsAt b o n c z w sg k cur) (hk : Keep G w w') (hG : ∀ g ∈ G, ∃ cs t f, w.heap[g]? = some (.cells cs t f) ∧ t ≠ 146 ∧ t ≠ 246) : ProgsAt b o n c z w' sg k cur := fun j hj => by
  obtain ⟨pb, sb, h1, h2, h3, h4, h5⟩ := h j hj
  refine ⟨pb, sb, h1, h2, h3, (hk.block pb (lt_of_get h4) fun hm => ?_).trans h4, (hk.block sb (lt_of_get h5) fun hm => ?_).trans h5⟩
  · obtain ⟨cs, t, f, e, n1, n2⟩ := hG pb hm
    exact other_block h4 e (Ne.symm n1) rfl
  · obtain ⟨cs, t, f, e, n1, n2⟩ := hG sb hm
    exact other_block h5 e (Ne.symm n2) rfl
theorem ProgsAt.next {b o n c z : Nat} {w : World} {sg : Nat → SegV} {k : Nat} {cur cur' : Array Value} {pb sb : Nat} (h : ProgsAt b o n c z w sg k cur) (hs : k < cur.size) (ht : cur'.toList.take (k + 1) = cur.toList.take k ++ [pt_ pb]) (h2 : z ≤ pb) (h3 : z ≤ sb)
    (h4 : w.heap[pb]? = some (.cells #[i6_ (sg k).ty, u3_ (sg k).flags, u6_ (sg k).off, u6_ (sg k).vaddr, u6_ (sg k).paddr, u6_ (sg k).fsz, u6_ (sg k).memsz, u6_ (sg k).align, .iface 144 (pt_ sb), pt_ sb] 146 (0, 0))) (h5 : w.heap[sb]? = some (.cells #[.iface 178 (.slice (some ⟨b, o, none⟩) n c), i6_ (sg k).off, i6_ (sg k).off, .int .i64 ((((sg k).fsz : Nat) : Int) + (((sg k).off : Nat) : Int)), i6_ (sg k).fsz] 246 (0, 0))) : ProgsAt b o n c z w sg (k + 1) cur' := fun j hj => by
  have hget : cur'[j]? = (cur'.toList.take (k + 1))[j]? := by rw [List.getElem?_take, if_pos hj]; simp
  rw [ht] at hget
  have hlen : (cur.toList.take k).length = k := by simp; omega
  rcases Nat.lt_or_ge j k with hlt | hge
  · obtain ⟨pb', sb', g1, g2⟩ := h j hlt
    refine ⟨pb', sb', ?_, g2⟩
    rw [hget, List.getElem?_append_left (by omega), List.getElem?_take, if_pos hlt]
    simpa using g1
  · obtain rfl : j = k := by omega
    exact ⟨pb, sb, by rw [hget, List.getElem?_append_right (by omega), hlen]; simp, h2, h3, h4, h5⟩

set_option maxRecDepth 100000 in
set_option maxHeartbeats 1000000 in
theorem nf_Qx_t (l : List UInt8) (b o n c : Nat) (hl : n = l.length) (hnc : n ≤ c) (big : Bool) (abi abiv tyN machN entryN phoffN phnumN shoffN shnumN : Nat) (dat : Int) (b1 : tyN < 65536) (b2 : machN < 65536) (b3 : entryN ≤ 18446744073709551615) (b4 : phoffN < 4611686018427387904) (b5 : shoffN < 4611686018427387904) (b6 : phnumN < 200) (b7 : shnumN < 200) (X : List UInt8) (hXl : X.length = (phnumN * 32)) (sg : Nat → SegV) (hv : ∀ i, i < phnumN → SegOk (X.drop (i * 32)) false big (sg i).ty (sg i).flags (sg i).vaddr (sg i).paddr (sg i).memsz (sg i).align (sg i).fsz (sg i).off)
    (v1 : ∀ i, i < phnumN → (sg i).ty < 4294967296) (v2 : ∀ i, i < phnumN → (sg i).off + (sg i).fsz < 4611686018427387904) (v3 : ∀ i, i < phnumN → (sg i).vaddr ≤ 18446744073709551615) (v4 : ∀ i, i < phnumN → (sg i).paddr ≤ 18446744073709551615) (v5 : ∀ i, i < phnumN → (sg i).memsz ≤ 18446744073709551615) (v6 : ∀ i, i < phnumN → (sg i).align ≤ 18446744073709551615) (w0 : World) (s fb pg pd : Nat) {KK : Act → World → Prop} {QQ : Exit → Act → World → Prop} {KR : Act → World → Prop}
    (K : ∀ a w cur, cur.size = phnumN → ProgsAt b o n c w0.heap.size w sg phnumN cur → Fr 1287 a [(0, .iface 178 (.slice (some ⟨b, o, none⟩) n c)), (4, pt_ s), (8, pt_ fb), (9, (boV big)), (10, i6_ phoffN), (11, .int .i64 32), (12, i6_ phnumN), (13, i6_ shoffN), (14, .int .i64 40), (15, i6_ shnumN), (16, i6_ (shnumN - 1)), (26, .int .i64 40), (36, sl_ pd (phnumN * 32) (phnumN * 32))] → Mm [] w0 w [(pd, .cells (X.map Bv).toArray 5 (0, 0)), (pg, .cells cur 136 (0, 0)), (fb, .cells #[.int .u8 1, .int .u8 dat, .int .u8 1, u8_ abi, u8_ abiv, (boV big), u2_ tyN, u2_ machN, u6_ entryN, .slice none 0 0, sl_ pg phnumN phnumN, .slice none 0 0, .slice none 0 0, .slice none 0 0] 131 (0, 0)), (s, .cells #[.iface 178 (.slice (some ⟨b, o, none⟩) n c), .int .i64 0, .int .i64 0, .int .i64 9223372036854775807, .int .i64 9223372036854775807] 246 (0, 0))] → KK a w) (a : Act) (w : World) (cur : Array Value) (hcs : cur.size = phnumN) (hP : ProgsAt b o n c w0.heap.size w sg phnumN cur) (HF : Fr 1287 a [(0, .iface 178 (.slice (some ⟨b, o, none⟩) n c)), (4, pt_ s), (8, pt_ fb), (9, (boV big)), (10, i6_ phoffN), (11, .int .i64 32), (12, i6_ phnumN), (13, i6_ shoffN), (14, .int .i64 40), (15, i6_ shnumN), (16, i6_ (shnumN - 1)), (26, .int .i64 40), (36, sl_ pd (phnumN * 32) (phnumN * 32)), (38, i6_ phnumN)]) (HM : Mm [] w0 w [(pd, .cells (X.map Bv).toArray 5 (0, 0)), (pg, .cells cur 136 (0, 0)), (fb, .cells #[.int .u8 1, .int .u8 dat, .int .u8 1, u8_ abi, u8_ abiv, (boV big), u2_ tyN, u2_ machN, u6_ entryN, .slice none 0 0, sl_ pg phnumN phnumN, .slice none 0 0, .slice none 0 0, .slice none 0 0] 131 (0, 0)), (s, .cells #[.iface 178 (.slice (some ⟨b, o, none⟩) n c), .int .i64 0, .int .i64 0, .int .i64 9223372036854775807, .int .i64 9223372036854775807] 246 (0, 0))]) :
    (lpOf (spine Tryd.f78 35)).wp Tryd.prog (Exit.then KR (Exit.inBlock 5 (Exit.then KK QQ))) a w := by
  refine wp_seq ?_
  refine wp_seq (wp_region_lit ?_)
  refine wp_pure HF HM rfl 3 [] [(0, .iface 178 (.slice (some ⟨b, o, none⟩) n c)), (4, pt_ s), (8, pt_ fb), (9, (boV big)), (10, i6_ phoffN), (11, .int .i64 32), (12, i6_ phnumN), (13, i6_ shoffN), (14, .int .i64 40), (15, i6_ shnumN), (16, i6_ (shnumN - 1)), (26, .int .i64 40), (36, sl_ pd (phnumN * 32) (phnumN * 32)), (38, i6_ phnumN), (593, .bool (decide (((phnumN : Nat) : Int) < ((phnumN : Nat) : Int))))] (by kernel_rfl) ?_
  clear HF; intro a HF
  rw [show decide (((phnumN : Nat) : Int) < ((phnumN : Nat) : Int)) = false from dec_f (by omega)] at HF
  refine nil_then ?_
  refine wp_condF HF rfl ?_
  replace HF := HF.sub [(0, .iface 178 (.slice (some ⟨b, o, none⟩) n c)), (4, pt_ s), (8, pt_ fb), (9, (boV big)), (10, i6_ phoffN), (11, .int .i64 32), (12, i6_ phnumN), (13, i6_ shoffN), (14, .int .i64 40), (15, i6_ shnumN), (16, i6_ (shnumN - 1)), (26, .int .i64 40), (36, sl_ pd (phnumN * 32) (phnumN * 32)), (38, i6_ phnumN)] (by kernel_rfl)
  refine wp_exit (then_exit (then_exit (inb_exit (then_norm ?_))))
  replace HF := HF.sub [(0, .iface 178 (.slice (some ⟨b, o, none⟩) n c)), (4, pt_ s), (8, pt_ fb), (9, (boV big)), (10, i6_ phoffN), (11, .int .i64 32), (12, i6_ phnumN), (13, i6_ shoffN), (14, .int .i64 40), (15, i6_ shnumN), (16, i6_ (shnumN - 1)), (26, .int .i64 40), (36, sl_ pd (phnumN * 32) (phnumN * 32))] (by kernel_rfl)
  have := HM.keep
  exact K a _ cur hcs hP HF HM
theorem nf_Qr_t (l : List UInt8) (b o n c : Nat) (hl : n = l.length) (hnc : n ≤ c) (big : Bool) (abi abiv tyN machN entryN phoffN phnumN shoffN shnumN : Nat) (dat : Int) (b1 : tyN < 65536) (b2 : machN < 65536) (b3 : entryN ≤ 18446744073709551615) (b4 : phoffN < 4611686018427387904) (b5 : shoffN < 4611686018427387904) (b6 : phnumN < 200) (b7 : shnumN < 200) (X : List UInt8) (hXl : X.length = (phnumN * 32)) (sg : Nat → SegV) (hv : ∀ i, i < phnumN → SegOk (X.drop (i * 32)) false big (sg i).ty (sg i).flags (sg i).vaddr (sg i).paddr (sg i).memsz (sg i).align (sg i).fsz (sg i).off)
    (v1 : ∀ i, i < phnumN → (sg i).ty < 4294967296) (v2 : ∀ i, i < phnumN → (sg i).off + (sg i).fsz < 4611686018427387904) (v3 : ∀ i, i < phnumN → (sg i).vaddr ≤ 18446744073709551615) (v4 : ∀ i, i < phnumN → (sg i).paddr ≤ 18446744073709551615) (v5 : ∀ i, i < phnumN → (sg i).memsz ≤ 18446744073709551615) (v6 : ∀ i, i < phnumN → (sg i).align ≤ 18446744073709551615) (w0 : World) (s fb pg pd : Nat) {KK : Act → World → Prop} {QQ : Exit → Act → World → Prop}
    (K : ∀ a w cur, cur.size = phnumN → ProgsAt b o n c w0.heap.size w sg phnumN cur → Fr 1287 a [(0, .iface 178 (.slice (some ⟨b, o, none⟩) n c)), (4, pt_ s), (8, pt_ fb), (9, (boV big)), (10, i6_ phoffN), (11, iI_ 32), (12, i6_ phnumN), (13, i6_ shoffN), (14, iI_ 40), (15, i6_ shnumN), (16, i6_ (shnumN - 1)), (26, iI_ 40), (36, sl_ pd (phnumN * 32) (phnumN * 32))] → Mm [] w0 w [(pd, .cells (X.map Bv).toArray 5 (0, 0)), (pg, .cells cur 136 (0, 0)), (fb, .cells #[iB_ 1, .int .u8 dat, iB_ 1, u8_ abi, u8_ abiv, (boV big), u2_ tyN, u2_ machN, u6_ entryN, nl_, sl_ pg phnumN phnumN, nl_, nl_, nl_] 131 (0, 0)), (s, .cells #[.iface 178 (.slice (some ⟨b, o, none⟩) n c), iI_ 0, iI_ 0, iI_ 9223372036854775807, iI_ 9223372036854775807] 246 (0, 0))] → KK a w) :
    ∀ (r i : Nat), i + r = phnumN → ∀ (a : Act) (w : World) (cur : Array Value), cur.size = phnumN → ProgsAt b o n c w0.heap.size w sg i cur → Fr 1287 a [(0, .iface 178 (.slice (some ⟨b, o, none⟩) n c)), (4, pt_ s), (8, pt_ fb), (9, (boV big)), (10, i6_ phoffN), (11, iI_ 32), (12, i6_ phnumN), (13, i6_ shoffN), (14, iI_ 40), (15, i6_ shnumN), (16, i6_ (shnumN - 1)), (26, iI_ 40), (36, sl_ pd (phnumN * 32) (phnumN * 32)), (38, i6_ i)] → Mm [] w0 w [(pd, .cells (X.map Bv).toArray 5 (0, 0)), (pg, .cells cur 136 (0, 0)), (fb, .cells #[iB_ 1, .int .u8 dat, iB_ 1, u8_ abi, u8_ abiv, (boV big), u2_ tyN, u2_ machN, u6_ entryN, nl_, sl_ pg i phnumN, nl_, nl_, nl_] 131 (0, 0)), (s, .cells #[.iface 178 (.slice (some ⟨b, o, none⟩) n c), iI_ 0, iI_ 0, iI_ 9223372036854775807, iI_ 9223372036854775807] 246 (0, 0))] →
    Code.rounds Tryd.prog (lpOf (spine Tryd.f78 35)) (Exit.inBlock 5 (Exit.then KK QQ)) (r + 1) a w
  | 0, i, hr, a, w, cur, hcs, hP, HF, HM => by
    obtain rfl : i = phnumN := by omega
    rw [rounds_succ]
    exact nf_Qx_t l b o n c hl hnc big abi abiv tyN machN entryN phoffN i shoffN shnumN dat b1 b2 b3 b4 b5 b6 b7 X hXl sg hv v1 v2 v3 v4 v5 v6 w0 s fb pg pd K a w cur hcs hP HF HM
  | r + 1, i, hr, a, w, cur, hcs, hP, HF, HM => by
    have hi : i < phnumN := by omega
    rw [rounds_succ]
    refine nf_P_t l b o n c hl hnc big abi abiv tyN machN entryN phoffN phnumN shoffN shnumN dat b1 b2 b3 b4 b5 b6 b7 X hXl i hi (sg i) (hv i hi) (v1 i hi) (v2 i hi) (v3 i hi) (v4 i hi) (v5 i hi) (v6 i hi) a w s fb pg pd cur hcs (HM.get (i := 2) rfl) (HM.get (i := 1) rfl) (HM.get (i := 0) rfl) (HM.ne (i := 2) (j := 1) rfl rfl (by decide)) (HM.ne (i := 2) (j := 0) rfl rfl (by decide)) (HM.ne (i := 1) (j := 0) rfl rfl (by decide)) HF ?_
    intro a' w' pb sb cur' hcs' htk HF' HM'
    have hk := HM'.keep
    have hn : ∀ g ∈ [fb, pg, pd], g < w.heap.size := by
      intro g hg
      simp only [List.mem_cons, List.not_mem_nil, or_false] at hg
      rcases hg with rfl | rfl | rfl
      · exact HM.lt (i := 2) rfl
      · exact HM.lt (i := 1) rfl
      · exact HM.lt (i := 0) rfl
    have hpb : w.heap.size ≤ pb := (HM'.own (i := 1) rfl).elim id fun hm => absurd (HM'.get (i := 1) rfl) (by
      intro e
      simp only [List.mem_cons, List.not_mem_nil, or_false] at hm
      rcases hm with rfl | rfl | rfl
      · exact other_block e (HM'.get (i := 2) rfl) (by decide) rfl
      · exact other_block e (HM'.get (i := 3) rfl) (by decide) rfl
      · exact other_block e (HM'.get (i := 4) rfl) (by decide) rfl)
    have hsb : w.heap.size ≤ sb := (HM'.own (i := 0) rfl).elim id fun hm => absurd (HM'.get (i := 0) rfl) (by
      intro e
      simp only [List.mem_cons, List.not_mem_nil, or_false] at hm
      rcases hm with rfl | rfl | rfl
      · exact other_block e (HM'.get (i := 2) rfl) (by decide) rfl
      · exact other_block e (HM'.get (i := 3) rfl) (by decide) rfl
      · exact other_block e (HM'.get (i := 4) rfl) (by decide) rfl)
    have hsz := HM.size
    have hP2 : ProgsAt b o n c w0.heap.size w' sg i cur := hP.keep hk (by
      intro g hg
      simp only [List.mem_cons, List.not_mem_nil, or_false] at hg
      rcases hg with rfl | rfl | rfl
      · exact ⟨_, _, _, HM.get (i := 2) rfl, by decide, by decide⟩
      · exact ⟨_, _, _, HM.get (i := 1) rfl, by decide, by decide⟩
      · exact ⟨_, _, _, HM.get (i := 0) rfl, by decide, by decide⟩)
    have hP3 := hP2.next (by omega) htk (by omega) (by omega) (HM'.get (i := 1) rfl) (HM'.get (i := 0) rfl)
    have HM2 : Mm [] w0 w' [(pd, .cells (X.map Bv).toArray 5 (0, 0)), (pg, .cells cur' 136 (0, 0)), (fb, .cells #[iB_ 1, .int .u8 dat, iB_ 1, u8_ abi, u8_ abiv, (boV big), u2_ tyN, u2_ machN, u6_ entryN, nl_, sl_ pg (i + 1) phnumN, nl_, nl_, nl_] 131 (0, 0)), (s, .cells #[.iface 178 (.slice (some ⟨b, o, none⟩) n c), iI_ 0, iI_ 0, iI_ 9223372036854775807, iI_ 9223372036854775807] 246 (0, 0))] := HM.after hk (by
      intro g hg
      simp only [List.mem_cons, List.not_mem_nil, or_false] at hg
      rcases hg with rfl | rfl | rfl
      · exact HM.own (i := 2) rfl
      · exact HM.own (i := 1) rfl
      · exact HM.own (i := 0) rfl) rfl (by
      intro p hp
      simp only [List.mem_cons, List.not_mem_nil, or_false] at hp
      rcases hp with rfl | rfl | rfl | rfl
      · exact HM'.get (i := 4) rfl
      · exact HM'.get (i := 3) rfl
      · exact HM'.get (i := 2) rfl
      · refine (hk.block s (HM.lt (i := 3) rfl) ?_).trans (HM.get (i := 3) rfl)
        simp only [List.mem_cons, List.not_mem_nil, or_false, not_or]
        exact ⟨HM.ne (i := 3) (j := 2) rfl rfl (by decide), HM.ne (i := 3) (j := 1) rfl rfl (by decide), HM.ne (i := 3) (j := 0) rfl rfl (by decide)⟩)
    exact nf_Qr_t l b o n c hl hnc big abi abiv tyN machN entryN phoffN phnumN shoffN shnumN dat b1 b2 b3 b4 b5 b6 b7 X hXl sg hv v1 v2 v3 v4 v5 v6 w0 s fb pg pd K r (i + 1) (by omega) a' w' cur' hcs' hP3 HF' HM2

set_option maxRecDepth 100000 in
set_option maxHeartbeats 1000000 in
theorem nf_Q_t (l : List UInt8) (b o n c : Nat) (hl : n = l.length) (hnc : n ≤ c) (big : Bool) (abi abiv tyN machN entryN phoffN phnumN shoffN shnumN : Nat) (dat : Int) (b1 : tyN < 65536) (b2 : machN < 65536) (b3 : entryN ≤ 18446744073709551615) (b4 : phoffN < 4611686018427387904) (b5 : shoffN < 4611686018427387904) (b6 : phnumN < 200) (b7 : shnumN < 200) (X : List UInt8) (hXl : X.length = (phnumN * 32)) (sg : Nat → SegV) (hv : ∀ i, i < phnumN → SegOk (X.drop (i * 32)) false big (sg i).ty (sg i).flags (sg i).vaddr (sg i).paddr (sg i).memsz (sg i).align (sg i).fsz (sg i).off)
    (v1 : ∀ i, i < phnumN → (sg i).ty < 4294967296) (v2 : ∀ i, i < phnumN → (sg i).off + (sg i).fsz < 4611686018427387904) (v3 : ∀ i, i < phnumN → (sg i).vaddr ≤ 18446744073709551615) (v4 : ∀ i, i < phnumN → (sg i).paddr ≤ 18446744073709551615) (v5 : ∀ i, i < phnumN → (sg i).memsz ≤ 18446744073709551615) (v6 : ∀ i, i < phnumN → (sg i).align ≤ 18446744073709551615) (w0 : World) (s fb pg pd : Nat) {Q : Exit → Act → World → Prop} (a : Act) (w : World) (cur : Array Value) (hcs : cur.size = phnumN) (HF : Fr 1287 a [(0, .iface 178 (.slice (some ⟨b, o, none⟩) n c)), (4, pt_ s), (8, pt_ fb), (9, (boV big)), (10, i6_ phoffN), (11, .int .i64 32), (12, i6_ phnumN), (13, i6_ shoffN), (14, .int .i64 40), (15, i6_ shnumN), (16, i6_ (shnumN - 1)), (26, .int .i64 40), (36, sl_ pd (phnumN * 32) (phnumN * 32))]) (HM : Mm [] w0 w [(pd, .cells (X.map Bv).toArray 5 (0, 0)), (pg, .cells cur 136 (0, 0)), (fb, .cells #[.int .u8 1, .int .u8 dat, .int .u8 1, u8_ abi, u8_ abiv, (boV big), u2_ tyN, u2_ machN, u6_ entryN, .slice none 0 0, sl_ pg 0 phnumN, .slice none 0 0, .slice none 0 0, .slice none 0 0] 131 (0, 0)), (s, .cells #[.iface 178 (.slice (some ⟨b, o, none⟩) n c), .int .i64 0, .int .i64 0, .int .i64 9223372036854775807, .int .i64 9223372036854775807] 246 (0, 0))])
    (K : ∀ a w cur, cur.size = phnumN → ProgsAt b o n c w0.heap.size w sg phnumN cur → Fr 1287 a [(0, .iface 178 (.slice (some ⟨b, o, none⟩) n c)), (4, pt_ s), (8, pt_ fb), (9, (boV big)), (10, i6_ phoffN), (11, .int .i64 32), (12, i6_ phnumN), (13, i6_ shoffN), (14, .int .i64 40), (15, i6_ shnumN), (16, i6_ (shnumN - 1)), (26, .int .i64 40), (36, sl_ pd (phnumN * 32) (phnumN * 32))] → Mm [] w0 w [(pd, .cells (X.map Bv).toArray 5 (0, 0)), (pg, .cells cur 136 (0, 0)), (fb, .cells #[.int .u8 1, .int .u8 dat, .int .u8 1, u8_ abi, u8_ abiv, (boV big), u2_ tyN, u2_ machN, u6_ entryN, .slice none 0 0, sl_ pg phnumN phnumN, .slice none 0 0, .slice none 0 0, .slice none 0 0] 131 (0, 0)), (s, .cells #[.iface 178 (.slice (some ⟨b, o, none⟩) n c), .int .i64 0, .int .i64 0, .int .i64 9223372036854775807, .int .i64 9223372036854775807] 246 (0, 0))] → (spine Tryd.f78 36).wp Tryd.prog Q a w) : (spine Tryd.f78 35).wp Tryd.prog Q a w := by
  refine wp_seq ?_
  refine reg_sym HF HM rfl [] [(0, .iface 178 (.slice (some ⟨b, o, none⟩) n c)), (4, pt_ s), (8, pt_ fb), (9, (boV big)), (10, i6_ phoffN), (11, .int .i64 32), (12, i6_ phnumN), (13, i6_ shoffN), (14, .int .i64 40), (15, i6_ shnumN), (16, i6_ (shnumN - 1)), (26, .int .i64 40), (36, sl_ pd (phnumN * 32) (phnumN * 32)), (38, i6_ 0)] [(pd, .cells (X.map Bv).toArray 5 (0, 0)), (pg, .cells cur 136 (0, 0)), (fb, .cells #[.int .u8 1, .int .u8 dat, .int .u8 1, u8_ abi, u8_ abiv, (boV big), u2_ tyN, u2_ machN, u6_ entryN, .slice none 0 0, sl_ pg 0 phnumN, .slice none 0 0, .slice none 0 0, .slice none 0 0] 131 (0, 0)), (s, .cells #[.iface 178 (.slice (some ⟨b, o, none⟩) n c), .int .i64 0, .int .i64 0, .int .i64 9223372036854775807, .int .i64 9223372036854775807] 246 (0, 0))] (by kernel_rfl) ?_
  clear HF HM; intro a w HF HM
  refine wp_block (wp_loop_rounds (phnumN + 1) ?_)
  exact nf_Qr_t l b o n c hl hnc big abi abiv tyN machN entryN phoffN phnumN shoffN shnumN dat b1 b2 b3 b4 b5 b6 b7 X hXl sg hv v1 v2 v3 v4 v5 v6 w0 s fb pg pd K phnumN 0 (by omega) a w cur hcs (fun j hj => absurd hj (Nat.not_lt_zero j)) HF HM

set_option maxRecDepth 100000 in
set_option maxHeartbeats 1000000 in
theorem nf_Qx_w (l : List UInt8) (b o n c : Nat) (hl : n = l.length) (hnc : n ≤ c) (big : Bool) (abi abiv tyN machN entryN phoffN phnumN shoffN shnumN : Nat) (dat : Int) (b1 : tyN < 65536) (b2 : machN < 65536) (b3 : entryN ≤ 18446744073709551615) (b4 : phoffN < 4611686018427387904) (b5 : shoffN < 4611686018427387904) (b6 : phnumN < 200) (b7 : shnumN < 200) (X : List UInt8) (hXl : X.length = (phnumN * 56)) (sg : Nat → SegV) (hv : ∀ i, i < phnumN → SegOk (X.drop (i * 56)) true big (sg i).ty (sg i).flags (sg i).vaddr (sg i).paddr (sg i).memsz (sg i).align (sg i).fsz (sg i).off)
    (v1 : ∀ i, i < phnumN → (sg i).ty < 4294967296) (v2 : ∀ i, i < phnumN → (sg i).off + (sg i).fsz < 4611686018427387904) (v3 : ∀ i, i < phnumN → (sg i).vaddr ≤ 18446744073709551615) (v4 : ∀ i, i < phnumN → (sg i).paddr ≤ 18446744073709551615) (v5 : ∀ i, i < phnumN → (sg i).memsz ≤ 18446744073709551615) (v6 : ∀ i, i < phnumN → (sg i).align ≤ 18446744073709551615) (w0 : World) (s fb pg pd : Nat) {KK : Act → World → Prop} {QQ : Exit → Act → World → Prop} {KR : Act → World → Prop}
    (K : ∀ a w cur, cur.size = phnumN → ProgsAt b o n c w0.heap.size w sg phnumN cur → Fr 1287 a [(0, .iface 178 (.slice (some ⟨b, o, none⟩) n c)), (4, pt_ s), (8, pt_ fb), (9, (boV big)), (10, i6_ phoffN), (11, .int .i64 56), (12, i6_ phnumN), (13, i6_ shoffN), (14, .int .i64 64), (15, i6_ shnumN), (16, i6_ (shnumN - 1)), (26, .int .i64 64), (36, sl_ pd (phnumN * 56) (phnumN * 56))] → Mm [] w0 w [(pd, .cells (X.map Bv).toArray 5 (0, 0)), (pg, .cells cur 136 (0, 0)), (fb, .cells #[.int .u8 2, .int .u8 dat, .int .u8 1, u8_ abi, u8_ abiv, (boV big), u2_ tyN, u2_ machN, u6_ entryN, .slice none 0 0, sl_ pg phnumN phnumN, .slice none 0 0, .slice none 0 0, .slice none 0 0] 131 (0, 0)), (s, .cells #[.iface 178 (.slice (some ⟨b, o, none⟩) n c), .int .i64 0, .int .i64 0, .int .i64 9223372036854775807, .int .i64 9223372036854775807] 246 (0, 0))] → KK a w) (a : Act) (w : World) (cur : Array Value) (hcs : cur.size = phnumN) (hP : ProgsAt b o n c w0.heap.size w sg phnumN cur) (HF : Fr 1287 a [(0, .iface 178 (.slice (some ⟨b, o, none⟩) n c)), (4, pt_ s), (8, pt_ fb), (9, (boV big)), (10, i6_ phoffN), (11, .int .i64 56), (12, i6_ phnumN), (13, i6_ shoffN), (14, .int .i64 64), (15, i6_ shnumN), (16, i6_ (shnumN - 1)), (26, .int .i64 64), (36, sl_ pd (phnumN * 56) (phnumN * 56)), (38, i6_ phnumN)]) (HM : Mm [] w0 w [(pd, .cells (X.map Bv).toArray 5 (0, 0)), (pg, .cells cur 136 (0, 0)), (fb, .cells #[.int .u8 2, .int .u8 dat, .int .u8 1, u8_ abi, u8_ abiv, (boV big), u2_ tyN, u2_ machN, u6_ entryN, .slice none 0 0, sl_ pg phnumN phnumN, .slice none 0 0, .slice none 0 0, .slice none 0 0] 131 (0, 0)), (s, .cells #[.iface 178 (.slice (some ⟨b, o, none⟩) n c), .int .i64 0, .int .i64 0, .int .i64 9223372036854775807, .int .i64 9223372036854775807] 246 (0, 0))]) :
    (lpOf (spine Tryd.f78 35)).wp Tryd.prog (Exit.then KR (Exit.inBlock 5 (Exit.then KK QQ))) a w := by
  refine wp_seq ?_
  refine wp_seq (wp_region_lit ?_)
  refine wp_pure HF HM rfl 3 [] [(0, .iface 178 (.slice (some ⟨b, o, none⟩) n c)), (4, pt_ s), (8, pt_ fb), (9, (boV big)), (10, i6_ phoffN), (11, .int .i64 56), (12, i6_ phnumN), (13, i6_ shoffN), (14, .int .i64 64), (15, i6_ shnumN), (16, i6_ (shnumN - 1)), (26, .int .i64 64), (36, sl_ pd (phnumN * 56) (phnumN * 56)), (38, i6_ phnumN), (593, .bool (decide (((phnumN : Nat) : Int) < ((phnumN : Nat) : Int))))] (by kernel_rfl) ?_
  clear HF; intro a HF
  rw [show decide (((phnumN : Nat) : Int) < ((phnumN : Nat) : Int)) = false from dec_f (by omega)] at HF
  refine nil_then ?_
  refine wp_condF HF rfl ?_
  replace HF := HF.sub [(0, .iface 178 (.slice (some ⟨b, o, none⟩) n c)), (4, pt_ s), (8, pt_ fb), (9, (boV big)), (10, i6_ phoffN), (11, .int .i64 56), (12, i6_ phnumN), (13, i6_ shoffN), (14, .int .i64 64), (15, i6_ shnumN), (16, i6_ (shnumN - 1)), (26, .int .i64 64), (36, sl_ pd (phnumN * 56) (phnumN * 56)), (38, i6_ phnumN)] (by kernel_rfl)
  refine wp_exit (then_exit (then_exit (inb_exit (then_norm ?_))))
  replace HF := HF.sub [(0, .iface 178 (.slice (some ⟨b, o, none⟩) n c)), (4, pt_ s), (8, pt_ fb), (9, (boV big)), (10, i6_ phoffN), (11, .int .i64 56), (12, i6_ phnumN), (13, i6_ shoffN), (14, .int .i64 64), (15, i6_ shnumN), (16, i6_ (shnumN - 1)), (26, .int .i64 64), (36, sl_ pd (phnumN * 56) (phnumN * 56))] (by kernel_rfl)
  have := HM.keep
  exact K a _ cur hcs hP HF HM
theorem nf_Qr_w (l : List UInt8) (b o n c : Nat) (hl : n = l.length) (hnc : n ≤ c) (big : Bool) (abi abiv tyN machN entryN phoffN phnumN shoffN shnumN : Nat) (dat : Int) (b1 : tyN < 65536) (b2 : machN < 65536) (b3 : entryN ≤ 18446744073709551615) (b4 : phoffN < 4611686018427387904) (b5 : shoffN < 4611686018427387904) (b6 : phnumN < 200) (b7 : shnumN < 200) (X : List UInt8) (hXl : X.length = (phnumN * 56)) (sg : Nat → SegV) (hv : ∀ i, i < phnumN → SegOk (X.drop (i * 56)) true big (sg i).ty (sg i).flags (sg i).vaddr (sg i).paddr (sg i).memsz (sg i).align (sg i).fsz (sg i).off)
    (v1 : ∀ i, i < phnumN → (sg i).ty < 4294967296) (v2 : ∀ i, i < phnumN → (sg i).off + (sg i).fsz < 4611686018427387904) (v3 : ∀ i, i < phnumN → (sg i).vaddr ≤ 18446744073709551615) (v4 : ∀ i, i < phnumN → (sg i).paddr ≤ 18446744073709551615) (v5 : ∀ i, i < phnumN → (sg i).memsz ≤ 18446744073709551615) (v6 : ∀ i, i < phnumN → (sg i).align ≤ 18446744073709551615) (w0 : World) (s fb pg pd : Nat) {KK : Act → World → Prop} {QQ : Exit → Act → World → Prop}
    (K : ∀ a w cur, cur.size = phnumN → ProgsAt b o n c w0.heap.size w sg phnumN cur → Fr 1287 a [(0, .iface 178 (.slice (some ⟨b, o, none⟩) n c)), (4, pt_ s), (8, pt_ fb), (9, (boV big)), (10, i6_ phoffN), (11, iI_ 56), (12, i6_ phnumN), (13, i6_ shoffN), (14, iI_ 64), (15, i6_ shnumN), (16, i6_ (shnumN - 1)), (26, iI_ 64), (36, sl_ pd (phnumN * 56) (phnumN * 56))] → Mm [] w0 w [(pd, .cells (X.map Bv).toArray 5 (0, 0)), (pg, .cells cur 136 (0, 0)), (fb, .cells #[iB_ 2, .int .u8 dat, iB_ 1, u8_ abi, u8_ abiv, (boV big), u2_ tyN, u2_ machN, u6_ entryN, nl_, sl_ pg phnumN phnumN, nl_, nl_, nl_] 131 (0, 0)), (s, .cells #[.iface 178 (.slice (some ⟨b, o, none⟩) n c), iI_ 0, iI_ 0, iI_ 9223372036854775807, iI_ 9223372036854775807] 246 (0, 0))] → KK a w) :
    ∀ (r i : Nat), i + r = phnumN → ∀ (a : Act) (w : World) (cur : Array Value), cur.size = phnumN → ProgsAt b o n c w0.heap.size w sg i cur → Fr 1287 a [(0, .iface 178 (.slice (some ⟨b, o, none⟩) n c)), (4, pt_ s), (8, pt_ fb), (9, (boV big)), (10, i6_ phoffN), (11, iI_ 56), (12, i6_ phnumN), (13, i6_ shoffN), (14, iI_ 64), (15, i6_ shnumN), (16, i6_ (shnumN - 1)), (26, iI_ 64), (36, sl_ pd (phnumN * 56) (phnumN * 56)), (38, i6_ i)] → Mm [] w0 w [(pd, .cells (X.map Bv).toArray 5 (0, 0)), (pg, .cells cur 136 (0, 0)), (fb, .cells #[iB_ 2, .int .u8 dat, iB_ 1, u8_ abi, u8_ abiv, (boV big), u2_ tyN, u2_ machN, u6_ entryN, nl_, sl_ pg i phnumN, nl_, nl_, nl_] 131 (0, 0)), (s, .cells #[.iface 178 (.slice (some ⟨b, o, none⟩) n c), iI_ 0, iI_ 0, iI_ 9223372036854775807, iI_ 9223372036854775807] 246 (0, 0))] →
    Code.rounds Tryd.prog (lpOf (spine Tryd.f78 35)) (Exit.inBlock 5 (Exit.then KK QQ)) (r + 1) a w
  | 0, i, hr, a, w, cur, hcs, hP, HF, HM => by
    obtain rfl : i = phnumN := by omega
    rw [rounds_succ]
    exact nf_Qx_w l b o n c hl hnc big abi abiv tyN machN entryN phoffN i shoffN shnumN dat b1 b2 b3 b4 b5 b6 b7 X hXl sg hv v1 v2 v3 v4 v5 v6 w0 s fb pg pd K a w cur hcs hP HF HM
  | r + 1, i, hr, a, w, cur, hcs, hP, HF, HM => by
    have hi : i < phnumN := by omega
    rw [rounds_succ]
    refine nf_P_w l b o n c hl hnc big abi abiv tyN machN entryN phoffN phnumN shoffN shnumN dat b1 b2 b3 b4 b5 b6 b7 X hXl i hi (sg i) (hv i hi) (v1 i hi) (v2 i hi) (v3 i hi) (v4 i hi) (v5 i hi) (v6 i hi) a w s fb pg pd cur hcs (HM.get (i := 2) rfl) (HM.get (i := 1) rfl) (HM.get (i := 0) rfl) (HM.ne (i := 2) (j := 1) rfl rfl (by decide)) (HM.ne (i := 2) (j := 0) rfl rfl (by decide)) (HM.ne (i := 1) (j := 0) rfl rfl (by decide)) HF ?_
    intro a' w' pb sb cur' hcs' htk HF' HM'
    have hk := HM'.keep
    have hn : ∀ g ∈ [fb, pg, pd], g < w.heap.size := by
      intro g hg
      simp only [List.mem_cons, List.not_mem_nil, or_false] at hg
      rcases hg with rfl | rfl | rfl
      · exact HM.lt (i := 2) rfl
      · exact HM.lt (i := 1) rfl
      · exact HM.lt (i := 0) rfl
    have hpb : w.heap.size ≤ pb := (HM'.own (i := 1) rfl).elim id fun hm => absurd (HM'.get (i := 1) rfl) (by
      intro e
      simp only [List.mem_cons, List.not_mem_nil, or_false] at hm
      rcases hm with rfl | rfl | rfl
      · exact other_block e (HM'.get (i := 2) rfl) (by decide) rfl
      · exact other_block e (HM'.get (i := 3) rfl) (by decide) rfl
      · exact other_block e (HM'.get (i := 4) rfl) (by decide) rfl)
    have hsb : w.heap.size ≤ sb := (HM'.own (i := 0) rfl).elim id fun hm => absurd (HM'.get (i := 0) rfl) (by
      intro e
      simp only [List.mem_cons, List.not_mem_nil, or_false] at hm
      rcases hm with rfl | rfl | rfl
      · exact other_block e (HM'.get (i := 2) rfl) (by decide) rfl
      · exact other_block e (HM'.get (i := 3) rfl) (by decide) rfl
      · exact other_block e (HM'.get (i := 4) rfl) (by decide) rfl)
    have hsz := HM.size
    have hP2 : ProgsAt b o n c w0.heap.size w' sg i cur := hP.keep hk (by
      intro g hg
      simp only [List.mem_cons, List.not_mem_nil, or_false] at hg
      rcases hg with rfl | rfl | rfl
      · exact ⟨_, _, _, HM.get (i := 2) rfl, by decide, by decide⟩
      · exact ⟨_, _, _, HM.get (i := 1) rfl, by decide, by decide⟩
      · exact ⟨_, _, _, HM.get (i := 0) rfl, by decide, by decide⟩)
    have hP3 := hP2.next (by omega) htk (by omega) (by omega) (HM'.get (i := 1) rfl) (HM'.get (i := 0) rfl)
    have HM2 : Mm [] w0 w' [(pd, .cells (X.map Bv).toArray 5 (0, 0)), (pg, .cells cur' 136 (0, 0)), (fb, .cells #[iB_ 2, .int .u8 dat, iB_ 1, u8_ abi, u8_ abiv, (boV big), u2_ tyN, u2_ machN, u6_ entryN, nl_, sl_ pg (i + 1) phnumN, nl_, nl_, nl_] 131 (0, 0)), (s, .cells #[.iface 178 (.slice (some ⟨b, o, none⟩) n c), iI_ 0, iI_ 0, iI_ 9223372036854775807, iI_ 9223372036854775807] 246 (0, 0))] := HM.after hk (by
      intro g hg
      simp only [List.mem_cons, List.not_mem_nil, or_false] at hg
      rcases hg with rfl | rfl | rfl
      · exact HM.own (i := 2) rfl
      · exact HM.own (i := 1) rfl
      · exact HM.own (i := 0) rfl) rfl (by
      intro p hp
      simp only [List.mem_cons, List.not_mem_nil, or_false] at hp
      rcases hp with rfl | rfl | rfl | rfl
      · exact HM'.get (i := 4) rfl
      · exact HM'.get (i := 3) rfl
      · exact HM'.get (i := 2) rfl
      · refine (hk.block s (HM.lt (i := 3) rfl) ?_).trans (HM.get (i := 3) rfl)
        simp only [List.mem_cons, List.not_mem_nil, or_false, not_or]
        exact ⟨HM.ne (i := 3) (j := 2) rfl rfl (by decide), HM.ne (i := 3) (j := 1) rfl rfl (by decide), HM.ne (i := 3) (j := 0) rfl rfl (by decide)⟩)
    exact nf_Qr_w l b o n c hl hnc big abi abiv tyN machN entryN phoffN phnumN shoffN shnumN dat b1 b2 b3 b4 b5 b6 b7 X hXl sg hv v1 v2 v3 v4 v5 v6 w0 s fb pg pd K r (i + 1) (by omega) a' w' cur' hcs' hP3 HF' HM2

set_option maxRecDepth 100000 in
set_option maxHeartbeats 1000000 in
theorem nf_Q_w (l : List UInt8) (b o n c : Nat) (hl : n = l.length) (hnc : n ≤ c) (big : Bool) (abi abiv tyN machN entryN phoffN phnumN shoffN shnumN : Nat) (dat : Int) (b1 : tyN < 65536) (b2 : machN < 65536) (b3 : entryN ≤ 18446744073709551615) (b4 : phoffN < 4611686018427387904) (b5 : shoffN < 4611686018427387904) (b6 : phnumN < 200) (b7 : shnumN < 200) (X : List UInt8) (hXl : X.length = (phnumN * 56)) (sg : Nat → SegV) (hv : ∀ i, i < phnumN → SegOk (X.drop (i * 56)) true big (sg i).ty (sg i).flags (sg i).vaddr (sg i).paddr (sg i).memsz (sg i).align (sg i).fsz (sg i).off)
    (v1 : ∀ i, i < phnumN → (sg i).ty < 4294967296) (v2 : ∀ i, i < phnumN → (sg i).off + (sg i).fsz < 4611686018427387904) (v3 : ∀ i, i < phnumN → (sg i).vaddr ≤ 18446744073709551615) (v4 : ∀ i, i < phnumN → (sg i).paddr ≤ 18446744073709551615) (v5 : ∀ i, i < phnumN → (sg i).memsz ≤ 18446744073709551615) (v6 : ∀ i, i < phnumN → (sg i).align ≤ 18446744073709551615) (w0 : World) (s fb pg pd : Nat) {Q : Exit → Act → World → Prop} (a : Act) (w : World) (cur : Array Value) (hcs : cur.size = phnumN) (HF : Fr 1287 a [(0, .iface 178 (.slice (some ⟨b, o, none⟩) n c)), (4, pt_ s), (8, pt_ fb), (9, (boV big)), (10, i6_ phoffN), (11, .int .i64 56), (12, i6_ phnumN), (13, i6_ shoffN), (14, .int .i64 64), (15, i6_ shnumN), (16, i6_ (shnumN - 1)), (26, .int .i64 64), (36, sl_ pd (phnumN * 56) (phnumN * 56))]) (HM : Mm [] w0 w [(pd, .cells (X.map Bv).toArray 5 (0, 0)), (pg, .cells cur 136 (0, 0)), (fb, .cells #[.int .u8 2, .int .u8 dat, .int .u8 1, u8_ abi, u8_ abiv, (boV big), u2_ tyN, u2_ machN, u6_ entryN, .slice none 0 0, sl_ pg 0 phnumN, .slice none 0 0, .slice none 0 0, .slice none 0 0] 131 (0, 0)), (s, .cells #[.iface 178 (.slice (some ⟨b, o, none⟩) n c), .int .i64 0, .int .i64 0, .int .i64 9223372036854775807, .int .i64 9223372036854775807] 246 (0, 0))])
    (K : ∀ a w cur, cur.size = phnumN → ProgsAt b o n c w0.heap.size w sg phnumN cur → Fr 1287 a [(0, .iface 178 (.slice (some ⟨b, o, none⟩) n c)), (4, pt_ s), (8, pt_ fb), (9, (boV big)), (10, i6_ phoffN), (11, .int .i64 56), (12, i6_ phnumN), (13, i6_ shoffN), (14, .int .i64 64), (15, i6_ shnumN), (16, i6_ (shnumN - 1)), (26, .int .i64 64), (36, sl_ pd (phnumN * 56) (phnumN * 56))] → Mm [] w0 w [(pd, .cells (X.map Bv).toArray 5 (0, 0)), (pg, .cells cur 136 (0, 0)), (fb, .cells #[.int .u8 2, .int .u8 dat, .int .u8 1, u8_ abi, u8_ abiv, (boV big), u2_ tyN, u2_ machN, u6_ entryN, .slice none 0 0, sl_ pg phnumN phnumN, .slice none 0 0, .slice none 0 0, .slice none 0 0] 131 (0, 0)), (s, .cells #[.iface 178 (.slice (some ⟨b, o, none⟩) n c), .int .i64 0, .int .i64 0, .int .i64 9223372036854775807, .int .i64 9223372036854775807] 246 (0, 0))] → (spine Tryd.f78 36).wp Tryd.prog Q a w) : (spine Tryd.f78 35).wp Tryd.prog Q a w := by
  refine wp_seq ?_
  refine reg_sym HF HM rfl [] [(0, .iface 178 (.slice (some ⟨b, o, none⟩) n c)), (4, pt_ s), (8, pt_ fb), (9, (boV big)), (10, i6_ phoffN), (11, .int .i64 56), (12, i6_ phnumN), (13, i6_ shoffN), (14, .int .i64 64), (15, i6_ shnumN), (16, i6_ (shnumN - 1)), (26, .int .i64 64), (36, sl_ pd (phnumN * 56) (phnumN * 56)), (38, i6_ 0)] [(pd, .cells (X.map Bv).toArray 5 (0, 0)), (pg, .cells cur 136 (0, 0)), (fb, .cells #[.int .u8 2, .int .u8 dat, .int .u8 1, u8_ abi, u8_ abiv, (boV big), u2_ tyN, u2_ machN, u6_ entryN, .slice none 0 0, sl_ pg 0 phnumN, .slice none 0 0, .slice none 0 0, .slice none 0 0] 131 (0, 0)), (s, .cells #[.iface 178 (.slice (some ⟨b, o, none⟩) n c), .int .i64 0, .int .i64 0, .int .i64 9223372036854775807, .int .i64 9223372036854775807] 246 (0, 0))] (by kernel_rfl) ?_
  clear HF HM; intro a w HF HM
  refine wp_block (wp_loop_rounds (phnumN + 1) ?_)
  exact nf_Qr_w l b o n c hl hnc big abi abiv tyN machN entryN phoffN phnumN shoffN shnumN dat b1 b2 b3 b4 b5 b6 b7 X hXl sg hv v1 v2 v3 v4 v5 v6 w0 s fb pg pd K phnumN 0 (by omega) a w cur hcs (fun j hj => absurd hj (Nat.not_lt_zero j)) HF HM

end Go.Proofs.YtdgehpocmfjbiaaDoor
namespace Go.Proofs.YtdgehpocmfjbiaaDoor
open Go.RowKit

theorem info_u32 : (Tryd.prog.info? 36).map (fun i => (i.zero, i.size, i.bytes)) = some (some (.int .u32 0), 1, 4) := by kernel_rfl

abbrev nf_E_t_S0 := fun (b : Nat) (o : Nat) (n : Nat) (c : Nat) (s : Nat) (fb : Nat) (big : Bool) (phoffN : Nat) (phnumN : Nat) (shoffN : Nat) (shnumN : Nat) => ([(0, .iface 178 (.slice (some ⟨b, o, none⟩) n c)), (4, pt_ s), (8, pt_ fb), (9, (boV big)), (10, i6_ phoffN), (11, iI_ 32), (12, i6_ phnumN), (13, i6_ shoffN), (14, iI_ 40), (15, i6_ shnumN), (16, i6_ (shnumN - 1)), (26, iI_ 40)] : Slots)
set_option maxRecDepth 100000 in
set_option maxHeartbeats 1000000 in
theorem nf_E_t (l : List UInt8) (b o n c : Nat) (hl : n = l.length) (hnc : n ≤ c) (big : Bool) (abi abiv tyN machN entryN phoffN phnumN shoffN shnumN : Nat) (dat : Int) (b1 : tyN < 65536) (b2 : machN < 65536) (b3 : entryN ≤ 18446744073709551615) (b4 : phoffN < 4611686018427387904) (b5 : shoffN < 4611686018427387904) (b6 : phnumN < 200) (b7 : shnumN < 200) (c1 : 0 < shoffN) (c2 : 0 < shnumN) (c4 : shoffN < n) (c5 : shoffN + (shnumN * 40) ≤ n) {Q : Exit → Act → World → Prop} (w0 : World) (hbl : b < w0.heap.size) (hr : Row w0 (some ⟨b, o, none⟩) (l.map Bv)) (G : List Nat) (hbG : b ∉ G) (a : Act) (w : World) (s fb pg : Nat) (hbs : b ≠ s) (HF : Fr 1287 a (nf_E_t_S0 b o n c s fb big phoffN phnumN shoffN shnumN)) (HM : Mm G w0 w [(fb, .cells #[iB_ 1, .int .u8 dat, iB_ 1, u8_ abi, u8_ abiv, (boV big), u2_ tyN, u2_ machN, u6_ entryN, nl_, sl_ pg phnumN phnumN, nl_, nl_, nl_] 131 (0, 0)), (s, .cells #[.iface 178 (.slice (some ⟨b, o, none⟩) n c), iI_ 0, iI_ 0, iI_ 9223372036854775807, iI_ 9223372036854775807] 246 (0, 0))])
    (K : ∀ a w sg_ sg_C nm_ nm_C sd, sg_C.size = shnumN → nm_C.size = shnumN → Fr 1287 a ((nf_E_t_S0 b o n c s fb big phoffN phnumN shoffN shnumN) ++ [(41, sl_ nm_ 0 shnumN), (42, sl_ sd (shnumN * 40) (shnumN * 40))]) → Mm G w0 w [(sd, .cells (((l.drop shoffN).take (shnumN * 40)).map Bv).toArray 5 (0, 0)), (nm_, .cells nm_C 36 (0, 0)), (sg_, .cells sg_C 133 (0, 0)), (fb, .cells #[iB_ 1, .int .u8 dat, iB_ 1, u8_ abi, u8_ abiv, (boV big), u2_ tyN, u2_ machN, u6_ entryN, sl_ sg_ 0 shnumN, sl_ pg phnumN phnumN, nl_, nl_, nl_] 131 (0, 0)), (s, .cells #[.iface 178 (.slice (some ⟨b, o, none⟩) n c), iI_ 0, iI_ 0, iI_ 9223372036854775807, iI_ 9223372036854775807] 246 (0, 0))] → (spine Tryd.f78 44).wp Tryd.prog Q a w) : (spine Tryd.f78 36).wp Tryd.prog Q a w := by
  refine wp_seq ?_
  refine wp_seq (wp_region_lit ?_)
  refine wp_sym HF HM rfl 2 [] ((nf_E_t_S0 b o n c s fb big phoffN phnumN shoffN shnumN) ++ [(799, .bool (decide (0 < ((shnumN : Nat) : Int))))]) [(fb, .cells #[iB_ 1, .int .u8 dat, iB_ 1, u8_ abi, u8_ abiv, (boV big), u2_ tyN, u2_ machN, u6_ entryN, nl_, sl_ pg phnumN phnumN, nl_, nl_, nl_] 131 (0, 0)), (s, .cells #[.iface 178 (.slice (some ⟨b, o, none⟩) n c), iI_ 0, iI_ 0, iI_ 9223372036854775807, iI_ 9223372036854775807] 246 (0, 0))] (by kernel_rfl) ?_
  clear HF HM; intro a w HF HM
  rw [show decide (0 < ((shnumN : Nat) : Int)) = true from dec_t (by omega)] at HF
  refine wp_sym HF HM rfl 5 [] ((nf_E_t_S0 b o n c s fb big phoffN phnumN shoffN shnumN) ++ [(804, .bool false)]) [(fb, .cells #[iB_ 1, .int .u8 dat, iB_ 1, u8_ abi, u8_ abiv, (boV big), u2_ tyN, u2_ machN, u6_ entryN, nl_, sl_ pg phnumN phnumN, nl_, nl_, nl_] 131 (0, 0)), (s, .cells #[.iface 178 (.slice (some ⟨b, o, none⟩) n c), iI_ 0, iI_ 0, iI_ 9223372036854775807, iI_ 9223372036854775807] 246 (0, 0))] (by kernel_rfl) ?_
  clear HF HM; intro a w HF HM
  refine nil_then ?_
  refine wp_condF HF rfl ?_
  refine wp_skip ?_
  repeat (first | refine then_norm ?_ | refine inb_norm ?_)
  replace HF := HF.sub (nf_E_t_S0 b o n c s fb big phoffN phnumN shoffN shnumN) (by kernel_rfl)
  refine wp_seq (wp_region_lit ?_)
  refine wp_sym HF HM rfl 2 [] ((nf_E_t_S0 b o n c s fb big phoffN phnumN shoffN shnumN) ++ [(811, iL_ (IntKind.u64.wrap ((shnumN : Nat) : Int)))]) [(fb, .cells #[iB_ 1, .int .u8 dat, iB_ 1, u8_ abi, u8_ abiv, (boV big), u2_ tyN, u2_ machN, u6_ entryN, nl_, sl_ pg phnumN phnumN, nl_, nl_, nl_] 131 (0, 0)), (s, .cells #[.iface 178 (.slice (some ⟨b, o, none⟩) n c), iI_ 0, iI_ 0, iI_ 9223372036854775807, iI_ 9223372036854775807] 246 (0, 0))] (by kernel_rfl) ?_
  clear HF HM; intro a w HF HM
  rw [show IntKind.u64.wrap ((shnumN : Nat) : Int) = ((shnumN : Nat) : Int) from IntWalk.u64_in _ (by omega)] at HF
  refine wp_call HF (by kernel_rfl) 98 #[iL_ 120, u6_ shnumN] (by kernel_rfl) (fun w => by kernel_rfl) (Calls.mono (sliceCap_120 shnumN (by omega) w) ?_)
  rintro _ w1 ⟨rfl, hq⟩
  replace HM : Mm G w0 w1 [(fb, .cells #[iB_ 1, .int .u8 dat, iB_ 1, u8_ abi, u8_ abiv, (boV big), u2_ tyN, u2_ machN, u6_ entryN, nl_, sl_ pg phnumN phnumN, nl_, nl_, nl_] 131 (0, 0)), (s, .cells #[.iface 178 (.slice (some ⟨b, o, none⟩) n c), iI_ 0, iI_ 0, iI_ 9223372036854775807, iI_ 9223372036854775807] 246 (0, 0))] := by first | (rw [hq]; exact HM) | (rw [← hq]; exact HM)
  clear hq
  refine ⟨_, rfl, ?_⟩; clear HF; intro a HF; replace HF := HF.sub ((nf_E_t_S0 b o n c s fb big phoffN phnumN shoffN shnumN) ++ [(811, u6_ shnumN), (812, i6_ shnumN)]) (by kernel_rfl)
  refine wp_sym HF HM rfl 1 [] ((nf_E_t_S0 b o n c s fb big phoffN phnumN shoffN shnumN) ++ [(35, i6_ shnumN)]) [(fb, .cells #[iB_ 1, .int .u8 dat, iB_ 1, u8_ abi, u8_ abiv, (boV big), u2_ tyN, u2_ machN, u6_ entryN, nl_, sl_ pg phnumN phnumN, nl_, nl_, nl_] 131 (0, 0)), (s, .cells #[.iface 178 (.slice (some ⟨b, o, none⟩) n c), iI_ 0, iI_ 0, iI_ 9223372036854775807, iI_ 9223372036854775807] 246 (0, 0))] (by kernel_rfl) ?_
  clear HF HM; intro a w HF HM
  refine nil_then ?_
  refine wp_seq ?_
  refine wp_seq (wp_region_lit ?_)
  refine wp_sym HF HM rfl 2 [] ((nf_E_t_S0 b o n c s fb big phoffN phnumN shoffN shnumN) ++ [(35, i6_ shnumN), (814, .bool (decide (((shnumN : Nat) : Int) < 0)))]) [(fb, .cells #[iB_ 1, .int .u8 dat, iB_ 1, u8_ abi, u8_ abiv, (boV big), u2_ tyN, u2_ machN, u6_ entryN, nl_, sl_ pg phnumN phnumN, nl_, nl_, nl_] 131 (0, 0)), (s, .cells #[.iface 178 (.slice (some ⟨b, o, none⟩) n c), iI_ 0, iI_ 0, iI_ 9223372036854775807, iI_ 9223372036854775807] 246 (0, 0))] (by kernel_rfl) ?_
  clear HF HM; intro a w HF HM
  rw [show decide (((shnumN : Nat) : Int) < 0) = false from dec_f (by omega)] at HF
  refine nil_then ?_
  refine wp_condF HF rfl ?_
  refine wp_skip ?_
  repeat (first | refine then_norm ?_ | refine inb_norm ?_)
  replace HF := HF.sub ((nf_E_t_S0 b o n c s fb big phoffN phnumN shoffN shnumN) ++ [(35, i6_ shnumN)]) (by kernel_rfl)
  refine wp_seq ?_
  refine wp_seq (wp_region_lit ?_)
  refine wp_sym HF HM rfl 2 [] ((nf_E_t_S0 b o n c s fb big phoffN phnumN shoffN shnumN) ++ [(35, i6_ shnumN), (821, .bool (decide (0 < ((shnumN : Nat) : Int))))]) [(fb, .cells #[iB_ 1, .int .u8 dat, iB_ 1, u8_ abi, u8_ abiv, (boV big), u2_ tyN, u2_ machN, u6_ entryN, nl_, sl_ pg phnumN phnumN, nl_, nl_, nl_] 131 (0, 0)), (s, .cells #[.iface 178 (.slice (some ⟨b, o, none⟩) n c), iI_ 0, iI_ 0, iI_ 9223372036854775807, iI_ 9223372036854775807] 246 (0, 0))] (by kernel_rfl) ?_
  clear HF HM; intro a w HF HM
  rw [show decide (0 < ((shnumN : Nat) : Int)) = true from dec_t (by omega)] at HF
  refine wp_sym HF HM rfl 3 [] ((nf_E_t_S0 b o n c s fb big phoffN phnumN shoffN shnumN) ++ [(35, i6_ shnumN), (821, .bool true), (822, .bool true), (824, iL_ (IntKind.u64.wrap ((shnumN : Nat) : Int)))]) [(fb, .cells #[iB_ 1, .int .u8 dat, iB_ 1, u8_ abi, u8_ abiv, (boV big), u2_ tyN, u2_ machN, u6_ entryN, nl_, sl_ pg phnumN phnumN, nl_, nl_, nl_] 131 (0, 0)), (s, .cells #[.iface 178 (.slice (some ⟨b, o, none⟩) n c), iI_ 0, iI_ 0, iI_ 9223372036854775807, iI_ 9223372036854775807] 246 (0, 0))] (by kernel_rfl) ?_
  clear HF HM; intro a w HF HM
  rw [show IntKind.u64.wrap ((shnumN : Nat) : Int) = ((shnumN : Nat) : Int) from IntWalk.u64_in _ (by omega)] at HF
  refine wp_run HF (by kernel_rfl) (iL_ (IntKind.u64.wrap ((18446744073709551615 : Int).tdiv ((shnumN : Nat) : Int)))) (by kernel_rfl) (run_quo rfl rfl rfl (by omega)) ?_
  clear HF; intro a HF; replace HF := HF.sub [(0, .iface 178 (.slice (some ⟨b, o, none⟩) n c)), (4, pt_ s), (8, pt_ fb), (9, (boV big)), (10, i6_ phoffN), (11, iI_ 32), (12, i6_ phnumN), (13, i6_ shoffN), (14, iI_ 40), (15, i6_ shnumN), (16, i6_ (shnumN - 1)), (26, iI_ 40), (35, i6_ shnumN), (821, .bool true), (822, .bool true), (824, u6_ shnumN), (825, iL_ (IntKind.u64.wrap ((18446744073709551615 : Int).tdiv ((shnumN : Nat) : Int))))] (by kernel_rfl)
  have hq := big_quo shnumN c2 b7
  rw [IntWalk.u64_in ((18446744073709551615 : Int).tdiv ((shnumN : Nat) : Int)) (by omega)] at HF
  refine wp_sym HF HM rfl 3 [] ((nf_E_t_S0 b o n c s fb big phoffN phnumN shoffN shnumN) ++ [(35, i6_ shnumN), (821, .bool true), (822, .bool true), (828, .bool (decide (((18446744073709551615 : Int).tdiv ((shnumN : Nat) : Int)) < 40)))]) [(fb, .cells #[iB_ 1, .int .u8 dat, iB_ 1, u8_ abi, u8_ abiv, (boV big), u2_ tyN, u2_ machN, u6_ entryN, nl_, sl_ pg phnumN phnumN, nl_, nl_, nl_] 131 (0, 0)), (s, .cells #[.iface 178 (.slice (some ⟨b, o, none⟩) n c), iI_ 0, iI_ 0, iI_ 9223372036854775807, iI_ 9223372036854775807] 246 (0, 0))] (by kernel_rfl) ?_
  clear HF HM; intro a w HF HM
  rw [show decide (((18446744073709551615 : Int).tdiv ((shnumN : Nat) : Int)) < 40) = false from dec_f (by omega)] at HF
  refine wp_sym HF HM rfl 1 [] ((nf_E_t_S0 b o n c s fb big phoffN phnumN shoffN shnumN) ++ [(35, i6_ shnumN), (829, .bool false)]) [(fb, .cells #[iB_ 1, .int .u8 dat, iB_ 1, u8_ abi, u8_ abiv, (boV big), u2_ tyN, u2_ machN, u6_ entryN, nl_, sl_ pg phnumN phnumN, nl_, nl_, nl_] 131 (0, 0)), (s, .cells #[.iface 178 (.slice (some ⟨b, o, none⟩) n c), iI_ 0, iI_ 0, iI_ 9223372036854775807, iI_ 9223372036854775807] 246 (0, 0))] (by kernel_rfl) ?_
  clear HF HM; intro a w HF HM
  refine nil_then ?_
  refine wp_condF HF rfl ?_
  refine wp_skip ?_
  repeat (first | refine then_norm ?_ | refine inb_norm ?_)
  replace HF := HF.sub ((nf_E_t_S0 b o n c s fb big phoffN phnumN shoffN shnumN) ++ [(35, i6_ shnumN)]) (by kernel_rfl)
  refine wp_seq (wp_region_lit ?_)
  refine wp_sym HF HM rfl 2 [] ((nf_E_t_S0 b o n c s fb big phoffN phnumN shoffN shnumN) ++ [(35, i6_ shnumN), (835, pt_ fb), (836, i6_ shnumN)]) [(fb, .cells #[iB_ 1, .int .u8 dat, iB_ 1, u8_ abi, u8_ abiv, (boV big), u2_ tyN, u2_ machN, u6_ entryN, nl_, sl_ pg phnumN phnumN, nl_, nl_, nl_] 131 (0, 0)), (s, .cells #[.iface 178 (.slice (some ⟨b, o, none⟩) n c), iI_ 0, iI_ 0, iI_ 9223372036854775807, iI_ 9223372036854775807] 246 (0, 0))] (by kernel_rfl) ?_
  clear HF HM; intro a w HF HM
  refine wp_make_cap HF HM rfl _ _ 126 rfl rfl 133 (.pointer none) 8 Tryd.underlying126 info_ss .i64 .i64 shnumN rfl rfl (by omega) (by unfold maxLen; omega) ?_
  intro a2 w2 sg_ sg_C hgw hsg_ HM2 HF2; clear HF HM hgw; have HM := HM2; have HF := HF2; clear HM2 HF2
  replace HF := HF.sub ((nf_E_t_S0 b o n c s fb big phoffN phnumN shoffN shnumN) ++ [(35, i6_ shnumN), (835, pt_ fb), (837, sl_ sg_ 0 shnumN)]) (by kernel_rfl)
  refine wp_sym HF HM rfl 3 [[1]] ((nf_E_t_S0 b o n c s fb big phoffN phnumN shoffN shnumN) ++ [(35, i6_ shnumN)]) [(sg_, .cells sg_C 133 (0, 0)), (fb, .cells #[iB_ 1, .int .u8 dat, iB_ 1, u8_ abi, u8_ abiv, (boV big), u2_ tyN, u2_ machN, u6_ entryN, sl_ sg_ 0 shnumN, sl_ pg phnumN phnumN, nl_, nl_, nl_] 131 (0, 0)), (s, .cells #[.iface 178 (.slice (some ⟨b, o, none⟩) n c), iI_ 0, iI_ 0, iI_ 9223372036854775807, iI_ 9223372036854775807] 246 (0, 0))] (by kernel_rfl) ?_
  clear HF HM; intro a w HF HM
  refine nil_then ?_
  refine wp_seq (wp_region_lit ?_)
  refine wp_sym HF HM rfl 1 [] ((nf_E_t_S0 b o n c s fb big phoffN phnumN shoffN shnumN) ++ [(35, i6_ shnumN), (840, i6_ shnumN)]) [(sg_, .cells sg_C 133 (0, 0)), (fb, .cells #[iB_ 1, .int .u8 dat, iB_ 1, u8_ abi, u8_ abiv, (boV big), u2_ tyN, u2_ machN, u6_ entryN, sl_ sg_ 0 shnumN, sl_ pg phnumN phnumN, nl_, nl_, nl_] 131 (0, 0)), (s, .cells #[.iface 178 (.slice (some ⟨b, o, none⟩) n c), iI_ 0, iI_ 0, iI_ 9223372036854775807, iI_ 9223372036854775807] 246 (0, 0))] (by kernel_rfl) ?_
  clear HF HM; intro a w HF HM
  refine wp_make_cap HF HM rfl _ _ 222 rfl rfl 36 (iT_ 0) 4 Tryd.underlying222 info_u32 .i64 .i64 shnumN rfl rfl (by omega) (by unfold maxLen; omega) ?_
  intro a2 w3 nm_ nm_C hgw hnm_ HM2 HF2; clear HF HM hgw; have HM := HM2; have HF := HF2; clear HM2 HF2
  replace HF := HF.sub ((nf_E_t_S0 b o n c s fb big phoffN phnumN shoffN shnumN) ++ [(35, i6_ shnumN), (841, sl_ nm_ 0 shnumN)]) (by kernel_rfl)
  refine wp_sym HF HM rfl 1 [] ((nf_E_t_S0 b o n c s fb big phoffN phnumN shoffN shnumN) ++ [(35, i6_ shnumN), (41, sl_ nm_ 0 shnumN)]) [(nm_, .cells nm_C 36 (0, 0)), (sg_, .cells sg_C 133 (0, 0)), (fb, .cells #[iB_ 1, .int .u8 dat, iB_ 1, u8_ abi, u8_ abiv, (boV big), u2_ tyN, u2_ machN, u6_ entryN, sl_ sg_ 0 shnumN, sl_ pg phnumN phnumN, nl_, nl_, nl_] 131 (0, 0)), (s, .cells #[.iface 178 (.slice (some ⟨b, o, none⟩) n c), iI_ 0, iI_ 0, iI_ 9223372036854775807, iI_ 9223372036854775807] 246 (0, 0))] (by kernel_rfl) ?_
  clear HF HM; intro a w HF HM
  refine nil_then ?_
  refine wp_seq (wp_region_lit ?_)
  refine wp_sym HF HM rfl 4 [] ((nf_E_t_S0 b o n c s fb big phoffN phnumN shoffN shnumN) ++ [(35, i6_ shnumN), (41, sl_ nm_ 0 shnumN), (844, .iface 144 (pt_ s)), (846, iL_ (IntKind.u64.wrap ((shnumN : Nat) : Int)))]) [(nm_, .cells nm_C 36 (0, 0)), (sg_, .cells sg_C 133 (0, 0)), (fb, .cells #[iB_ 1, .int .u8 dat, iB_ 1, u8_ abi, u8_ abiv, (boV big), u2_ tyN, u2_ machN, u6_ entryN, sl_ sg_ 0 shnumN, sl_ pg phnumN phnumN, nl_, nl_, nl_] 131 (0, 0)), (s, .cells #[.iface 178 (.slice (some ⟨b, o, none⟩) n c), iI_ 0, iI_ 0, iI_ 9223372036854775807, iI_ 9223372036854775807] 246 (0, 0))] (by kernel_rfl) ?_
  clear HF HM; intro a w HF HM
  rw [show IntKind.u64.wrap ((shnumN : Nat) : Int) = ((shnumN : Nat) : Int) from IntWalk.u64_in _ (by omega)] at HF
  refine wp_sym HF HM rfl 3 [] ((nf_E_t_S0 b o n c s fb big phoffN phnumN shoffN shnumN) ++ [(35, i6_ shnumN), (41, sl_ nm_ 0 shnumN), (844, .iface 144 (pt_ s)), (849, iL_ (IntKind.u64.wrap (((shnumN : Nat) : Int) * 40)))]) [(nm_, .cells nm_C 36 (0, 0)), (sg_, .cells sg_C 133 (0, 0)), (fb, .cells #[iB_ 1, .int .u8 dat, iB_ 1, u8_ abi, u8_ abiv, (boV big), u2_ tyN, u2_ machN, u6_ entryN, sl_ sg_ 0 shnumN, sl_ pg phnumN phnumN, nl_, nl_, nl_] 131 (0, 0)), (s, .cells #[.iface 178 (.slice (some ⟨b, o, none⟩) n c), iI_ 0, iI_ 0, iI_ 9223372036854775807, iI_ 9223372036854775807] 246 (0, 0))] (by kernel_rfl) ?_
  clear HF HM; intro a w HF HM
  rw [show IntKind.u64.wrap (((shnumN : Nat) : Int) * 40) = (((shnumN * 40) : Nat) : Int) from (IntWalk.u64_in _ (by omega)).trans (by omega)] at HF
  refine wp_sym HF HM rfl 1 [] ((nf_E_t_S0 b o n c s fb big phoffN phnumN shoffN shnumN) ++ [(35, i6_ shnumN), (41, sl_ nm_ 0 shnumN), (844, .iface 144 (pt_ s)), (849, u6_ (shnumN * 40)), (850, i6_ shoffN)]) [(nm_, .cells nm_C 36 (0, 0)), (sg_, .cells sg_C 133 (0, 0)), (fb, .cells #[iB_ 1, .int .u8 dat, iB_ 1, u8_ abi, u8_ abiv, (boV big), u2_ tyN, u2_ machN, u6_ entryN, sl_ sg_ 0 shnumN, sl_ pg phnumN phnumN, nl_, nl_, nl_] 131 (0, 0)), (s, .cells #[.iface 178 (.slice (some ⟨b, o, none⟩) n c), iI_ 0, iI_ 0, iI_ 9223372036854775807, iI_ 9223372036854775807] 246 (0, 0))] (by kernel_rfl) ?_
  clear HF HM; intro a w HF HM
  refine wp_call HF (by kernel_rfl) 99 #[.iface 144 (pt_ s), u6_ (shnumN * 40), i6_ shoffN] (by kernel_rfl) (fun w => by kernel_rfl) (Calls.mono (readDataAt_full l b o n c hl hnc s (shnumN * 40) 0 shoffN 0 9223372036854775807 9223372036854775807 (by omega) (by omega) (by omega) (by omega) (by omega) (by omega) w (HM.row hr (by intro b' o' s' e; injection e with e; injection e with e; subst e; exact hbG)) (Nat.lt_of_lt_of_le hbl HM.size) hbs (HM.get (i := 3) rfl)) ?_)
  rintro _ w4 ⟨sd, rfl, hb, hge, hgn⟩
  replace HM : Mm G w0 w4 [(sd, .cells (((l.drop (0 + shoffN)).take (shnumN * 40)).map Bv).toArray 5 (0, 0)), (nm_, .cells nm_C 36 (0, 0)), (sg_, .cells sg_C 133 (0, 0)), (fb, .cells #[iB_ 1, .int .u8 dat, iB_ 1, u8_ abi, u8_ abiv, (boV big), u2_ tyN, u2_ machN, u6_ entryN, sl_ sg_ 0 shnumN, sl_ pg phnumN phnumN, nl_, nl_, nl_] 131 (0, 0)), (s, .cells #[.iface 178 (.slice (some ⟨b, o, none⟩) n c), iI_ 0, iI_ 0, iI_ 9223372036854775807, iI_ 9223372036854775807] 246 (0, 0))] := HM.push hb hge hgn
  clear hge hgn
  refine ⟨_, rfl, ?_⟩; clear HF; intro a HF; replace HF := HF.sub ((nf_E_t_S0 b o n c s fb big phoffN phnumN shoffN shnumN) ++ [(35, i6_ shnumN), (41, sl_ nm_ 0 shnumN), (844, .iface 144 (pt_ s)), (849, u6_ (shnumN * 40)), (850, i6_ shoffN), (851, .tuple #[sl_ sd (shnumN * 40) (shnumN * 40), .nilIface])]) (by kernel_rfl)
  refine wp_sym HF HM rfl 5 [] ((nf_E_t_S0 b o n c s fb big phoffN phnumN shoffN shnumN) ++ [(35, i6_ shnumN), (41, sl_ nm_ 0 shnumN), (42, sl_ sd (shnumN * 40) (shnumN * 40)), (37, .nilIface)]) [(sd, .cells (((l.drop (0 + shoffN)).take (shnumN * 40)).map Bv).toArray 5 (0, 0)), (nm_, .cells nm_C 36 (0, 0)), (sg_, .cells sg_C 133 (0, 0)), (fb, .cells #[iB_ 1, .int .u8 dat, iB_ 1, u8_ abi, u8_ abiv, (boV big), u2_ tyN, u2_ machN, u6_ entryN, sl_ sg_ 0 shnumN, sl_ pg phnumN phnumN, nl_, nl_, nl_] 131 (0, 0)), (s, .cells #[.iface 178 (.slice (some ⟨b, o, none⟩) n c), iI_ 0, iI_ 0, iI_ 9223372036854775807, iI_ 9223372036854775807] 246 (0, 0))] (by kernel_rfl) ?_
  clear HF HM; intro a w HF HM
  refine nil_then ?_
  refine wp_seq ?_
  refine wp_seq (wp_region_lit ?_)
  refine wp_sym HF HM rfl 2 [] ((nf_E_t_S0 b o n c s fb big phoffN phnumN shoffN shnumN) ++ [(35, i6_ shnumN), (41, sl_ nm_ 0 shnumN), (42, sl_ sd (shnumN * 40) (shnumN * 40)), (37, .nilIface), (855, .bool false)]) [(sd, .cells (((l.drop (0 + shoffN)).take (shnumN * 40)).map Bv).toArray 5 (0, 0)), (nm_, .cells nm_C 36 (0, 0)), (sg_, .cells sg_C 133 (0, 0)), (fb, .cells #[iB_ 1, .int .u8 dat, iB_ 1, u8_ abi, u8_ abiv, (boV big), u2_ tyN, u2_ machN, u6_ entryN, sl_ sg_ 0 shnumN, sl_ pg phnumN phnumN, nl_, nl_, nl_] 131 (0, 0)), (s, .cells #[.iface 178 (.slice (some ⟨b, o, none⟩) n c), iI_ 0, iI_ 0, iI_ 9223372036854775807, iI_ 9223372036854775807] 246 (0, 0))] (by kernel_rfl) ?_
  clear HF HM; intro a w HF HM
  refine nil_then ?_
  refine wp_condF HF rfl ?_
  refine wp_skip ?_
  repeat (first | refine then_norm ?_ | refine inb_norm ?_)
  replace HF := HF.sub ((nf_E_t_S0 b o n c s fb big phoffN phnumN shoffN shnumN) ++ [(41, sl_ nm_ 0 shnumN), (42, sl_ sd (shnumN * 40) (shnumN * 40))]) (by kernel_rfl)
  replace HF := HF.sub ((nf_E_t_S0 b o n c s fb big phoffN phnumN shoffN shnumN) ++ [(41, sl_ nm_ 0 shnumN), (42, sl_ sd (shnumN * 40) (shnumN * 40))]) (by kernel_rfl)
  rw [Nat.zero_add] at HM
  exact K a w sg_ sg_C nm_ nm_C sd hsg_ hnm_ HF HM

abbrev nf_E_w_S0 := fun (b : Nat) (o : Nat) (n : Nat) (c : Nat) (s : Nat) (fb : Nat) (big : Bool) (phoffN : Nat) (phnumN : Nat) (shoffN : Nat) (shnumN : Nat) => ([(0, .iface 178 (.slice (some ⟨b, o, none⟩) n c)), (4, pt_ s), (8, pt_ fb), (9, (boV big)), (10, i6_ phoffN), (11, iI_ 56), (12, i6_ phnumN), (13, i6_ shoffN), (14, iI_ 64), (15, i6_ shnumN), (16, i6_ (shnumN - 1)), (26, iI_ 64)] : Slots)
set_option maxRecDepth 100000 in
set_option maxHeartbeats 1000000 in
theorem nf_E_w (l : List UInt8) (b o n c : Nat) (hl : n = l.length) (hnc : n ≤ c) (big : Bool) (abi abiv tyN machN entryN phoffN phnumN shoffN shnumN : Nat) (dat : Int) (b1 : tyN < 65536) (b2 : machN < 65536) (b3 : entryN ≤ 18446744073709551615) (b4 : phoffN < 4611686018427387904) (b5 : shoffN < 4611686018427387904) (b6 : phnumN < 200) (b7 : shnumN < 200) (c1 : 0 < shoffN) (c2 : 0 < shnumN) (c4 : shoffN < n) (c5 : shoffN + (shnumN * 64) ≤ n) {Q : Exit → Act → World → Prop} (w0 : World) (hbl : b < w0.heap.size) (hr : Row w0 (some ⟨b, o, none⟩) (l.map Bv)) (G : List Nat) (hbG : b ∉ G) (a : Act) (w : World) (s fb pg : Nat) (hbs : b ≠ s) (HF : Fr 1287 a (nf_E_w_S0 b o n c s fb big phoffN phnumN shoffN shnumN)) (HM : Mm G w0 w [(fb, .cells #[iB_ 2, .int .u8 dat, iB_ 1, u8_ abi, u8_ abiv, (boV big), u2_ tyN, u2_ machN, u6_ entryN, nl_, sl_ pg phnumN phnumN, nl_, nl_, nl_] 131 (0, 0)), (s, .cells #[.iface 178 (.slice (some ⟨b, o, none⟩) n c), iI_ 0, iI_ 0, iI_ 9223372036854775807, iI_ 9223372036854775807] 246 (0, 0))])
    (K : ∀ a w sg_ sg_C nm_ nm_C sd, sg_C.size = shnumN → nm_C.size = shnumN → Fr 1287 a ((nf_E_w_S0 b o n c s fb big phoffN phnumN shoffN shnumN) ++ [(41, sl_ nm_ 0 shnumN), (42, sl_ sd (shnumN * 64) (shnumN * 64))]) → Mm G w0 w [(sd, .cells (((l.drop shoffN).take (shnumN * 64)).map Bv).toArray 5 (0, 0)), (nm_, .cells nm_C 36 (0, 0)), (sg_, .cells sg_C 133 (0, 0)), (fb, .cells #[iB_ 2, .int .u8 dat, iB_ 1, u8_ abi, u8_ abiv, (boV big), u2_ tyN, u2_ machN, u6_ entryN, sl_ sg_ 0 shnumN, sl_ pg phnumN phnumN, nl_, nl_, nl_] 131 (0, 0)), (s, .cells #[.iface 178 (.slice (some ⟨b, o, none⟩) n c), iI_ 0, iI_ 0, iI_ 9223372036854775807, iI_ 9223372036854775807] 246 (0, 0))] → (spine Tryd.f78 44).wp Tryd.prog Q a w) : (spine Tryd.f78 36).wp Tryd.prog Q a w := by
  refine wp_seq ?_
  refine wp_seq (wp_region_lit ?_)
  refine wp_sym HF HM rfl 2 [] ((nf_E_w_S0 b o n c s fb big phoffN phnumN shoffN shnumN) ++ [(799, .bool (decide (0 < ((shnumN : Nat) : Int))))]) [(fb, .cells #[iB_ 2, .int .u8 dat, iB_ 1, u8_ abi, u8_ abiv, (boV big), u2_ tyN, u2_ machN, u6_ entryN, nl_, sl_ pg phnumN phnumN, nl_, nl_, nl_] 131 (0, 0)), (s, .cells #[.iface 178 (.slice (some ⟨b, o, none⟩) n c), iI_ 0, iI_ 0, iI_ 9223372036854775807, iI_ 9223372036854775807] 246 (0, 0))] (by kernel_rfl) ?_
  clear HF HM; intro a w HF HM
  rw [show decide (0 < ((shnumN : Nat) : Int)) = true from dec_t (by omega)] at HF
  refine wp_sym HF HM rfl 5 [] ((nf_E_w_S0 b o n c s fb big phoffN phnumN shoffN shnumN) ++ [(804, .bool false)]) [(fb, .cells #[iB_ 2, .int .u8 dat, iB_ 1, u8_ abi, u8_ abiv, (boV big), u2_ tyN, u2_ machN, u6_ entryN, nl_, sl_ pg phnumN phnumN, nl_, nl_, nl_] 131 (0, 0)), (s, .cells #[.iface 178 (.slice (some ⟨b, o, none⟩) n c), iI_ 0, iI_ 0, iI_ 9223372036854775807, iI_ 9223372036854775807] 246 (0, 0))] (by kernel_rfl) ?_
  clear HF HM; intro a w HF HM
  refine nil_then ?_
  refine wp_condF HF rfl ?_
  refine wp_skip ?_
  repeat (first | refine then_norm ?_ | refine inb_norm ?_)
  replace HF := HF.sub (nf_E_w_S0 b o n c s fb big phoffN phnumN shoffN shnumN) (by kernel_rfl)
  refine wp_seq (wp_region_lit ?_)
  refine wp_sym HF HM rfl 2 [] ((nf_E_w_S0 b o n c s fb big phoffN phnumN shoffN shnumN) ++ [(811, iL_ (IntKind.u64.wrap ((shnumN : Nat) : Int)))]) [(fb, .cells #[iB_ 2, .int .u8 dat, iB_ 1, u8_ abi, u8_ abiv, (boV big), u2_ tyN, u2_ machN, u6_ entryN, nl_, sl_ pg phnumN phnumN, nl_, nl_, nl_] 131 (0, 0)), (s, .cells #[.iface 178 (.slice (some ⟨b, o, none⟩) n c), iI_ 0, iI_ 0, iI_ 9223372036854775807, iI_ 9223372036854775807] 246 (0, 0))] (by kernel_rfl) ?_
  clear HF HM; intro a w HF HM
  rw [show IntKind.u64.wrap ((shnumN : Nat) : Int) = ((shnumN : Nat) : Int) from IntWalk.u64_in _ (by omega)] at HF
  refine wp_call HF (by kernel_rfl) 98 #[iL_ 120, u6_ shnumN] (by kernel_rfl) (fun w => by kernel_rfl) (Calls.mono (sliceCap_120 shnumN (by omega) w) ?_)
  rintro _ w1 ⟨rfl, hq⟩
  replace HM : Mm G w0 w1 [(fb, .cells #[iB_ 2, .int .u8 dat, iB_ 1, u8_ abi, u8_ abiv, (boV big), u2_ tyN, u2_ machN, u6_ entryN, nl_, sl_ pg phnumN phnumN, nl_, nl_, nl_] 131 (0, 0)), (s, .cells #[.iface 178 (.slice (some ⟨b, o, none⟩) n c), iI_ 0, iI_ 0, iI_ 9223372036854775807, iI_ 9223372036854775807] 246 (0, 0))] := by first | (rw [hq]; exact HM) | (rw [← hq]; exact HM)
  clear hq
  refine ⟨_, rfl, ?_⟩; clear HF; intro a HF; replace HF := HF.sub ((nf_E_w_S0 b o n c s fb big phoffN phnumN shoffN shnumN) ++ [(811, u6_ shnumN), (812, i6_ shnumN)]) (by kernel_rfl)
  refine wp_sym HF HM rfl 1 [] ((nf_E_w_S0 b o n c s fb big phoffN phnumN shoffN shnumN) ++ [(35, i6_ shnumN)]) [(fb, .cells #[iB_ 2, .int .u8 dat, iB_ 1, u8_ abi, u8_ abiv, (boV big), u2_ tyN, u2_ machN, u6_ entryN, nl_, sl_ pg phnumN phnumN, nl_, nl_, nl_] 131 (0, 0)), (s, .cells #[.iface 178 (.slice (some ⟨b, o, none⟩) n c), iI_ 0, iI_ 0, iI_ 9223372036854775807, iI_ 9223372036854775807] 246 (0, 0))] (by kernel_rfl) ?_
  clear HF HM; intro a w HF HM
  refine nil_then ?_
  refine wp_seq ?_
  refine wp_seq (wp_region_lit ?_)
  refine wp_sym HF HM rfl 2 [] ((nf_E_w_S0 b o n c s fb big phoffN phnumN shoffN shnumN) ++ [(35, i6_ shnumN), (814, .bool (decide (((shnumN : Nat) : Int) < 0)))]) [(fb, .cells #[iB_ 2, .int .u8 dat, iB_ 1, u8_ abi, u8_ abiv, (boV big), u2_ tyN, u2_ machN, u6_ entryN, nl_, sl_ pg phnumN phnumN, nl_, nl_, nl_] 131 (0, 0)), (s, .cells #[.iface 178 (.slice (some ⟨b, o, none⟩) n c), iI_ 0, iI_ 0, iI_ 9223372036854775807, iI_ 9223372036854775807] 246 (0, 0))] (by kernel_rfl) ?_
  clear HF HM; intro a w HF HM
  rw [show decide (((shnumN : Nat) : Int) < 0) = false from dec_f (by omega)] at HF
  refine nil_then ?_
  refine wp_condF HF rfl ?_
  refine wp_skip ?_
  repeat (first | refine then_norm ?_ | refine inb_norm ?_)
  replace HF := HF.sub ((nf_E_w_S0 b o n c s fb big phoffN phnumN shoffN shnumN) ++ [(35, i6_ shnumN)]) (by kernel_rfl)
  refine wp_seq ?_
  refine wp_seq (wp_region_lit ?_)
  refine wp_sym HF HM rfl 2 [] ((nf_E_w_S0 b o n c s fb big phoffN phnumN shoffN shnumN) ++ [(35, i6_ shnumN), (821, .bool (decide (0 < ((shnumN : Nat) : Int))))]) [(fb, .cells #[iB_ 2, .int .u8 dat, iB_ 1, u8_ abi, u8_ abiv, (boV big), u2_ tyN, u2_ machN, u6_ entryN, nl_, sl_ pg phnumN phnumN, nl_, nl_, nl_] 131 (0, 0)), (s, .cells #[.iface 178 (.slice (some ⟨b, o, none⟩) n c), iI_ 0, iI_ 0, iI_ 9223372036854775807, iI_ 9223372036854775807] 246 (0, 0))] (by kernel_rfl) ?_
  clear HF HM; intro a w HF HM
  rw [show decide (0 < ((shnumN : Nat) : Int)) = true from dec_t (by omega)] at HF
  refine wp_sym HF HM rfl 3 [] ((nf_E_w_S0 b o n c s fb big phoffN phnumN shoffN shnumN) ++ [(35, i6_ shnumN), (821, .bool true), (822, .bool true), (824, iL_ (IntKind.u64.wrap ((shnumN : Nat) : Int)))]) [(fb, .cells #[iB_ 2, .int .u8 dat, iB_ 1, u8_ abi, u8_ abiv, (boV big), u2_ tyN, u2_ machN, u6_ entryN, nl_, sl_ pg phnumN phnumN, nl_, nl_, nl_] 131 (0, 0)), (s, .cells #[.iface 178 (.slice (some ⟨b, o, none⟩) n c), iI_ 0, iI_ 0, iI_ 9223372036854775807, iI_ 9223372036854775807] 246 (0, 0))] (by kernel_rfl) ?_
  clear HF HM; intro a w HF HM
  rw [show IntKind.u64.wrap ((shnumN : Nat) : Int) = ((shnumN : Nat) : Int) from IntWalk.u64_in _ (by omega)] at HF
  refine wp_run HF (by kernel_rfl) (iL_ (IntKind.u64.wrap ((18446744073709551615 : Int).tdiv ((shnumN : Nat) : Int)))) (by kernel_rfl) (run_quo rfl rfl rfl (by omega)) ?_
  clear HF; intro a HF; replace HF := HF.sub [(0, .iface 178 (.slice (some ⟨b, o, none⟩) n c)), (4, pt_ s), (8, pt_ fb), (9, (boV big)), (10, i6_ phoffN), (11, iI_ 56), (12, i6_ phnumN), (13, i6_ shoffN), (14, iI_ 64), (15, i6_ shnumN), (16, i6_ (shnumN - 1)), (26, iI_ 64), (35, i6_ shnumN), (821, .bool true), (822, .bool true), (824, u6_ shnumN), (825, iL_ (IntKind.u64.wrap ((18446744073709551615 : Int).tdiv ((shnumN : Nat) : Int))))] (by kernel_rfl)
  have hq := big_quo shnumN c2 b7
  rw [IntWalk.u64_in ((18446744073709551615 : Int).tdiv ((shnumN : Nat) : Int)) (by omega)] at HF
  refine wp_sym HF HM rfl 3 [] ((nf_E_w_S0 b o n c s fb big phoffN phnumN shoffN shnumN) ++ [(35, i6_ shnumN), (821, .bool true), (822, .bool true), (828, .bool (decide (((18446744073709551615 : Int).tdiv ((shnumN : Nat) : Int)) < 64)))]) [(fb, .cells #[iB_ 2, .int .u8 dat, iB_ 1, u8_ abi, u8_ abiv, (boV big), u2_ tyN, u2_ machN, u6_ entryN, nl_, sl_ pg phnumN phnumN, nl_, nl_, nl_] 131 (0, 0)), (s, .cells #[.iface 178 (.slice (some ⟨b, o, none⟩) n c), iI_ 0, iI_ 0, iI_ 9223372036854775807, iI_ 9223372036854775807] 246 (0, 0))] (by kernel_rfl) ?_
  clear HF HM; intro a w HF HM
  rw [show decide (((18446744073709551615 : Int).tdiv ((shnumN : Nat) : Int)) < 64) = false from dec_f (by omega)] at HF
  refine wp_sym HF HM rfl 1 [] ((nf_E_w_S0 b o n c s fb big phoffN phnumN shoffN shnumN) ++ [(35, i6_ shnumN), (829, .bool false)]) [(fb, .cells #[iB_ 2, .int .u8 dat, iB_ 1, u8_ abi, u8_ abiv, (boV big), u2_ tyN, u2_ machN, u6_ entryN, nl_, sl_ pg phnumN phnumN, nl_, nl_, nl_] 131 (0, 0)), (s, .cells #[.iface 178 (.slice (some ⟨b, o, none⟩) n c), iI_ 0, iI_ 0, iI_ 9223372036854775807, iI_ 9223372036854775807] 246 (0, 0))] (by kernel_rfl) ?_
  clear HF HM; intro a w HF HM
  refine nil_then ?_
  refine wp_condF HF rfl ?_
  refine wp_skip ?_
  repeat (first | refine then_norm ?_ | refine inb_norm ?_)
  replace HF := HF.sub ((nf_E_w_S0 b o n c s fb big phoffN phnumN shoffN shnumN) ++ [(35, i6_ shnumN)]) (by kernel_rfl)
  refine wp_seq (wp_region_lit ?_)
  refine wp_sym HF HM rfl 2 [] ((nf_E_w_S0 b o n c s fb big phoffN phnumN shoffN shnumN) ++ [(35, i6_ shnumN), (835, pt_ fb), (836, i6_ shnumN)]) [(fb, .cells #[iB_ 2, .int .u8 dat, iB_ 1, u8_ abi, u8_ abiv, (boV big), u2_ tyN, u2_ machN, u6_ entryN, nl_, sl_ pg phnumN phnumN, nl_, nl_, nl_] 131 (0, 0)), (s, .cells #[.iface 178 (.slice (some ⟨b, o, none⟩) n c), iI_ 0, iI_ 0, iI_ 9223372036854775807, iI_ 9223372036854775807] 246 (0, 0))] (by kernel_rfl) ?_
  clear HF HM; intro a w HF HM
  refine wp_make_cap HF HM rfl _ _ 126 rfl rfl 133 (.pointer none) 8 Tryd.underlying126 info_ss .i64 .i64 shnumN rfl rfl (by omega) (by unfold maxLen; omega) ?_
  intro a2 w2 sg_ sg_C hgw hsg_ HM2 HF2; clear HF HM hgw; have HM := HM2; have HF := HF2; clear HM2 HF2
  replace HF := HF.sub ((nf_E_w_S0 b o n c s fb big phoffN phnumN shoffN shnumN) ++ [(35, i6_ shnumN), (835, pt_ fb), (837, sl_ sg_ 0 shnumN)]) (by kernel_rfl)
  refine wp_sym HF HM rfl 3 [[1]] ((nf_E_w_S0 b o n c s fb big phoffN phnumN shoffN shnumN) ++ [(35, i6_ shnumN)]) [(sg_, .cells sg_C 133 (0, 0)), (fb, .cells #[iB_ 2, .int .u8 dat, iB_ 1, u8_ abi, u8_ abiv, (boV big), u2_ tyN, u2_ machN, u6_ entryN, sl_ sg_ 0 shnumN, sl_ pg phnumN phnumN, nl_, nl_, nl_] 131 (0, 0)), (s, .cells #[.iface 178 (.slice (some ⟨b, o, none⟩) n c), iI_ 0, iI_ 0, iI_ 9223372036854775807, iI_ 9223372036854775807] 246 (0, 0))] (by kernel_rfl) ?_
  clear HF HM; intro a w HF HM
  refine nil_then ?_
  refine wp_seq (wp_region_lit ?_)
  refine wp_sym HF HM rfl 1 [] ((nf_E_w_S0 b o n c s fb big phoffN phnumN shoffN shnumN) ++ [(35, i6_ shnumN), (840, i6_ shnumN)]) [(sg_, .cells sg_C 133 (0, 0)), (fb, .cells #[iB_ 2, .int .u8 dat, iB_ 1, u8_ abi, u8_ abiv, (boV big), u2_ tyN, u2_ machN, u6_ entryN, sl_ sg_ 0 shnumN, sl_ pg phnumN phnumN, nl_, nl_, nl_] 131 (0, 0)), (s, .cells #[.iface 178 (.slice (some ⟨b, o, none⟩) n c), iI_ 0, iI_ 0, iI_ 9223372036854775807, iI_ 9223372036854775807] 246 (0, 0))] (by kernel_rfl) ?_
  clear HF HM; intro a w HF HM
  refine wp_make_cap HF HM rfl _ _ 222 rfl rfl 36 (iT_ 0) 4 Tryd.underlying222 info_u32 .i64 .i64 shnumN rfl rfl (by omega) (by unfold maxLen; omega) ?_
  intro a2 w3 nm_ nm_C hgw hnm_ HM2 HF2; clear HF HM hgw; have HM := HM2; have HF := HF2; clear HM2 HF2
  replace HF := HF.sub ((nf_E_w_S0 b o n c s fb big phoffN phnumN shoffN shnumN) ++ [(35, i6_ shnumN), (841, sl_ nm_ 0 shnumN)]) (by kernel_rfl)
  refine wp_sym HF HM rfl 1 [] ((nf_E_w_S0 b o n c s fb big phoffN phnumN shoffN shnumN) ++ [(35, i6_ shnumN), (41, sl_ nm_ 0 shnumN)]) [(nm_, .cells nm_C 36 (0, 0)), (sg_, .cells sg_C 133 (0, 0)), (fb, .cells #[iB_ 2, .int .u8 dat, iB_ 1, u8_ abi, u8_ abiv, (boV big), u2_ tyN, u2_ machN, u6_ entryN, sl_ sg_ 0 shnumN, sl_ pg phnumN phnumN, nl_, nl_, nl_] 131 (0, 0)), (s, .cells #[.iface 178 (.slice (some ⟨b, o, none⟩) n c), iI_ 0, iI_ 0, iI_ 9223372036854775807, iI_ 9223372036854775807] 246 (0, 0))] (by kernel_rfl) ?_
  clear HF HM; intro a w HF HM
  refine nil_then ?_
  refine wp_seq (wp_region_lit ?_)
  refine wp_sym HF HM rfl 4 [] ((nf_E_w_S0 b o n c s fb big phoffN phnumN shoffN shnumN) ++ [(35, i6_ shnumN), (41, sl_ nm_ 0 shnumN), (844, .iface 144 (pt_ s)), (846, iL_ (IntKind.u64.wrap ((shnumN : Nat) : Int)))]) [(nm_, .cells nm_C 36 (0, 0)), (sg_, .cells sg_C 133 (0, 0)), (fb, .cells #[iB_ 2, .int .u8 dat, iB_ 1, u8_ abi, u8_ abiv, (boV big), u2_ tyN, u2_ machN, u6_ entryN, sl_ sg_ 0 shnumN, sl_ pg phnumN phnumN, nl_, nl_, nl_] 131 (0, 0)), (s, .cells #[.iface 178 (.slice (some ⟨b, o, none⟩) n c), iI_ 0, iI_ 0, iI_ 9223372036854775807, iI_ 9223372036854775807] 246 (0, 0))] (by kernel_rfl) ?_
  clear HF HM; intro a w HF HM
  rw [show IntKind.u64.wrap ((shnumN : Nat) : Int) = ((shnumN : Nat) : Int) from IntWalk.u64_in _ (by omega)] at HF
  refine wp_sym HF HM rfl 3 [] ((nf_E_w_S0 b o n c s fb big phoffN phnumN shoffN shnumN) ++ [(35, i6_ shnumN), (41, sl_ nm_ 0 shnumN), (844, .iface 144 (pt_ s)), (849, iL_ (IntKind.u64.wrap (((shnumN : Nat) : Int) * 64)))]) [(nm_, .cells nm_C 36 (0, 0)), (sg_, .cells sg_C 133 (0, 0)), (fb, .cells #[iB_ 2, .int .u8 dat, iB_ 1, u8_ abi, u8_ abiv, (boV big), u2_ tyN, u2_ machN, u6_ entryN, sl_ sg_ 0 shnumN, sl_ pg phnumN phnumN, nl_, nl_, nl_] 131 (0, 0)), (s, .cells #[.iface 178 (.slice (some ⟨b, o, none⟩) n c), iI_ 0, iI_ 0, iI_ 9223372036854775807, iI_ 9223372036854775807] 246 (0, 0))] (by kernel_rfl) ?_
  clear HF HM; intro a w HF HM
  rw [show IntKind.u64.wrap (((shnumN : Nat) : Int) * 64) = (((shnumN * 64) : Nat) : Int) from (IntWalk.u64_in _ (by omega)).trans (by omega)] at HF
  refine wp_sym HF HM rfl 1 [] ((nf_E_w_S0 b o n c s fb big phoffN phnumN shoffN shnumN) ++ [(35, i6_ shnumN), (41, sl_ nm_ 0 shnumN), (844, .iface 144 (pt_ s)), (849, u6_ (shnumN * 64)), (850, i6_ shoffN)]) [(nm_, .cells nm_C 36 (0, 0)), (sg_, .cells sg_C 133 (0, 0)), (fb, .cells #[iB_ 2, .int .u8 dat, iB_ 1, u8_ abi, u8_ abiv, (boV big), u2_ tyN, u2_ machN, u6_ entryN, sl_ sg_ 0 shnumN, sl_ pg phnumN phnumN, nl_, nl_, nl_] 131 (0, 0)), (s, .cells #[.iface 178 (.slice (some ⟨b, o, none⟩) n c), iI_ 0, iI_ 0, iI_ 9223372036854775807, iI_ 9223372036854775807] 246 (0, 0))] (by kernel_rfl) ?_
  clear HF HM; intro a w HF HM
  refine wp_call HF (by kernel_rfl) 99 #[.iface 144 (pt_ s), u6_ (shnumN * 64), i6_ shoffN] (by kernel_rfl) (fun w => by kernel_rfl) (Calls.mono (readDataAt_full l b o n c hl hnc s (shnumN * 64) 0 shoffN 0 9223372036854775807 9223372036854775807 (by omega) (by omega) (by omega) (by omega) (by omega) (by omega) w (HM.row hr (by intro b' o' s' e; injection e with e; injection e with e; subst e; exact hbG)) (Nat.lt_of_lt_of_le hbl HM.size) hbs (HM.get (i := 3) rfl)) ?_)
  rintro _ w4 ⟨sd, rfl, hb, hge, hgn⟩
  replace HM : Mm G w0 w4 [(sd, .cells (((l.drop (0 + shoffN)).take (shnumN * 64)).map Bv).toArray 5 (0, 0)), (nm_, .cells nm_C 36 (0, 0)), (sg_, .cells sg_C 133 (0, 0)), (fb, .cells #[iB_ 2, .int .u8 dat, iB_ 1, u8_ abi, u8_ abiv, (boV big), u2_ tyN, u2_ machN, u6_ entryN, sl_ sg_ 0 shnumN, sl_ pg phnumN phnumN, nl_, nl_, nl_] 131 (0, 0)), (s, .cells #[.iface 178 (.slice (some ⟨b, o, none⟩) n c), iI_ 0, iI_ 0, iI_ 9223372036854775807, iI_ 9223372036854775807] 246 (0, 0))] := HM.push hb hge hgn
  clear hge hgn
  refine ⟨_, rfl, ?_⟩; clear HF; intro a HF; replace HF := HF.sub ((nf_E_w_S0 b o n c s fb big phoffN phnumN shoffN shnumN) ++ [(35, i6_ shnumN), (41, sl_ nm_ 0 shnumN), (844, .iface 144 (pt_ s)), (849, u6_ (shnumN * 64)), (850, i6_ shoffN), (851, .tuple #[sl_ sd (shnumN * 64) (shnumN * 64), .nilIface])]) (by kernel_rfl)
  refine wp_sym HF HM rfl 5 [] ((nf_E_w_S0 b o n c s fb big phoffN phnumN shoffN shnumN) ++ [(35, i6_ shnumN), (41, sl_ nm_ 0 shnumN), (42, sl_ sd (shnumN * 64) (shnumN * 64)), (37, .nilIface)]) [(sd, .cells (((l.drop (0 + shoffN)).take (shnumN * 64)).map Bv).toArray 5 (0, 0)), (nm_, .cells nm_C 36 (0, 0)), (sg_, .cells sg_C 133 (0, 0)), (fb, .cells #[iB_ 2, .int .u8 dat, iB_ 1, u8_ abi, u8_ abiv, (boV big), u2_ tyN, u2_ machN, u6_ entryN, sl_ sg_ 0 shnumN, sl_ pg phnumN phnumN, nl_, nl_, nl_] 131 (0, 0)), (s, .cells #[.iface 178 (.slice (some ⟨b, o, none⟩) n c), iI_ 0, iI_ 0, iI_ 9223372036854775807, iI_ 9223372036854775807] 246 (0, 0))] (by kernel_rfl) ?_
  clear HF HM; intro a w HF HM
  refine nil_then ?_
  refine wp_seq ?_
  refine wp_seq (wp_region_lit ?_)
  refine wp_sym HF HM rfl 2 [] ((nf_E_w_S0 b o n c s fb big phoffN phnumN shoffN shnumN) ++ [(35, i6_ shnumN), (41, sl_ nm_ 0 shnumN), (42, sl_ sd (shnumN * 64) (shnumN * 64)), (37, .nilIface), (855, .bool false)]) [(sd, .cells (((l.drop (0 + shoffN)).take (shnumN * 64)).map Bv).toArray 5 (0, 0)), (nm_, .cells nm_C 36 (0, 0)), (sg_, .cells sg_C 133 (0, 0)), (fb, .cells #[iB_ 2, .int .u8 dat, iB_ 1, u8_ abi, u8_ abiv, (boV big), u2_ tyN, u2_ machN, u6_ entryN, sl_ sg_ 0 shnumN, sl_ pg phnumN phnumN, nl_, nl_, nl_] 131 (0, 0)), (s, .cells #[.iface 178 (.slice (some ⟨b, o, none⟩) n c), iI_ 0, iI_ 0, iI_ 9223372036854775807, iI_ 9223372036854775807] 246 (0, 0))] (by kernel_rfl) ?_
  clear HF HM; intro a w HF HM
  refine nil_then ?_
  refine wp_condF HF rfl ?_
  refine wp_skip ?_
  repeat (first | refine then_norm ?_ | refine inb_norm ?_)
  replace HF := HF.sub ((nf_E_w_S0 b o n c s fb big phoffN phnumN shoffN shnumN) ++ [(41, sl_ nm_ 0 shnumN), (42, sl_ sd (shnumN * 64) (shnumN * 64))]) (by kernel_rfl)
  replace HF := HF.sub ((nf_E_w_S0 b o n c s fb big phoffN phnumN shoffN shnumN) ++ [(41, sl_ nm_ 0 shnumN), (42, sl_ sd (shnumN * 64) (shnumN * 64))]) (by kernel_rfl)
  rw [Nat.zero_add] at HM
  exact K a w sg_ sg_C nm_ nm_C sd hsg_ hnm_ HF HM

end Go.Proofs.YtdgehpocmfjbiaaDoor
namespace Go.Proofs.YtdgehpocmfjbiaaDoor
open Go.RowKit

set_option maxRecDepth 100000 in
set_option maxHeartbeats 1000000 in
theorem isText_end (l : List UInt8) (hl : l.length < 4611686018427387904) (w0 : World) {KK : Act → World → Prop} {QQ : Exit → Act → World → Prop} (Kt : 0 ∉ l → ∀ a, Fr 14 a [(0, .string ⟨l.toArray⟩)] → KK a w0) (Kf : 0 ∈ l → ∀ a, Fr 14 a [(2, .bool false)] → QQ .ret a w0) (i : Nat) (hi : i = l.length) (h0 : 0 ∉ l) {KX : Act → World → Prop}  (a : Act) (HF : Fr 14 a [(0, .string ⟨l.toArray⟩), (3, i6_ i)]) :
    (lpOf (spine Tryd.f53 1)).wp Tryd.prog (Exit.then KX (Exit.inBlock 0 (Exit.then KK QQ))) a w0 := by
  have HM : Mm [] w0 w0 [] := Mm.start w0
  have hsz : ((⟨l.toArray⟩ : ByteArray).size : Nat) = l.length := by simp [ByteArray.size]
  refine wp_seq ?_
  refine wp_seq (wp_region_lit ?_)
  refine wp_pure HF HM rfl 4 [] [(0, .string ⟨l.toArray⟩), (3, i6_ i), (7, .bool (decide (((i : Nat) : Int) < (((⟨l.toArray⟩ : ByteArray).size : Nat) : Int))))] (by kernel_rfl) ?_
  clear HF; intro a HF
  rw [show decide (((i : Nat) : Int) < (((⟨l.toArray⟩ : ByteArray).size : Nat) : Int)) = false from dec_f (by omega)] at HF
  refine nil_then ?_
  refine wp_condF HF rfl ?_
  replace HF := HF.sub [(0, .string ⟨l.toArray⟩)] (by kernel_rfl)
  refine wp_exit ?_
  repeat (first | refine then_exit ?_ | refine inb_exit ?_ | refine then_norm ?_)
  exact Kt (by assumption) a HF

set_option maxRecDepth 100000 in
set_option maxHeartbeats 1000000 in
theorem isText_zero (l : List UInt8) (hl : l.length < 4611686018427387904) (w0 : World) {KK : Act → World → Prop} {QQ : Exit → Act → World → Prop} (Kt : 0 ∉ l → ∀ a, Fr 14 a [(0, .string ⟨l.toArray⟩)] → KK a w0) (Kf : 0 ∈ l → ∀ a, Fr 14 a [(2, .bool false)] → QQ .ret a w0) (i : Nat) (b : UInt8) (hb : l[i]? = some b) (hlt : i < l.length) (hz : (((b.toNat : Nat) : Int) == 0) = true) (h0 : 0 ∈ l) {KX : Act → World → Prop}  (a : Act) (HF : Fr 14 a [(0, .string ⟨l.toArray⟩), (3, i6_ i)]) :
    (lpOf (spine Tryd.f53 1)).wp Tryd.prog (Exit.then KX (Exit.inBlock 0 (Exit.then KK QQ))) a w0 := by
  have HM : Mm [] w0 w0 [] := Mm.start w0
  have hsz : ((⟨l.toArray⟩ : ByteArray).size : Nat) = l.length := by simp [ByteArray.size]
  refine wp_seq ?_
  refine wp_seq (wp_region_lit ?_)
  refine wp_pure HF HM rfl 4 [] [(0, .string ⟨l.toArray⟩), (3, i6_ i), (7, .bool (decide (((i : Nat) : Int) < (((⟨l.toArray⟩ : ByteArray).size : Nat) : Int))))] (by kernel_rfl) ?_
  clear HF; intro a HF
  rw [show decide (((i : Nat) : Int) < (((⟨l.toArray⟩ : ByteArray).size : Nat) : Int)) = true from dec_t (by omega)] at HF
  refine nil_then ?_
  refine wp_condT HF rfl ?_
  refine wp_skip ?_
  repeat (first | refine then_norm ?_ | refine inb_norm ?_)
  replace HF := HF.sub [(0, .string ⟨l.toArray⟩), (3, i6_ i)] (by kernel_rfl)
  refine wp_seq (wp_block ?_)
  refine wp_seq (wp_region_lit ?_)
  refine wp_pure HF HM rfl 2 [] [(0, .string ⟨l.toArray⟩), (3, i6_ i), (10, .string ⟨l.toArray⟩), (11, i6_ i)] (by kernel_rfl) ?_
  clear HF; intro a HF
  refine wp_run HF (by kernel_rfl) (u8_ b.toNat) (by kernel_rfl) (run_str_index Tryd.underlying9 rfl rfl rfl hb) ?_
  clear HF; intro a HF; replace HF := HF.sub [(0, .string ⟨l.toArray⟩), (3, i6_ i), (10, .string ⟨l.toArray⟩), (11, i6_ i), (12, u8_ b.toNat)] (by kernel_rfl)
  refine wp_pure HF HM rfl 1 [] [(0, .string ⟨l.toArray⟩), (3, i6_ i), (13, .bool (((b.toNat : Nat) : Int) == 0))] (by kernel_rfl) ?_
  clear HF; intro a HF
  rw [show (((b.toNat : Nat) : Int) == 0) = true from hz] at HF
  refine nil_then ?_
  refine wp_condT HF rfl ?_
  replace HF := HF.sub [(0, .string ⟨l.toArray⟩), (3, i6_ i)] (by kernel_rfl)
  refine wp_seq (wp_region_lit ?_)
  refine wp_pure HF HM rfl 1 [] [(2, .bool false)] (by kernel_rfl) ?_
  clear HF; intro a HF
  refine nil_then ?_
  refine wp_ret ?_
  repeat (first | refine then_ret ?_ | refine inb_ret ?_)
  exact Kf (by assumption) a HF

set_option maxRecDepth 100000 in
set_option maxHeartbeats 1000000 in
theorem isText_next (l : List UInt8) (hl : l.length < 4611686018427387904) (w0 : World) {KK : Act → World → Prop} {QQ : Exit → Act → World → Prop} (Kt : 0 ∉ l → ∀ a, Fr 14 a [(0, .string ⟨l.toArray⟩)] → KK a w0) (Kf : 0 ∈ l → ∀ a, Fr 14 a [(2, .bool false)] → QQ .ret a w0) (i : Nat) (b : UInt8) (hb : l[i]? = some b) (hlt : i < l.length) (hz : (((b.toNat : Nat) : Int) == 0) = false) {KX : Act → World → Prop} (KR : ∀ a, Fr 14 a [(0, .string ⟨l.toArray⟩), (3, i6_ (i + 1))] → KX a w0) (a : Act) (HF : Fr 14 a [(0, .string ⟨l.toArray⟩), (3, i6_ i)]) :
    (lpOf (spine Tryd.f53 1)).wp Tryd.prog (Exit.then KX (Exit.inBlock 0 (Exit.then KK QQ))) a w0 := by
  have HM : Mm [] w0 w0 [] := Mm.start w0
  have hsz : ((⟨l.toArray⟩ : ByteArray).size : Nat) = l.length := by simp [ByteArray.size]
  refine wp_seq ?_
  refine wp_seq (wp_region_lit ?_)
  refine wp_pure HF HM rfl 4 [] [(0, .string ⟨l.toArray⟩), (3, i6_ i), (7, .bool (decide (((i : Nat) : Int) < (((⟨l.toArray⟩ : ByteArray).size : Nat) : Int))))] (by kernel_rfl) ?_
  clear HF; intro a HF
  rw [show decide (((i : Nat) : Int) < (((⟨l.toArray⟩ : ByteArray).size : Nat) : Int)) = true from dec_t (by omega)] at HF
  refine nil_then ?_
  refine wp_condT HF rfl ?_
  refine wp_skip ?_
  repeat (first | refine then_norm ?_ | refine inb_norm ?_)
  replace HF := HF.sub [(0, .string ⟨l.toArray⟩), (3, i6_ i)] (by kernel_rfl)
  refine wp_seq (wp_block ?_)
  refine wp_seq (wp_region_lit ?_)
  refine wp_pure HF HM rfl 2 [] [(0, .string ⟨l.toArray⟩), (3, i6_ i), (10, .string ⟨l.toArray⟩), (11, i6_ i)] (by kernel_rfl) ?_
  clear HF; intro a HF
  refine wp_run HF (by kernel_rfl) (u8_ b.toNat) (by kernel_rfl) (run_str_index Tryd.underlying9 rfl rfl rfl hb) ?_
  clear HF; intro a HF; replace HF := HF.sub [(0, .string ⟨l.toArray⟩), (3, i6_ i), (10, .string ⟨l.toArray⟩), (11, i6_ i), (12, u8_ b.toNat)] (by kernel_rfl)
  refine wp_pure HF HM rfl 1 [] [(0, .string ⟨l.toArray⟩), (3, i6_ i), (13, .bool (((b.toNat : Nat) : Int) == 0))] (by kernel_rfl) ?_
  clear HF; intro a HF
  rw [show (((b.toNat : Nat) : Int) == 0) = false from hz] at HF
  refine nil_then ?_
  refine wp_condF HF rfl ?_
  replace HF := HF.sub [(0, .string ⟨l.toArray⟩), (3, i6_ i)] (by kernel_rfl)
  refine wp_skip ?_
  repeat (first | refine then_norm ?_ | refine inb_norm ?_)
  refine wp_region_lit ?_
  refine wp_pure HF HM rfl 2 [] [(0, .string ⟨l.toArray⟩), (3, i6_ i), (9, .int .i64 (IntKind.i64.wrap (((i : Nat) : Int) + 1)))] (by kernel_rfl) ?_
  clear HF; intro a HF
  rw [show IntKind.i64.wrap (((i : Nat) : Int) + 1) = (((i + 1) : Nat) : Int) from (IntWalk.i64_in _ (by omega)).trans (by omega)] at HF
  refine wp_pure HF HM rfl 1 [] [(0, .string ⟨l.toArray⟩), (3, i6_ (i + 1))] (by kernel_rfl) ?_
  clear HF; intro a HF
  refine wpList_nil ?_
  repeat (first | refine then_norm ?_ | refine inb_norm ?_)
  exact KR a HF
theorem isText_rounds (l : List UInt8) (hl : l.length < 4611686018427387904) (w0 : World) {KK : Act → World → Prop} {QQ : Exit → Act → World → Prop} (Kt : 0 ∉ l → ∀ a, Fr 14 a [(0, .string ⟨l.toArray⟩)] → KK a w0) (Kf : 0 ∈ l → ∀ a, Fr 14 a [(2, .bool false)] → QQ .ret a w0) : ∀ (r i : Nat), i + r = l.length → (∀ j, j < i → l[j]? ≠ some 0) → ∀ a, Fr 14 a [(0, .string ⟨l.toArray⟩), (3, i6_ i)] →
    Code.rounds Tryd.prog (lpOf (spine Tryd.f53 1)) (Exit.inBlock 0 (Exit.then KK QQ)) (r + 1) a w0
  | 0, i, hr, hp, a, HF => by
    rw [rounds_succ]
    refine isText_end l hl w0 Kt Kf i (by omega) (fun hm => ?_) a HF
    obtain ⟨j, hj, e⟩ := List.getElem_of_mem hm
    exact hp j (by omega) (by rw [List.getElem?_eq_getElem hj, e])
  | r + 1, i, hr, hp, a, HF => by
    rw [rounds_succ]
    have hlt : i < l.length := by omega
    have hb : l[i]? = some l[i] := List.getElem?_eq_getElem hlt
    by_cases hz : l[i] = 0
    · exact isText_zero l hl w0 Kt Kf i l[i] hb hlt (by rw [hz]; rfl) (hz ▸ List.getElem_mem hlt) a HF
    · refine isText_next l hl w0 Kt Kf i l[i] hb hlt (beq_eq_false_iff_ne.2 fun e => hz (UInt8.toNat_inj.1 (by simpa using e))) (fun a HF => ?_) a HF
      refine isText_rounds l hl w0 Kt Kf r (i + 1) (by omega) (fun j hj => ?_) a HF
      rcases Nat.lt_or_ge j i with h | h
      · exact hp j h
      · obtain rfl : j = i := by omega
        rw [hb]
        exact fun e => hz (Option.some.inj e)

set_option maxRecDepth 100000 in
set_option maxHeartbeats 1000000 in
theorem isText_any (l : List UInt8) (hl : l.length < 4611686018427387904) (w0 : World) : Calls Tryd.prog 53 #[.string ⟨l.toArray⟩] w0 fun e w' => e = .returned (.bool (decide (0 ∉ l))) ∧ w' = w0 := by
  have HM : Mm [] w0 w0 [] := Mm.start w0
  refine calls_start Tryd.func53 rfl Tryd.ntmps53 [(0, .string ⟨l.toArray⟩)] (by kernel_rfl) (Nat.le_of_ble_eq_true rfl) ?_
  intro a HF
  refine reg_pure HF HM rfl [] [(0, .string ⟨l.toArray⟩), (2, .bool false)] (by kernel_rfl) ?_
  clear HF; intro a HF
  replace HF := HF.sub [(0, .string ⟨l.toArray⟩)] (by kernel_rfl)
  refine wp_seq ?_
  refine reg_pure HF HM rfl [] [(0, .string ⟨l.toArray⟩), (3, i6_ 0)] (by kernel_rfl) ?_
  clear HF; intro a HF
  refine wp_block (wp_loop_rounds (l.length + 1) ?_)
  refine isText_rounds l hl w0 (fun h a HF => ?_) (fun h a HF => ?_) l.length 0 (by omega) (fun j hj => absurd hj (Nat.not_lt_zero j)) a HF
  · have _ := h
    refine wp_seq (wp_region_lit ?_)
    refine wp_pure HF HM rfl 1 [] [(2, .bool true)] (by kernel_rfl) ?_
    clear HF; intro a HF
    refine nil_then ?_
    refine wp_ret ?_
    exact ret_one HF rfl rfl ⟨by rw [decide_eq_true h], rfl⟩
  · exact ret_one HF rfl rfl ⟨by rw [decide_eq_false (by simpa using h)], rfl⟩
end Go.Proofs.YtdgehpocmfjbiaaDoor
namespace Go.Proofs.YtdgehpocmfjbiaaDoor
open Go.RowKit

theorem beq_t {α : Type} [BEq α] [LawfulBEq α] {x y : α} (h : x = y) : (x == y) = true := by simpa using h
theorem beq_f {α : Type} [BEq α] [LawfulBEq α] {x y : α} (h : ¬ x = y) : (x == y) = false := by simpa using h
theorem bne_t {α : Type} [BEq α] [LawfulBEq α] {x y : α} (h : x ≠ y) : (x != y) = true := by simpa using h
theorem bne_f {α : Type} [BEq α] [LawfulBEq α] {x y : α} (h : ¬ x ≠ y) : (x != y) = false := by simpa using h
theorem bool_cases2 (b : Bool) : b = false ∨ b = true := by cases b <;> simp

/-- a loop of n rounds, by an invariant -/
theorem loop_ind {P : Program} {body : Code} {Q : Exit → Act → World → Prop} {a : Act} {w : World} (n : Nat) (Inv : Nat → Act → World → Prop) (h0 : Inv 0 a w)
    (step : ∀ i a w (KX : Act → World → Prop), i < n → Inv i a w → (∀ a w, Inv (i + 1) a w → KX a w) → body.wp P (Exit.then KX Q) a w)
    (last : ∀ a w (KX : Act → World → Prop), Inv n a w → body.wp P (Exit.then KX Q) a w) : (Code.loop body).wp P Q a w := by
  refine wp_loop_rounds (n + 1) ?_
  have key : ∀ r i a w, i + r = n → Inv i a w → Code.rounds P body Q (r + 1) a w := by
    intro r
    induction r with
    | zero =>
      intro i a w hi h
      rw [rounds_succ]
      obtain rfl : i = n := by omega
      exact last a w _ h
    | succ r ih =>
      intro i a w hi h
      rw [rounds_succ]
      exact step i a w _ (by omega) h fun a w h => ih (i + 1) a w (by omega) h
  exact key n 0 a w (by omega) h0

/-- the ways through a piece of code meet again -/
theorem wp_merge {P : Program} {c : Code} {Q : Exit → Act → World → Prop} {a : Act} {w : World} (I : Act → World → Prop) (h : c.wp P (Exit.then I Q) a w) (hr : ∀ a w, I a w → Q .normal a w) : c.wp P Q a w :=
  Code.wp_mono (fun e a w h => by
    cases e with
    | normal => exact hr a w h
    | _ => exact h) h

section
variable {P : Program} {N : Nat} {G : List Nat} {w0 w : World} {a : Act} {L : List (Nat × Obj)} {ops : Array Oper}
theorem Fr.tell {S : Slots} (h : Fr N a S) (t : Nat) {v u : Value} (e : Go.Proofs.YtdgehpocmfjbiaaDoor.lk S t = some v) (hv : v = u) : Fr N a ((t, u) :: S) :=
  ⟨h.1, h.2.1, fun p hp => by
    rcases List.mem_cons.1 hp with rfl | hp
    · exact hv ▸ h.lk e
    · exact h.2.2 p hp⟩
theorem Mm.belowG {w' : World} {g : Nat} (h : Mm G w0 w L) (hb : Below g w w') (hL : ∀ p ∈ L, p.1 < g) (hg : w0.heap.size ≤ g) : Mm G w0 w' L :=
  ⟨⟨hb.os.trans h.1.os, hb.tape.trans h.1.tape, hb.output.trans h.1.output, Nat.le_trans h.1.size hb.size, fun k hk hn => (hb.block k (Nat.lt_of_lt_of_le hk hg)).trans (h.1.block k hk hn)⟩,
    fun p hp => ⟨(hb.block p.1 (hL p hp)).trans (h.2.1 p hp).1, (h.2.1 p hp).2⟩, h.2.2⟩
theorem Mm.pick (h : Mm G w0 w L) (idx : List Nat) (K : List (Nat × Obj)) (e : idx.map (fun i => L[i]?) = K.map some) (hd : idx.Pairwise (· ≠ ·)) : Mm G w0 w K := by
  have hlen : idx.length = K.length := by simpa using congrArg List.length e
  have hat : ∀ (j : Nat) (hj : j < idx.length) (hk : j < K.length), L[idx[j]]? = some K[j] := by
    intro j hj hk
    have := congrArg (fun l => l[j]?) e
    simp only [List.getElem?_map, List.getElem?_eq_getElem hj, List.getElem?_eq_getElem hk, Option.map_some] at this
    exact Option.some.inj this
  refine ⟨h.1, fun p hp => ?_, ?_⟩
  · obtain ⟨j, hj, e2⟩ := List.getElem_of_mem hp
    have := hat j (by omega) hj
    rw [e2] at this
    exact h.2.1 p (List.mem_of_getElem? this)
  · rw [List.pairwise_iff_getElem]
    intro i j hi hj hij
    simp only [List.length_map] at hi hj
    simp only [List.getElem_map]
    have h1 := hat i (by omega) hi
    have h2 := hat j (by omega) hj
    have hne : idx[i]'(by omega) ≠ idx[j]'(by omega) := List.pairwise_iff_getElem.1 hd i j (by omega) (by omega) hij
    exact h.ne (b := K[i].1) (c := K[j].1) (o := K[i].2) (p := K[j].2) h1 h2 hne

/-- append, there is room, onto a told block -/
theorem run_append_room_told (t tx ty e : TypeId) (i : TypeInfo) (ht : P.underlying t = some (.slice e)) (hi : P.info? e = some i) (g n cap : Nat) (x : Value) (m : Nat) (news : List Value) (hs : Src P i.size tx x m news w)
    (cur : Array Value) (hg : w.heap[g]? = some (.cells cur e (0, 0))) (hroom : n + m ≤ cap) (hfit : n * i.size + news.length ≤ cur.size) :
    (Builtin.append_ #[t, tx] ty #[.slice (some ⟨g, 0, none⟩) n cap, x]).run P w = .ok (.slice (some ⟨g, 0, none⟩) (n + m) cap) (w.setRow g (cur.toList.take (n * i.size) ++ news ++ cur.toList.drop (n * i.size + news.length)).toArray) := by
  have hst := run_storeCells_at P g (n * i.size) e news 0 cur w hg (by simpa using hfit) hs.one
  rw [Nat.add_zero] at hst
  have ha : (⟨g, 0, none⟩ : Addr).add (n * i.size) = ⟨g, n * i.size, none⟩ := by rw [addr_add, Nat.zero_add]
  rcases hs.kind with ⟨e', hk⟩ | hk <;> simp [Builtin.append_, run_underlying ht, run_underlying hk, sizeOf, typeInfo, hi, hs.len, hroom, hs.cells, ha, hst]

theorem wp_append_told {Q : Exit → Act → World → Prop} {rest : List Oper} {o : Oper} {S : Slots} (HF : Fr N a S) (HM : Mm G w0 w L) (hgd : o.guard = none) (s x : Operand) (t tx : TypeId)
    (ho : o.op = .call { callee := .builtin .append, args := #[s, x], argTypes := #[t, tx] }) (hd : okD N o.dst = true)
    (e : TypeId) {z : Value} {size bytes : Nat} (ht : P.underlying t = some (.slice e)) (hi : (P.info? e).map (fun i => (i.zero, i.size, i.bytes)) = some (some z, size, bytes)) (hzs : z.cells.size = size) (hsz : 0 < size)
    (i g n cap : Nat) (cur : Array Value) (hL : L[i]? = some (g, .cells cur e (0, 0))) (hs : ev S s = some (.slice (some ⟨g, 0, none⟩) n cap)) (hnc : n ≤ cap) (hcm : cap ≤ maxLen) (hcs : cur.size = cap * size) (xs : List Value) (hxs : cur.toList.take (n * size) = xs)
    (xv : Value) (m : Nat) (news : List Value) (hx : ev S x = some xv) (hsrc : Src P size tx xv m news w)
    (h63 : n + m ≤ maxLen) (hbytes : (n + m) * bytes ≤ 140737488355328)
    (hK : ∀ a' w' g' cap' cur', Mm G w0 w' (L.set i (g', .cells cur' e (0, 0))) → cur'.toList.take ((n + m) * size) = xs ++ news → cur'.size = cap' * size → n + m ≤ cap' → cap' ≤ maxLen → Fr N a' (putS S o.dst (.slice (some ⟨g', 0, none⟩) (n + m) cap')) → wpList P ops Q rest a' w') : wpList P ops Q (o :: rest) a w := by
  obtain ⟨inf, hi0, hz0, hz1, hz2⟩ := info_parts hi
  have hsx : Src P inf.size tx xv m news w := by rw [hz1]; exact hsrc
  have hnl := hsrc.newsLen
  have hnn : (n + m) * size = n * size + m * size := Nat.add_mul _ _ _
  have hle : n * size ≤ cap * size := Nat.mul_le_mul_right _ hnc
  have hxl : xs.length = n * size := by rw [← hxs, List.length_take, Array.length_toList, hcs]; omega
  have hg := HM.get hL
  refine wpList_plain hgd fun K hK' => ?_
  unfold Oper.wp execOp
  have hd1 := HF.ev hs
  have hd2 := HF.ev hx
  by_cases hroom : n + m ≤ cap
  · have hlm : (n + m) * size ≤ cap * size := Nat.mul_le_mul_right _ hroom
    have hr := run_append_room_told (P := P) t tx o.type e inf ht hi0 g n cap xv m news hsx cur hg hroom (by rw [hz1, hcs, hnl]; omega)
    rw [hz1] at hr
    simp only [ho, resolve, invoke, builtin, Sem.run_bind, Sem.run_pure, Result.andThen_ok, List.map_toArray, List.map_cons, List.map_nil, hd1, hd2, hr]
    refine hK' _ _ (hK _ _ g cap _ (HM.set hL _) ?_ ?_ hroom hcm (HF.put _ _ (okD_spec hd)))
    · simp only [hxs]
      rw [hnn, ← hxl, ← hnl, ← List.length_append, List.take_left]
    · simp only [List.size_toArray, List.length_append, List.length_take, List.length_drop, Array.length_toList]
      omega
  · have holds : (Builtin.firstCells inf.size n (.slice (some ⟨g, 0, none⟩) n cap)).run P w.drew = .ok xs.toArray w.drew := by
      refine run_firstCells_some w.drew inf.size n ⟨g, 0, none⟩ n cap xs (by rw [hz1]; exact hxl) fun j u hj => ?_
      rw [addr_add]
      have hc := cell_of_row w.drew g (0 + j) cur e (0, 0) hg
      rw [hc, Nat.zero_add]
      have : (cur.toList.take (n * size))[j]? = some u := by rw [hxs]; exact hj
      rw [List.getElem?_take] at this
      split at this
      · simpa using this
      · cases this
    have hr := run_append_grow_src (P := P) w t tx o.type e inf z ht hi0 hz0 (some ⟨g, 0, none⟩) n cap xs holds xv m news hsx (by omega) (by simp only [maxLen] at h63; omega) (growslice_fits (by omega) (by rw [hz2]; exact hbytes))
    simp only [ho, resolve, invoke, builtin, Sem.run_bind, Sem.run_pure, Result.andThen_ok, List.map_toArray, List.map_cons, List.map_nil, hd1, hd2, hr]
    have hge := grownCap_ge w (n + m) cap e
    have hcm2 : grownCap w (n + m) cap e ≤ maxLen := grownCap_le_maxLen w (n + m) cap e h63
    have hM2 := (HM.drewN 1).alloc (.cells ((xs ++ news).toArray ++ Builtin.zeroCells z.cells (grownCap w (n + m) cap e - (n + m))) e)
    refine hK' _ _ (hK _ _ w.heap.size (grownCap w (n + m) cap e) ((xs ++ news).toArray ++ Builtin.zeroCells z.cells (grownCap w (n + m) cap e - (n + m))) ?_ ?_ ?_ hge hcm2 (HF.put _ _ (okD_spec hd)))
    · refine ⟨hM2.1, fun p hp => ?_, ?_⟩
      · obtain ⟨j, hj⟩ := List.getElem?_of_mem hp
        rw [List.getElem?_set] at hj
        split at hj
        · split at hj
          · injection hj with hj
            subst hj
            exact hM2.2.1 _ List.mem_cons_self
          · cases hj
        · exact hM2.2.1 _ (List.mem_cons_of_mem _ (List.mem_of_getElem? hj))
      · have hp := hM2.2.2
        rw [List.map_cons, List.pairwise_cons] at hp
        rw [List.map_set, List.pairwise_iff_getElem]
        intro j k hj hk hjk
        simp only [List.length_set, List.length_map] at hj hk
        simp only [List.getElem_set, List.getElem_map]
        have h2 := List.pairwise_iff_getElem.1 hp.2 j k (by simpa using hj) (by simpa using hk) hjk
        simp only [List.getElem_map] at h2
        have hm1 : ∀ q (hq : q < L.length), w.heap.size ≠ (L[q]'hq).1 := fun q hq => hp.1 _ (List.mem_map.2 ⟨_, List.getElem_mem hq, rfl⟩)
        split
        · split
          · omega
          · exact hm1 k hk
        · split
          · exact (hm1 j hj).symm
          · exact h2
    · rw [Array.toList_append, List.toList_toArray, hnn, ← hxl, ← hnl, ← List.length_append, List.take_left]
    · simp only [Array.size_append, List.size_toArray, size_zeroCells, hzs, List.length_append, hxl, hnl, ← Nat.add_mul]
      congr 1
      omega

/-- append of zeros ('append(x, make([]byte, m)...)') onto a full told block: a new row -/
theorem wp_append_zeros {Q : Exit → Act → World → Prop} {rest : List Oper} {o : Oper} {S : Slots} (HF : Fr N a S) (HM : Mm G w0 w L) (hgd : o.guard = none) (s x : Operand) (t tx : TypeId)
    (ho : o.op = .call { callee := .builtin .append, args := #[s, x], argTypes := #[t, tx] }) (hd : okD N o.dst = true)
    (e : TypeId) (ht : P.underlying t = some (.slice e)) (htx : P.underlying tx = some (.int .i64)) (hi : (P.info? e).map (fun i => (i.zero, i.size, i.bytes)) = some (some (.int .u8 0), 1, 1))
    (i g n : Nat) (cur : Array Value) (hL : L[i]? = some (g, .cells cur e (0, 0))) (hs : ev S s = some (.slice (some ⟨g, 0, none⟩) n n)) (hcs : cur.size = n)
    (m : Nat) (hm0 : 0 < m) (hm : m ≤ 1000) (hn : n ≤ 1000) (hx : ev S x = some (.int .i64 (m : Int)))
    (hK : ∀ a' w' g' cap' cur', Mm G w0 w' ((g', .cells cur' e (0, 0)) :: L) → w.heap.size ≤ g' → cur'.toList.take ((n + m) * 1) = cur.toList ++ List.replicate m (.int .u8 0) → cur'.size = cap' * 1 → n + m ≤ cap' → cap' ≤ maxLen → Fr N a' (putS S o.dst (.slice (some ⟨g', 0, none⟩) (n + m) cap')) → wpList P ops Q rest a' w') : wpList P ops Q (o :: rest) a w := by
  obtain ⟨inf, hi0, hz0, hz1, hz2⟩ := info_parts hi
  have hg := HM.get hL
  refine wpList_plain hgd fun K hK' => ?_
  unfold Oper.wp execOp
  have hd1 := HF.ev hs
  have hd2 := HF.ev hx
  have holds : (Builtin.firstCells inf.size n (.slice (some ⟨g, 0, none⟩) n n)).run P w.drew = .ok cur.toList.toArray w.drew := by
    refine run_firstCells_some w.drew inf.size n ⟨g, 0, none⟩ n n cur.toList (by rw [hz1, Array.length_toList, hcs, Nat.mul_one]) fun j u hj => ?_
    rw [addr_add]
    have hc := cell_of_row w.drew g (0 + j) cur e (0, 0) hg
    rw [hc, Nat.zero_add]
    simpa using hj
  have hw : IntKind.i64.wrap (m : Int) = (m : Int) := IntWalk.i64_in _ (by omega)
  have hc1 : ¬ (n + m ≤ n) := by omega
  have hge := grownCap_ge w (n + m) n e
  have h63 : n + m ≤ maxLen := by unfold maxLen; omega
  have hcm2 : grownCap w (n + m) n e ≤ maxLen := grownCap_le_maxLen w (n + m) n e h63
  have hfit := growslice_fits (need := n + m) (old := n) (bytes := 1) (by omega) (by omega)
  have hr : (Builtin.append_ #[t, tx] o.type #[.slice (some ⟨g, 0, none⟩) n n, .int .i64 (m : Int)]).run P w = .ok (.slice (some ⟨w.heap.size, 0, none⟩) (n + m) (grownCap w (n + m) n e))
        (w.drew.alloc (.cells ((cur.toList ++ List.replicate m (Value.int .u8 0)).toArray ++ Builtin.zeroCells #[Value.int .u8 0] (grownCap w (n + m) n e - (n + m))) e)) := by
    have h1 : ¬ ((m : Int) < 0) := by omega
    have h2 : ¬ (281474976710656 < (m : Int)) := by omega
    have h3 : ¬ (9223372036854775807 < ((n : Int) + (m : Int))) := by omega
    have h4 : ¬ (281474976710656 < Builtin.nextslicecap (n + m) n * 1) := by omega
    have h4' : ¬ (281474976710656 < Builtin.nextslicecap (n + m) n) := by omega
    have h5 : ¬ (m = 0) := by omega
    rw [hz1] at holds
    have hzc : Builtin.zeroCells #[Value.int .u8 0] m = (List.replicate m (Value.int .u8 0)).toArray := by
      apply Array.ext'
      apply List.ext_getElem
      · simp [Builtin.zeroCells]
      · intro j h1 h2
        simp [Builtin.zeroCells, Nat.mod_one]
    simp [Builtin.append_, run_underlying ht, run_underlying htx, sizeOf, typeInfo, zeroValue, hi0, hz0, hz1, hz2, asInt, asIntOf, hw, h1, h2, h3, h4, h5, hc1, Question.forced, newRow, grownCap, Value.cells, hzc, h4', holds]
    congr 2
    apply Array.ext'
    simp [List.append_assoc]
  simp only [ho, resolve, invoke, builtin, Sem.run_bind, Sem.run_pure, Result.andThen_ok, List.map_toArray, List.map_cons, List.map_nil, hd1, hd2, hr]
  refine hK' _ _ (hK _ _ w.heap.size (grownCap w (n + m) n e) _ ((HM.drewN 1).alloc _) (Nat.le_refl _) ?_ ?_ hge hcm2 (HF.put _ _ (okD_spec hd)))
  · rw [Array.toList_append, List.toList_toArray, Nat.mul_one]
    have hl : (cur.toList ++ List.replicate m (Value.int .u8 0)).length = n + m := by simp [hcs]
    rw [← hl, List.take_left]
  · simp only [Array.size_append, List.size_toArray, size_zeroCells, List.length_append, Array.length_toList, List.length_replicate, hcs]
    simp
    omega
theorem src_row {size : Nat} {tx e' : TypeId} (hk : P.underlying tx = some (.slice e')) {A : Option Addr} {m c : Nat} {news : List Value} (hm : news.length = m * size) (hsz : 0 < size) (hr : Row w A news) (h1 : ∀ u ∈ news, u.oneCell' = true) :
    Src P size tx (.slice A m c) m news w := by
  rcases A with _ | ad
  · have hn : news = [] := by
      rcases news with _ | ⟨x, l⟩
      · rfl
      · obtain ⟨b, off, e, _⟩ := hr 0 x rfl
        cases e
    subst hn
    have hm0 : m = 0 := by
      rcases Nat.eq_zero_or_pos m with h0 | h0
      · exact h0
      · have := Nat.mul_pos h0 hsz
        simp at hm
        omega
    subst hm0
    exact Src.ofNil w hk c
  · refine Src.ofSlice w hk ad m c news hm (fun j u hu => ?_) h1
    obtain ⟨b, off, e, hc⟩ := hr j u hu
    injection e with e
    subst e
    rw [addr_add]
    exact hc
theorem row_takeA {w : World} {A : Option Addr} {cs : List Value} (h : Row w A cs) (k : Nat) : Row w A (cs.take k) := fun i v hv => by
  rw [List.getElem?_take] at hv
  split at hv
  · exact h i v hv
  · cases hv
theorem one_cells {l : List Value} (h : l.all (·.oneCell') = true) : ∀ u ∈ l, u.oneCell' = true := fun u hu => List.all_eq_true.1 h u hu
theorem own_len {cur : Array Value} {n size cap : Nat} {xs : List Value} (tk : cur.toList.take (n * size) = xs) (sz : cur.size = cap * size) (nc : n ≤ cap) : xs.length = n * size := by
  have hle : n * size ≤ cap * size := Nat.mul_le_mul_right _ nc
  rw [← tk, List.length_take, Array.length_toList, sz]
  omega
theorem flat_len {α : Type} {f : α → List Value} {k : Nat} (hk : ∀ a, (f a).length = k) : ∀ l : List α, (l.flatMap f).length = l.length * k
  | [] => by simp
  | x :: l => by rw [List.flatMap_cons, List.length_append, hk, flat_len hk l, List.length_cons, Nat.succ_mul, Nat.add_comm]
theorem flat_one {α : Type} {f : α → List Value} (h : ∀ a, (f a).all (·.oneCell') = true) (l : List α) : ∀ u ∈ l.flatMap f, u.oneCell' = true := fun u hu => by
  obtain ⟨a, _, ha⟩ := List.mem_flatMap.1 hu
  exact List.all_eq_true.1 (h a) u ha
/-- a row of a callee's own, as its contract tells it -/
structure Own (B : Nat) (w : World) (e : TypeId) (size g n cap : Nat) (cur : Array Value) (xs : List Value) : Prop where
  new : B ≤ g
  obj : w.heap[g]? = some (.cells cur e (0, 0))
  tk : cur.toList.take (n * size) = xs
  sz : cur.size = cap * size
  nc : n ≤ cap
  cm : cap ≤ maxLen
theorem Own.row {B : Nat} {w : World} {e : TypeId} {size g n cap : Nat} {cur : Array Value} {xs : List Value} (h : Own B w e size g n cap cur xs) : Row w (some ⟨g, 0, none⟩) xs := by
  have hr : Row w (some ⟨g, 0, none⟩) cur.toList := Row.of_cells fun j hj => by
    rw [cell_of_row w g (0 + j) cur e (0, 0) h.obj, Nat.zero_add]
    have : j < cur.size := by simpa using hj
    simp [this]
  have := row_takeA hr (n * size)
  rwa [h.tk] at this
theorem Own.below {B : Nat} {w w' : World} {e : TypeId} {size g n cap : Nat} {cur : Array Value} {xs : List Value} (h : Own B w e size g n cap cur xs) (hb : Below w.heap.size w w') : Own B w' e size g n cap cur xs :=
  { h with obj := (hb.block g (lt_of_get h.obj)).trans h.obj }
theorem Mm.push2 {w' : World} (h : Mm G w0 w L) (hb : Below w.heap.size w w') {b c : Nat} {o p : Obj} (hg : w.heap.size ≤ b) (ho : w'.heap[b]? = some o) (hc : w.heap.size ≤ c) (hp : w'.heap[c]? = some p) (hne : c ≠ b) : Mm G w0 w' ((c, p) :: (b, o) :: L) := by
  have h1 := h.push hb hg ho
  refine ⟨h1.1, fun q hq => ?_, ?_⟩
  · rcases List.mem_cons.1 hq with rfl | hq
    · exact ⟨hp, .inl (Nat.le_trans h.size hc)⟩
    · exact h1.2.1 q hq
  · rw [List.map_cons, List.pairwise_cons]
    refine ⟨fun d hd => ?_, h1.2.2⟩
    rw [List.map_cons, List.mem_cons] at hd
    rcases hd with rfl | hd
    · exact hne
    · obtain ⟨q, hq, rfl⟩ := List.mem_map.1 hd
      have := lt_of_get (h.2.1 q hq).1
      show c ≠ q.1
      omega
theorem src_string {tx : TypeId} (hk : P.underlying tx = some .string) (l : List UInt8) : Src P 1 tx (.string ⟨l.toArray⟩) l.length (l.map Bv) w := by
  have h := Src.ofString (P := P) w hk (⟨l.toArray⟩ : ByteArray)
  have e : byteCells ⟨l.toArray⟩ = l.map Bv := by simp [byteCells, Bv]
  rw [e] at h
  exact h
/-- the row that a told block of the call's own holds -/
theorem Mm.rowOwn (h : Mm G w0 w L) {i g k : Nat} {cur : Array Value} {t : TypeId} {f : Nat × Nat} {xs : List Value} (e : L[i]? = some (g, .cells cur t f)) (hx : cur.toList.take k = xs) : Row w (some ⟨g, 0, none⟩) xs := by
  have := row_takeA (h.rowAt e) k
  rwa [hx] at this
theorem Told.rowOwn {LS : List (Nat × Obj)} (h : Told LS w) {i g k : Nat} {cur : Array Value} {t : TypeId} {f : Nat × Nat} {xs : List Value} (e : LS[i]? = some (g, .cells cur t f)) (hx : cur.toList.take k = xs) : Row w (some ⟨g, 0, none⟩) xs := by
  have hg : w.heap[g]? = some (.cells cur t f) := h _ (List.mem_of_getElem? e)
  have hr : Row w (some ⟨g, 0, none⟩) cur.toList := Row.of_cells fun j hj => by
    rw [cell_of_row w g (0 + j) cur t f hg, Nat.zero_add]
    have : j < cur.size := by simpa using hj
    simp [this]
  have := row_takeA hr k
  rwa [hx] at this
/-- a cell of an own row is stored -/
theorem wp_store_own {Q : Exit → Act → World → Prop} {rest : List Oper} {o : Oper} {S : Slots} (HF : Fr N a S) (HM : Mm G w0 w L) (hgd : o.guard = none) (ty : TypeId) (x y : Operand) (ho : o.op = .store ty x y) (hd : okD N o.dst = true)
    (i g j : Nat) (cur : Array Value) (e : TypeId) (hL : L[i]? = some (g, .cells cur e (0, 0))) (hx : ev S x = some (.pointer (some ⟨g, j, none⟩))) (v : Value) (hy : ev S y = some v) (hv : v.cells = #[v]) (h1 : v.oneCell' = true) (hj : j < cur.size) (hi : (P.info? ty).map (·.size) = some 1)
    (hK : ∀ a' w' cur', Mm G w0 w' (L.set i (g, .cells cur' e (0, 0))) → cur'.toList = cur.toList.set j v → Fr N a' (putS S o.dst undef) → wpList P ops Q rest a' w') : wpList P ops Q (o :: rest) a w := by
  have hn : ((cur.toList.take j ++ v.cells.toList ++ cur.toList.drop (j + v.cells.size)).toArray).toList = cur.toList.take j ++ v.cells.toList ++ cur.toList.drop (j + v.cells.size) := rfl
  refine wpM_store HM hgd ty x y ho g j (HF.ev hx) v (HF.ev hy) i cur e hL _ hn (by rw [hi, hv]; rfl) (Nat.ble_eq_true_of_le (by rw [hv]; show j + 1 ≤ _; omega)) (by rw [hv]; simp [h1]) fun w' HM' => ?_
  refine hK _ _ _ HM' ?_ (HF.put _ _ (okD_spec hd))
  rw [hn, hv]
  have hl : j < cur.toList.length := by simpa using hj
  rw [List.set_eq_take_append_cons_drop, if_pos hl, List.append_assoc]
  rfl
/-- element j of a row of structs -/
theorem row_elem {α : Type} {A : Option Addr} {f : α → List Value} {k : Nat} {l : List α} (hk : ∀ a, (f a).length = k) (hr : Row w A (l.flatMap f)) (j : Nat) {m : α} (hj : l[j]? = some m) : Row w (A.map (·.add (j * k))) (f m) := by
  obtain ⟨hlt, e⟩ := List.getElem?_eq_some_iff.1 hj
  have hl : ∀ l : List α, (l.flatMap f).length = l.length * k := fun l => by
    induction l with
    | nil => simp
    | cons x l ih => rw [List.flatMap_cons, List.length_append, hk, ih, List.length_cons, Nat.succ_mul, Nat.add_comm]
  have h1 : l.flatMap f = (l.take j).flatMap f ++ (f m ++ (l.drop (j + 1)).flatMap f) := by
    have : l = l.take j ++ (l[j] :: l.drop (j + 1)) := by rw [← List.drop_eq_getElem_cons hlt, List.take_append_drop]
    have h2 : l.flatMap f = (l.take j ++ (l[j] :: l.drop (j + 1))).flatMap f := by rw [← this]
    rw [h2, List.flatMap_append, List.flatMap_cons, e]
  have h3 : ((l.take j).flatMap f).length = j * k := by rw [hl, List.length_take]; congr 1; omega
  have h4 := (hr.drop (j * k)).take k
  rw [h1, ← h3, List.drop_left, ← hk m, List.take_left, h3] at h4
  exact h4
theorem row_elem1 {α : Type} {A : Option Addr} {f : α → Value} {l : List α} (hr : Row w A (l.map f)) (j : Nat) {m : α} (hj : l[j]? = some m) : Row w (A.map (·.add (j * 1))) [f m] := by
  have := row_elem (f := fun a => [f a]) (k := 1) (fun _ => rfl) (l := l) (by rw [← List.map_eq_flatMap]; exact hr) j hj
  exact this
theorem row_some {A : Option Addr} {cs : List Value} (hr : Row w A cs) (h : 0 < cs.length) : ∃ b off, A = some ⟨b, off, none⟩ := by
  obtain ⟨b, off, e, _⟩ := hr 0 cs[0] (List.getElem?_eq_getElem h)
  exact ⟨b, off, e⟩
theorem row_some_elem {A : Option Addr} {k : Nat} {cs : List Value} (hr : Row w (A.map (·.add k)) cs) (h : 0 < cs.length) : A ≠ none := by
  obtain ⟨b, off, e⟩ := row_some hr h
  intro h0; subst h0; cases e
/-- the address of element j -/
theorem run_index_row {t e : TypeId} {k : Nat} (ht : P.underlying t = some (.slice e)) (hi : (P.info? e).map (·.size) = some k) {ρ : Operand → Value} {o : Oper} {x ix : Operand} (ho : o.op = .indexAddr t x ix) {A : Option Addr} {n c : Nat} (j : Nat) {kk : IntKind} (hx : ρ x = .slice A n c) (hj : ρ ix = .int kk (j : Int)) (h : j < n) (hA : A ≠ none) :
    (execOp ρ o).run P w = .ok (.value (.pointer (A.map (·.add (j * k))))) w := by
  obtain ⟨inf, hi1, hi2⟩ := Option.map_eq_some_iff.1 hi
  obtain ⟨ad, rfl⟩ := Option.ne_none_iff_exists'.1 hA
  unfold execOp
  simp only [ho, hx, hj]
  simp [Instr.indexAt, asIntOf, run_underlying ht, sizeOf, typeInfo, hi1, hi2, h]
/-- a struct that lies in a row -/
theorem run_load_row {ρ : Operand → Value} {o : Oper} {ty : TypeId} {x : Operand} (ho : o.op = .load ty x) {A : Option Addr} (hx : ρ x = .pointer A) {cs : List Value} (hr : Row w A cs) (h0 : 0 < cs.length) {d : TypeDesc} (hu : P.underlying ty = some d) (hd : (match d with | .struct _ | .array _ _ => true | _ => false) = true) (hi : (P.info? ty).map (·.size) = some cs.length) :
    (execOp ρ o).run P w = .ok (.value (.agg cs.toArray)) w := by
  obtain ⟨b, off, rfl⟩ := row_some hr h0
  have hl : (loadCells ⟨b, off, none⟩ cs.length).run P w = .ok cs.toArray w :=
    run_loadCells_list (P := P) w ⟨b, off, none⟩ cs (fun j v hv => by
      obtain ⟨b', off', e, hc⟩ := hr j v hv
      injection e with e; injection e with e1 e2
      subst e1; subst e2
      rw [addr_add']; exact hc)
  cases hq : P.info? ty with
  | none => simp [hq] at hi
  | some i =>
    have hs : i.size = cs.length := by simpa [hq] using hi
    have hagg : (isAgg ty).run P w = .ok true w := by
      unfold isAgg
      rw [Sem.run_bind, run_underlying hu w]
      cases d <;> simp_all
    unfold execOp
    simp only [ho, hx, Instr.loadAt, Instr.sureAddr, Sem.run_bind, Sem.run_pure, Result.andThen_ok]
    simp [loadVar, Sem.run_bind, hagg, sizeOf, typeInfo, hq, hs, hl]
theorem run_load_row1 {ρ : Operand → Value} {o : Oper} {ty : TypeId} {x : Operand} (ho : o.op = .load ty x) {A : Option Addr} (hx : ρ x = .pointer A) {v : Value} (hr : Row w A [v]) (hf : flatT P ty = true) :
    (execOp ρ o).run P w = .ok (.value v) w := by
  obtain ⟨b, off, rfl, hc⟩ := hr 0 v rfl
  exact run_load_one ho hx hf hc
end
end Go.Proofs.YtdgehpocmfjbiaaDoor
namespace Go.Proofs.YtdgehpocmfjbiaaDoor
open Go.RowKit

section
variable {P : Program} {N : Nat} {G : List Nat} {w0 w : World} {a : Act} {L : List (Nat × Obj)} {ops : Array Oper}
theorem Mm.old (h : Mm [] w0 w L) {b : Nat} {o : Obj} (e : w0.heap[b]? = some o) : w.heap[b]? = some o := (h.1.block b (lt_of_get e) (by simp)).trans e
/-- an old block is told from here on -/
theorem Mm.tellOld (h : Mm G w0 w L) {b : Nat} {o : Obj} (e : w0.heap[b]? = some o) (hG : b ∉ G) : Mm (b :: G) w0 w ((b, o) :: L) := by
  have hlt := lt_of_get e
  refine ⟨h.1.mono (by simp; exact fun k hk => .inr hk), fun p hp => ?_, ?_⟩
  · rcases List.mem_cons.1 hp with rfl | hp
    · exact ⟨(h.1.block _ hlt hG).trans e, .inr (by simp)⟩
    · exact ⟨(h.2.1 p hp).1, (h.2.1 p hp).2.imp id (fun h => by simp [h])⟩
  · rw [List.map_cons, List.pairwise_cons]
    refine ⟨fun c hc => ?_, h.2.2⟩
    obtain ⟨p, hp, rfl⟩ := List.mem_map.1 hc
    rcases (h.2.1 p hp).2 with h1 | h1
    · show b ≠ p.1; omega
    · intro e; exact hG (by rw [show b = p.1 from e]; exact h1)
/-- .. and no more -/
theorem Mm.hideOld {b : Nat} {o : Obj} (h : Mm (b :: G) w0 w L) (i : Nat) (hL : L[i]? = some (b, o)) (e : w0.heap[b]? = some o) : Mm G w0 w (L.eraseIdx i) := by
  refine ⟨⟨h.1.os, h.1.tape, h.1.output, h.1.size, fun k hk hn => ?_⟩, fun p hp => ?_, ?_⟩
  · by_cases hkb : k = b
    · subst hkb; rw [h.get hL, e]
    · exact h.1.block k hk (by simp [hkb, hn])
  · have hm := List.mem_of_mem_eraseIdx hp
    refine ⟨(h.2.1 p hm).1, (h.2.1 p hm).2.imp id fun hg => ?_⟩
    rcases List.mem_cons.1 hg with hpb | hg
    · exfalso
      obtain ⟨j, hj⟩ := List.getElem?_of_mem hp
      rw [List.getElem?_eraseIdx] at hj
      have hne : ∀ q, L[q]? = some p → q ≠ i → False := fun q hq hqi => (h.ne (b := p.1) (c := b) (o := p.2) (p := o) hq hL hqi) hpb
      split at hj
      · exact hne j hj (by omega)
      · exact hne (j + 1) hj (by omega)
    · exact hg
  · have := h.2.2
    exact this.sublist ((List.eraseIdx_sublist L i).map _)
end
end Go.Proofs.YtdgehpocmfjbiaaDoor
