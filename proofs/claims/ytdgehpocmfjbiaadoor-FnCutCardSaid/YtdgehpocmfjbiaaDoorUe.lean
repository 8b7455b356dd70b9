/- elf.NewFile: one round of the loop over the sections. -/
import Derived.Test.YtdgehpocmfjbiaaDoorUd
set_option linter.unusedVariables false
set_option linter.unusedSimpArgs false
set_option maxRecDepth 100000
set_option maxHeartbeats 2000000
namespace Go.Proofs.YtdgehpocmfjbiaaDoor
open Go.RowKit

structure gV where
 name : Nat
 ty : Nat
 flags : Nat
 addr : Nat
 off : Nat
 bG : Nat
 link : Nat
 info : Nat
 align : Nat
 ent : Nat
theorem Mm.restart {G : List Nat} {w0 w : World} {L : List (Nat × Obj)} (h : Mm G w0 w L) : Mm (L.map (·.1)) w w L := ⟨Keep.refl _ _, fun p hp => ⟨(h.2.1 p hp).1, .inr (List.mem_map_of_mem hp)⟩, h.2.2⟩

abbrev eX := fun (fb : Nat) (dat : Int) (abi : Nat) (aC : Nat) (big : Bool) (aQ : Nat) (aF : Nat) (ay : Nat) (aX : Nat) (i : Nat) (ah : Nat) (pg : Nat) (aj : Nat) => ((fb, .cells #[aN 1, .int .u8 dat, aN 1, aV abi, aV aC, (aP big), aZ aQ, aZ aF, aJ ay, aH aX i ah, aH pg aj aj, aK, aK, aK] 131 (0, 0)) : Nat × Obj)
abbrev kN := fun (b : Nat) (o : Nat) (n : Nat) (c : Nat) (s : Nat) (fb : Nat) (big : Bool) (ak : Nat) (aj : Nat) (au : Nat) (ah : Nat) (aT : Nat) (i : Nat) (sd : Nat) => ([(0, .iface 178 (.slice (some ⟨b, o, none⟩) n c)), (4, aG s), (8, aG fb), (9, (aP big)), (10, aB ak), (11, aA 32), (12, aB aj), (13, aB au), (14, aA 40), (15, aB ah), (16, aB (ah - 1)), (26, aA 40), (41, aH aT i ah), (42, aH sd (ah * 40) (ah * 40)), (43, aB i)] : Slots)
abbrev xQ := fun (fb : Nat) (dat : Int) (abi : Nat) (aC : Nat) (big : Bool) (aQ : Nat) (aF : Nat) (ay : Nat) (aX : Nat) (i : Nat) (ah : Nat) (pg : Nat) (aj : Nat) => ((fb, .cells #[aN 1, .int .u8 dat, aN 1, aV abi, aV aC, (aP big), aZ aQ, aZ aF, aJ ay, aH aX (i + 1) ah, aH pg aj aj, aK, aK, aK] 131 (0, 0)) : Nat × Obj)
abbrev mQ := fun sb (b : Nat) (o : Nat) (n : Nat) (c : Nat) (v : gV) => ((sb, .cells #[.iface 178 (.slice (some ⟨b, o, none⟩) n c), aB v.off, aB v.off, aA (((v.bG : Nat) : Int) + ((v.off : Nat) : Int)), aB v.bG] 246 (0, 0)) : Nat × Obj)
abbrev xP := fun (b : Nat) (o : Nat) (n : Nat) (c : Nat) (s : Nat) (fb : Nat) (big : Bool) (ak : Nat) (aj : Nat) (au : Nat) (ah : Nat) => ([(0, .iface 178 (.slice (some ⟨b, o, none⟩) n c)), (4, aG s), (8, aG fb), (9, (aP big)), (10, aB ak), (11, aA 32), (12, aB aj), (13, aB au), (14, aA 40), (15, aB ah), (16, aB (ah - 1)), (26, aA 40)] : Slots)
abbrev jR := fun z5 => ((z5, .cells #[.string ⟨#[]⟩, lu 0, lu 0, bD 0, bD 0, bD 0, lu 0, lu 0, bD 0, bD 0, bD 0, .nilIface, .pointer none, aA 0, aA 0] 153 (0, 0)) : Nat × Obj)
abbrev eH := fun (b : Nat) (o : Nat) (n : Nat) (c : Nat) (s : Nat) (fb : Nat) (big : Bool) (ak : Nat) (aj : Nat) (au : Nat) (ah : Nat) (sd : Nat) (i : Nat) z5 (aT : Nat) => ((xP b o n c s fb big ak aj au ah) ++ [(42, aH sd (ah * 40) (ah * 40)), (43, aB i), (44, aJ (i * 40)), (45, aG z5), (41, aH aT (i + 1) ah)] : Slots)
abbrev LH := fun (sd : Nat) (i : Nat) (ah : Nat) => ((889, .slice (some ⟨sd, ((i * 40) + 4), none⟩) ((ah * 40) - ((i * 40) + 4)) ((ah * 40) - ((i * 40) + 4))) : Nat × Value)
abbrev xO := fun (b : Nat) (o : Nat) (n : Nat) (c : Nat) (s : Nat) (fb : Nat) (big : Bool) (ak : Nat) (aj : Nat) (au : Nat) (ah : Nat) (sd : Nat) (i : Nat) z5 (aT : Nat) => ((eH b o n c s fb big ak aj au ah sd i z5 aT) ++ [(884, aG z5), (885, (aP big)), (889, .slice (some ⟨sd, ((i * 40) + 4), none⟩) ((ah * 40) - ((i * 40) + 4)) ((ah * 40) - ((i * 40) + 4)))] : Slots)
abbrev Bj := fun (sd : Nat) (i : Nat) (ah : Nat) => ((895, .slice (some ⟨sd, ((i * 40) + 8), none⟩) ((ah * 40) - ((i * 40) + 8)) ((ah * 40) - ((i * 40) + 8))) : Nat × Value)
abbrev vZ := fun (b : Nat) (o : Nat) (n : Nat) (c : Nat) (s : Nat) (fb : Nat) (big : Bool) (ak : Nat) (aj : Nat) (au : Nat) (ah : Nat) (sd : Nat) (i : Nat) z5 (aT : Nat) => ((xO b o n c s fb big ak aj au ah sd i z5 aT) ++ [(891, (aP big)), (895, .slice (some ⟨sd, ((i * 40) + 8), none⟩) ((ah * 40) - ((i * 40) + 8)) ((ah * 40) - ((i * 40) + 8)))] : Slots)
abbrev tK := fun (sd : Nat) (i : Nat) (ah : Nat) => ((901, .slice (some ⟨sd, ((i * 40) + 12), none⟩) ((ah * 40) - ((i * 40) + 12)) ((ah * 40) - ((i * 40) + 12))) : Nat × Value)
abbrev vY := fun (b : Nat) (o : Nat) (n : Nat) (c : Nat) (s : Nat) (fb : Nat) (big : Bool) (ak : Nat) (aj : Nat) (au : Nat) (ah : Nat) (sd : Nat) (i : Nat) z5 (aT : Nat) => ((vZ b o n c s fb big ak aj au ah sd i z5 aT) ++ [(897, (aP big)), (901, .slice (some ⟨sd, ((i * 40) + 12), none⟩) ((ah * 40) - ((i * 40) + 12)) ((ah * 40) - ((i * 40) + 12)))] : Slots)
abbrev tJ := fun (sd : Nat) (i : Nat) (ah : Nat) => ((908, .slice (some ⟨sd, ((i * 40) + 16), none⟩) ((ah * 40) - ((i * 40) + 16)) ((ah * 40) - ((i * 40) + 16))) : Nat × Value)
abbrev vX := fun (b : Nat) (o : Nat) (n : Nat) (c : Nat) (s : Nat) (fb : Nat) (big : Bool) (ak : Nat) (aj : Nat) (au : Nat) (ah : Nat) (sd : Nat) (i : Nat) z5 (aT : Nat) => ((vY b o n c s fb big ak aj au ah sd i z5 aT) ++ [(904, (aP big)), (908, .slice (some ⟨sd, ((i * 40) + 16), none⟩) ((ah * 40) - ((i * 40) + 16)) ((ah * 40) - ((i * 40) + 16)))] : Slots)
abbrev tH := fun (sd : Nat) (i : Nat) (ah : Nat) => ((915, .slice (some ⟨sd, ((i * 40) + 20), none⟩) ((ah * 40) - ((i * 40) + 20)) ((ah * 40) - ((i * 40) + 20))) : Nat × Value)
abbrev vW := fun (b : Nat) (o : Nat) (n : Nat) (c : Nat) (s : Nat) (fb : Nat) (big : Bool) (ak : Nat) (aj : Nat) (au : Nat) (ah : Nat) (sd : Nat) (i : Nat) z5 (aT : Nat) => ((vX b o n c s fb big ak aj au ah sd i z5 aT) ++ [(911, (aP big)), (915, .slice (some ⟨sd, ((i * 40) + 20), none⟩) ((ah * 40) - ((i * 40) + 20)) ((ah * 40) - ((i * 40) + 20)))] : Slots)
abbrev tC := fun (sd : Nat) (i : Nat) (ah : Nat) => ((922, .slice (some ⟨sd, ((i * 40) + 24), none⟩) ((ah * 40) - ((i * 40) + 24)) ((ah * 40) - ((i * 40) + 24))) : Nat × Value)
abbrev vV := fun (b : Nat) (o : Nat) (n : Nat) (c : Nat) (s : Nat) (fb : Nat) (big : Bool) (ak : Nat) (aj : Nat) (au : Nat) (ah : Nat) (sd : Nat) (i : Nat) z5 (aT : Nat) => ((vW b o n c s fb big ak aj au ah sd i z5 aT) ++ [(918, (aP big)), (922, .slice (some ⟨sd, ((i * 40) + 24), none⟩) ((ah * 40) - ((i * 40) + 24)) ((ah * 40) - ((i * 40) + 24)))] : Slots)
abbrev pX := fun (sd : Nat) (i : Nat) (ah : Nat) => ((928, .slice (some ⟨sd, ((i * 40) + 28), none⟩) ((ah * 40) - ((i * 40) + 28)) ((ah * 40) - ((i * 40) + 28))) : Nat × Value)
abbrev vU := fun (b : Nat) (o : Nat) (n : Nat) (c : Nat) (s : Nat) (fb : Nat) (big : Bool) (ak : Nat) (aj : Nat) (au : Nat) (ah : Nat) (sd : Nat) (i : Nat) z5 (aT : Nat) => ((vV b o n c s fb big ak aj au ah sd i z5 aT) ++ [(924, (aP big)), (928, .slice (some ⟨sd, ((i * 40) + 28), none⟩) ((ah * 40) - ((i * 40) + 28)) ((ah * 40) - ((i * 40) + 28)))] : Slots)
abbrev nM := fun (sd : Nat) (i : Nat) (ah : Nat) => ((934, .slice (some ⟨sd, ((i * 40) + 32), none⟩) ((ah * 40) - ((i * 40) + 32)) ((ah * 40) - ((i * 40) + 32))) : Nat × Value)
abbrev tu := fun (b : Nat) (o : Nat) (n : Nat) (c : Nat) (s : Nat) (fb : Nat) (big : Bool) (ak : Nat) (aj : Nat) (au : Nat) (ah : Nat) (sd : Nat) (i : Nat) z5 (aT : Nat) => ((vU b o n c s fb big ak aj au ah sd i z5 aT) ++ [(930, (aP big)), (934, .slice (some ⟨sd, ((i * 40) + 32), none⟩) ((ah * 40) - ((i * 40) + 32)) ((ah * 40) - ((i * 40) + 32)))] : Slots)
abbrev lT := fun (sd : Nat) (i : Nat) (ah : Nat) => ((941, .slice (some ⟨sd, ((i * 40) + 36), none⟩) ((ah * 40) - ((i * 40) + 36)) ((ah * 40) - ((i * 40) + 36))) : Nat × Value)
abbrev zJ := fun (b : Nat) (o : Nat) (n : Nat) (c : Nat) (s : Nat) (fb : Nat) (big : Bool) (ak : Nat) (aj : Nat) (au : Nat) (ah : Nat) (sd : Nat) (i : Nat) z5 (aT : Nat) (v : gV) => ((eH b o n c s fb big ak aj au ah sd i z5 aT) ++ [(884, aG z5), (904, (aP big)), (908, .slice (some ⟨sd, ((i * 40) + 16), none⟩) ((ah * 40) - ((i * 40) + 16)) ((ah * 40) - ((i * 40) + 16))), (911, (aP big)), (915, .slice (some ⟨sd, ((i * 40) + 20), none⟩) ((ah * 40) - ((i * 40) + 20)) ((ah * 40) - ((i * 40) + 20))), (918, (aP big)), (922, .slice (some ⟨sd, ((i * 40) + 24), none⟩) ((ah * 40) - ((i * 40) + 24)) ((ah * 40) - ((i * 40) + 24))), (924, (aP big)), (928, .slice (some ⟨sd, ((i * 40) + 28), none⟩) ((ah * 40) - ((i * 40) + 28)) ((ah * 40) - ((i * 40) + 28))), (930, (aP big)), (934, .slice (some ⟨sd, ((i * 40) + 32), none⟩) ((ah * 40) - ((i * 40) + 32)) ((ah * 40) - ((i * 40) + 32))), (937, (aP big)), (941, .slice (some ⟨sd, ((i * 40) + 36), none⟩) ((ah * 40) - ((i * 40) + 36)) ((ah * 40) - ((i * 40) + 36))), (890, aY v.ty), (896, aY v.flags)] : Slots)
abbrev zI := fun (b : Nat) (o : Nat) (n : Nat) (c : Nat) (s : Nat) (fb : Nat) (big : Bool) (ak : Nat) (aj : Nat) (au : Nat) (ah : Nat) (sd : Nat) (i : Nat) z5 (aT : Nat) (v : gV) => ((eH b o n c s fb big ak aj au ah sd i z5 aT) ++ [(884, aG z5), (911, (aP big)), (915, .slice (some ⟨sd, ((i * 40) + 20), none⟩) ((ah * 40) - ((i * 40) + 20)) ((ah * 40) - ((i * 40) + 20))), (918, (aP big)), (922, .slice (some ⟨sd, ((i * 40) + 24), none⟩) ((ah * 40) - ((i * 40) + 24)) ((ah * 40) - ((i * 40) + 24))), (924, (aP big)), (928, .slice (some ⟨sd, ((i * 40) + 28), none⟩) ((ah * 40) - ((i * 40) + 28)) ((ah * 40) - ((i * 40) + 28))), (930, (aP big)), (934, .slice (some ⟨sd, ((i * 40) + 32), none⟩) ((ah * 40) - ((i * 40) + 32)) ((ah * 40) - ((i * 40) + 32))), (937, (aP big)), (941, .slice (some ⟨sd, ((i * 40) + 36), none⟩) ((ah * 40) - ((i * 40) + 36)) ((ah * 40) - ((i * 40) + 36))), (890, aY v.ty), (896, aY v.flags), (903, aJ v.addr)] : Slots)
abbrev zH := fun (b : Nat) (o : Nat) (n : Nat) (c : Nat) (s : Nat) (fb : Nat) (big : Bool) (ak : Nat) (aj : Nat) (au : Nat) (ah : Nat) (sd : Nat) (i : Nat) z5 (aT : Nat) (v : gV) => ((eH b o n c s fb big ak aj au ah sd i z5 aT) ++ [(884, aG z5), (918, (aP big)), (922, .slice (some ⟨sd, ((i * 40) + 24), none⟩) ((ah * 40) - ((i * 40) + 24)) ((ah * 40) - ((i * 40) + 24))), (924, (aP big)), (928, .slice (some ⟨sd, ((i * 40) + 28), none⟩) ((ah * 40) - ((i * 40) + 28)) ((ah * 40) - ((i * 40) + 28))), (930, (aP big)), (934, .slice (some ⟨sd, ((i * 40) + 32), none⟩) ((ah * 40) - ((i * 40) + 32)) ((ah * 40) - ((i * 40) + 32))), (937, (aP big)), (941, .slice (some ⟨sd, ((i * 40) + 36), none⟩) ((ah * 40) - ((i * 40) + 36)) ((ah * 40) - ((i * 40) + 36))), (890, aY v.ty), (896, aY v.flags), (903, aJ v.addr), (910, aJ v.off)] : Slots)
abbrev zG := fun (b : Nat) (o : Nat) (n : Nat) (c : Nat) (s : Nat) (fb : Nat) (big : Bool) (ak : Nat) (aj : Nat) (au : Nat) (ah : Nat) (sd : Nat) (i : Nat) z5 (aT : Nat) (v : gV) => ((eH b o n c s fb big ak aj au ah sd i z5 aT) ++ [(884, aG z5), (937, (aP big)), (941, .slice (some ⟨sd, ((i * 40) + 36), none⟩) ((ah * 40) - ((i * 40) + 36)) ((ah * 40) - ((i * 40) + 36))), (890, aY v.ty), (896, aY v.flags), (903, aJ v.addr), (910, aJ v.off), (917, aJ v.bG), (923, aY v.link), (929, aY v.info)] : Slots)
abbrev zF := fun (b : Nat) (o : Nat) (n : Nat) (c : Nat) (s : Nat) (fb : Nat) (big : Bool) (ak : Nat) (aj : Nat) (au : Nat) (ah : Nat) (sd : Nat) (i : Nat) z5 (aT : Nat) (v : gV) => ((eH b o n c s fb big ak aj au ah sd i z5 aT) ++ [(884, aG z5), (890, aY v.ty), (896, aY v.flags), (903, aJ v.addr), (910, aJ v.off), (917, aJ v.bG), (923, aY v.link), (929, aY v.info), (936, aJ v.align)] : Slots)
abbrev Eb := fun (v : gV) => ((944, .agg #[.string ⟨#[]⟩, aY (v).ty, aY (v).flags, aJ (v).addr, aJ (v).off, bD 0, aY (v).link, aY (v).info, aJ (v).align, aJ (v).ent, aJ (v).bG]) : Nat × Value)
abbrev ru := fun z5 (v : gV) => ((z5, .cells #[.string ⟨#[]⟩, aY (v).ty, aY (v).flags, aJ (v).addr, aJ (v).off, bD 0, aY (v).link, aY (v).info, aJ (v).align, aJ (v).ent, aJ (v).bG, .nilIface, .pointer none, aA 0, aA 0] 153 (0, 0)) : Nat × Obj)
abbrev pW := fun (b : Nat) (o : Nat) (n : Nat) (c : Nat) (s : Nat) (fb : Nat) (big : Bool) (ak : Nat) (aj : Nat) (au : Nat) (ah : Nat) (sd : Nat) (i : Nat) z5 (aT : Nat) => ((eH b o n c s fb big ak aj au ah sd i z5 aT) ++ [(1059, aG z5), (1060, .iface 178 (.slice (some ⟨b, o, none⟩) n c))] : Slots)
abbrev Ec := fun z5 (v : gV) sb => ((z5, .cells #[.string ⟨#[]⟩, aY (v).ty, aY (v).flags, aJ (v).addr, aJ (v).off, bD 0, aY (v).link, aY (v).info, aJ (v).align, aJ (v).ent, aJ (v).bG, .nilIface, aG sb, aA 0, aA 0] 153 (0, 0)) : Nat × Obj)
abbrev qZ := fun z5 (v : gV) sb => ((z5, .cells #[.string ⟨#[]⟩, aY (v).ty, aY (v).flags, aJ (v).addr, aJ (v).off, aJ (v).bG, aY (v).link, aY (v).info, aJ (v).align, aJ (v).ent, aJ (v).bG, .iface 144 (aG sb), aG sb, aA 0, aA 0] 153 (0, 0)) : Nat × Obj)
theorem Oy (l : List UInt8) (b o n c : Nat) (hl : n = l.length) (hnc : n ≤ c) (big : Bool) (abi aC aQ aF ay ak aj au ah : Nat) (dat : Int) (b1 : aQ < 65536) (b2 : aF < 65536) (b3 : ay ≤ 18446744073709551615) (b4 : ak < 4611686018427387904) (b5 : au < 4611686018427387904) (b6 : aj < 200) (b7 : ah < 200) (X : List UInt8) (nI : X.length = (ah * 40)) (i : Nat) (hi : i < ah) (v : gV) (hv : uH (X.drop (i * 40)) false big v.name v.ty v.flags v.addr v.off v.bG v.link v.info v.align v.ent) (v1 : v.name < 4294967296) (v2 : v.ty < 4294967296) (v3 : v.flags < 4294967296) (v4 : v.off < 4611686018427387904) (v5 : v.bG < 4611686018427387904) (v6 : v.addr ≤ 18446744073709551615) (v7 : v.align ≤ 18446744073709551615) (v8 : v.ent ≤ 18446744073709551615) (v9 : (oC (v.flags : Int) 2048 == 0) = true)
  {K0 : Act → World → Prop} {Q : Exit → Act → World → Prop} (a : Act) (W1 : World) (s fb pg aX aT sd : Nat) (cur nms : Array Value) (hcs : cur.size = ah) (hns : nms.size = ah) (Iz : Mm [fb, aX, aT, sd] W1 W1 [eX fb dat abi aC big aQ aF ay aX i ah pg aj, (aX, .cells cur 133 (0, 0)), (aT, .cells nms 36 (0, 0)), (sd, .cells (X.map Bv).toArray 5 (0, 0))]) (HF : Fr 1287 a (kN b o n c s fb big ak aj au ah aT i sd))
  (K : ∀ a w' pb sb cur' fG, cur'.size = ah → fG.size = ah → cur'.toList.take (i + 1) = cur.toList.take i ++ [aG pb] → fG.toList.take (i + 1) = nms.toList.take i ++ [aY v.name] → Fr 1287 a ((xP b o n c s fb big ak aj au ah) ++ [(41, aH aT (i + 1) ah), (42, aH sd (ah * 40) (ah * 40)), (43, aB (i + 1))]) → Mm [fb, aX, aT, sd] W1 w' [mQ sb b o n c v, (pb, .cells #[.string ⟨#[]⟩, aY (v).ty, aY (v).flags, aJ (v).addr, aJ (v).off, aJ (v).bG, aY (v).link, aY (v).info, aJ (v).align, aJ (v).ent, aJ (v).bG, .iface 144 (aG sb), aG sb, aA 0, aA 0] 153 (0, 0)), xQ fb dat abi aC big aQ aF ay aX i ah pg aj, (aX, .cells cur' 133 (0, 0)), (aT, .cells fG 36 (0, 0)), (sd, .cells (X.map Bv).toArray 5 (0, 0))] → K0 a w') : (oD (spine Tryd.f78 44)).wp Tryd.prog (Exit.then K0 Q) a W1 := by
 obtain ⟨i0, hi0, hs0⟩ := qV
 have en : num big X ((i * 40) + 0) 4 = v.name := (fF big X (i * 40) 0 4).symm.trans hv.name
 have Nu : num big X ((i * 40) + 4) 4 = v.ty := (fF big X (i * 40) 4 4).symm.trans hv.ty
 have EZ : num big X ((i * 40) + 8) 4 = v.flags := (fF big X (i * 40) 8 4).symm.trans hv.flags
 have Io : num big X ((i * 40) + 12) 4 = v.addr := (fF big X (i * 40) 12 4).symm.trans hv.addr
 have KH : num big X ((i * 40) + 16) 4 = v.off := (fF big X (i * 40) 16 4).symm.trans hv.off
 have KI : num big X ((i * 40) + 20) 4 = v.bG := (fF big X (i * 40) 20 4).symm.trans hv.size
 have Ik : num big X ((i * 40) + 24) 4 = v.link := (fF big X (i * 40) 24 4).symm.trans hv.link
 have Il : num big X ((i * 40) + 28) 4 = v.info := (fF big X (i * 40) 28 4).symm.trans hv.info
 have E5 : num big X ((i * 40) + 32) 4 = v.align := (fF big X (i * 40) 32 4).symm.trans hv.align
 have KJ : num big X ((i * 40) + 36) 4 = v.ent := (fF big X (i * 40) 36 4).symm.trans hv.ent
 obtain ⟨w, hw⟩ : ∃ w, W1 = w := ⟨_, rfl⟩
 have HM : Mm [fb, aX, aT, sd] W1 w [eX fb dat abi aC big aQ aF ay aX i ah pg aj, (aX, .cells cur 133 (0, 0)), (aT, .cells nms 36 (0, 0)), (sd, .cells (X.map Bv).toArray 5 (0, 0))] := hw ▸ Iz
 conv => arg 5; rw [hw]
 clear hw Iz
 refine wp_seq ?_
 refine wp_seq (wp_region_lit ?_)
 refine aO HF HM rfl 3 [] ((kN b o n c s fb big ak aj au ah aT i sd) ++ [(859, .bool (decide (((i : Nat) : Int) < ((ah : Nat) : Int))))]) [eX fb dat abi aC big aQ aF ay aX i ah pg aj, (aX, .cells cur 133 (0, 0)), (aT, .cells nms 36 (0, 0)), (sd, .cells (X.map Bv).toArray 5 (0, 0))] (by kernel_rfl) ?_
 clear HF HM; intro a w HF HM
 rw [show decide (((i : Nat) : Int) < ((ah : Nat) : Int)) = true from dM (by omega)] at HF
 refine aI ?_
 refine bF HF rfl ?_
 refine wp_skip ?_
 repeat (first | refine aS ?_ | refine aU ?_)
 replace HF := HF.sub (kN b o n c s fb big ak aj au ah aT i sd) (by kernel_rfl)
 refine wp_seq (wp_block ?_)
 refine wp_seq (wp_region_lit ?_)
 refine aO HF HM rfl 2 [] ((kN b o n c s fb big ak aj au ah aT i sd) ++ [(863, bD (IntKind.u64.wrap ((i : Nat) : Int)))]) [eX fb dat abi aC big aQ aF ay aX i ah pg aj, (aX, .cells cur 133 (0, 0)), (aT, .cells nms 36 (0, 0)), (sd, .cells (X.map Bv).toArray 5 (0, 0))] (by kernel_rfl) ?_
 clear HF HM; intro a w HF HM
 rw [show IntKind.u64.wrap ((i : Nat) : Int) = ((i : Nat) : Int) from IntWalk.u64_in _ (by omega)] at HF
 refine aO HF HM rfl 3 [] ((kN b o n c s fb big ak aj au ah aT i sd) ++ [(866, bD (IntKind.u64.wrap (((i : Nat) : Int) * 40)))]) [eX fb dat abi aC big aQ aF ay aX i ah pg aj, (aX, .cells cur 133 (0, 0)), (aT, .cells nms 36 (0, 0)), (sd, .cells (X.map Bv).toArray 5 (0, 0))] (by kernel_rfl) ?_
 clear HF HM; intro a w HF HM
 rw [show IntKind.u64.wrap (((i : Nat) : Int) * 40) = (((i * 40) : Nat) : Int) from (IntWalk.u64_in _ (by omega)).trans (by omega)] at HF
 refine aO HF HM rfl 1 [] ((kN b o n c s fb big ak aj au ah aT i sd) ++ [(44, aJ (i * 40))]) [eX fb dat abi aC big aQ aF ay aX i ah pg aj, (aX, .cells cur 133 (0, 0)), (aT, .cells nms 36 (0, 0)), (sd, .cells (X.map Bv).toArray 5 (0, 0))] (by kernel_rfl) ?_
 clear HF HM; intro a w HF HM
 refine aI ?_
 obtain ⟨z5, vF⟩ : ∃ z, w.heap.size = z := ⟨_, rfl⟩
 refine bC HF HM vF [] ((kN b o n c s fb big ak aj au ah aT i sd) ++ [(44, aJ (i * 40)), (45, aG z5)]) [jR z5, eX fb dat abi aC big aQ aF ay aX i ah pg aj, (aX, .cells cur 133 (0, 0)), (aT, .cells nms 36 (0, 0)), (sd, .cells (X.map Bv).toArray 5 (0, 0))] (by kernel_rfl) ?_
 clear HF HM vF; intro a w HF HM
 refine wp_seq ?_
 refine bC HF HM rfl [[3]] ((kN b o n c s fb big ak aj au ah aT i sd) ++ [(44, aJ (i * 40)), (45, aG z5), (872, aN 1)]) [jR z5, eX fb dat abi aC big aQ aF ay aX i ah pg aj, (aX, .cells cur 133 (0, 0)), (aT, .cells nms 36 (0, 0)), (sd, .cells (X.map Bv).toArray 5 (0, 0))] (by kernel_rfl) ?_
 clear HF HM; intro a w HF HM
 refine wp_block ?_
 refine bC HF HM rfl [] ((kN b o n c s fb big ak aj au ah aT i sd) ++ [(44, aJ (i * 40)), (45, aG z5), (872, aN 1), (873, .bool true)]) [jR z5, eX fb dat abi aC big aQ aF ay aX i ah pg aj, (aX, .cells cur 133 (0, 0)), (aT, .cells nms 36 (0, 0)), (sd, .cells (X.map Bv).toArray 5 (0, 0))] (by kernel_rfl) ?_
 clear HF HM; intro a w HF HM
 refine bF HF rfl ?_
 replace HF := HF.sub ((kN b o n c s fb big ak aj au ah aT i sd) ++ [(44, aJ (i * 40)), (45, aG z5)]) (by kernel_rfl)
 refine wp_seq (wp_region_lit ?_)
 refine aO HF HM rfl 5 [] ((kN b o n c s fb big ak aj au ah aT i sd) ++ [(44, aJ (i * 40)), (45, aG z5), (875, aH aT i ah), (876, (aP big)), (877, aH sd (ah * 40) (ah * 40)), (879, bD (IntKind.u64.wrap ((((i * 40) : Nat) : Int) + 0)))]) [jR z5, eX fb dat abi aC big aQ aF ay aX i ah pg aj, (aX, .cells cur 133 (0, 0)), (aT, .cells nms 36 (0, 0)), (sd, .cells (X.map Bv).toArray 5 (0, 0))] (by kernel_rfl) ?_
 clear HF HM; intro a w HF HM
 rw [show IntKind.u64.wrap ((((i * 40) : Nat) : Int) + 0) = ((((i * 40) + 0) : Nat) : Int) from (IntWalk.u64_in _ (by omega)).trans (by omega)] at HF
 refine dP HF (by kernel_rfl) (.slice (some ⟨sd, ((i * 40) + 0), none⟩) ((ah * 40) - ((i * 40) + 0)) ((ah * 40) - ((i * 40) + 0))) (by kernel_rfl) (eF (t := 33) Tryd.underlying33 hi0 hs0 rfl ((i * 40) + 0) (kk := .u64) rfl rfl (by omega) (by omega) (by omega) _) ?_
 clear HF; intro a HF; replace HF := HF.sub ((kN b o n c s fb big ak aj au ah aT i sd) ++ [(44, aJ (i * 40)), (45, aG z5), (875, aH aT i ah), (876, (aP big)), (877, aH sd (ah * 40) (ah * 40)), (879, aJ ((i * 40) + 0)), (880, .slice (some ⟨sd, ((i * 40) + 0), none⟩) ((ah * 40) - ((i * 40) + 0)) ((ah * 40) - ((i * 40) + 0)))]) (by kernel_rfl)
 refine bn HF (by kernel_rfl) 87 #[(aP big), .slice (some ⟨sd, ((i * 40) + 0), none⟩) ((ah * 40) - ((i * 40) + 0)) ((ah * 40) - ((i * 40) + 0))] (by kernel_rfl) (fun w => by kernel_rfl) (Calls.mono (jB (HM.get (i := 4) rfl) (by unfold maxLen; omega) big ((i * 40) + 0) ((ah * 40) - ((i * 40) + 0)) (by omega) (by omega) ((v.name : Nat) : Int) (by rw [en])) ?_)
 rintro _ w1 ⟨rfl, jG, hq⟩
 replace HM : Mm [fb, aX, aT, sd] W1 w1 [jR z5, eX fb dat abi aC big aQ aF ay aX i ah pg aj, (aX, .cells cur 133 (0, 0)), (aT, .cells nms 36 (0, 0)), (sd, .cells (X.map Bv).toArray 5 (0, 0))] := by rw [hq]; exact HM.drewN _
 clear hq
 refine ⟨_, rfl, ?_⟩; clear HF; intro a HF; replace HF := HF.sub ((kN b o n c s fb big ak aj au ah aT i sd) ++ [(44, aJ (i * 40)), (45, aG z5), (875, aH aT i ah), (876, (aP big)), (877, aH sd (ah * 40) (ah * 40)), (879, aJ ((i * 40) + 0)), (880, .slice (some ⟨sd, ((i * 40) + 0), none⟩) ((ah * 40) - ((i * 40) + 0)) ((ah * 40) - ((i * 40) + 0))), (881, aY v.name)]) (by kernel_rfl)
 obtain ⟨z9, hz9⟩ : ∃ z, w1.heap.size = z := ⟨_, rfl⟩
 refine aO HF HM hz9 1 [] ((kN b o n c s fb big ak aj au ah aT i sd) ++ [(44, aJ (i * 40)), (45, aG z5), (875, aH aT i ah), (882, aH z9 1 1)]) [(z9, .cells #[aY v.name] 36 (0, 0)), jR z5, eX fb dat abi aC big aQ aF ay aX i ah pg aj, (aX, .cells cur 133 (0, 0)), (aT, .cells nms 36 (0, 0)), (sd, .cells (X.map Bv).toArray 5 (0, 0))] (by kernel_rfl) ?_
 clear HF HM hz9; intro a w HF HM
 refine oW HF HM rfl _ _ 222 rfl rfl 36 (lu 0) 4 Tryd.underlying222 rY 4 0 aT _ i ah nms _ _ rfl hns (by omega) (by unfold maxLen; omega) rfl rfl rfl rfl ?_
 intro a2 w2 fG DI htn bI HF2; clear HF HM; have HM : Mm [fb, aX, aT, sd] W1 w2 [(z9, .cells #[aY v.name] 36 (0, 0)), jR z5, eX fb dat abi aC big aQ aF ay aX i ah pg aj, (aX, .cells cur 133 (0, 0)), (aT, .cells fG 36 (0, 0)), (sd, .cells (X.map Bv).toArray 5 (0, 0))] := bI; have HF := HF2; clear bI HF2
 replace HF := HF.sub ((kN b o n c s fb big ak aj au ah aT i sd) ++ [(44, aJ (i * 40)), (45, aG z5), (883, aH aT (i + 1) ah)]) (by kernel_rfl)
 refine aO HF HM rfl 1 [] (eH b o n c s fb big ak aj au ah sd i z5 aT) [(z9, .cells #[aY v.name] 36 (0, 0)), jR z5, eX fb dat abi aC big aQ aF ay aX i ah pg aj, (aX, .cells cur 133 (0, 0)), (aT, .cells fG 36 (0, 0)), (sd, .cells (X.map Bv).toArray 5 (0, 0))] (by kernel_rfl) ?_
 clear HF HM; intro a w HF HM
 refine aI ?_
 refine sG HM (by kernel_rfl) [(sd, .cells (X.map Bv).toArray 5 (0, 0))] [(0, false), (1, false), (2, false), (3, false), (4, false), (5, false), (7, false), (8, false), (9, false), (10, false), (11, false), (13, false), (14, false), (15, false), (16, false), (17, false), (20, false), (21, false), (22, false), (23, false), (24, false), (27, false), (28, false), (29, false), (30, false), (31, false), (34, false), (35, false), (36, false), (37, false), (38, false), (40, false), (41, false), (42, false), (43, false), (44, false), (46, false), (47, false), (48, false), (49, false), (50, false), (53, false), (54, false), (55, false), (56, false), (57, false), (6, true), (12, true), (18, true), (19, false), (25, true), (26, false), (32, true), (33, false), (39, true), (45, true), (51, true), (52, false), (58, true), (59, false), (60, false), (61, false), (62, false), (63, true)] (by kernel_rfl) ?_
 clear HM; intro w3 HM
 refine bH HF (HM.told [5] rfl) 1 [] ((eH b o n c s fb big ak aj au ah sd i z5 aT) ++ [(884, aG z5)]) (by kernel_rfl) ?_
 clear HF; intro a HF
 refine bH HF (HM.told [5] rfl) 4 [] ((eH b o n c s fb big ak aj au ah sd i z5 aT) ++ [(884, aG z5), (885, (aP big)), (886, aH sd (ah * 40) (ah * 40)), (888, bD (IntKind.u64.wrap ((((i * 40) : Nat) : Int) + 4)))]) (by kernel_rfl) ?_
 clear HF; intro a HF
 rw [show IntKind.u64.wrap ((((i * 40) : Nat) : Int) + 4) = ((((i * 40) + 4) : Nat) : Int) from (IntWalk.u64_in _ (by omega)).trans (by omega)] at HF
 refine dZ rfl HF (HM.told [5] rfl) rfl (.slice (some ⟨sd, ((i * 40) + 4), none⟩) ((ah * 40) - ((i * 40) + 4)) ((ah * 40) - ((i * 40) + 4))) (by kernel_rfl) (fun w hw => eF (t := 33) Tryd.underlying33 hi0 hs0 rfl ((i * 40) + 4) (kk := .u64) rfl rfl (by omega) (by omega) (by omega) w) ?_
 clear HF; intro a HF; replace HF := HF.sub ((eH b o n c s fb big ak aj au ah sd i z5 aT) ++ [(884, aG z5), (885, (aP big)), (886, aH sd (ah * 40) (ah * 40)), (888, aJ ((i * 40) + 4)), LH sd i ah]) (by kernel_rfl)
 replace HF := HF.sub (xO b o n c s fb big ak aj au ah sd i z5 aT) (by kernel_rfl)
 refine bH HF (HM.told [5] rfl) 4 [] ((xO b o n c s fb big ak aj au ah sd i z5 aT) ++ [(891, (aP big)), (892, aH sd (ah * 40) (ah * 40)), (894, bD (IntKind.u64.wrap ((((i * 40) : Nat) : Int) + 8)))]) (by kernel_rfl) ?_
 clear HF; intro a HF
 rw [show IntKind.u64.wrap ((((i * 40) : Nat) : Int) + 8) = ((((i * 40) + 8) : Nat) : Int) from (IntWalk.u64_in _ (by omega)).trans (by omega)] at HF
 refine dZ rfl HF (HM.told [5] rfl) rfl (.slice (some ⟨sd, ((i * 40) + 8), none⟩) ((ah * 40) - ((i * 40) + 8)) ((ah * 40) - ((i * 40) + 8))) (by kernel_rfl) (fun w hw => eF (t := 33) Tryd.underlying33 hi0 hs0 rfl ((i * 40) + 8) (kk := .u64) rfl rfl (by omega) (by omega) (by omega) w) ?_
 clear HF; intro a HF; replace HF := HF.sub ((xO b o n c s fb big ak aj au ah sd i z5 aT) ++ [(891, (aP big)), (892, aH sd (ah * 40) (ah * 40)), (894, aJ ((i * 40) + 8)), Bj sd i ah]) (by kernel_rfl)
 replace HF := HF.sub (vZ b o n c s fb big ak aj au ah sd i z5 aT) (by kernel_rfl)
 refine bH HF (HM.told [5] rfl) 4 [] ((vZ b o n c s fb big ak aj au ah sd i z5 aT) ++ [(897, (aP big)), (898, aH sd (ah * 40) (ah * 40)), (900, bD (IntKind.u64.wrap ((((i * 40) : Nat) : Int) + 12)))]) (by kernel_rfl) ?_
 clear HF; intro a HF
 rw [show IntKind.u64.wrap ((((i * 40) : Nat) : Int) + 12) = ((((i * 40) + 12) : Nat) : Int) from (IntWalk.u64_in _ (by omega)).trans (by omega)] at HF
 refine dZ rfl HF (HM.told [5] rfl) rfl (.slice (some ⟨sd, ((i * 40) + 12), none⟩) ((ah * 40) - ((i * 40) + 12)) ((ah * 40) - ((i * 40) + 12))) (by kernel_rfl) (fun w hw => eF (t := 33) Tryd.underlying33 hi0 hs0 rfl ((i * 40) + 12) (kk := .u64) rfl rfl (by omega) (by omega) (by omega) w) ?_
 clear HF; intro a HF; replace HF := HF.sub ((vZ b o n c s fb big ak aj au ah sd i z5 aT) ++ [(897, (aP big)), (898, aH sd (ah * 40) (ah * 40)), (900, aJ ((i * 40) + 12)), tK sd i ah]) (by kernel_rfl)
 replace HF := HF.sub (vY b o n c s fb big ak aj au ah sd i z5 aT) (by kernel_rfl)
 refine bH HF (HM.told [5] rfl) 4 [] ((vY b o n c s fb big ak aj au ah sd i z5 aT) ++ [(904, (aP big)), (905, aH sd (ah * 40) (ah * 40)), (907, bD (IntKind.u64.wrap ((((i * 40) : Nat) : Int) + 16)))]) (by kernel_rfl) ?_
 clear HF; intro a HF
 rw [show IntKind.u64.wrap ((((i * 40) : Nat) : Int) + 16) = ((((i * 40) + 16) : Nat) : Int) from (IntWalk.u64_in _ (by omega)).trans (by omega)] at HF
 refine dZ rfl HF (HM.told [5] rfl) rfl (.slice (some ⟨sd, ((i * 40) + 16), none⟩) ((ah * 40) - ((i * 40) + 16)) ((ah * 40) - ((i * 40) + 16))) (by kernel_rfl) (fun w hw => eF (t := 33) Tryd.underlying33 hi0 hs0 rfl ((i * 40) + 16) (kk := .u64) rfl rfl (by omega) (by omega) (by omega) w) ?_
 clear HF; intro a HF; replace HF := HF.sub ((vY b o n c s fb big ak aj au ah sd i z5 aT) ++ [(904, (aP big)), (905, aH sd (ah * 40) (ah * 40)), (907, aJ ((i * 40) + 16)), tJ sd i ah]) (by kernel_rfl)
 replace HF := HF.sub (vX b o n c s fb big ak aj au ah sd i z5 aT) (by kernel_rfl)
 refine bH HF (HM.told [5] rfl) 4 [] ((vX b o n c s fb big ak aj au ah sd i z5 aT) ++ [(911, (aP big)), (912, aH sd (ah * 40) (ah * 40)), (914, bD (IntKind.u64.wrap ((((i * 40) : Nat) : Int) + 20)))]) (by kernel_rfl) ?_
 clear HF; intro a HF
 rw [show IntKind.u64.wrap ((((i * 40) : Nat) : Int) + 20) = ((((i * 40) + 20) : Nat) : Int) from (IntWalk.u64_in _ (by omega)).trans (by omega)] at HF
 refine dZ rfl HF (HM.told [5] rfl) rfl (.slice (some ⟨sd, ((i * 40) + 20), none⟩) ((ah * 40) - ((i * 40) + 20)) ((ah * 40) - ((i * 40) + 20))) (by kernel_rfl) (fun w hw => eF (t := 33) Tryd.underlying33 hi0 hs0 rfl ((i * 40) + 20) (kk := .u64) rfl rfl (by omega) (by omega) (by omega) w) ?_
 clear HF; intro a HF; replace HF := HF.sub ((vX b o n c s fb big ak aj au ah sd i z5 aT) ++ [(911, (aP big)), (912, aH sd (ah * 40) (ah * 40)), (914, aJ ((i * 40) + 20)), tH sd i ah]) (by kernel_rfl)
 replace HF := HF.sub (vW b o n c s fb big ak aj au ah sd i z5 aT) (by kernel_rfl)
 refine bH HF (HM.told [5] rfl) 4 [] ((vW b o n c s fb big ak aj au ah sd i z5 aT) ++ [(918, (aP big)), (919, aH sd (ah * 40) (ah * 40)), (921, bD (IntKind.u64.wrap ((((i * 40) : Nat) : Int) + 24)))]) (by kernel_rfl) ?_
 clear HF; intro a HF
 rw [show IntKind.u64.wrap ((((i * 40) : Nat) : Int) + 24) = ((((i * 40) + 24) : Nat) : Int) from (IntWalk.u64_in _ (by omega)).trans (by omega)] at HF
 refine dZ rfl HF (HM.told [5] rfl) rfl (.slice (some ⟨sd, ((i * 40) + 24), none⟩) ((ah * 40) - ((i * 40) + 24)) ((ah * 40) - ((i * 40) + 24))) (by kernel_rfl) (fun w hw => eF (t := 33) Tryd.underlying33 hi0 hs0 rfl ((i * 40) + 24) (kk := .u64) rfl rfl (by omega) (by omega) (by omega) w) ?_
 clear HF; intro a HF; replace HF := HF.sub ((vW b o n c s fb big ak aj au ah sd i z5 aT) ++ [(918, (aP big)), (919, aH sd (ah * 40) (ah * 40)), (921, aJ ((i * 40) + 24)), tC sd i ah]) (by kernel_rfl)
 replace HF := HF.sub (vV b o n c s fb big ak aj au ah sd i z5 aT) (by kernel_rfl)
 refine bH HF (HM.told [5] rfl) 4 [] ((vV b o n c s fb big ak aj au ah sd i z5 aT) ++ [(924, (aP big)), (925, aH sd (ah * 40) (ah * 40)), (927, bD (IntKind.u64.wrap ((((i * 40) : Nat) : Int) + 28)))]) (by kernel_rfl) ?_
 clear HF; intro a HF
 rw [show IntKind.u64.wrap ((((i * 40) : Nat) : Int) + 28) = ((((i * 40) + 28) : Nat) : Int) from (IntWalk.u64_in _ (by omega)).trans (by omega)] at HF
 refine dZ rfl HF (HM.told [5] rfl) rfl (.slice (some ⟨sd, ((i * 40) + 28), none⟩) ((ah * 40) - ((i * 40) + 28)) ((ah * 40) - ((i * 40) + 28))) (by kernel_rfl) (fun w hw => eF (t := 33) Tryd.underlying33 hi0 hs0 rfl ((i * 40) + 28) (kk := .u64) rfl rfl (by omega) (by omega) (by omega) w) ?_
 clear HF; intro a HF; replace HF := HF.sub ((vV b o n c s fb big ak aj au ah sd i z5 aT) ++ [(924, (aP big)), (925, aH sd (ah * 40) (ah * 40)), (927, aJ ((i * 40) + 28)), pX sd i ah]) (by kernel_rfl)
 replace HF := HF.sub (vU b o n c s fb big ak aj au ah sd i z5 aT) (by kernel_rfl)
 refine bH HF (HM.told [5] rfl) 4 [] ((vU b o n c s fb big ak aj au ah sd i z5 aT) ++ [(930, (aP big)), (931, aH sd (ah * 40) (ah * 40)), (933, bD (IntKind.u64.wrap ((((i * 40) : Nat) : Int) + 32)))]) (by kernel_rfl) ?_
 clear HF; intro a HF
 rw [show IntKind.u64.wrap ((((i * 40) : Nat) : Int) + 32) = ((((i * 40) + 32) : Nat) : Int) from (IntWalk.u64_in _ (by omega)).trans (by omega)] at HF
 refine dZ rfl HF (HM.told [5] rfl) rfl (.slice (some ⟨sd, ((i * 40) + 32), none⟩) ((ah * 40) - ((i * 40) + 32)) ((ah * 40) - ((i * 40) + 32))) (by kernel_rfl) (fun w hw => eF (t := 33) Tryd.underlying33 hi0 hs0 rfl ((i * 40) + 32) (kk := .u64) rfl rfl (by omega) (by omega) (by omega) w) ?_
 clear HF; intro a HF; replace HF := HF.sub ((vU b o n c s fb big ak aj au ah sd i z5 aT) ++ [(930, (aP big)), (931, aH sd (ah * 40) (ah * 40)), (933, aJ ((i * 40) + 32)), nM sd i ah]) (by kernel_rfl)
 replace HF := HF.sub (tu b o n c s fb big ak aj au ah sd i z5 aT) (by kernel_rfl)
 refine bH HF (HM.told [5] rfl) 4 [] ((tu b o n c s fb big ak aj au ah sd i z5 aT) ++ [(937, (aP big)), (938, aH sd (ah * 40) (ah * 40)), (940, bD (IntKind.u64.wrap ((((i * 40) : Nat) : Int) + 36)))]) (by kernel_rfl) ?_
 clear HF; intro a HF
 rw [show IntKind.u64.wrap ((((i * 40) : Nat) : Int) + 36) = ((((i * 40) + 36) : Nat) : Int) from (IntWalk.u64_in _ (by omega)).trans (by omega)] at HF
 refine dZ rfl HF (HM.told [5] rfl) rfl (.slice (some ⟨sd, ((i * 40) + 36), none⟩) ((ah * 40) - ((i * 40) + 36)) ((ah * 40) - ((i * 40) + 36))) (by kernel_rfl) (fun w hw => eF (t := 33) Tryd.underlying33 hi0 hs0 rfl ((i * 40) + 36) (kk := .u64) rfl rfl (by omega) (by omega) (by omega) w) ?_
 clear HF; intro a HF; replace HF := HF.sub ((tu b o n c s fb big ak aj au ah sd i z5 aT) ++ [(937, (aP big)), (938, aH sd (ah * 40) (ah * 40)), (940, aJ ((i * 40) + 36)), lT sd i ah]) (by kernel_rfl)
 replace HF := HF.sub ((tu b o n c s fb big ak aj au ah sd i z5 aT) ++ [(937, (aP big)), lT sd i ah]) (by kernel_rfl)
 refine b_ rfl ?_
 refine bn HF (by kernel_rfl) 87 #[(aP big), .slice (some ⟨sd, ((i * 40) + 4), none⟩) ((ah * 40) - ((i * 40) + 4)) ((ah * 40) - ((i * 40) + 4))] (by kernel_rfl) (fun w => by kernel_rfl) (Calls.mono (jB (HM.get (i := 5) rfl) (by unfold maxLen; omega) big ((i * 40) + 4) ((ah * 40) - ((i * 40) + 4)) (by omega) (by omega) ((v.ty : Nat) : Int) (by rw [Nu])) ?_)
 rintro _ w4 ⟨rfl, jG, hq⟩
 replace HM : Mm [fb, aX, aT, sd] W1 w4 [(z9, .cells #[aY v.name] 36 (0, 0)), jR z5, eX fb dat abi aC big aQ aF ay aX i ah pg aj, (aX, .cells cur 133 (0, 0)), (aT, .cells fG 36 (0, 0)), (sd, .cells (X.map Bv).toArray 5 (0, 0))] := by rw [hq]; exact HM.drewN _
 clear hq
 refine ⟨_, rfl, ?_⟩; clear HF; intro a HF; replace HF := HF.sub ((tu b o n c s fb big ak aj au ah sd i z5 aT) ++ [(937, (aP big)), lT sd i ah, (890, aY v.ty)]) (by kernel_rfl)
 refine dF (HM.told [5] rfl) ?_
 replace HF := HF.sub ((eH b o n c s fb big ak aj au ah sd i z5 aT) ++ [(884, aG z5), (891, (aP big)), Bj sd i ah, (897, (aP big)), tK sd i ah, (904, (aP big)), tJ sd i ah, (911, (aP big)), tH sd i ah, (918, (aP big)), tC sd i ah, (924, (aP big)), pX sd i ah, (930, (aP big)), nM sd i ah, (937, (aP big)), lT sd i ah, (890, aY v.ty)]) (by kernel_rfl)
 refine b_ rfl ?_
 refine bn HF (by kernel_rfl) 87 #[(aP big), .slice (some ⟨sd, ((i * 40) + 8), none⟩) ((ah * 40) - ((i * 40) + 8)) ((ah * 40) - ((i * 40) + 8))] (by kernel_rfl) (fun w => by kernel_rfl) (Calls.mono (jB (HM.get (i := 5) rfl) (by unfold maxLen; omega) big ((i * 40) + 8) ((ah * 40) - ((i * 40) + 8)) (by omega) (by omega) ((v.flags : Nat) : Int) (by rw [EZ])) ?_)
 rintro _ w5 ⟨rfl, jG, hq⟩
 replace HM : Mm [fb, aX, aT, sd] W1 w5 [(z9, .cells #[aY v.name] 36 (0, 0)), jR z5, eX fb dat abi aC big aQ aF ay aX i ah pg aj, (aX, .cells cur 133 (0, 0)), (aT, .cells fG 36 (0, 0)), (sd, .cells (X.map Bv).toArray 5 (0, 0))] := by rw [hq]; exact HM.drewN _
 clear hq
 refine ⟨_, rfl, ?_⟩; clear HF; intro a HF; replace HF := HF.sub ((eH b o n c s fb big ak aj au ah sd i z5 aT) ++ [(884, aG z5), (891, (aP big)), Bj sd i ah, (897, (aP big)), tK sd i ah, (904, (aP big)), tJ sd i ah, (911, (aP big)), tH sd i ah, (918, (aP big)), tC sd i ah, (924, (aP big)), pX sd i ah, (930, (aP big)), nM sd i ah, (937, (aP big)), lT sd i ah, (890, aY v.ty), (896, aY v.flags)]) (by kernel_rfl)
 refine dF (HM.told [5] rfl) ?_
 replace HF := HF.sub ((eH b o n c s fb big ak aj au ah sd i z5 aT) ++ [(884, aG z5), (897, (aP big)), tK sd i ah, (904, (aP big)), tJ sd i ah, (911, (aP big)), tH sd i ah, (918, (aP big)), tC sd i ah, (924, (aP big)), pX sd i ah, (930, (aP big)), nM sd i ah, (937, (aP big)), lT sd i ah, (890, aY v.ty), (896, aY v.flags)]) (by kernel_rfl)
 refine b_ rfl ?_
 refine bn HF (by kernel_rfl) 87 #[(aP big), .slice (some ⟨sd, ((i * 40) + 12), none⟩) ((ah * 40) - ((i * 40) + 12)) ((ah * 40) - ((i * 40) + 12))] (by kernel_rfl) (fun w => by kernel_rfl) (Calls.mono (jB (HM.get (i := 5) rfl) (by unfold maxLen; omega) big ((i * 40) + 12) ((ah * 40) - ((i * 40) + 12)) (by omega) (by omega) ((v.addr : Nat) : Int) (by rw [Io])) ?_)
 rintro _ w6 ⟨rfl, jG, hq⟩
 replace HM : Mm [fb, aX, aT, sd] W1 w6 [(z9, .cells #[aY v.name] 36 (0, 0)), jR z5, eX fb dat abi aC big aQ aF ay aX i ah pg aj, (aX, .cells cur 133 (0, 0)), (aT, .cells fG 36 (0, 0)), (sd, .cells (X.map Bv).toArray 5 (0, 0))] := by rw [hq]; exact HM.drewN _
 clear hq
 refine ⟨_, rfl, ?_⟩; clear HF; intro a HF; replace HF := HF.sub ((eH b o n c s fb big ak aj au ah sd i z5 aT) ++ [(884, aG z5), (897, (aP big)), tK sd i ah, (904, (aP big)), tJ sd i ah, (911, (aP big)), tH sd i ah, (918, (aP big)), tC sd i ah, (924, (aP big)), pX sd i ah, (930, (aP big)), nM sd i ah, (937, (aP big)), lT sd i ah, (890, aY v.ty), (896, aY v.flags), (902, aY v.addr)]) (by kernel_rfl)
 refine dF (HM.told [5] rfl) ?_
 replace HF := HF.sub ((zJ b o n c s fb big ak aj au ah sd i z5 aT v) ++ [(902, aY v.addr)]) (by kernel_rfl)
 refine bH HF (HM.told [5] rfl) 1 [] ((zJ b o n c s fb big ak aj au ah sd i z5 aT v) ++ [(903, bD (IntKind.u64.wrap ((v.addr : Nat) : Int)))]) (by kernel_rfl) ?_
 clear HF; intro a HF
 rw [show IntKind.u64.wrap ((v.addr : Nat) : Int) = ((v.addr : Nat) : Int) from IntWalk.u64_in _ (by omega)] at HF
 refine b_ rfl ?_
 refine bn HF (by kernel_rfl) 87 #[(aP big), .slice (some ⟨sd, ((i * 40) + 16), none⟩) ((ah * 40) - ((i * 40) + 16)) ((ah * 40) - ((i * 40) + 16))] (by kernel_rfl) (fun w => by kernel_rfl) (Calls.mono (jB (HM.get (i := 5) rfl) (by unfold maxLen; omega) big ((i * 40) + 16) ((ah * 40) - ((i * 40) + 16)) (by omega) (by omega) ((v.off : Nat) : Int) (by rw [KH])) ?_)
 rintro _ w7 ⟨rfl, jG, hq⟩
 replace HM : Mm [fb, aX, aT, sd] W1 w7 [(z9, .cells #[aY v.name] 36 (0, 0)), jR z5, eX fb dat abi aC big aQ aF ay aX i ah pg aj, (aX, .cells cur 133 (0, 0)), (aT, .cells fG 36 (0, 0)), (sd, .cells (X.map Bv).toArray 5 (0, 0))] := by rw [hq]; exact HM.drewN _
 clear hq
 refine ⟨_, rfl, ?_⟩; clear HF; intro a HF; replace HF := HF.sub ((zJ b o n c s fb big ak aj au ah sd i z5 aT v) ++ [(903, aJ v.addr), (909, aY v.off)]) (by kernel_rfl)
 refine dF (HM.told [5] rfl) ?_
 replace HF := HF.sub ((zI b o n c s fb big ak aj au ah sd i z5 aT v) ++ [(909, aY v.off)]) (by kernel_rfl)
 refine bH HF (HM.told [5] rfl) 1 [] ((zI b o n c s fb big ak aj au ah sd i z5 aT v) ++ [(910, bD (IntKind.u64.wrap ((v.off : Nat) : Int)))]) (by kernel_rfl) ?_
 clear HF; intro a HF
 rw [show IntKind.u64.wrap ((v.off : Nat) : Int) = ((v.off : Nat) : Int) from IntWalk.u64_in _ (by omega)] at HF
 refine b_ rfl ?_
 refine bn HF (by kernel_rfl) 87 #[(aP big), .slice (some ⟨sd, ((i * 40) + 20), none⟩) ((ah * 40) - ((i * 40) + 20)) ((ah * 40) - ((i * 40) + 20))] (by kernel_rfl) (fun w => by kernel_rfl) (Calls.mono (jB (HM.get (i := 5) rfl) (by unfold maxLen; omega) big ((i * 40) + 20) ((ah * 40) - ((i * 40) + 20)) (by omega) (by omega) ((v.bG : Nat) : Int) (by rw [KI])) ?_)
 rintro _ w8 ⟨rfl, jG, hq⟩
 replace HM : Mm [fb, aX, aT, sd] W1 w8 [(z9, .cells #[aY v.name] 36 (0, 0)), jR z5, eX fb dat abi aC big aQ aF ay aX i ah pg aj, (aX, .cells cur 133 (0, 0)), (aT, .cells fG 36 (0, 0)), (sd, .cells (X.map Bv).toArray 5 (0, 0))] := by rw [hq]; exact HM.drewN _
 clear hq
 refine ⟨_, rfl, ?_⟩; clear HF; intro a HF; replace HF := HF.sub ((zI b o n c s fb big ak aj au ah sd i z5 aT v) ++ [(910, aJ v.off), (916, aY v.bG)]) (by kernel_rfl)
 refine dF (HM.told [5] rfl) ?_
 replace HF := HF.sub ((zH b o n c s fb big ak aj au ah sd i z5 aT v) ++ [(916, aY v.bG)]) (by kernel_rfl)
 refine bH HF (HM.told [5] rfl) 1 [] ((zH b o n c s fb big ak aj au ah sd i z5 aT v) ++ [(917, bD (IntKind.u64.wrap ((v.bG : Nat) : Int)))]) (by kernel_rfl) ?_
 clear HF; intro a HF
 rw [show IntKind.u64.wrap ((v.bG : Nat) : Int) = ((v.bG : Nat) : Int) from IntWalk.u64_in _ (by omega)] at HF
 refine b_ rfl ?_
 refine bn HF (by kernel_rfl) 87 #[(aP big), .slice (some ⟨sd, ((i * 40) + 24), none⟩) ((ah * 40) - ((i * 40) + 24)) ((ah * 40) - ((i * 40) + 24))] (by kernel_rfl) (fun w => by kernel_rfl) (Calls.mono (jB (HM.get (i := 5) rfl) (by unfold maxLen; omega) big ((i * 40) + 24) ((ah * 40) - ((i * 40) + 24)) (by omega) (by omega) ((v.link : Nat) : Int) (by rw [Ik])) ?_)
 rintro _ w9 ⟨rfl, jG, hq⟩
 replace HM : Mm [fb, aX, aT, sd] W1 w9 [(z9, .cells #[aY v.name] 36 (0, 0)), jR z5, eX fb dat abi aC big aQ aF ay aX i ah pg aj, (aX, .cells cur 133 (0, 0)), (aT, .cells fG 36 (0, 0)), (sd, .cells (X.map Bv).toArray 5 (0, 0))] := by rw [hq]; exact HM.drewN _
 clear hq
 refine ⟨_, rfl, ?_⟩; clear HF; intro a HF; replace HF := HF.sub ((zH b o n c s fb big ak aj au ah sd i z5 aT v) ++ [(917, aJ v.bG), (923, aY v.link)]) (by kernel_rfl)
 refine dF (HM.told [5] rfl) ?_
 replace HF := HF.sub ((eH b o n c s fb big ak aj au ah sd i z5 aT) ++ [(884, aG z5), (924, (aP big)), pX sd i ah, (930, (aP big)), nM sd i ah, (937, (aP big)), lT sd i ah, (890, aY v.ty), (896, aY v.flags), (903, aJ v.addr), (910, aJ v.off), (917, aJ v.bG), (923, aY v.link)]) (by kernel_rfl)
 refine b_ rfl ?_
 refine bn HF (by kernel_rfl) 87 #[(aP big), .slice (some ⟨sd, ((i * 40) + 28), none⟩) ((ah * 40) - ((i * 40) + 28)) ((ah * 40) - ((i * 40) + 28))] (by kernel_rfl) (fun w => by kernel_rfl) (Calls.mono (jB (HM.get (i := 5) rfl) (by unfold maxLen; omega) big ((i * 40) + 28) ((ah * 40) - ((i * 40) + 28)) (by omega) (by omega) ((v.info : Nat) : Int) (by rw [Il])) ?_)
 rintro _ w10 ⟨rfl, jG, hq⟩
 replace HM : Mm [fb, aX, aT, sd] W1 w10 [(z9, .cells #[aY v.name] 36 (0, 0)), jR z5, eX fb dat abi aC big aQ aF ay aX i ah pg aj, (aX, .cells cur 133 (0, 0)), (aT, .cells fG 36 (0, 0)), (sd, .cells (X.map Bv).toArray 5 (0, 0))] := by rw [hq]; exact HM.drewN _
 clear hq
 refine ⟨_, rfl, ?_⟩; clear HF; intro a HF; replace HF := HF.sub ((eH b o n c s fb big ak aj au ah sd i z5 aT) ++ [(884, aG z5), (924, (aP big)), pX sd i ah, (930, (aP big)), nM sd i ah, (937, (aP big)), lT sd i ah, (890, aY v.ty), (896, aY v.flags), (903, aJ v.addr), (910, aJ v.off), (917, aJ v.bG), (923, aY v.link), (929, aY v.info)]) (by kernel_rfl)
 refine dF (HM.told [5] rfl) ?_
 replace HF := HF.sub ((eH b o n c s fb big ak aj au ah sd i z5 aT) ++ [(884, aG z5), (930, (aP big)), nM sd i ah, (937, (aP big)), lT sd i ah, (890, aY v.ty), (896, aY v.flags), (903, aJ v.addr), (910, aJ v.off), (917, aJ v.bG), (923, aY v.link), (929, aY v.info)]) (by kernel_rfl)
 refine b_ rfl ?_
 refine bn HF (by kernel_rfl) 87 #[(aP big), .slice (some ⟨sd, ((i * 40) + 32), none⟩) ((ah * 40) - ((i * 40) + 32)) ((ah * 40) - ((i * 40) + 32))] (by kernel_rfl) (fun w => by kernel_rfl) (Calls.mono (jB (HM.get (i := 5) rfl) (by unfold maxLen; omega) big ((i * 40) + 32) ((ah * 40) - ((i * 40) + 32)) (by omega) (by omega) ((v.align : Nat) : Int) (by rw [E5])) ?_)
 rintro _ wS ⟨rfl, jG, hq⟩
 replace HM : Mm [fb, aX, aT, sd] W1 wS [(z9, .cells #[aY v.name] 36 (0, 0)), jR z5, eX fb dat abi aC big aQ aF ay aX i ah pg aj, (aX, .cells cur 133 (0, 0)), (aT, .cells fG 36 (0, 0)), (sd, .cells (X.map Bv).toArray 5 (0, 0))] := by rw [hq]; exact HM.drewN _
 clear hq
 refine ⟨_, rfl, ?_⟩; clear HF; intro a HF; replace HF := HF.sub ((eH b o n c s fb big ak aj au ah sd i z5 aT) ++ [(884, aG z5), (930, (aP big)), nM sd i ah, (937, (aP big)), lT sd i ah, (890, aY v.ty), (896, aY v.flags), (903, aJ v.addr), (910, aJ v.off), (917, aJ v.bG), (923, aY v.link), (929, aY v.info), (935, aY v.align)]) (by kernel_rfl)
 refine dF (HM.told [5] rfl) ?_
 replace HF := HF.sub ((zG b o n c s fb big ak aj au ah sd i z5 aT v) ++ [(935, aY v.align)]) (by kernel_rfl)
 refine bH HF (HM.told [5] rfl) 1 [] ((zG b o n c s fb big ak aj au ah sd i z5 aT v) ++ [(936, bD (IntKind.u64.wrap ((v.align : Nat) : Int)))]) (by kernel_rfl) ?_
 clear HF; intro a HF
 rw [show IntKind.u64.wrap ((v.align : Nat) : Int) = ((v.align : Nat) : Int) from IntWalk.u64_in _ (by omega)] at HF
 refine b_ rfl ?_
 refine bn HF (by kernel_rfl) 87 #[(aP big), .slice (some ⟨sd, ((i * 40) + 36), none⟩) ((ah * 40) - ((i * 40) + 36)) ((ah * 40) - ((i * 40) + 36))] (by kernel_rfl) (fun w => by kernel_rfl) (Calls.mono (jB (HM.get (i := 5) rfl) (by unfold maxLen; omega) big ((i * 40) + 36) ((ah * 40) - ((i * 40) + 36)) (by omega) (by omega) ((v.ent : Nat) : Int) (by rw [KJ])) ?_)
 rintro _ w12 ⟨rfl, jG, hq⟩
 replace HM : Mm [fb, aX, aT, sd] W1 w12 [(z9, .cells #[aY v.name] 36 (0, 0)), jR z5, eX fb dat abi aC big aQ aF ay aX i ah pg aj, (aX, .cells cur 133 (0, 0)), (aT, .cells fG 36 (0, 0)), (sd, .cells (X.map Bv).toArray 5 (0, 0))] := by rw [hq]; exact HM.drewN _
 clear hq
 refine ⟨_, rfl, ?_⟩; clear HF; intro a HF; replace HF := HF.sub ((zG b o n c s fb big ak aj au ah sd i z5 aT v) ++ [(936, aJ v.align), (942, aY v.ent)]) (by kernel_rfl)
 refine dF (HM.told [5] rfl) ?_
 replace HF := HF.sub ((zF b o n c s fb big ak aj au ah sd i z5 aT v) ++ [(942, aY v.ent)]) (by kernel_rfl)
 refine bH HF (HM.told [5] rfl) 1 [] ((zF b o n c s fb big ak aj au ah sd i z5 aT v) ++ [(943, bD (IntKind.u64.wrap ((v.ent : Nat) : Int)))]) (by kernel_rfl) ?_
 clear HF; intro a HF
 rw [show IntKind.u64.wrap ((v.ent : Nat) : Int) = ((v.ent : Nat) : Int) from IntWalk.u64_in _ (by omega)] at HF
 refine bH HF (HM.told [5] rfl) 3 [] ((zF b o n c s fb big ak aj au ah sd i z5 aT v) ++ [(943, aJ v.ent), Eb v, (946, aG z5)]) (by kernel_rfl) ?_
 clear HF; intro a HF
 replace HF := HF.sub ((eH b o n c s fb big ak aj au ah sd i z5 aT) ++ [Eb v, (946, aG z5)]) (by kernel_rfl)
 refine b_ rfl ?_
 refine aO HF HM rfl 1 [[4, 4, 4, 4, 4, 4, 4, 4, 4, 4, 4]] (eH b o n c s fb big ak aj au ah sd i z5 aT) [(z9, .cells #[aY v.name] 36 (0, 0)), ru z5 v, eX fb dat abi aC big aQ aF ay aX i ah pg aj, (aX, .cells cur 133 (0, 0)), (aT, .cells fG 36 (0, 0)), (sd, .cells (X.map Bv).toArray 5 (0, 0))] (by kernel_rfl) ?_
 clear HF HM; intro a w HF HM
 refine dF (HM.told [5] rfl) ?_
 refine lI ?_
 repeat (first | refine aS ?_ | refine aU ?_)
 refine wp_seq ?_
 refine wp_seq (wp_region_lit ?_)
 refine aO HF HM rfl 6 [[4]] ((eH b o n c s fb big ak aj au ah sd i z5 aT) ++ [(1022, aA (IntKind.i64.wrap ((v.off : Nat) : Int)))]) [(z9, .cells #[aY v.name] 36 (0, 0)), ru z5 v, eX fb dat abi aC big aQ aF ay aX i ah pg aj, (aX, .cells cur 133 (0, 0)), (aT, .cells fG 36 (0, 0)), (sd, .cells (X.map Bv).toArray 5 (0, 0))] (by kernel_rfl) ?_
 clear HF HM; intro a w HF HM
 rw [show IntKind.i64.wrap ((v.off : Nat) : Int) = ((v.off : Nat) : Int) from IntWalk.i64_in _ (by omega)] at HF
 refine aO HF HM rfl 1 [] ((eH b o n c s fb big ak aj au ah sd i z5 aT) ++ [(1023, .bool (decide (((v.off : Nat) : Int) < 0)))]) [(z9, .cells #[aY v.name] 36 (0, 0)), ru z5 v, eX fb dat abi aC big aQ aF ay aX i ah pg aj, (aX, .cells cur 133 (0, 0)), (aT, .cells fG 36 (0, 0)), (sd, .cells (X.map Bv).toArray 5 (0, 0))] (by kernel_rfl) ?_
 clear HF HM; intro a w HF HM
 rw [show decide (((v.off : Nat) : Int) < 0) = false from bZ (by omega)] at HF
 refine aI ?_
 refine bf HF rfl ?_
 refine wp_skip ?_
 repeat (first | refine aS ?_ | refine aU ?_)
 replace HF := HF.sub (eH b o n c s fb big ak aj au ah sd i z5 aT) (by kernel_rfl)
 refine wp_seq ?_
 refine wp_seq (wp_region_lit ?_)
 refine aO HF HM rfl 6 [[4]] ((eH b o n c s fb big ak aj au ah sd i z5 aT) ++ [(1043, aA (IntKind.i64.wrap ((v.bG : Nat) : Int)))]) [(z9, .cells #[aY v.name] 36 (0, 0)), ru z5 v, eX fb dat abi aC big aQ aF ay aX i ah pg aj, (aX, .cells cur 133 (0, 0)), (aT, .cells fG 36 (0, 0)), (sd, .cells (X.map Bv).toArray 5 (0, 0))] (by kernel_rfl) ?_
 clear HF HM; intro a w HF HM
 rw [show IntKind.i64.wrap ((v.bG : Nat) : Int) = ((v.bG : Nat) : Int) from IntWalk.i64_in _ (by omega)] at HF
 refine aO HF HM rfl 1 [] ((eH b o n c s fb big ak aj au ah sd i z5 aT) ++ [(1044, .bool (decide (((v.bG : Nat) : Int) < 0)))]) [(z9, .cells #[aY v.name] 36 (0, 0)), ru z5 v, eX fb dat abi aC big aQ aF ay aX i ah pg aj, (aX, .cells cur 133 (0, 0)), (aT, .cells fG 36 (0, 0)), (sd, .cells (X.map Bv).toArray 5 (0, 0))] (by kernel_rfl) ?_
 clear HF HM; intro a w HF HM
 rw [show decide (((v.bG : Nat) : Int) < 0) = false from bZ (by omega)] at HF
 refine aI ?_
 refine bf HF rfl ?_
 refine wp_skip ?_
 repeat (first | refine aS ?_ | refine aU ?_)
 replace HF := HF.sub (eH b o n c s fb big ak aj au ah sd i z5 aT) (by kernel_rfl)
 refine xG HM (by kernel_rfl) (fun w => w.cell? ⟨z5, 4, none⟩ = some (aJ v.off) ∧ w.cell? ⟨z5, 10, none⟩ = some (aJ v.bG)) [(0, false), (1, false), (2, false), (3, false), (4, false), (5, false), (6, false), (7, false), (8, false), (9, false), (10, false), (11, false), (12, false), (13, false), (14, true), (15, false), (16, false), (17, true)] (by kernel_rfl) ?_
 clear HM; intro AP HM
 refine jk (LS := []) (fun _ _ => jM _) HF ⟨HM.cellAt (i := 1) (k := 4) rfl rfl, HM.cellAt (i := 1) (k := 10) rfl rfl⟩ 6 [] ((pW b o n c s fb big ak aj au ah sd i z5 aT) ++ [(1064, .pointer (some ⟨z5, 4, none⟩))]) (by kernel_rfl) ?_
 clear HF; intro a HF
 refine pz rfl HF ⟨HM.cellAt (i := 1) (k := 4) rfl rfl, HM.cellAt (i := 1) (k := 10) rfl rfl⟩ rfl (aJ v.off) (by kernel_rfl) (fun w hw => gJ rfl rfl (by kernel_rfl) hw.1) ?_
 clear HF; intro a HF; replace HF := HF.sub ((pW b o n c s fb big ak aj au ah sd i z5 aT) ++ [(1064, .pointer (some ⟨z5, 4, none⟩)), (1065, aJ v.off)]) (by kernel_rfl)
 refine jk (LS := []) (fun _ _ => jM _) HF ⟨HM.cellAt (i := 1) (k := 4) rfl rfl, HM.cellAt (i := 1) (k := 10) rfl rfl⟩ 1 [] ((pW b o n c s fb big ak aj au ah sd i z5 aT) ++ [(1066, aA (IntKind.i64.wrap ((v.off : Nat) : Int)))]) (by kernel_rfl) ?_
 clear HF; intro a HF
 rw [show IntKind.i64.wrap ((v.off : Nat) : Int) = ((v.off : Nat) : Int) from IntWalk.i64_in _ (by omega)] at HF
 refine jk (LS := []) (fun _ _ => jM _) HF ⟨HM.cellAt (i := 1) (k := 4) rfl rfl, HM.cellAt (i := 1) (k := 10) rfl rfl⟩ 4 [] ((pW b o n c s fb big ak aj au ah sd i z5 aT) ++ [(1066, aB v.off), (1070, .pointer (some ⟨z5, 10, none⟩))]) (by kernel_rfl) ?_
 clear HF; intro a HF
 refine pz rfl HF ⟨HM.cellAt (i := 1) (k := 4) rfl rfl, HM.cellAt (i := 1) (k := 10) rfl rfl⟩ rfl (aJ v.bG) (by kernel_rfl) (fun w hw => gJ rfl rfl (by kernel_rfl) hw.2) ?_
 clear HF; intro a HF; replace HF := HF.sub ((pW b o n c s fb big ak aj au ah sd i z5 aT) ++ [(1066, aB v.off), (1070, .pointer (some ⟨z5, 10, none⟩)), (1071, aJ v.bG)]) (by kernel_rfl)
 refine jk (LS := []) (fun _ _ => jM _) HF ⟨HM.cellAt (i := 1) (k := 4) rfl rfl, HM.cellAt (i := 1) (k := 10) rfl rfl⟩ 1 [] ((pW b o n c s fb big ak aj au ah sd i z5 aT) ++ [(1066, aB v.off), (1072, aA (IntKind.i64.wrap ((v.bG : Nat) : Int)))]) (by kernel_rfl) ?_
 clear HF; intro a HF
 rw [show IntKind.i64.wrap ((v.bG : Nat) : Int) = ((v.bG : Nat) : Int) from IntWalk.i64_in _ (by omega)] at HF
 refine nS rfl ?_
 refine bn HF (by kernel_rfl) 92 #[.iface 178 (.slice (some ⟨b, o, none⟩) n c), aB v.off, aB v.bG] (by kernel_rfl) (fun w => by kernel_rfl) (Calls.mono (nX 178 (.slice (some ⟨b, o, none⟩) n c) ((v.off : Nat) : Int) ((v.bG : Nat) : Int) (by omega) (by omega) (by omega) AP) ?_)
 rintro _ GH ⟨sb, rfl, hb, hge, hgn⟩
 replace HM : Mm [fb, aX, aT, sd] W1 GH [mQ sb b o n c v, (z9, .cells #[aY v.name] 36 (0, 0)), ru z5 v, eX fb dat abi aC big aQ aF ay aX i ah pg aj, (aX, .cells cur 133 (0, 0)), (aT, .cells fG 36 (0, 0)), (sd, .cells (X.map Bv).toArray 5 (0, 0))] := HM.push hb hge hgn
 clear hb hge hgn
 refine ⟨_, rfl, ?_⟩; clear HF; intro a HF; replace HF := HF.sub ((pW b o n c s fb big ak aj au ah sd i z5 aT) ++ [(1066, aB v.off), (1072, aB v.bG), (1073, aG sb)]) (by kernel_rfl)
 refine pF ⟨HM.cellAt (i := 2) (k := 4) rfl rfl, HM.cellAt (i := 2) (k := 10) rfl rfl⟩ ?_
 refine jk (LS := []) (fun _ _ => jM _) HF ⟨HM.cellAt (i := 2) (k := 4) rfl rfl, HM.cellAt (i := 2) (k := 10) rfl rfl⟩ 2 [] ((eH b o n c s fb big ak aj au ah sd i z5 aT) ++ [(1073, aG sb), (1075, .pointer (some ⟨z5, 12, none⟩))]) (by kernel_rfl) ?_
 clear HF; intro a HF
 refine nS rfl ?_
 refine aO HF HM rfl 1 [[4]] (eH b o n c s fb big ak aj au ah sd i z5 aT) [mQ sb b o n c v, (z9, .cells #[aY v.name] 36 (0, 0)), Ec z5 v sb, eX fb dat abi aC big aQ aF ay aX i ah pg aj, (aX, .cells cur 133 (0, 0)), (aT, .cells fG 36 (0, 0)), (sd, .cells (X.map Bv).toArray 5 (0, 0))] (by kernel_rfl) ?_
 clear HF HM; intro a w HF HM
 refine pF ⟨HM.cellAt (i := 2) (k := 4) rfl rfl, HM.cellAt (i := 2) (k := 10) rfl rfl⟩ ?_
 refine xI (aS ?_)
 refine wp_seq ?_
 refine wp_seq (wp_region_lit ?_)
 refine aO HF HM rfl 7 [[4]] [(0, .iface 178 (.slice (some ⟨b, o, none⟩) n c)), (4, aG s), (8, aG fb), (9, (aP big)), (10, aB ak), (11, aA 32), (12, aB aj), (13, aB au), (14, aA 40), (15, aB ah), (16, aB (ah - 1)), (26, aA 40), (42, aH sd (ah * 40) (ah * 40)), (43, aB i), (44, aJ (i * 40)), (45, aG z5), (41, aH aT (i + 1) ah), (1082, .bool (oC ((v.flags : Nat) : Int) 2048 == 0))] [mQ sb b o n c v, (z9, .cells #[aY v.name] 36 (0, 0)), Ec z5 v sb, eX fb dat abi aC big aQ aF ay aX i ah pg aj, (aX, .cells cur 133 (0, 0)), (aT, .cells fG 36 (0, 0)), (sd, .cells (X.map Bv).toArray 5 (0, 0))] (by kernel_rfl) ?_
 clear HF HM; intro a w HF HM
 rw [v9] at HF
 refine aI ?_
 refine bF HF rfl ?_
 replace HF := HF.sub (eH b o n c s fb big ak aj au ah sd i z5 aT) (by kernel_rfl)
 refine bC HF HM rfl [[4], [4]] (eH b o n c s fb big ak aj au ah sd i z5 aT) [mQ sb b o n c v, (z9, .cells #[aY v.name] 36 (0, 0)), (z5, .cells #[.string ⟨#[]⟩, aY (v).ty, aY (v).flags, aJ (v).addr, aJ (v).off, bD 0, aY (v).link, aY (v).info, aJ (v).align, aJ (v).ent, aJ (v).bG, .iface 144 (aG sb), aG sb, aA 0, aA 0] 153 (0, 0)), eX fb dat abi aC big aQ aF ay aX i ah pg aj, (aX, .cells cur 133 (0, 0)), (aT, .cells fG 36 (0, 0)), (sd, .cells (X.map Bv).toArray 5 (0, 0))] (by kernel_rfl) ?_
 clear HF HM; intro a w HF HM
 refine nC HF HM rfl [[4], [4]] (eH b o n c s fb big ak aj au ah sd i z5 aT) [mQ sb b o n c v, (z9, .cells #[aY v.name] 36 (0, 0)), qZ z5 v sb, eX fb dat abi aC big aQ aF ay aX i ah pg aj, (aX, .cells cur 133 (0, 0)), (aT, .cells fG 36 (0, 0)), (sd, .cells (X.map Bv).toArray 5 (0, 0))] (by kernel_rfl) ?_
 clear HF HM; intro a w HF HM
 repeat (first | refine aS ?_ | refine aU ?_)
 refine wp_region_lit ?_
 obtain ⟨z20, hz20⟩ : ∃ z, w.heap.size = z := ⟨_, rfl⟩
 refine aO HF HM hz20 7 [[3]] ((eH b o n c s fb big ak aj au ah sd i z5 aT) ++ [(1191, aG fb), (1195, aH aX i ah), (1197, aH z20 1 1)]) [(z20, .cells #[aG z5] 133 (0, 0)), mQ sb b o n c v, (z9, .cells #[aY v.name] 36 (0, 0)), qZ z5 v sb, eX fb dat abi aC big aQ aF ay aX i ah pg aj, (aX, .cells cur 133 (0, 0)), (aT, .cells fG 36 (0, 0)), (sd, .cells (X.map Bv).toArray 5 (0, 0))] (by kernel_rfl) ?_
 clear HF HM hz20; intro a w HF HM
 refine oW HF HM rfl _ _ 126 rfl rfl 133 (.pointer none) 8 Tryd.underlying126 uM 5 0 aX _ i ah cur _ _ rfl hcs (by omega) (by unfold maxLen; omega) rfl rfl rfl rfl ?_
 intro a2 Fa cur' hcs' htk bI HF2; clear HF HM; have HM : Mm [fb, aX, aT, sd] W1 Fa [(z20, .cells #[aG z5] 133 (0, 0)), mQ sb b o n c v, (z9, .cells #[aY v.name] 36 (0, 0)), qZ z5 v sb, eX fb dat abi aC big aQ aF ay aX i ah pg aj, (aX, .cells cur' 133 (0, 0)), (aT, .cells fG 36 (0, 0)), (sd, .cells (X.map Bv).toArray 5 (0, 0))] := bI; have HF := HF2; clear bI HF2
 replace HF := HF.sub ((eH b o n c s fb big ak aj au ah sd i z5 aT) ++ [(1191, aG fb), (1198, aH aX (i + 1) ah)]) (by kernel_rfl)
 refine aO HF HM rfl 3 [[3]] (eH b o n c s fb big ak aj au ah sd i z5 aT) [(z20, .cells #[aG z5] 133 (0, 0)), mQ sb b o n c v, (z9, .cells #[aY v.name] 36 (0, 0)), qZ z5 v sb, xQ fb dat abi aC big aQ aF ay aX i ah pg aj, (aX, .cells cur' 133 (0, 0)), (aT, .cells fG 36 (0, 0)), (sd, .cells (X.map Bv).toArray 5 (0, 0))] (by kernel_rfl) ?_
 clear HF HM; intro a w HF HM
 refine wpList_nil ?_
 repeat (first | refine aS ?_ | refine aU ?_)
 refine wp_region_lit ?_
 refine aO HF HM rfl 2 [] ((eH b o n c s fb big ak aj au ah sd i z5 aT) ++ [(861, aA (IntKind.i64.wrap (((i : Nat) : Int) + 1)))]) [(z20, .cells #[aG z5] 133 (0, 0)), mQ sb b o n c v, (z9, .cells #[aY v.name] 36 (0, 0)), qZ z5 v sb, xQ fb dat abi aC big aQ aF ay aX i ah pg aj, (aX, .cells cur' 133 (0, 0)), (aT, .cells fG 36 (0, 0)), (sd, .cells (X.map Bv).toArray 5 (0, 0))] (by kernel_rfl) ?_
 clear HF HM; intro a w HF HM
 rw [show IntKind.i64.wrap (((i : Nat) : Int) + 1) = (((i + 1) : Nat) : Int) from (IntWalk.i64_in _ (by omega)).trans (by omega)] at HF
 refine aO HF HM rfl 1 [] ((xP b o n c s fb big ak aj au ah) ++ [(42, aH sd (ah * 40) (ah * 40)), (44, aJ (i * 40)), (45, aG z5), (41, aH aT (i + 1) ah), (43, aB (i + 1))]) [(z20, .cells #[aG z5] 133 (0, 0)), mQ sb b o n c v, (z9, .cells #[aY v.name] 36 (0, 0)), qZ z5 v sb, xQ fb dat abi aC big aQ aF ay aX i ah pg aj, (aX, .cells cur' 133 (0, 0)), (aT, .cells fG 36 (0, 0)), (sd, .cells (X.map Bv).toArray 5 (0, 0))] (by kernel_rfl) ?_
 clear HF HM; intro a w HF HM
 refine wpList_nil ?_
 repeat (first | refine aS ?_ | refine aU ?_)
 replace HF := HF.sub ((xP b o n c s fb big ak aj au ah) ++ [(41, aH aT (i + 1) ah), (42, aH sd (ah * 40) (ah * 40)), (43, aB (i + 1))]) (by kernel_rfl)
 exact K a w z5 sb cur' fG hcs' DI htk htn HF (HM.sub (List.Sublist.cons _ (List.Sublist.cons_cons _ (List.Sublist.cons _ (List.Sublist.refl _)))))

abbrev eG := fun (fb : Nat) (dat : Int) (abi : Nat) (aC : Nat) (big : Bool) (aQ : Nat) (aF : Nat) (ay : Nat) (aX : Nat) (i : Nat) (ah : Nat) (pg : Nat) (aj : Nat) => ((fb, .cells #[aN 2, .int .u8 dat, aN 1, aV abi, aV aC, (aP big), aZ aQ, aZ aF, aJ ay, aH aX i ah, aH pg aj aj, aK, aK, aK] 131 (0, 0)) : Nat × Obj)
abbrev kD := fun (b : Nat) (o : Nat) (n : Nat) (c : Nat) (s : Nat) (fb : Nat) (big : Bool) (ak : Nat) (aj : Nat) (au : Nat) (ah : Nat) (aT : Nat) (i : Nat) (sd : Nat) => ([(0, .iface 178 (.slice (some ⟨b, o, none⟩) n c)), (4, aG s), (8, aG fb), (9, (aP big)), (10, aB ak), (11, aA 56), (12, aB aj), (13, aB au), (14, aA 64), (15, aB ah), (16, aB (ah - 1)), (26, aA 64), (41, aH aT i ah), (42, aH sd (ah * 64) (ah * 64)), (43, aB i)] : Slots)
abbrev xM := fun (fb : Nat) (dat : Int) (abi : Nat) (aC : Nat) (big : Bool) (aQ : Nat) (aF : Nat) (ay : Nat) (aX : Nat) (i : Nat) (ah : Nat) (pg : Nat) (aj : Nat) => ((fb, .cells #[aN 2, .int .u8 dat, aN 1, aV abi, aV aC, (aP big), aZ aQ, aZ aF, aJ ay, aH aX (i + 1) ah, aH pg aj aj, aK, aK, aK] 131 (0, 0)) : Nat × Obj)
abbrev mP := fun sb (b : Nat) (o : Nat) (n : Nat) (c : Nat) (v : gV) => ((sb, .cells #[.iface 178 (.slice (some ⟨b, o, none⟩) n c), aB v.off, aB v.off, aA (((v.bG : Nat) : Int) + ((v.off : Nat) : Int)), aB v.bG] 246 (0, 0)) : Nat × Obj)
abbrev xK := fun (b : Nat) (o : Nat) (n : Nat) (c : Nat) (s : Nat) (fb : Nat) (big : Bool) (ak : Nat) (aj : Nat) (au : Nat) (ah : Nat) => ([(0, .iface 178 (.slice (some ⟨b, o, none⟩) n c)), (4, aG s), (8, aG fb), (9, (aP big)), (10, aB ak), (11, aA 56), (12, aB aj), (13, aB au), (14, aA 64), (15, aB ah), (16, aB (ah - 1)), (26, aA 64)] : Slots)
abbrev jL := fun z5 => ((z5, .cells #[.string ⟨#[]⟩, lu 0, lu 0, bD 0, bD 0, bD 0, lu 0, lu 0, bD 0, bD 0, bD 0, .nilIface, .pointer none, aA 0, aA 0] 153 (0, 0)) : Nat × Obj)
abbrev dN := fun (b : Nat) (o : Nat) (n : Nat) (c : Nat) (s : Nat) (fb : Nat) (big : Bool) (ak : Nat) (aj : Nat) (au : Nat) (ah : Nat) (sd : Nat) (i : Nat) z5 (aT : Nat) => ((xK b o n c s fb big ak aj au ah) ++ [(42, aH sd (ah * 64) (ah * 64)), (43, aB i), (44, aJ (i * 64)), (45, aG z5), (41, aH aT (i + 1) ah)] : Slots)
abbrev LG := fun (sd : Nat) (i : Nat) (ah : Nat) => ((963, .slice (some ⟨sd, ((i * 64) + 4), none⟩) ((ah * 64) - ((i * 64) + 4)) ((ah * 64) - ((i * 64) + 4))) : Nat × Value)
abbrev xJ := fun (b : Nat) (o : Nat) (n : Nat) (c : Nat) (s : Nat) (fb : Nat) (big : Bool) (ak : Nat) (aj : Nat) (au : Nat) (ah : Nat) (sd : Nat) (i : Nat) z5 (aT : Nat) => ((dN b o n c s fb big ak aj au ah sd i z5 aT) ++ [(958, aG z5), (959, (aP big)), (963, .slice (some ⟨sd, ((i * 64) + 4), none⟩) ((ah * 64) - ((i * 64) + 4)) ((ah * 64) - ((i * 64) + 4)))] : Slots)
abbrev Bh := fun (sd : Nat) (i : Nat) (ah : Nat) => ((969, .slice (some ⟨sd, ((i * 64) + 8), none⟩) ((ah * 64) - ((i * 64) + 8)) ((ah * 64) - ((i * 64) + 8))) : Nat × Value)
abbrev vT := fun (b : Nat) (o : Nat) (n : Nat) (c : Nat) (s : Nat) (fb : Nat) (big : Bool) (ak : Nat) (aj : Nat) (au : Nat) (ah : Nat) (sd : Nat) (i : Nat) z5 (aT : Nat) => ((xJ b o n c s fb big ak aj au ah sd i z5 aT) ++ [(965, (aP big)), (969, .slice (some ⟨sd, ((i * 64) + 8), none⟩) ((ah * 64) - ((i * 64) + 8)) ((ah * 64) - ((i * 64) + 8)))] : Slots)
abbrev zD := fun (sd : Nat) (i : Nat) (ah : Nat) => ((976, .slice (some ⟨sd, ((i * 64) + 24), none⟩) ((ah * 64) - ((i * 64) + 24)) ((ah * 64) - ((i * 64) + 24))) : Nat × Value)
abbrev vS := fun (b : Nat) (o : Nat) (n : Nat) (c : Nat) (s : Nat) (fb : Nat) (big : Bool) (ak : Nat) (aj : Nat) (au : Nat) (ah : Nat) (sd : Nat) (i : Nat) z5 (aT : Nat) => ((vT b o n c s fb big ak aj au ah sd i z5 aT) ++ [(972, (aP big)), (976, .slice (some ⟨sd, ((i * 64) + 24), none⟩) ((ah * 64) - ((i * 64) + 24)) ((ah * 64) - ((i * 64) + 24)))] : Slots)
abbrev tq := fun (sd : Nat) (i : Nat) (ah : Nat) => ((982, .slice (some ⟨sd, ((i * 64) + 32), none⟩) ((ah * 64) - ((i * 64) + 32)) ((ah * 64) - ((i * 64) + 32))) : Nat × Value)
abbrev vP := fun (b : Nat) (o : Nat) (n : Nat) (c : Nat) (s : Nat) (fb : Nat) (big : Bool) (ak : Nat) (aj : Nat) (au : Nat) (ah : Nat) (sd : Nat) (i : Nat) z5 (aT : Nat) => ((vS b o n c s fb big ak aj au ah sd i z5 aT) ++ [(978, (aP big)), (982, .slice (some ⟨sd, ((i * 64) + 32), none⟩) ((ah * 64) - ((i * 64) + 32)) ((ah * 64) - ((i * 64) + 32)))] : Slots)
abbrev pV := fun (sd : Nat) (i : Nat) (ah : Nat) => ((988, .slice (some ⟨sd, ((i * 64) + 16), none⟩) ((ah * 64) - ((i * 64) + 16)) ((ah * 64) - ((i * 64) + 16))) : Nat × Value)
abbrev vO := fun (b : Nat) (o : Nat) (n : Nat) (c : Nat) (s : Nat) (fb : Nat) (big : Bool) (ak : Nat) (aj : Nat) (au : Nat) (ah : Nat) (sd : Nat) (i : Nat) z5 (aT : Nat) => ((vP b o n c s fb big ak aj au ah sd i z5 aT) ++ [(984, (aP big)), (988, .slice (some ⟨sd, ((i * 64) + 16), none⟩) ((ah * 64) - ((i * 64) + 16)) ((ah * 64) - ((i * 64) + 16)))] : Slots)
abbrev nK := fun (sd : Nat) (i : Nat) (ah : Nat) => ((994, .slice (some ⟨sd, ((i * 64) + 40), none⟩) ((ah * 64) - ((i * 64) + 40)) ((ah * 64) - ((i * 64) + 40))) : Nat × Value)
abbrev vN := fun (b : Nat) (o : Nat) (n : Nat) (c : Nat) (s : Nat) (fb : Nat) (big : Bool) (ak : Nat) (aj : Nat) (au : Nat) (ah : Nat) (sd : Nat) (i : Nat) z5 (aT : Nat) => ((vO b o n c s fb big ak aj au ah sd i z5 aT) ++ [(990, (aP big)), (994, .slice (some ⟨sd, ((i * 64) + 40), none⟩) ((ah * 64) - ((i * 64) + 40)) ((ah * 64) - ((i * 64) + 40)))] : Slots)
abbrev lS := fun (sd : Nat) (i : Nat) (ah : Nat) => ((1000, .slice (some ⟨sd, ((i * 64) + 44), none⟩) ((ah * 64) - ((i * 64) + 44)) ((ah * 64) - ((i * 64) + 44))) : Nat × Value)
abbrev vM := fun (b : Nat) (o : Nat) (n : Nat) (c : Nat) (s : Nat) (fb : Nat) (big : Bool) (ak : Nat) (aj : Nat) (au : Nat) (ah : Nat) (sd : Nat) (i : Nat) z5 (aT : Nat) => ((vN b o n c s fb big ak aj au ah sd i z5 aT) ++ [(996, (aP big)), (1000, .slice (some ⟨sd, ((i * 64) + 44), none⟩) ((ah * 64) - ((i * 64) + 44)) ((ah * 64) - ((i * 64) + 44)))] : Slots)
abbrev kZ := fun (sd : Nat) (i : Nat) (ah : Nat) => ((1006, .slice (some ⟨sd, ((i * 64) + 48), none⟩) ((ah * 64) - ((i * 64) + 48)) ((ah * 64) - ((i * 64) + 48))) : Nat × Value)
abbrev sZ := fun (b : Nat) (o : Nat) (n : Nat) (c : Nat) (s : Nat) (fb : Nat) (big : Bool) (ak : Nat) (aj : Nat) (au : Nat) (ah : Nat) (sd : Nat) (i : Nat) z5 (aT : Nat) => ((vM b o n c s fb big ak aj au ah sd i z5 aT) ++ [(1002, (aP big)), (1006, .slice (some ⟨sd, ((i * 64) + 48), none⟩) ((ah * 64) - ((i * 64) + 48)) ((ah * 64) - ((i * 64) + 48)))] : Slots)
abbrev jC := fun (sd : Nat) (i : Nat) (ah : Nat) => ((1012, .slice (some ⟨sd, ((i * 64) + 56), none⟩) ((ah * 64) - ((i * 64) + 56)) ((ah * 64) - ((i * 64) + 56))) : Nat × Value)
abbrev zC := fun (b : Nat) (o : Nat) (n : Nat) (c : Nat) (s : Nat) (fb : Nat) (big : Bool) (ak : Nat) (aj : Nat) (au : Nat) (ah : Nat) (sd : Nat) (i : Nat) z5 (aT : Nat) (v : gV) => ((dN b o n c s fb big ak aj au ah sd i z5 aT) ++ [(958, aG z5), (972, (aP big)), (976, .slice (some ⟨sd, ((i * 64) + 24), none⟩) ((ah * 64) - ((i * 64) + 24)) ((ah * 64) - ((i * 64) + 24))), (978, (aP big)), (982, .slice (some ⟨sd, ((i * 64) + 32), none⟩) ((ah * 64) - ((i * 64) + 32)) ((ah * 64) - ((i * 64) + 32))), (984, (aP big)), (988, .slice (some ⟨sd, ((i * 64) + 16), none⟩) ((ah * 64) - ((i * 64) + 16)) ((ah * 64) - ((i * 64) + 16))), (990, (aP big)), (994, .slice (some ⟨sd, ((i * 64) + 40), none⟩) ((ah * 64) - ((i * 64) + 40)) ((ah * 64) - ((i * 64) + 40))), (996, (aP big)), (1000, .slice (some ⟨sd, ((i * 64) + 44), none⟩) ((ah * 64) - ((i * 64) + 44)) ((ah * 64) - ((i * 64) + 44))), (1002, (aP big)), (1006, .slice (some ⟨sd, ((i * 64) + 48), none⟩) ((ah * 64) - ((i * 64) + 48)) ((ah * 64) - ((i * 64) + 48))), (1008, (aP big)), (1012, .slice (some ⟨sd, ((i * 64) + 56), none⟩) ((ah * 64) - ((i * 64) + 56)) ((ah * 64) - ((i * 64) + 56))), (964, aY v.ty)] : Slots)
abbrev D_ := fun (v : gV) => ((1014, .agg #[.string ⟨#[]⟩, aY (v).ty, aY (v).flags, aJ (v).addr, aJ (v).off, bD 0, aY (v).link, aY (v).info, aJ (v).align, aJ (v).ent, aJ (v).bG]) : Nat × Value)
abbrev qY := fun z5 (v : gV) => ((z5, .cells #[.string ⟨#[]⟩, aY (v).ty, aY (v).flags, aJ (v).addr, aJ (v).off, bD 0, aY (v).link, aY (v).info, aJ (v).align, aJ (v).ent, aJ (v).bG, .nilIface, .pointer none, aA 0, aA 0] 153 (0, 0)) : Nat × Obj)
abbrev pU := fun (b : Nat) (o : Nat) (n : Nat) (c : Nat) (s : Nat) (fb : Nat) (big : Bool) (ak : Nat) (aj : Nat) (au : Nat) (ah : Nat) (sd : Nat) (i : Nat) z5 (aT : Nat) => ((dN b o n c s fb big ak aj au ah sd i z5 aT) ++ [(1059, aG z5), (1060, .iface 178 (.slice (some ⟨b, o, none⟩) n c))] : Slots)
abbrev Ea := fun z5 (v : gV) sb => ((z5, .cells #[.string ⟨#[]⟩, aY (v).ty, aY (v).flags, aJ (v).addr, aJ (v).off, bD 0, aY (v).link, aY (v).info, aJ (v).align, aJ (v).ent, aJ (v).bG, .nilIface, aG sb, aA 0, aA 0] 153 (0, 0)) : Nat × Obj)
abbrev qX := fun z5 (v : gV) sb => ((z5, .cells #[.string ⟨#[]⟩, aY (v).ty, aY (v).flags, aJ (v).addr, aJ (v).off, aJ (v).bG, aY (v).link, aY (v).info, aJ (v).align, aJ (v).ent, aJ (v).bG, .iface 144 (aG sb), aG sb, aA 0, aA 0] 153 (0, 0)) : Nat × Obj)
theorem Ox (l : List UInt8) (b o n c : Nat) (hl : n = l.length) (hnc : n ≤ c) (big : Bool) (abi aC aQ aF ay ak aj au ah : Nat) (dat : Int) (b1 : aQ < 65536) (b2 : aF < 65536) (b3 : ay ≤ 18446744073709551615) (b4 : ak < 4611686018427387904) (b5 : au < 4611686018427387904) (b6 : aj < 200) (b7 : ah < 200) (X : List UInt8) (nI : X.length = (ah * 64)) (i : Nat) (hi : i < ah) (v : gV) (hv : uH (X.drop (i * 64)) true big v.name v.ty v.flags v.addr v.off v.bG v.link v.info v.align v.ent) (v1 : v.name < 4294967296) (v2 : v.ty < 4294967296) (v3 : v.flags < 4294967296) (v4 : v.off < 4611686018427387904) (v5 : v.bG < 4611686018427387904) (v6 : v.addr ≤ 18446744073709551615) (v7 : v.align ≤ 18446744073709551615) (v8 : v.ent ≤ 18446744073709551615) (v9 : (oC (v.flags : Int) 2048 == 0) = true)
  {K0 : Act → World → Prop} {Q : Exit → Act → World → Prop} (a : Act) (W1 : World) (s fb pg aX aT sd : Nat) (cur nms : Array Value) (hcs : cur.size = ah) (hns : nms.size = ah) (Iz : Mm [fb, aX, aT, sd] W1 W1 [eG fb dat abi aC big aQ aF ay aX i ah pg aj, (aX, .cells cur 133 (0, 0)), (aT, .cells nms 36 (0, 0)), (sd, .cells (X.map Bv).toArray 5 (0, 0))]) (HF : Fr 1287 a (kD b o n c s fb big ak aj au ah aT i sd))
  (K : ∀ a w' pb sb cur' fG, cur'.size = ah → fG.size = ah → cur'.toList.take (i + 1) = cur.toList.take i ++ [aG pb] → fG.toList.take (i + 1) = nms.toList.take i ++ [aY v.name] → Fr 1287 a ((xK b o n c s fb big ak aj au ah) ++ [(41, aH aT (i + 1) ah), (42, aH sd (ah * 64) (ah * 64)), (43, aB (i + 1))]) → Mm [fb, aX, aT, sd] W1 w' [mP sb b o n c v, (pb, .cells #[.string ⟨#[]⟩, aY (v).ty, aY (v).flags, aJ (v).addr, aJ (v).off, aJ (v).bG, aY (v).link, aY (v).info, aJ (v).align, aJ (v).ent, aJ (v).bG, .iface 144 (aG sb), aG sb, aA 0, aA 0] 153 (0, 0)), xM fb dat abi aC big aQ aF ay aX i ah pg aj, (aX, .cells cur' 133 (0, 0)), (aT, .cells fG 36 (0, 0)), (sd, .cells (X.map Bv).toArray 5 (0, 0))] → K0 a w') : (oD (spine Tryd.f78 44)).wp Tryd.prog (Exit.then K0 Q) a W1 := by
 obtain ⟨i0, hi0, hs0⟩ := qV
 have en : num big X ((i * 64) + 0) 4 = v.name := (fF big X (i * 64) 0 4).symm.trans hv.name
 have Nu : num big X ((i * 64) + 4) 4 = v.ty := (fF big X (i * 64) 4 4).symm.trans hv.ty
 have EZ : num big X ((i * 64) + 8) 8 = v.flags := (fF big X (i * 64) 8 8).symm.trans hv.flags
 have KH : num big X ((i * 64) + 24) 8 = v.off := (fF big X (i * 64) 24 8).symm.trans hv.off
 have KI : num big X ((i * 64) + 32) 8 = v.bG := (fF big X (i * 64) 32 8).symm.trans hv.size
 have Io : num big X ((i * 64) + 16) 8 = v.addr := (fF big X (i * 64) 16 8).symm.trans hv.addr
 have Ik : num big X ((i * 64) + 40) 4 = v.link := (fF big X (i * 64) 40 4).symm.trans hv.link
 have Il : num big X ((i * 64) + 44) 4 = v.info := (fF big X (i * 64) 44 4).symm.trans hv.info
 have E5 : num big X ((i * 64) + 48) 8 = v.align := (fF big X (i * 64) 48 8).symm.trans hv.align
 have KJ : num big X ((i * 64) + 56) 8 = v.ent := (fF big X (i * 64) 56 8).symm.trans hv.ent
 obtain ⟨w, hw⟩ : ∃ w, W1 = w := ⟨_, rfl⟩
 have HM : Mm [fb, aX, aT, sd] W1 w [eG fb dat abi aC big aQ aF ay aX i ah pg aj, (aX, .cells cur 133 (0, 0)), (aT, .cells nms 36 (0, 0)), (sd, .cells (X.map Bv).toArray 5 (0, 0))] := hw ▸ Iz
 conv => arg 5; rw [hw]
 clear hw Iz
 refine wp_seq ?_
 refine wp_seq (wp_region_lit ?_)
 refine aO HF HM rfl 3 [] ((kD b o n c s fb big ak aj au ah aT i sd) ++ [(859, .bool (decide (((i : Nat) : Int) < ((ah : Nat) : Int))))]) [eG fb dat abi aC big aQ aF ay aX i ah pg aj, (aX, .cells cur 133 (0, 0)), (aT, .cells nms 36 (0, 0)), (sd, .cells (X.map Bv).toArray 5 (0, 0))] (by kernel_rfl) ?_
 clear HF HM; intro a w HF HM
 rw [show decide (((i : Nat) : Int) < ((ah : Nat) : Int)) = true from dM (by omega)] at HF
 refine aI ?_
 refine bF HF rfl ?_
 refine wp_skip ?_
 repeat (first | refine aS ?_ | refine aU ?_)
 replace HF := HF.sub (kD b o n c s fb big ak aj au ah aT i sd) (by kernel_rfl)
 refine wp_seq (wp_block ?_)
 refine wp_seq (wp_region_lit ?_)
 refine aO HF HM rfl 2 [] ((kD b o n c s fb big ak aj au ah aT i sd) ++ [(863, bD (IntKind.u64.wrap ((i : Nat) : Int)))]) [eG fb dat abi aC big aQ aF ay aX i ah pg aj, (aX, .cells cur 133 (0, 0)), (aT, .cells nms 36 (0, 0)), (sd, .cells (X.map Bv).toArray 5 (0, 0))] (by kernel_rfl) ?_
 clear HF HM; intro a w HF HM
 rw [show IntKind.u64.wrap ((i : Nat) : Int) = ((i : Nat) : Int) from IntWalk.u64_in _ (by omega)] at HF
 refine aO HF HM rfl 3 [] ((kD b o n c s fb big ak aj au ah aT i sd) ++ [(866, bD (IntKind.u64.wrap (((i : Nat) : Int) * 64)))]) [eG fb dat abi aC big aQ aF ay aX i ah pg aj, (aX, .cells cur 133 (0, 0)), (aT, .cells nms 36 (0, 0)), (sd, .cells (X.map Bv).toArray 5 (0, 0))] (by kernel_rfl) ?_
 clear HF HM; intro a w HF HM
 rw [show IntKind.u64.wrap (((i : Nat) : Int) * 64) = (((i * 64) : Nat) : Int) from (IntWalk.u64_in _ (by omega)).trans (by omega)] at HF
 refine aO HF HM rfl 1 [] ((kD b o n c s fb big ak aj au ah aT i sd) ++ [(44, aJ (i * 64))]) [eG fb dat abi aC big aQ aF ay aX i ah pg aj, (aX, .cells cur 133 (0, 0)), (aT, .cells nms 36 (0, 0)), (sd, .cells (X.map Bv).toArray 5 (0, 0))] (by kernel_rfl) ?_
 clear HF HM; intro a w HF HM
 refine aI ?_
 obtain ⟨z5, vF⟩ : ∃ z, w.heap.size = z := ⟨_, rfl⟩
 refine bC HF HM vF [] ((kD b o n c s fb big ak aj au ah aT i sd) ++ [(44, aJ (i * 64)), (45, aG z5)]) [jL z5, eG fb dat abi aC big aQ aF ay aX i ah pg aj, (aX, .cells cur 133 (0, 0)), (aT, .cells nms 36 (0, 0)), (sd, .cells (X.map Bv).toArray 5 (0, 0))] (by kernel_rfl) ?_
 clear HF HM vF; intro a w HF HM
 refine wp_seq ?_
 refine bC HF HM rfl [[3]] ((kD b o n c s fb big ak aj au ah aT i sd) ++ [(44, aJ (i * 64)), (45, aG z5), (872, aN 2)]) [jL z5, eG fb dat abi aC big aQ aF ay aX i ah pg aj, (aX, .cells cur 133 (0, 0)), (aT, .cells nms 36 (0, 0)), (sd, .cells (X.map Bv).toArray 5 (0, 0))] (by kernel_rfl) ?_
 clear HF HM; intro a w HF HM
 refine wp_block ?_
 refine bC HF HM rfl [] ((kD b o n c s fb big ak aj au ah aT i sd) ++ [(44, aJ (i * 64)), (45, aG z5), (872, aN 2), (873, .bool false)]) [jL z5, eG fb dat abi aC big aQ aF ay aX i ah pg aj, (aX, .cells cur 133 (0, 0)), (aT, .cells nms 36 (0, 0)), (sd, .cells (X.map Bv).toArray 5 (0, 0))] (by kernel_rfl) ?_
 clear HF HM; intro a w HF HM
 refine bf HF rfl ?_
 refine bC HF HM rfl [] ((kD b o n c s fb big ak aj au ah aT i sd) ++ [(44, aJ (i * 64)), (45, aG z5), (872, aN 2), (947, .bool true)]) [jL z5, eG fb dat abi aC big aQ aF ay aX i ah pg aj, (aX, .cells cur 133 (0, 0)), (aT, .cells nms 36 (0, 0)), (sd, .cells (X.map Bv).toArray 5 (0, 0))] (by kernel_rfl) ?_
 clear HF HM; intro a w HF HM
 refine bF HF rfl ?_
 replace HF := HF.sub ((kD b o n c s fb big ak aj au ah aT i sd) ++ [(44, aJ (i * 64)), (45, aG z5)]) (by kernel_rfl)
 refine wp_seq (wp_region_lit ?_)
 refine aO HF HM rfl 5 [] ((kD b o n c s fb big ak aj au ah aT i sd) ++ [(44, aJ (i * 64)), (45, aG z5), (949, aH aT i ah), (950, (aP big)), (951, aH sd (ah * 64) (ah * 64)), (953, bD (IntKind.u64.wrap ((((i * 64) : Nat) : Int) + 0)))]) [jL z5, eG fb dat abi aC big aQ aF ay aX i ah pg aj, (aX, .cells cur 133 (0, 0)), (aT, .cells nms 36 (0, 0)), (sd, .cells (X.map Bv).toArray 5 (0, 0))] (by kernel_rfl) ?_
 clear HF HM; intro a w HF HM
 rw [show IntKind.u64.wrap ((((i * 64) : Nat) : Int) + 0) = ((((i * 64) + 0) : Nat) : Int) from (IntWalk.u64_in _ (by omega)).trans (by omega)] at HF
 refine dP HF (by kernel_rfl) (.slice (some ⟨sd, ((i * 64) + 0), none⟩) ((ah * 64) - ((i * 64) + 0)) ((ah * 64) - ((i * 64) + 0))) (by kernel_rfl) (eF (t := 33) Tryd.underlying33 hi0 hs0 rfl ((i * 64) + 0) (kk := .u64) rfl rfl (by omega) (by omega) (by omega) _) ?_
 clear HF; intro a HF; replace HF := HF.sub ((kD b o n c s fb big ak aj au ah aT i sd) ++ [(44, aJ (i * 64)), (45, aG z5), (949, aH aT i ah), (950, (aP big)), (951, aH sd (ah * 64) (ah * 64)), (953, aJ ((i * 64) + 0)), (954, .slice (some ⟨sd, ((i * 64) + 0), none⟩) ((ah * 64) - ((i * 64) + 0)) ((ah * 64) - ((i * 64) + 0)))]) (by kernel_rfl)
 refine bn HF (by kernel_rfl) 87 #[(aP big), .slice (some ⟨sd, ((i * 64) + 0), none⟩) ((ah * 64) - ((i * 64) + 0)) ((ah * 64) - ((i * 64) + 0))] (by kernel_rfl) (fun w => by kernel_rfl) (Calls.mono (jB (HM.get (i := 4) rfl) (by unfold maxLen; omega) big ((i * 64) + 0) ((ah * 64) - ((i * 64) + 0)) (by omega) (by omega) ((v.name : Nat) : Int) (by rw [en])) ?_)
 rintro _ w1 ⟨rfl, jG, hq⟩
 replace HM : Mm [fb, aX, aT, sd] W1 w1 [jL z5, eG fb dat abi aC big aQ aF ay aX i ah pg aj, (aX, .cells cur 133 (0, 0)), (aT, .cells nms 36 (0, 0)), (sd, .cells (X.map Bv).toArray 5 (0, 0))] := by rw [hq]; exact HM.drewN _
 clear hq
 refine ⟨_, rfl, ?_⟩; clear HF; intro a HF; replace HF := HF.sub ((kD b o n c s fb big ak aj au ah aT i sd) ++ [(44, aJ (i * 64)), (45, aG z5), (949, aH aT i ah), (950, (aP big)), (951, aH sd (ah * 64) (ah * 64)), (953, aJ ((i * 64) + 0)), (954, .slice (some ⟨sd, ((i * 64) + 0), none⟩) ((ah * 64) - ((i * 64) + 0)) ((ah * 64) - ((i * 64) + 0))), (955, aY v.name)]) (by kernel_rfl)
 obtain ⟨z10, BG⟩ : ∃ z, w1.heap.size = z := ⟨_, rfl⟩
 refine aO HF HM BG 1 [] ((kD b o n c s fb big ak aj au ah aT i sd) ++ [(44, aJ (i * 64)), (45, aG z5), (949, aH aT i ah), (956, aH z10 1 1)]) [(z10, .cells #[aY v.name] 36 (0, 0)), jL z5, eG fb dat abi aC big aQ aF ay aX i ah pg aj, (aX, .cells cur 133 (0, 0)), (aT, .cells nms 36 (0, 0)), (sd, .cells (X.map Bv).toArray 5 (0, 0))] (by kernel_rfl) ?_
 clear HF HM BG; intro a w HF HM
 refine oW HF HM rfl _ _ 222 rfl rfl 36 (lu 0) 4 Tryd.underlying222 rY 4 0 aT _ i ah nms _ _ rfl hns (by omega) (by unfold maxLen; omega) rfl rfl rfl rfl ?_
 intro a2 w2 fG DI htn bI HF2; clear HF HM; have HM : Mm [fb, aX, aT, sd] W1 w2 [(z10, .cells #[aY v.name] 36 (0, 0)), jL z5, eG fb dat abi aC big aQ aF ay aX i ah pg aj, (aX, .cells cur 133 (0, 0)), (aT, .cells fG 36 (0, 0)), (sd, .cells (X.map Bv).toArray 5 (0, 0))] := bI; have HF := HF2; clear bI HF2
 replace HF := HF.sub ((kD b o n c s fb big ak aj au ah aT i sd) ++ [(44, aJ (i * 64)), (45, aG z5), (957, aH aT (i + 1) ah)]) (by kernel_rfl)
 refine aO HF HM rfl 1 [] (dN b o n c s fb big ak aj au ah sd i z5 aT) [(z10, .cells #[aY v.name] 36 (0, 0)), jL z5, eG fb dat abi aC big aQ aF ay aX i ah pg aj, (aX, .cells cur 133 (0, 0)), (aT, .cells fG 36 (0, 0)), (sd, .cells (X.map Bv).toArray 5 (0, 0))] (by kernel_rfl) ?_
 clear HF HM; intro a w HF HM
 refine aI ?_
 refine sG HM (by kernel_rfl) [(sd, .cells (X.map Bv).toArray 5 (0, 0))] [(0, false), (1, false), (2, false), (3, false), (4, false), (5, false), (7, false), (8, false), (9, false), (10, false), (11, false), (14, false), (15, false), (16, false), (17, false), (18, false), (20, false), (21, false), (22, false), (23, false), (24, false), (26, false), (27, false), (28, false), (29, false), (30, false), (32, false), (33, false), (34, false), (35, false), (36, false), (38, false), (39, false), (40, false), (41, false), (42, false), (44, false), (45, false), (46, false), (47, false), (48, false), (50, false), (51, false), (52, false), (53, false), (54, false), (6, true), (12, true), (13, false), (19, true), (25, true), (31, true), (37, true), (43, true), (49, true), (55, true), (56, false), (57, false), (58, false), (59, true)] (by kernel_rfl) ?_
 clear HM; intro w3 HM
 refine bH HF (HM.told [5] rfl) 1 [] ((dN b o n c s fb big ak aj au ah sd i z5 aT) ++ [(958, aG z5)]) (by kernel_rfl) ?_
 clear HF; intro a HF
 refine bH HF (HM.told [5] rfl) 4 [] ((dN b o n c s fb big ak aj au ah sd i z5 aT) ++ [(958, aG z5), (959, (aP big)), (960, aH sd (ah * 64) (ah * 64)), (962, bD (IntKind.u64.wrap ((((i * 64) : Nat) : Int) + 4)))]) (by kernel_rfl) ?_
 clear HF; intro a HF
 rw [show IntKind.u64.wrap ((((i * 64) : Nat) : Int) + 4) = ((((i * 64) + 4) : Nat) : Int) from (IntWalk.u64_in _ (by omega)).trans (by omega)] at HF
 refine dZ rfl HF (HM.told [5] rfl) rfl (.slice (some ⟨sd, ((i * 64) + 4), none⟩) ((ah * 64) - ((i * 64) + 4)) ((ah * 64) - ((i * 64) + 4))) (by kernel_rfl) (fun w hw => eF (t := 33) Tryd.underlying33 hi0 hs0 rfl ((i * 64) + 4) (kk := .u64) rfl rfl (by omega) (by omega) (by omega) w) ?_
 clear HF; intro a HF; replace HF := HF.sub ((dN b o n c s fb big ak aj au ah sd i z5 aT) ++ [(958, aG z5), (959, (aP big)), (960, aH sd (ah * 64) (ah * 64)), (962, aJ ((i * 64) + 4)), LG sd i ah]) (by kernel_rfl)
 replace HF := HF.sub (xJ b o n c s fb big ak aj au ah sd i z5 aT) (by kernel_rfl)
 refine bH HF (HM.told [5] rfl) 4 [] ((xJ b o n c s fb big ak aj au ah sd i z5 aT) ++ [(965, (aP big)), (966, aH sd (ah * 64) (ah * 64)), (968, bD (IntKind.u64.wrap ((((i * 64) : Nat) : Int) + 8)))]) (by kernel_rfl) ?_
 clear HF; intro a HF
 rw [show IntKind.u64.wrap ((((i * 64) : Nat) : Int) + 8) = ((((i * 64) + 8) : Nat) : Int) from (IntWalk.u64_in _ (by omega)).trans (by omega)] at HF
 refine dZ rfl HF (HM.told [5] rfl) rfl (.slice (some ⟨sd, ((i * 64) + 8), none⟩) ((ah * 64) - ((i * 64) + 8)) ((ah * 64) - ((i * 64) + 8))) (by kernel_rfl) (fun w hw => eF (t := 33) Tryd.underlying33 hi0 hs0 rfl ((i * 64) + 8) (kk := .u64) rfl rfl (by omega) (by omega) (by omega) w) ?_
 clear HF; intro a HF; replace HF := HF.sub ((xJ b o n c s fb big ak aj au ah sd i z5 aT) ++ [(965, (aP big)), (966, aH sd (ah * 64) (ah * 64)), (968, aJ ((i * 64) + 8)), Bh sd i ah]) (by kernel_rfl)
 replace HF := HF.sub (vT b o n c s fb big ak aj au ah sd i z5 aT) (by kernel_rfl)
 refine bH HF (HM.told [5] rfl) 4 [] ((vT b o n c s fb big ak aj au ah sd i z5 aT) ++ [(972, (aP big)), (973, aH sd (ah * 64) (ah * 64)), (975, bD (IntKind.u64.wrap ((((i * 64) : Nat) : Int) + 24)))]) (by kernel_rfl) ?_
 clear HF; intro a HF
 rw [show IntKind.u64.wrap ((((i * 64) : Nat) : Int) + 24) = ((((i * 64) + 24) : Nat) : Int) from (IntWalk.u64_in _ (by omega)).trans (by omega)] at HF
 refine dZ rfl HF (HM.told [5] rfl) rfl (.slice (some ⟨sd, ((i * 64) + 24), none⟩) ((ah * 64) - ((i * 64) + 24)) ((ah * 64) - ((i * 64) + 24))) (by kernel_rfl) (fun w hw => eF (t := 33) Tryd.underlying33 hi0 hs0 rfl ((i * 64) + 24) (kk := .u64) rfl rfl (by omega) (by omega) (by omega) w) ?_
 clear HF; intro a HF; replace HF := HF.sub ((vT b o n c s fb big ak aj au ah sd i z5 aT) ++ [(972, (aP big)), (973, aH sd (ah * 64) (ah * 64)), (975, aJ ((i * 64) + 24)), zD sd i ah]) (by kernel_rfl)
 replace HF := HF.sub (vS b o n c s fb big ak aj au ah sd i z5 aT) (by kernel_rfl)
 refine bH HF (HM.told [5] rfl) 4 [] ((vS b o n c s fb big ak aj au ah sd i z5 aT) ++ [(978, (aP big)), (979, aH sd (ah * 64) (ah * 64)), (981, bD (IntKind.u64.wrap ((((i * 64) : Nat) : Int) + 32)))]) (by kernel_rfl) ?_
 clear HF; intro a HF
 rw [show IntKind.u64.wrap ((((i * 64) : Nat) : Int) + 32) = ((((i * 64) + 32) : Nat) : Int) from (IntWalk.u64_in _ (by omega)).trans (by omega)] at HF
 refine dZ rfl HF (HM.told [5] rfl) rfl (.slice (some ⟨sd, ((i * 64) + 32), none⟩) ((ah * 64) - ((i * 64) + 32)) ((ah * 64) - ((i * 64) + 32))) (by kernel_rfl) (fun w hw => eF (t := 33) Tryd.underlying33 hi0 hs0 rfl ((i * 64) + 32) (kk := .u64) rfl rfl (by omega) (by omega) (by omega) w) ?_
 clear HF; intro a HF; replace HF := HF.sub ((vS b o n c s fb big ak aj au ah sd i z5 aT) ++ [(978, (aP big)), (979, aH sd (ah * 64) (ah * 64)), (981, aJ ((i * 64) + 32)), tq sd i ah]) (by kernel_rfl)
 replace HF := HF.sub (vP b o n c s fb big ak aj au ah sd i z5 aT) (by kernel_rfl)
 refine bH HF (HM.told [5] rfl) 4 [] ((vP b o n c s fb big ak aj au ah sd i z5 aT) ++ [(984, (aP big)), (985, aH sd (ah * 64) (ah * 64)), (987, bD (IntKind.u64.wrap ((((i * 64) : Nat) : Int) + 16)))]) (by kernel_rfl) ?_
 clear HF; intro a HF
 rw [show IntKind.u64.wrap ((((i * 64) : Nat) : Int) + 16) = ((((i * 64) + 16) : Nat) : Int) from (IntWalk.u64_in _ (by omega)).trans (by omega)] at HF
 refine dZ rfl HF (HM.told [5] rfl) rfl (.slice (some ⟨sd, ((i * 64) + 16), none⟩) ((ah * 64) - ((i * 64) + 16)) ((ah * 64) - ((i * 64) + 16))) (by kernel_rfl) (fun w hw => eF (t := 33) Tryd.underlying33 hi0 hs0 rfl ((i * 64) + 16) (kk := .u64) rfl rfl (by omega) (by omega) (by omega) w) ?_
 clear HF; intro a HF; replace HF := HF.sub ((vP b o n c s fb big ak aj au ah sd i z5 aT) ++ [(984, (aP big)), (985, aH sd (ah * 64) (ah * 64)), (987, aJ ((i * 64) + 16)), pV sd i ah]) (by kernel_rfl)
 replace HF := HF.sub (vO b o n c s fb big ak aj au ah sd i z5 aT) (by kernel_rfl)
 refine bH HF (HM.told [5] rfl) 4 [] ((vO b o n c s fb big ak aj au ah sd i z5 aT) ++ [(990, (aP big)), (991, aH sd (ah * 64) (ah * 64)), (993, bD (IntKind.u64.wrap ((((i * 64) : Nat) : Int) + 40)))]) (by kernel_rfl) ?_
 clear HF; intro a HF
 rw [show IntKind.u64.wrap ((((i * 64) : Nat) : Int) + 40) = ((((i * 64) + 40) : Nat) : Int) from (IntWalk.u64_in _ (by omega)).trans (by omega)] at HF
 refine dZ rfl HF (HM.told [5] rfl) rfl (.slice (some ⟨sd, ((i * 64) + 40), none⟩) ((ah * 64) - ((i * 64) + 40)) ((ah * 64) - ((i * 64) + 40))) (by kernel_rfl) (fun w hw => eF (t := 33) Tryd.underlying33 hi0 hs0 rfl ((i * 64) + 40) (kk := .u64) rfl rfl (by omega) (by omega) (by omega) w) ?_
 clear HF; intro a HF; replace HF := HF.sub ((vO b o n c s fb big ak aj au ah sd i z5 aT) ++ [(990, (aP big)), (991, aH sd (ah * 64) (ah * 64)), (993, aJ ((i * 64) + 40)), nK sd i ah]) (by kernel_rfl)
 replace HF := HF.sub (vN b o n c s fb big ak aj au ah sd i z5 aT) (by kernel_rfl)
 refine bH HF (HM.told [5] rfl) 4 [] ((vN b o n c s fb big ak aj au ah sd i z5 aT) ++ [(996, (aP big)), (997, aH sd (ah * 64) (ah * 64)), (999, bD (IntKind.u64.wrap ((((i * 64) : Nat) : Int) + 44)))]) (by kernel_rfl) ?_
 clear HF; intro a HF
 rw [show IntKind.u64.wrap ((((i * 64) : Nat) : Int) + 44) = ((((i * 64) + 44) : Nat) : Int) from (IntWalk.u64_in _ (by omega)).trans (by omega)] at HF
 refine dZ rfl HF (HM.told [5] rfl) rfl (.slice (some ⟨sd, ((i * 64) + 44), none⟩) ((ah * 64) - ((i * 64) + 44)) ((ah * 64) - ((i * 64) + 44))) (by kernel_rfl) (fun w hw => eF (t := 33) Tryd.underlying33 hi0 hs0 rfl ((i * 64) + 44) (kk := .u64) rfl rfl (by omega) (by omega) (by omega) w) ?_
 clear HF; intro a HF; replace HF := HF.sub ((vN b o n c s fb big ak aj au ah sd i z5 aT) ++ [(996, (aP big)), (997, aH sd (ah * 64) (ah * 64)), (999, aJ ((i * 64) + 44)), lS sd i ah]) (by kernel_rfl)
 replace HF := HF.sub (vM b o n c s fb big ak aj au ah sd i z5 aT) (by kernel_rfl)
 refine bH HF (HM.told [5] rfl) 4 [] ((vM b o n c s fb big ak aj au ah sd i z5 aT) ++ [(1002, (aP big)), (1003, aH sd (ah * 64) (ah * 64)), (1005, bD (IntKind.u64.wrap ((((i * 64) : Nat) : Int) + 48)))]) (by kernel_rfl) ?_
 clear HF; intro a HF
 rw [show IntKind.u64.wrap ((((i * 64) : Nat) : Int) + 48) = ((((i * 64) + 48) : Nat) : Int) from (IntWalk.u64_in _ (by omega)).trans (by omega)] at HF
 refine dZ rfl HF (HM.told [5] rfl) rfl (.slice (some ⟨sd, ((i * 64) + 48), none⟩) ((ah * 64) - ((i * 64) + 48)) ((ah * 64) - ((i * 64) + 48))) (by kernel_rfl) (fun w hw => eF (t := 33) Tryd.underlying33 hi0 hs0 rfl ((i * 64) + 48) (kk := .u64) rfl rfl (by omega) (by omega) (by omega) w) ?_
 clear HF; intro a HF; replace HF := HF.sub ((vM b o n c s fb big ak aj au ah sd i z5 aT) ++ [(1002, (aP big)), (1003, aH sd (ah * 64) (ah * 64)), (1005, aJ ((i * 64) + 48)), kZ sd i ah]) (by kernel_rfl)
 replace HF := HF.sub (sZ b o n c s fb big ak aj au ah sd i z5 aT) (by kernel_rfl)
 refine bH HF (HM.told [5] rfl) 4 [] ((sZ b o n c s fb big ak aj au ah sd i z5 aT) ++ [(1008, (aP big)), (1009, aH sd (ah * 64) (ah * 64)), (1011, bD (IntKind.u64.wrap ((((i * 64) : Nat) : Int) + 56)))]) (by kernel_rfl) ?_
 clear HF; intro a HF
 rw [show IntKind.u64.wrap ((((i * 64) : Nat) : Int) + 56) = ((((i * 64) + 56) : Nat) : Int) from (IntWalk.u64_in _ (by omega)).trans (by omega)] at HF
 refine dZ rfl HF (HM.told [5] rfl) rfl (.slice (some ⟨sd, ((i * 64) + 56), none⟩) ((ah * 64) - ((i * 64) + 56)) ((ah * 64) - ((i * 64) + 56))) (by kernel_rfl) (fun w hw => eF (t := 33) Tryd.underlying33 hi0 hs0 rfl ((i * 64) + 56) (kk := .u64) rfl rfl (by omega) (by omega) (by omega) w) ?_
 clear HF; intro a HF; replace HF := HF.sub ((sZ b o n c s fb big ak aj au ah sd i z5 aT) ++ [(1008, (aP big)), (1009, aH sd (ah * 64) (ah * 64)), (1011, aJ ((i * 64) + 56)), jC sd i ah]) (by kernel_rfl)
 replace HF := HF.sub ((sZ b o n c s fb big ak aj au ah sd i z5 aT) ++ [(1008, (aP big)), jC sd i ah]) (by kernel_rfl)
 refine b_ rfl ?_
 refine bn HF (by kernel_rfl) 87 #[(aP big), .slice (some ⟨sd, ((i * 64) + 4), none⟩) ((ah * 64) - ((i * 64) + 4)) ((ah * 64) - ((i * 64) + 4))] (by kernel_rfl) (fun w => by kernel_rfl) (Calls.mono (jB (HM.get (i := 5) rfl) (by unfold maxLen; omega) big ((i * 64) + 4) ((ah * 64) - ((i * 64) + 4)) (by omega) (by omega) ((v.ty : Nat) : Int) (by rw [Nu])) ?_)
 rintro _ w4 ⟨rfl, jG, hq⟩
 replace HM : Mm [fb, aX, aT, sd] W1 w4 [(z10, .cells #[aY v.name] 36 (0, 0)), jL z5, eG fb dat abi aC big aQ aF ay aX i ah pg aj, (aX, .cells cur 133 (0, 0)), (aT, .cells fG 36 (0, 0)), (sd, .cells (X.map Bv).toArray 5 (0, 0))] := by rw [hq]; exact HM.drewN _
 clear hq
 refine ⟨_, rfl, ?_⟩; clear HF; intro a HF; replace HF := HF.sub ((sZ b o n c s fb big ak aj au ah sd i z5 aT) ++ [(1008, (aP big)), jC sd i ah, (964, aY v.ty)]) (by kernel_rfl)
 refine dF (HM.told [5] rfl) ?_
 replace HF := HF.sub ((dN b o n c s fb big ak aj au ah sd i z5 aT) ++ [(958, aG z5), (965, (aP big)), Bh sd i ah, (972, (aP big)), zD sd i ah, (978, (aP big)), tq sd i ah, (984, (aP big)), pV sd i ah, (990, (aP big)), nK sd i ah, (996, (aP big)), lS sd i ah, (1002, (aP big)), kZ sd i ah, (1008, (aP big)), jC sd i ah, (964, aY v.ty)]) (by kernel_rfl)
 refine b_ rfl ?_
 refine bn HF (by kernel_rfl) 88 #[(aP big), .slice (some ⟨sd, ((i * 64) + 8), none⟩) ((ah * 64) - ((i * 64) + 8)) ((ah * 64) - ((i * 64) + 8))] (by kernel_rfl) (fun w => by kernel_rfl) (Calls.mono (nZ (HM.get (i := 5) rfl) (by unfold maxLen; omega) big ((i * 64) + 8) ((ah * 64) - ((i * 64) + 8)) (by omega) (by omega) ((v.flags : Nat) : Int) (by rw [EZ])) ?_)
 rintro _ w5 ⟨rfl, jG, hq⟩
 replace HM : Mm [fb, aX, aT, sd] W1 w5 [(z10, .cells #[aY v.name] 36 (0, 0)), jL z5, eG fb dat abi aC big aQ aF ay aX i ah pg aj, (aX, .cells cur 133 (0, 0)), (aT, .cells fG 36 (0, 0)), (sd, .cells (X.map Bv).toArray 5 (0, 0))] := by rw [hq]; exact HM.drewN _
 clear hq
 refine ⟨_, rfl, ?_⟩; clear HF; intro a HF; replace HF := HF.sub ((dN b o n c s fb big ak aj au ah sd i z5 aT) ++ [(958, aG z5), (965, (aP big)), Bh sd i ah, (972, (aP big)), zD sd i ah, (978, (aP big)), tq sd i ah, (984, (aP big)), pV sd i ah, (990, (aP big)), nK sd i ah, (996, (aP big)), lS sd i ah, (1002, (aP big)), kZ sd i ah, (1008, (aP big)), jC sd i ah, (964, aY v.ty), (970, aJ v.flags)]) (by kernel_rfl)
 refine dF (HM.told [5] rfl) ?_
 replace HF := HF.sub ((zC b o n c s fb big ak aj au ah sd i z5 aT v) ++ [(970, aJ v.flags)]) (by kernel_rfl)
 refine bH HF (HM.told [5] rfl) 1 [] ((zC b o n c s fb big ak aj au ah sd i z5 aT v) ++ [(971, lu (IntKind.u32.wrap ((v.flags : Nat) : Int)))]) (by kernel_rfl) ?_
 clear HF; intro a HF
 rw [show IntKind.u32.wrap ((v.flags : Nat) : Int) = ((v.flags : Nat) : Int) from IntWalk.u32_in _ (by omega)] at HF
 refine b_ rfl ?_
 refine bn HF (by kernel_rfl) 88 #[(aP big), .slice (some ⟨sd, ((i * 64) + 24), none⟩) ((ah * 64) - ((i * 64) + 24)) ((ah * 64) - ((i * 64) + 24))] (by kernel_rfl) (fun w => by kernel_rfl) (Calls.mono (nZ (HM.get (i := 5) rfl) (by unfold maxLen; omega) big ((i * 64) + 24) ((ah * 64) - ((i * 64) + 24)) (by omega) (by omega) ((v.off : Nat) : Int) (by rw [KH])) ?_)
 rintro _ w6 ⟨rfl, jG, hq⟩
 replace HM : Mm [fb, aX, aT, sd] W1 w6 [(z10, .cells #[aY v.name] 36 (0, 0)), jL z5, eG fb dat abi aC big aQ aF ay aX i ah pg aj, (aX, .cells cur 133 (0, 0)), (aT, .cells fG 36 (0, 0)), (sd, .cells (X.map Bv).toArray 5 (0, 0))] := by rw [hq]; exact HM.drewN _
 clear hq
 refine ⟨_, rfl, ?_⟩; clear HF; intro a HF; replace HF := HF.sub ((zC b o n c s fb big ak aj au ah sd i z5 aT v) ++ [(971, aY v.flags), (977, aJ v.off)]) (by kernel_rfl)
 refine dF (HM.told [5] rfl) ?_
 replace HF := HF.sub ((dN b o n c s fb big ak aj au ah sd i z5 aT) ++ [(958, aG z5), (978, (aP big)), tq sd i ah, (984, (aP big)), pV sd i ah, (990, (aP big)), nK sd i ah, (996, (aP big)), lS sd i ah, (1002, (aP big)), kZ sd i ah, (1008, (aP big)), jC sd i ah, (964, aY v.ty), (971, aY v.flags), (977, aJ v.off)]) (by kernel_rfl)
 refine b_ rfl ?_
 refine bn HF (by kernel_rfl) 88 #[(aP big), .slice (some ⟨sd, ((i * 64) + 32), none⟩) ((ah * 64) - ((i * 64) + 32)) ((ah * 64) - ((i * 64) + 32))] (by kernel_rfl) (fun w => by kernel_rfl) (Calls.mono (nZ (HM.get (i := 5) rfl) (by unfold maxLen; omega) big ((i * 64) + 32) ((ah * 64) - ((i * 64) + 32)) (by omega) (by omega) ((v.bG : Nat) : Int) (by rw [KI])) ?_)
 rintro _ w7 ⟨rfl, jG, hq⟩
 replace HM : Mm [fb, aX, aT, sd] W1 w7 [(z10, .cells #[aY v.name] 36 (0, 0)), jL z5, eG fb dat abi aC big aQ aF ay aX i ah pg aj, (aX, .cells cur 133 (0, 0)), (aT, .cells fG 36 (0, 0)), (sd, .cells (X.map Bv).toArray 5 (0, 0))] := by rw [hq]; exact HM.drewN _
 clear hq
 refine ⟨_, rfl, ?_⟩; clear HF; intro a HF; replace HF := HF.sub ((dN b o n c s fb big ak aj au ah sd i z5 aT) ++ [(958, aG z5), (978, (aP big)), tq sd i ah, (984, (aP big)), pV sd i ah, (990, (aP big)), nK sd i ah, (996, (aP big)), lS sd i ah, (1002, (aP big)), kZ sd i ah, (1008, (aP big)), jC sd i ah, (964, aY v.ty), (971, aY v.flags), (977, aJ v.off), (983, aJ v.bG)]) (by kernel_rfl)
 refine dF (HM.told [5] rfl) ?_
 replace HF := HF.sub ((dN b o n c s fb big ak aj au ah sd i z5 aT) ++ [(958, aG z5), (984, (aP big)), pV sd i ah, (990, (aP big)), nK sd i ah, (996, (aP big)), lS sd i ah, (1002, (aP big)), kZ sd i ah, (1008, (aP big)), jC sd i ah, (964, aY v.ty), (971, aY v.flags), (977, aJ v.off), (983, aJ v.bG)]) (by kernel_rfl)
 refine b_ rfl ?_
 refine bn HF (by kernel_rfl) 88 #[(aP big), .slice (some ⟨sd, ((i * 64) + 16), none⟩) ((ah * 64) - ((i * 64) + 16)) ((ah * 64) - ((i * 64) + 16))] (by kernel_rfl) (fun w => by kernel_rfl) (Calls.mono (nZ (HM.get (i := 5) rfl) (by unfold maxLen; omega) big ((i * 64) + 16) ((ah * 64) - ((i * 64) + 16)) (by omega) (by omega) ((v.addr : Nat) : Int) (by rw [Io])) ?_)
 rintro _ w8 ⟨rfl, jG, hq⟩
 replace HM : Mm [fb, aX, aT, sd] W1 w8 [(z10, .cells #[aY v.name] 36 (0, 0)), jL z5, eG fb dat abi aC big aQ aF ay aX i ah pg aj, (aX, .cells cur 133 (0, 0)), (aT, .cells fG 36 (0, 0)), (sd, .cells (X.map Bv).toArray 5 (0, 0))] := by rw [hq]; exact HM.drewN _
 clear hq
 refine ⟨_, rfl, ?_⟩; clear HF; intro a HF; replace HF := HF.sub ((dN b o n c s fb big ak aj au ah sd i z5 aT) ++ [(958, aG z5), (984, (aP big)), pV sd i ah, (990, (aP big)), nK sd i ah, (996, (aP big)), lS sd i ah, (1002, (aP big)), kZ sd i ah, (1008, (aP big)), jC sd i ah, (964, aY v.ty), (971, aY v.flags), (977, aJ v.off), (983, aJ v.bG), (989, aJ v.addr)]) (by kernel_rfl)
 refine dF (HM.told [5] rfl) ?_
 replace HF := HF.sub ((dN b o n c s fb big ak aj au ah sd i z5 aT) ++ [(958, aG z5), (990, (aP big)), nK sd i ah, (996, (aP big)), lS sd i ah, (1002, (aP big)), kZ sd i ah, (1008, (aP big)), jC sd i ah, (964, aY v.ty), (971, aY v.flags), (977, aJ v.off), (983, aJ v.bG), (989, aJ v.addr)]) (by kernel_rfl)
 refine b_ rfl ?_
 refine bn HF (by kernel_rfl) 87 #[(aP big), .slice (some ⟨sd, ((i * 64) + 40), none⟩) ((ah * 64) - ((i * 64) + 40)) ((ah * 64) - ((i * 64) + 40))] (by kernel_rfl) (fun w => by kernel_rfl) (Calls.mono (jB (HM.get (i := 5) rfl) (by unfold maxLen; omega) big ((i * 64) + 40) ((ah * 64) - ((i * 64) + 40)) (by omega) (by omega) ((v.link : Nat) : Int) (by rw [Ik])) ?_)
 rintro _ w9 ⟨rfl, jG, hq⟩
 replace HM : Mm [fb, aX, aT, sd] W1 w9 [(z10, .cells #[aY v.name] 36 (0, 0)), jL z5, eG fb dat abi aC big aQ aF ay aX i ah pg aj, (aX, .cells cur 133 (0, 0)), (aT, .cells fG 36 (0, 0)), (sd, .cells (X.map Bv).toArray 5 (0, 0))] := by rw [hq]; exact HM.drewN _
 clear hq
 refine ⟨_, rfl, ?_⟩; clear HF; intro a HF; replace HF := HF.sub ((dN b o n c s fb big ak aj au ah sd i z5 aT) ++ [(958, aG z5), (990, (aP big)), nK sd i ah, (996, (aP big)), lS sd i ah, (1002, (aP big)), kZ sd i ah, (1008, (aP big)), jC sd i ah, (964, aY v.ty), (971, aY v.flags), (977, aJ v.off), (983, aJ v.bG), (989, aJ v.addr), (995, aY v.link)]) (by kernel_rfl)
 refine dF (HM.told [5] rfl) ?_
 replace HF := HF.sub ((dN b o n c s fb big ak aj au ah sd i z5 aT) ++ [(958, aG z5), (996, (aP big)), lS sd i ah, (1002, (aP big)), kZ sd i ah, (1008, (aP big)), jC sd i ah, (964, aY v.ty), (971, aY v.flags), (977, aJ v.off), (983, aJ v.bG), (989, aJ v.addr), (995, aY v.link)]) (by kernel_rfl)
 refine b_ rfl ?_
 refine bn HF (by kernel_rfl) 87 #[(aP big), .slice (some ⟨sd, ((i * 64) + 44), none⟩) ((ah * 64) - ((i * 64) + 44)) ((ah * 64) - ((i * 64) + 44))] (by kernel_rfl) (fun w => by kernel_rfl) (Calls.mono (jB (HM.get (i := 5) rfl) (by unfold maxLen; omega) big ((i * 64) + 44) ((ah * 64) - ((i * 64) + 44)) (by omega) (by omega) ((v.info : Nat) : Int) (by rw [Il])) ?_)
 rintro _ w10 ⟨rfl, jG, hq⟩
 replace HM : Mm [fb, aX, aT, sd] W1 w10 [(z10, .cells #[aY v.name] 36 (0, 0)), jL z5, eG fb dat abi aC big aQ aF ay aX i ah pg aj, (aX, .cells cur 133 (0, 0)), (aT, .cells fG 36 (0, 0)), (sd, .cells (X.map Bv).toArray 5 (0, 0))] := by rw [hq]; exact HM.drewN _
 clear hq
 refine ⟨_, rfl, ?_⟩; clear HF; intro a HF; replace HF := HF.sub ((dN b o n c s fb big ak aj au ah sd i z5 aT) ++ [(958, aG z5), (996, (aP big)), lS sd i ah, (1002, (aP big)), kZ sd i ah, (1008, (aP big)), jC sd i ah, (964, aY v.ty), (971, aY v.flags), (977, aJ v.off), (983, aJ v.bG), (989, aJ v.addr), (995, aY v.link), (1001, aY v.info)]) (by kernel_rfl)
 refine dF (HM.told [5] rfl) ?_
 replace HF := HF.sub ((dN b o n c s fb big ak aj au ah sd i z5 aT) ++ [(958, aG z5), (1002, (aP big)), kZ sd i ah, (1008, (aP big)), jC sd i ah, (964, aY v.ty), (971, aY v.flags), (977, aJ v.off), (983, aJ v.bG), (989, aJ v.addr), (995, aY v.link), (1001, aY v.info)]) (by kernel_rfl)
 refine b_ rfl ?_
 refine bn HF (by kernel_rfl) 88 #[(aP big), .slice (some ⟨sd, ((i * 64) + 48), none⟩) ((ah * 64) - ((i * 64) + 48)) ((ah * 64) - ((i * 64) + 48))] (by kernel_rfl) (fun w => by kernel_rfl) (Calls.mono (nZ (HM.get (i := 5) rfl) (by unfold maxLen; omega) big ((i * 64) + 48) ((ah * 64) - ((i * 64) + 48)) (by omega) (by omega) ((v.align : Nat) : Int) (by rw [E5])) ?_)
 rintro _ wS ⟨rfl, jG, hq⟩
 replace HM : Mm [fb, aX, aT, sd] W1 wS [(z10, .cells #[aY v.name] 36 (0, 0)), jL z5, eG fb dat abi aC big aQ aF ay aX i ah pg aj, (aX, .cells cur 133 (0, 0)), (aT, .cells fG 36 (0, 0)), (sd, .cells (X.map Bv).toArray 5 (0, 0))] := by rw [hq]; exact HM.drewN _
 clear hq
 refine ⟨_, rfl, ?_⟩; clear HF; intro a HF; replace HF := HF.sub ((dN b o n c s fb big ak aj au ah sd i z5 aT) ++ [(958, aG z5), (1002, (aP big)), kZ sd i ah, (1008, (aP big)), jC sd i ah, (964, aY v.ty), (971, aY v.flags), (977, aJ v.off), (983, aJ v.bG), (989, aJ v.addr), (995, aY v.link), (1001, aY v.info), (1007, aJ v.align)]) (by kernel_rfl)
 refine dF (HM.told [5] rfl) ?_
 replace HF := HF.sub ((dN b o n c s fb big ak aj au ah sd i z5 aT) ++ [(958, aG z5), (1008, (aP big)), jC sd i ah, (964, aY v.ty), (971, aY v.flags), (977, aJ v.off), (983, aJ v.bG), (989, aJ v.addr), (995, aY v.link), (1001, aY v.info), (1007, aJ v.align)]) (by kernel_rfl)
 refine b_ rfl ?_
 refine bn HF (by kernel_rfl) 88 #[(aP big), .slice (some ⟨sd, ((i * 64) + 56), none⟩) ((ah * 64) - ((i * 64) + 56)) ((ah * 64) - ((i * 64) + 56))] (by kernel_rfl) (fun w => by kernel_rfl) (Calls.mono (nZ (HM.get (i := 5) rfl) (by unfold maxLen; omega) big ((i * 64) + 56) ((ah * 64) - ((i * 64) + 56)) (by omega) (by omega) ((v.ent : Nat) : Int) (by rw [KJ])) ?_)
 rintro _ w12 ⟨rfl, jG, hq⟩
 replace HM : Mm [fb, aX, aT, sd] W1 w12 [(z10, .cells #[aY v.name] 36 (0, 0)), jL z5, eG fb dat abi aC big aQ aF ay aX i ah pg aj, (aX, .cells cur 133 (0, 0)), (aT, .cells fG 36 (0, 0)), (sd, .cells (X.map Bv).toArray 5 (0, 0))] := by rw [hq]; exact HM.drewN _
 clear hq
 refine ⟨_, rfl, ?_⟩; clear HF; intro a HF; replace HF := HF.sub ((dN b o n c s fb big ak aj au ah sd i z5 aT) ++ [(958, aG z5), (1008, (aP big)), jC sd i ah, (964, aY v.ty), (971, aY v.flags), (977, aJ v.off), (983, aJ v.bG), (989, aJ v.addr), (995, aY v.link), (1001, aY v.info), (1007, aJ v.align), (1013, aJ v.ent)]) (by kernel_rfl)
 refine dF (HM.told [5] rfl) ?_
 replace HF := HF.sub ((dN b o n c s fb big ak aj au ah sd i z5 aT) ++ [(958, aG z5), (964, aY v.ty), (971, aY v.flags), (977, aJ v.off), (983, aJ v.bG), (989, aJ v.addr), (995, aY v.link), (1001, aY v.info), (1007, aJ v.align), (1013, aJ v.ent)]) (by kernel_rfl)
 refine bH HF (HM.told [5] rfl) 3 [] ((dN b o n c s fb big ak aj au ah sd i z5 aT) ++ [(958, aG z5), (964, aY v.ty), (971, aY v.flags), (977, aJ v.off), (983, aJ v.bG), (989, aJ v.addr), (995, aY v.link), (1001, aY v.info), (1007, aJ v.align), (1013, aJ v.ent), D_ v, (1016, aG z5)]) (by kernel_rfl) ?_
 clear HF; intro a HF
 replace HF := HF.sub ((dN b o n c s fb big ak aj au ah sd i z5 aT) ++ [D_ v, (1016, aG z5)]) (by kernel_rfl)
 refine b_ rfl ?_
 refine aO HF HM rfl 1 [[4, 4, 4, 4, 4, 4, 4, 4, 4, 4, 4]] (dN b o n c s fb big ak aj au ah sd i z5 aT) [(z10, .cells #[aY v.name] 36 (0, 0)), qY z5 v, eG fb dat abi aC big aQ aF ay aX i ah pg aj, (aX, .cells cur 133 (0, 0)), (aT, .cells fG 36 (0, 0)), (sd, .cells (X.map Bv).toArray 5 (0, 0))] (by kernel_rfl) ?_
 clear HF HM; intro a w HF HM
 refine dF (HM.told [5] rfl) ?_
 refine lI ?_
 repeat (first | refine aS ?_ | refine aU ?_)
 refine wp_seq ?_
 refine wp_seq (wp_region_lit ?_)
 refine aO HF HM rfl 6 [[4]] ((dN b o n c s fb big ak aj au ah sd i z5 aT) ++ [(1022, aA (IntKind.i64.wrap ((v.off : Nat) : Int)))]) [(z10, .cells #[aY v.name] 36 (0, 0)), qY z5 v, eG fb dat abi aC big aQ aF ay aX i ah pg aj, (aX, .cells cur 133 (0, 0)), (aT, .cells fG 36 (0, 0)), (sd, .cells (X.map Bv).toArray 5 (0, 0))] (by kernel_rfl) ?_
 clear HF HM; intro a w HF HM
 rw [show IntKind.i64.wrap ((v.off : Nat) : Int) = ((v.off : Nat) : Int) from IntWalk.i64_in _ (by omega)] at HF
 refine aO HF HM rfl 1 [] ((dN b o n c s fb big ak aj au ah sd i z5 aT) ++ [(1023, .bool (decide (((v.off : Nat) : Int) < 0)))]) [(z10, .cells #[aY v.name] 36 (0, 0)), qY z5 v, eG fb dat abi aC big aQ aF ay aX i ah pg aj, (aX, .cells cur 133 (0, 0)), (aT, .cells fG 36 (0, 0)), (sd, .cells (X.map Bv).toArray 5 (0, 0))] (by kernel_rfl) ?_
 clear HF HM; intro a w HF HM
 rw [show decide (((v.off : Nat) : Int) < 0) = false from bZ (by omega)] at HF
 refine aI ?_
 refine bf HF rfl ?_
 refine wp_skip ?_
 repeat (first | refine aS ?_ | refine aU ?_)
 replace HF := HF.sub (dN b o n c s fb big ak aj au ah sd i z5 aT) (by kernel_rfl)
 refine wp_seq ?_
 refine wp_seq (wp_region_lit ?_)
 refine aO HF HM rfl 6 [[4]] ((dN b o n c s fb big ak aj au ah sd i z5 aT) ++ [(1043, aA (IntKind.i64.wrap ((v.bG : Nat) : Int)))]) [(z10, .cells #[aY v.name] 36 (0, 0)), qY z5 v, eG fb dat abi aC big aQ aF ay aX i ah pg aj, (aX, .cells cur 133 (0, 0)), (aT, .cells fG 36 (0, 0)), (sd, .cells (X.map Bv).toArray 5 (0, 0))] (by kernel_rfl) ?_
 clear HF HM; intro a w HF HM
 rw [show IntKind.i64.wrap ((v.bG : Nat) : Int) = ((v.bG : Nat) : Int) from IntWalk.i64_in _ (by omega)] at HF
 refine aO HF HM rfl 1 [] ((dN b o n c s fb big ak aj au ah sd i z5 aT) ++ [(1044, .bool (decide (((v.bG : Nat) : Int) < 0)))]) [(z10, .cells #[aY v.name] 36 (0, 0)), qY z5 v, eG fb dat abi aC big aQ aF ay aX i ah pg aj, (aX, .cells cur 133 (0, 0)), (aT, .cells fG 36 (0, 0)), (sd, .cells (X.map Bv).toArray 5 (0, 0))] (by kernel_rfl) ?_
 clear HF HM; intro a w HF HM
 rw [show decide (((v.bG : Nat) : Int) < 0) = false from bZ (by omega)] at HF
 refine aI ?_
 refine bf HF rfl ?_
 refine wp_skip ?_
 repeat (first | refine aS ?_ | refine aU ?_)
 replace HF := HF.sub (dN b o n c s fb big ak aj au ah sd i z5 aT) (by kernel_rfl)
 refine xG HM (by kernel_rfl) (fun w => w.cell? ⟨z5, 4, none⟩ = some (aJ v.off) ∧ w.cell? ⟨z5, 10, none⟩ = some (aJ v.bG)) [(0, false), (1, false), (2, false), (3, false), (4, false), (5, false), (6, false), (7, false), (8, false), (9, false), (10, false), (11, false), (12, false), (13, false), (14, true), (15, false), (16, false), (17, true)] (by kernel_rfl) ?_
 clear HM; intro AP HM
 refine jk (LS := []) (fun _ _ => jM _) HF ⟨HM.cellAt (i := 1) (k := 4) rfl rfl, HM.cellAt (i := 1) (k := 10) rfl rfl⟩ 6 [] ((pU b o n c s fb big ak aj au ah sd i z5 aT) ++ [(1064, .pointer (some ⟨z5, 4, none⟩))]) (by kernel_rfl) ?_
 clear HF; intro a HF
 refine pz rfl HF ⟨HM.cellAt (i := 1) (k := 4) rfl rfl, HM.cellAt (i := 1) (k := 10) rfl rfl⟩ rfl (aJ v.off) (by kernel_rfl) (fun w hw => gJ rfl rfl (by kernel_rfl) hw.1) ?_
 clear HF; intro a HF; replace HF := HF.sub ((pU b o n c s fb big ak aj au ah sd i z5 aT) ++ [(1064, .pointer (some ⟨z5, 4, none⟩)), (1065, aJ v.off)]) (by kernel_rfl)
 refine jk (LS := []) (fun _ _ => jM _) HF ⟨HM.cellAt (i := 1) (k := 4) rfl rfl, HM.cellAt (i := 1) (k := 10) rfl rfl⟩ 1 [] ((pU b o n c s fb big ak aj au ah sd i z5 aT) ++ [(1066, aA (IntKind.i64.wrap ((v.off : Nat) : Int)))]) (by kernel_rfl) ?_
 clear HF; intro a HF
 rw [show IntKind.i64.wrap ((v.off : Nat) : Int) = ((v.off : Nat) : Int) from IntWalk.i64_in _ (by omega)] at HF
 refine jk (LS := []) (fun _ _ => jM _) HF ⟨HM.cellAt (i := 1) (k := 4) rfl rfl, HM.cellAt (i := 1) (k := 10) rfl rfl⟩ 4 [] ((pU b o n c s fb big ak aj au ah sd i z5 aT) ++ [(1066, aB v.off), (1070, .pointer (some ⟨z5, 10, none⟩))]) (by kernel_rfl) ?_
 clear HF; intro a HF
 refine pz rfl HF ⟨HM.cellAt (i := 1) (k := 4) rfl rfl, HM.cellAt (i := 1) (k := 10) rfl rfl⟩ rfl (aJ v.bG) (by kernel_rfl) (fun w hw => gJ rfl rfl (by kernel_rfl) hw.2) ?_
 clear HF; intro a HF; replace HF := HF.sub ((pU b o n c s fb big ak aj au ah sd i z5 aT) ++ [(1066, aB v.off), (1070, .pointer (some ⟨z5, 10, none⟩)), (1071, aJ v.bG)]) (by kernel_rfl)
 refine jk (LS := []) (fun _ _ => jM _) HF ⟨HM.cellAt (i := 1) (k := 4) rfl rfl, HM.cellAt (i := 1) (k := 10) rfl rfl⟩ 1 [] ((pU b o n c s fb big ak aj au ah sd i z5 aT) ++ [(1066, aB v.off), (1072, aA (IntKind.i64.wrap ((v.bG : Nat) : Int)))]) (by kernel_rfl) ?_
 clear HF; intro a HF
 rw [show IntKind.i64.wrap ((v.bG : Nat) : Int) = ((v.bG : Nat) : Int) from IntWalk.i64_in _ (by omega)] at HF
 refine nS rfl ?_
 refine bn HF (by kernel_rfl) 92 #[.iface 178 (.slice (some ⟨b, o, none⟩) n c), aB v.off, aB v.bG] (by kernel_rfl) (fun w => by kernel_rfl) (Calls.mono (nX 178 (.slice (some ⟨b, o, none⟩) n c) ((v.off : Nat) : Int) ((v.bG : Nat) : Int) (by omega) (by omega) (by omega) AP) ?_)
 rintro _ GH ⟨sb, rfl, hb, hge, hgn⟩
 replace HM : Mm [fb, aX, aT, sd] W1 GH [mP sb b o n c v, (z10, .cells #[aY v.name] 36 (0, 0)), qY z5 v, eG fb dat abi aC big aQ aF ay aX i ah pg aj, (aX, .cells cur 133 (0, 0)), (aT, .cells fG 36 (0, 0)), (sd, .cells (X.map Bv).toArray 5 (0, 0))] := HM.push hb hge hgn
 clear hb hge hgn
 refine ⟨_, rfl, ?_⟩; clear HF; intro a HF; replace HF := HF.sub ((pU b o n c s fb big ak aj au ah sd i z5 aT) ++ [(1066, aB v.off), (1072, aB v.bG), (1073, aG sb)]) (by kernel_rfl)
 refine pF ⟨HM.cellAt (i := 2) (k := 4) rfl rfl, HM.cellAt (i := 2) (k := 10) rfl rfl⟩ ?_
 refine jk (LS := []) (fun _ _ => jM _) HF ⟨HM.cellAt (i := 2) (k := 4) rfl rfl, HM.cellAt (i := 2) (k := 10) rfl rfl⟩ 2 [] ((dN b o n c s fb big ak aj au ah sd i z5 aT) ++ [(1073, aG sb), (1075, .pointer (some ⟨z5, 12, none⟩))]) (by kernel_rfl) ?_
 clear HF; intro a HF
 refine nS rfl ?_
 refine aO HF HM rfl 1 [[4]] (dN b o n c s fb big ak aj au ah sd i z5 aT) [mP sb b o n c v, (z10, .cells #[aY v.name] 36 (0, 0)), Ea z5 v sb, eG fb dat abi aC big aQ aF ay aX i ah pg aj, (aX, .cells cur 133 (0, 0)), (aT, .cells fG 36 (0, 0)), (sd, .cells (X.map Bv).toArray 5 (0, 0))] (by kernel_rfl) ?_
 clear HF HM; intro a w HF HM
 refine pF ⟨HM.cellAt (i := 2) (k := 4) rfl rfl, HM.cellAt (i := 2) (k := 10) rfl rfl⟩ ?_
 refine xI (aS ?_)
 refine wp_seq ?_
 refine wp_seq (wp_region_lit ?_)
 refine aO HF HM rfl 7 [[4]] [(0, .iface 178 (.slice (some ⟨b, o, none⟩) n c)), (4, aG s), (8, aG fb), (9, (aP big)), (10, aB ak), (11, aA 56), (12, aB aj), (13, aB au), (14, aA 64), (15, aB ah), (16, aB (ah - 1)), (26, aA 64), (42, aH sd (ah * 64) (ah * 64)), (43, aB i), (44, aJ (i * 64)), (45, aG z5), (41, aH aT (i + 1) ah), (1082, .bool (oC ((v.flags : Nat) : Int) 2048 == 0))] [mP sb b o n c v, (z10, .cells #[aY v.name] 36 (0, 0)), Ea z5 v sb, eG fb dat abi aC big aQ aF ay aX i ah pg aj, (aX, .cells cur 133 (0, 0)), (aT, .cells fG 36 (0, 0)), (sd, .cells (X.map Bv).toArray 5 (0, 0))] (by kernel_rfl) ?_
 clear HF HM; intro a w HF HM
 rw [v9] at HF
 refine aI ?_
 refine bF HF rfl ?_
 replace HF := HF.sub (dN b o n c s fb big ak aj au ah sd i z5 aT) (by kernel_rfl)
 refine bC HF HM rfl [[4], [4]] (dN b o n c s fb big ak aj au ah sd i z5 aT) [mP sb b o n c v, (z10, .cells #[aY v.name] 36 (0, 0)), (z5, .cells #[.string ⟨#[]⟩, aY (v).ty, aY (v).flags, aJ (v).addr, aJ (v).off, bD 0, aY (v).link, aY (v).info, aJ (v).align, aJ (v).ent, aJ (v).bG, .iface 144 (aG sb), aG sb, aA 0, aA 0] 153 (0, 0)), eG fb dat abi aC big aQ aF ay aX i ah pg aj, (aX, .cells cur 133 (0, 0)), (aT, .cells fG 36 (0, 0)), (sd, .cells (X.map Bv).toArray 5 (0, 0))] (by kernel_rfl) ?_
 clear HF HM; intro a w HF HM
 refine nC HF HM rfl [[4], [4]] (dN b o n c s fb big ak aj au ah sd i z5 aT) [mP sb b o n c v, (z10, .cells #[aY v.name] 36 (0, 0)), qX z5 v sb, eG fb dat abi aC big aQ aF ay aX i ah pg aj, (aX, .cells cur 133 (0, 0)), (aT, .cells fG 36 (0, 0)), (sd, .cells (X.map Bv).toArray 5 (0, 0))] (by kernel_rfl) ?_
 clear HF HM; intro a w HF HM
 repeat (first | refine aS ?_ | refine aU ?_)
 refine wp_region_lit ?_
 obtain ⟨z21, hz21⟩ : ∃ z, w.heap.size = z := ⟨_, rfl⟩
 refine aO HF HM hz21 7 [[3]] ((dN b o n c s fb big ak aj au ah sd i z5 aT) ++ [(1191, aG fb), (1195, aH aX i ah), (1197, aH z21 1 1)]) [(z21, .cells #[aG z5] 133 (0, 0)), mP sb b o n c v, (z10, .cells #[aY v.name] 36 (0, 0)), qX z5 v sb, eG fb dat abi aC big aQ aF ay aX i ah pg aj, (aX, .cells cur 133 (0, 0)), (aT, .cells fG 36 (0, 0)), (sd, .cells (X.map Bv).toArray 5 (0, 0))] (by kernel_rfl) ?_
 clear HF HM hz21; intro a w HF HM
 refine oW HF HM rfl _ _ 126 rfl rfl 133 (.pointer none) 8 Tryd.underlying126 uM 5 0 aX _ i ah cur _ _ rfl hcs (by omega) (by unfold maxLen; omega) rfl rfl rfl rfl ?_
 intro a2 Fa cur' hcs' htk bI HF2; clear HF HM; have HM : Mm [fb, aX, aT, sd] W1 Fa [(z21, .cells #[aG z5] 133 (0, 0)), mP sb b o n c v, (z10, .cells #[aY v.name] 36 (0, 0)), qX z5 v sb, eG fb dat abi aC big aQ aF ay aX i ah pg aj, (aX, .cells cur' 133 (0, 0)), (aT, .cells fG 36 (0, 0)), (sd, .cells (X.map Bv).toArray 5 (0, 0))] := bI; have HF := HF2; clear bI HF2
 replace HF := HF.sub ((dN b o n c s fb big ak aj au ah sd i z5 aT) ++ [(1191, aG fb), (1198, aH aX (i + 1) ah)]) (by kernel_rfl)
 refine aO HF HM rfl 3 [[3]] (dN b o n c s fb big ak aj au ah sd i z5 aT) [(z21, .cells #[aG z5] 133 (0, 0)), mP sb b o n c v, (z10, .cells #[aY v.name] 36 (0, 0)), qX z5 v sb, xM fb dat abi aC big aQ aF ay aX i ah pg aj, (aX, .cells cur' 133 (0, 0)), (aT, .cells fG 36 (0, 0)), (sd, .cells (X.map Bv).toArray 5 (0, 0))] (by kernel_rfl) ?_
 clear HF HM; intro a w HF HM
 refine wpList_nil ?_
 repeat (first | refine aS ?_ | refine aU ?_)
 refine wp_region_lit ?_
 refine aO HF HM rfl 2 [] ((dN b o n c s fb big ak aj au ah sd i z5 aT) ++ [(861, aA (IntKind.i64.wrap (((i : Nat) : Int) + 1)))]) [(z21, .cells #[aG z5] 133 (0, 0)), mP sb b o n c v, (z10, .cells #[aY v.name] 36 (0, 0)), qX z5 v sb, xM fb dat abi aC big aQ aF ay aX i ah pg aj, (aX, .cells cur' 133 (0, 0)), (aT, .cells fG 36 (0, 0)), (sd, .cells (X.map Bv).toArray 5 (0, 0))] (by kernel_rfl) ?_
 clear HF HM; intro a w HF HM
 rw [show IntKind.i64.wrap (((i : Nat) : Int) + 1) = (((i + 1) : Nat) : Int) from (IntWalk.i64_in _ (by omega)).trans (by omega)] at HF
 refine aO HF HM rfl 1 [] ((xK b o n c s fb big ak aj au ah) ++ [(42, aH sd (ah * 64) (ah * 64)), (44, aJ (i * 64)), (45, aG z5), (41, aH aT (i + 1) ah), (43, aB (i + 1))]) [(z21, .cells #[aG z5] 133 (0, 0)), mP sb b o n c v, (z10, .cells #[aY v.name] 36 (0, 0)), qX z5 v sb, xM fb dat abi aC big aQ aF ay aX i ah pg aj, (aX, .cells cur' 133 (0, 0)), (aT, .cells fG 36 (0, 0)), (sd, .cells (X.map Bv).toArray 5 (0, 0))] (by kernel_rfl) ?_
 clear HF HM; intro a w HF HM
 refine wpList_nil ?_
 repeat (first | refine aS ?_ | refine aU ?_)
 replace HF := HF.sub ((xK b o n c s fb big ak aj au ah) ++ [(41, aH aT (i + 1) ah), (42, aH sd (ah * 64) (ah * 64)), (43, aB (i + 1))]) (by kernel_rfl)
 exact K a w z5 sb cur' fG hcs' DI htk htn HF (HM.sub (List.Sublist.cons _ (List.Sublist.cons_cons _ (List.Sublist.cons _ (List.Sublist.refl _)))))

end Go.Proofs.YtdgehpocmfjbiaaDoor
