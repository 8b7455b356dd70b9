/- elf.NewFile: one round of the loop over the sections. -/
import Derived.Test.YtdgehpocmfjbiaaDoorSd
set_option linter.unusedVariables false
set_option linter.unusedSimpArgs false
set_option maxRecDepth 100000
set_option maxHeartbeats 2000000
namespace Go.Proofs.YtdgehpocmfjbiaaDoor
open Go.RowKit

structure jy where
 name : Nat
 ty : Nat
 flags : Nat
 addr : Nat
 off : Nat
 bP : Nat
 link : Nat
 info : Nat
 align : Nat
 ent : Nat
theorem Mm.restart {G : List Nat} {w0 w : World} {L : List (Nat × Obj)} (h : Mm G w0 w L) : Mm (L.map (·.1)) w w L := ⟨Keep.refl _ _, fun p hp => ⟨(h.2.1 p hp).1, .inr (List.mem_map_of_mem hp)⟩, h.2.2⟩

abbrev fP := fun (fb : Nat) (dat : Int) (abi : Nat) (aH : Nat) (big : Bool) (aU : Nat) (aJ : Nat) (aG : Nat) (aV : Nat) (i : Nat) (ah : Nat) (pg : Nat) (aj : Nat) => ((fb, .cells #[aQ 1, .int .u8 dat, aQ 1, aX abi, aX aH, (aS big), bF aU, bF aJ, aI aG, aC aV i ah, aC pg aj aj, aN, aN, aN] 131 (0, 0)) : Nat × Obj)
abbrev mD := fun (b : Nat) (o : Nat) (n : Nat) (c : Nat) (s : Nat) (fb : Nat) (big : Bool) (ak : Nat) (aj : Nat) (au : Nat) (ah : Nat) (aW : Nat) (i : Nat) (sd : Nat) => ([(0, .iface 178 (.slice (some ⟨b, o, none⟩) n c)), (4, aB s), (8, aB fb), (9, (aS big)), (10, ay ak), (11, aF 32), (12, ay aj), (13, ay au), (14, aF 40), (15, ay ah), (16, ay (ah - 1)), (26, aF 40), (41, aC aW i ah), (42, aC sd (ah * 40) (ah * 40)), (43, ay i)] : Slots)
abbrev BH := fun (fb : Nat) (dat : Int) (abi : Nat) (aH : Nat) (big : Bool) (aU : Nat) (aJ : Nat) (aG : Nat) (aV : Nat) (i : Nat) (ah : Nat) (pg : Nat) (aj : Nat) => ((fb, .cells #[aQ 1, .int .u8 dat, aQ 1, aX abi, aX aH, (aS big), bF aU, bF aJ, aI aG, aC aV (i + 1) ah, aC pg aj aj, aN, aN, aN] 131 (0, 0)) : Nat × Obj)
abbrev oW := fun sb (b : Nat) (o : Nat) (n : Nat) (c : Nat) (v : jy) => ((sb, .cells #[.iface 178 (.slice (some ⟨b, o, none⟩) n c), ay v.off, ay v.off, aF (((v.bP : Nat) : Int) + ((v.off : Nat) : Int)), ay v.bP] 246 (0, 0)) : Nat × Obj)
abbrev BG := fun (b : Nat) (o : Nat) (n : Nat) (c : Nat) (s : Nat) (fb : Nat) (big : Bool) (ak : Nat) (aj : Nat) (au : Nat) (ah : Nat) => ([(0, .iface 178 (.slice (some ⟨b, o, none⟩) n c)), (4, aB s), (8, aB fb), (9, (aS big)), (10, ay ak), (11, aF 32), (12, ay aj), (13, ay au), (14, aF 40), (15, ay ah), (16, ay (ah - 1)), (26, aF 40)] : Slots)
abbrev lC := fun z5 => ((z5, .cells #[.string ⟨#[]⟩, iR 0, iR 0, bH 0, bH 0, bH 0, iR 0, iR 0, bH 0, bH 0, bH 0, .nilIface, .pointer none, aF 0, aF 0] 153 (0, 0)) : Nat × Obj)
abbrev fH := fun (b : Nat) (o : Nat) (n : Nat) (c : Nat) (s : Nat) (fb : Nat) (big : Bool) (ak : Nat) (aj : Nat) (au : Nat) (ah : Nat) (sd : Nat) (i : Nat) z5 (aW : Nat) => ((BG b o n c s fb big ak aj au ah) ++ [(42, aC sd (ah * 40) (ah * 40)), (43, ay i), (44, aI (i * 40)), (45, aB z5), (41, aC aW (i + 1) ah)] : Slots)
abbrev Pm := fun (sd : Nat) (i : Nat) (ah : Nat) => ((889, .slice (some ⟨sd, ((i * 40) + 4), none⟩) ((ah * 40) - ((i * 40) + 4)) ((ah * 40) - ((i * 40) + 4))) : Nat × Value)
abbrev BF := fun (b : Nat) (o : Nat) (n : Nat) (c : Nat) (s : Nat) (fb : Nat) (big : Bool) (ak : Nat) (aj : Nat) (au : Nat) (ah : Nat) (sd : Nat) (i : Nat) z5 (aW : Nat) => ((fH b o n c s fb big ak aj au ah sd i z5 aW) ++ [(884, aB z5), (885, (aS big)), (889, .slice (some ⟨sd, ((i * 40) + 4), none⟩) ((ah * 40) - ((i * 40) + 4)) ((ah * 40) - ((i * 40) + 4)))] : Slots)
abbrev EO := fun (sd : Nat) (i : Nat) (ah : Nat) => ((895, .slice (some ⟨sd, ((i * 40) + 8), none⟩) ((ah * 40) - ((i * 40) + 8)) ((ah * 40) - ((i * 40) + 8))) : Nat × Value)
abbrev zO := fun (b : Nat) (o : Nat) (n : Nat) (c : Nat) (s : Nat) (fb : Nat) (big : Bool) (ak : Nat) (aj : Nat) (au : Nat) (ah : Nat) (sd : Nat) (i : Nat) z5 (aW : Nat) => ((BF b o n c s fb big ak aj au ah sd i z5 aW) ++ [(891, (aS big)), (895, .slice (some ⟨sd, ((i * 40) + 8), none⟩) ((ah * 40) - ((i * 40) + 8)) ((ah * 40) - ((i * 40) + 8)))] : Slots)
abbrev xJ := fun (sd : Nat) (i : Nat) (ah : Nat) => ((901, .slice (some ⟨sd, ((i * 40) + 12), none⟩) ((ah * 40) - ((i * 40) + 12)) ((ah * 40) - ((i * 40) + 12))) : Nat × Value)
abbrev zN := fun (b : Nat) (o : Nat) (n : Nat) (c : Nat) (s : Nat) (fb : Nat) (big : Bool) (ak : Nat) (aj : Nat) (au : Nat) (ah : Nat) (sd : Nat) (i : Nat) z5 (aW : Nat) => ((zO b o n c s fb big ak aj au ah sd i z5 aW) ++ [(897, (aS big)), (901, .slice (some ⟨sd, ((i * 40) + 12), none⟩) ((ah * 40) - ((i * 40) + 12)) ((ah * 40) - ((i * 40) + 12)))] : Slots)
abbrev xI := fun (sd : Nat) (i : Nat) (ah : Nat) => ((908, .slice (some ⟨sd, ((i * 40) + 16), none⟩) ((ah * 40) - ((i * 40) + 16)) ((ah * 40) - ((i * 40) + 16))) : Nat × Value)
abbrev zM := fun (b : Nat) (o : Nat) (n : Nat) (c : Nat) (s : Nat) (fb : Nat) (big : Bool) (ak : Nat) (aj : Nat) (au : Nat) (ah : Nat) (sd : Nat) (i : Nat) z5 (aW : Nat) => ((zN b o n c s fb big ak aj au ah sd i z5 aW) ++ [(904, (aS big)), (908, .slice (some ⟨sd, ((i * 40) + 16), none⟩) ((ah * 40) - ((i * 40) + 16)) ((ah * 40) - ((i * 40) + 16)))] : Slots)
abbrev xH := fun (sd : Nat) (i : Nat) (ah : Nat) => ((915, .slice (some ⟨sd, ((i * 40) + 20), none⟩) ((ah * 40) - ((i * 40) + 20)) ((ah * 40) - ((i * 40) + 20))) : Nat × Value)
abbrev zL := fun (b : Nat) (o : Nat) (n : Nat) (c : Nat) (s : Nat) (fb : Nat) (big : Bool) (ak : Nat) (aj : Nat) (au : Nat) (ah : Nat) (sd : Nat) (i : Nat) z5 (aW : Nat) => ((zM b o n c s fb big ak aj au ah sd i z5 aW) ++ [(911, (aS big)), (915, .slice (some ⟨sd, ((i * 40) + 20), none⟩) ((ah * 40) - ((i * 40) + 20)) ((ah * 40) - ((i * 40) + 20)))] : Slots)
abbrev xG := fun (sd : Nat) (i : Nat) (ah : Nat) => ((922, .slice (some ⟨sd, ((i * 40) + 24), none⟩) ((ah * 40) - ((i * 40) + 24)) ((ah * 40) - ((i * 40) + 24))) : Nat × Value)
abbrev zK := fun (b : Nat) (o : Nat) (n : Nat) (c : Nat) (s : Nat) (fb : Nat) (big : Bool) (ak : Nat) (aj : Nat) (au : Nat) (ah : Nat) (sd : Nat) (i : Nat) z5 (aW : Nat) => ((zL b o n c s fb big ak aj au ah sd i z5 aW) ++ [(918, (aS big)), (922, .slice (some ⟨sd, ((i * 40) + 24), none⟩) ((ah * 40) - ((i * 40) + 24)) ((ah * 40) - ((i * 40) + 24)))] : Slots)
abbrev tX := fun (sd : Nat) (i : Nat) (ah : Nat) => ((928, .slice (some ⟨sd, ((i * 40) + 28), none⟩) ((ah * 40) - ((i * 40) + 28)) ((ah * 40) - ((i * 40) + 28))) : Nat × Value)
abbrev zJ := fun (b : Nat) (o : Nat) (n : Nat) (c : Nat) (s : Nat) (fb : Nat) (big : Bool) (ak : Nat) (aj : Nat) (au : Nat) (ah : Nat) (sd : Nat) (i : Nat) z5 (aW : Nat) => ((zK b o n c s fb big ak aj au ah sd i z5 aW) ++ [(924, (aS big)), (928, .slice (some ⟨sd, ((i * 40) + 28), none⟩) ((ah * 40) - ((i * 40) + 28)) ((ah * 40) - ((i * 40) + 28)))] : Slots)
abbrev pY := fun (sd : Nat) (i : Nat) (ah : Nat) => ((934, .slice (some ⟨sd, ((i * 40) + 32), none⟩) ((ah * 40) - ((i * 40) + 32)) ((ah * 40) - ((i * 40) + 32))) : Nat × Value)
abbrev xE := fun (b : Nat) (o : Nat) (n : Nat) (c : Nat) (s : Nat) (fb : Nat) (big : Bool) (ak : Nat) (aj : Nat) (au : Nat) (ah : Nat) (sd : Nat) (i : Nat) z5 (aW : Nat) => ((zJ b o n c s fb big ak aj au ah sd i z5 aW) ++ [(930, (aS big)), (934, .slice (some ⟨sd, ((i * 40) + 32), none⟩) ((ah * 40) - ((i * 40) + 32)) ((ah * 40) - ((i * 40) + 32)))] : Slots)
abbrev oq := fun (sd : Nat) (i : Nat) (ah : Nat) => ((941, .slice (some ⟨sd, ((i * 40) + 36), none⟩) ((ah * 40) - ((i * 40) + 36)) ((ah * 40) - ((i * 40) + 36))) : Nat × Value)
abbrev DI := fun (b : Nat) (o : Nat) (n : Nat) (c : Nat) (s : Nat) (fb : Nat) (big : Bool) (ak : Nat) (aj : Nat) (au : Nat) (ah : Nat) (sd : Nat) (i : Nat) z5 (aW : Nat) (v : jy) => ((fH b o n c s fb big ak aj au ah sd i z5 aW) ++ [(884, aB z5), (904, (aS big)), (908, .slice (some ⟨sd, ((i * 40) + 16), none⟩) ((ah * 40) - ((i * 40) + 16)) ((ah * 40) - ((i * 40) + 16))), (911, (aS big)), (915, .slice (some ⟨sd, ((i * 40) + 20), none⟩) ((ah * 40) - ((i * 40) + 20)) ((ah * 40) - ((i * 40) + 20))), (918, (aS big)), (922, .slice (some ⟨sd, ((i * 40) + 24), none⟩) ((ah * 40) - ((i * 40) + 24)) ((ah * 40) - ((i * 40) + 24))), (924, (aS big)), (928, .slice (some ⟨sd, ((i * 40) + 28), none⟩) ((ah * 40) - ((i * 40) + 28)) ((ah * 40) - ((i * 40) + 28))), (930, (aS big)), (934, .slice (some ⟨sd, ((i * 40) + 32), none⟩) ((ah * 40) - ((i * 40) + 32)) ((ah * 40) - ((i * 40) + 32))), (937, (aS big)), (941, .slice (some ⟨sd, ((i * 40) + 36), none⟩) ((ah * 40) - ((i * 40) + 36)) ((ah * 40) - ((i * 40) + 36))), (890, bn v.ty), (896, bn v.flags)] : Slots)
abbrev DF := fun (b : Nat) (o : Nat) (n : Nat) (c : Nat) (s : Nat) (fb : Nat) (big : Bool) (ak : Nat) (aj : Nat) (au : Nat) (ah : Nat) (sd : Nat) (i : Nat) z5 (aW : Nat) (v : jy) => ((fH b o n c s fb big ak aj au ah sd i z5 aW) ++ [(884, aB z5), (911, (aS big)), (915, .slice (some ⟨sd, ((i * 40) + 20), none⟩) ((ah * 40) - ((i * 40) + 20)) ((ah * 40) - ((i * 40) + 20))), (918, (aS big)), (922, .slice (some ⟨sd, ((i * 40) + 24), none⟩) ((ah * 40) - ((i * 40) + 24)) ((ah * 40) - ((i * 40) + 24))), (924, (aS big)), (928, .slice (some ⟨sd, ((i * 40) + 28), none⟩) ((ah * 40) - ((i * 40) + 28)) ((ah * 40) - ((i * 40) + 28))), (930, (aS big)), (934, .slice (some ⟨sd, ((i * 40) + 32), none⟩) ((ah * 40) - ((i * 40) + 32)) ((ah * 40) - ((i * 40) + 32))), (937, (aS big)), (941, .slice (some ⟨sd, ((i * 40) + 36), none⟩) ((ah * 40) - ((i * 40) + 36)) ((ah * 40) - ((i * 40) + 36))), (890, bn v.ty), (896, bn v.flags), (903, aI v.addr)] : Slots)
abbrev DC := fun (b : Nat) (o : Nat) (n : Nat) (c : Nat) (s : Nat) (fb : Nat) (big : Bool) (ak : Nat) (aj : Nat) (au : Nat) (ah : Nat) (sd : Nat) (i : Nat) z5 (aW : Nat) (v : jy) => ((fH b o n c s fb big ak aj au ah sd i z5 aW) ++ [(884, aB z5), (918, (aS big)), (922, .slice (some ⟨sd, ((i * 40) + 24), none⟩) ((ah * 40) - ((i * 40) + 24)) ((ah * 40) - ((i * 40) + 24))), (924, (aS big)), (928, .slice (some ⟨sd, ((i * 40) + 28), none⟩) ((ah * 40) - ((i * 40) + 28)) ((ah * 40) - ((i * 40) + 28))), (930, (aS big)), (934, .slice (some ⟨sd, ((i * 40) + 32), none⟩) ((ah * 40) - ((i * 40) + 32)) ((ah * 40) - ((i * 40) + 32))), (937, (aS big)), (941, .slice (some ⟨sd, ((i * 40) + 36), none⟩) ((ah * 40) - ((i * 40) + 36)) ((ah * 40) - ((i * 40) + 36))), (890, bn v.ty), (896, bn v.flags), (903, aI v.addr), (910, aI v.off)] : Slots)
abbrev Dz := fun (b : Nat) (o : Nat) (n : Nat) (c : Nat) (s : Nat) (fb : Nat) (big : Bool) (ak : Nat) (aj : Nat) (au : Nat) (ah : Nat) (sd : Nat) (i : Nat) z5 (aW : Nat) (v : jy) => ((fH b o n c s fb big ak aj au ah sd i z5 aW) ++ [(884, aB z5), (937, (aS big)), (941, .slice (some ⟨sd, ((i * 40) + 36), none⟩) ((ah * 40) - ((i * 40) + 36)) ((ah * 40) - ((i * 40) + 36))), (890, bn v.ty), (896, bn v.flags), (903, aI v.addr), (910, aI v.off), (917, aI v.bP), (923, bn v.link), (929, bn v.info)] : Slots)
abbrev Dy := fun (b : Nat) (o : Nat) (n : Nat) (c : Nat) (s : Nat) (fb : Nat) (big : Bool) (ak : Nat) (aj : Nat) (au : Nat) (ah : Nat) (sd : Nat) (i : Nat) z5 (aW : Nat) (v : jy) => ((fH b o n c s fb big ak aj au ah sd i z5 aW) ++ [(884, aB z5), (890, bn v.ty), (896, bn v.flags), (903, aI v.addr), (910, aI v.off), (917, aI v.bP), (923, bn v.link), (929, bn v.info), (936, aI v.align)] : Slots)
abbrev Ib := fun (v : jy) => ((944, .agg #[.string ⟨#[]⟩, bn (v).ty, bn (v).flags, aI (v).addr, aI (v).off, bH 0, bn (v).link, bn (v).info, aI (v).align, aI (v).ent, aI (v).bP]) : Nat × Value)
abbrev vJ := fun z5 (v : jy) => ((z5, .cells #[.string ⟨#[]⟩, bn (v).ty, bn (v).flags, aI (v).addr, aI (v).off, bH 0, bn (v).link, bn (v).info, aI (v).align, aI (v).ent, aI (v).bP, .nilIface, .pointer none, aF 0, aF 0] 153 (0, 0)) : Nat × Obj)
abbrev tV := fun (b : Nat) (o : Nat) (n : Nat) (c : Nat) (s : Nat) (fb : Nat) (big : Bool) (ak : Nat) (aj : Nat) (au : Nat) (ah : Nat) (sd : Nat) (i : Nat) z5 (aW : Nat) => ((fH b o n c s fb big ak aj au ah sd i z5 aW) ++ [(1059, aB z5), (1060, .iface 178 (.slice (some ⟨b, o, none⟩) n c))] : Slots)
abbrev Ic := fun z5 (v : jy) sb => ((z5, .cells #[.string ⟨#[]⟩, bn (v).ty, bn (v).flags, aI (v).addr, aI (v).off, bH 0, bn (v).link, bn (v).info, aI (v).align, aI (v).ent, aI (v).bP, .nilIface, aB sb, aF 0, aF 0] 153 (0, 0)) : Nat × Obj)
abbrev vI := fun z5 (v : jy) sb => ((z5, .cells #[.string ⟨#[]⟩, bn (v).ty, bn (v).flags, aI (v).addr, aI (v).off, aI (v).bP, bn (v).link, bn (v).info, aI (v).align, aI (v).ent, aI (v).bP, .iface 144 (aB sb), aB sb, aF 0, aF 0] 153 (0, 0)) : Nat × Obj)
theorem SG (l : List UInt8) (b o n c : Nat) (hl : n = l.length) (hnc : n ≤ c) (big : Bool) (abi aH aU aJ aG ak aj au ah : Nat) (dat : Int) (b1 : aU < 65536) (b2 : aJ < 65536) (b3 : aG ≤ 18446744073709551615) (b4 : ak < 4611686018427387904) (b5 : au < 4611686018427387904) (b6 : aj < 200) (b7 : ah < 200) (X : List UInt8) (pV : X.length = (ah * 40)) (i : Nat) (hi : i < ah) (v : jy) (hv : yB (X.drop (i * 40)) false big v.name v.ty v.flags v.addr v.off v.bP v.link v.info v.align v.ent) (v1 : v.name < 4294967296) (v2 : v.ty < 4294967296) (v3 : v.flags < 4294967296) (v4 : v.off < 4611686018427387904) (v5 : v.bP < 4611686018427387904) (v6 : v.addr ≤ 18446744073709551615) (v7 : v.align ≤ 18446744073709551615) (v8 : v.ent ≤ 18446744073709551615) (v9 : (qO (v.flags : Int) 2048 == 0) = true)
  {K0 : Act → World → Prop} {Q : Exit → Act → World → Prop} (a : Act) (W1 : World) (s fb pg aV aW sd : Nat) (cur nms : Array Value) (hcs : cur.size = ah) (hns : nms.size = ah) (LW : Mm [fb, aV, aW, sd] W1 W1 [fP fb dat abi aH big aU aJ aG aV i ah pg aj, (aV, .cells cur 133 (0, 0)), (aW, .cells nms 36 (0, 0)), (sd, .cells (X.map Bv).toArray 5 (0, 0))]) (HF : Fr 1287 a (mD b o n c s fb big ak aj au ah aW i sd))
  (K : ∀ a w' pb sb cur' gK, cur'.size = ah → gK.size = ah → cur'.toList.take (i + 1) = cur.toList.take i ++ [aB pb] → gK.toList.take (i + 1) = nms.toList.take i ++ [bn v.name] → Fr 1287 a ((BG b o n c s fb big ak aj au ah) ++ [(41, aC aW (i + 1) ah), (42, aC sd (ah * 40) (ah * 40)), (43, ay (i + 1))]) → Mm [fb, aV, aW, sd] W1 w' [oW sb b o n c v, (pb, .cells #[.string ⟨#[]⟩, bn (v).ty, bn (v).flags, aI (v).addr, aI (v).off, aI (v).bP, bn (v).link, bn (v).info, aI (v).align, aI (v).ent, aI (v).bP, .iface 144 (aB sb), aB sb, aF 0, aF 0] 153 (0, 0)), BH fb dat abi aH big aU aJ aG aV i ah pg aj, (aV, .cells cur' 133 (0, 0)), (aW, .cells gK 36 (0, 0)), (sd, .cells (X.map Bv).toArray 5 (0, 0))] → K0 a w') : (pR (spine Tryd.f78 44)).wp Tryd.prog (Exit.then K0 Q) a W1 := by
 obtain ⟨i0, hi0, hs0⟩ := yD
 have en : num big X ((i * 40) + 0) 4 = v.name := (gI big X (i * 40) 0 4).symm.trans hv.name
 have QI : num big X ((i * 40) + 4) 4 = v.ty := (gI big X (i * 40) 4 4).symm.trans hv.ty
 have I4 : num big X ((i * 40) + 8) 4 = v.flags := (gI big X (i * 40) 8 4).symm.trans hv.flags
 have LD : num big X ((i * 40) + 12) 4 = v.addr := (gI big X (i * 40) 12 4).symm.trans hv.addr
 have Oz : num big X ((i * 40) + 16) 4 = v.off := (gI big X (i * 40) 16 4).symm.trans hv.off
 have OA : num big X ((i * 40) + 20) 4 = v.bP := (gI big X (i * 40) 20 4).symm.trans hv.size
 have Lu : num big X ((i * 40) + 24) 4 = v.link := (gI big X (i * 40) 24 4).symm.trans hv.link
 have LC : num big X ((i * 40) + 28) 4 = v.info := (gI big X (i * 40) 28 4).symm.trans hv.info
 have I5 : num big X ((i * 40) + 32) 4 = v.align := (gI big X (i * 40) 32 4).symm.trans hv.align
 have OB : num big X ((i * 40) + 36) 4 = v.ent := (gI big X (i * 40) 36 4).symm.trans hv.ent
 obtain ⟨w, hw⟩ : ∃ w, W1 = w := ⟨_, rfl⟩
 have HM : Mm [fb, aV, aW, sd] W1 w [fP fb dat abi aH big aU aJ aG aV i ah pg aj, (aV, .cells cur 133 (0, 0)), (aW, .cells nms 36 (0, 0)), (sd, .cells (X.map Bv).toArray 5 (0, 0))] := hw ▸ LW
 conv => arg 5; rw [hw]
 clear hw LW
 refine wp_seq ?_
 refine wp_seq (wp_region_lit ?_)
 refine aT HF HM rfl 3 [] ((mD b o n c s fb big ak aj au ah aW i sd) ++ [(859, .bool (decide (((i : Nat) : Int) < ((ah : Nat) : Int))))]) [fP fb dat abi aH big aU aJ aG aV i ah pg aj, (aV, .cells cur 133 (0, 0)), (aW, .cells nms 36 (0, 0)), (sd, .cells (X.map Bv).toArray 5 (0, 0))] (by kernel_rfl) ?_
 clear HF HM; intro a w HF HM
 rw [show decide (((i : Nat) : Int) < ((ah : Nat) : Int)) = true from dK (by omega)] at HF
 refine aA ?_
 refine bD HF rfl ?_
 refine wp_skip ?_
 repeat (first | refine aK ?_ | refine aP ?_)
 replace HF := HF.sub (mD b o n c s fb big ak aj au ah aW i sd) (by kernel_rfl)
 refine wp_seq (wp_block ?_)
 refine wp_seq (wp_region_lit ?_)
 refine aT HF HM rfl 2 [] ((mD b o n c s fb big ak aj au ah aW i sd) ++ [(863, bH (IntKind.u64.wrap ((i : Nat) : Int)))]) [fP fb dat abi aH big aU aJ aG aV i ah pg aj, (aV, .cells cur 133 (0, 0)), (aW, .cells nms 36 (0, 0)), (sd, .cells (X.map Bv).toArray 5 (0, 0))] (by kernel_rfl) ?_
 clear HF HM; intro a w HF HM
 rw [show IntKind.u64.wrap ((i : Nat) : Int) = ((i : Nat) : Int) from IntWalk.u64_in _ (by omega)] at HF
 refine aT HF HM rfl 3 [] ((mD b o n c s fb big ak aj au ah aW i sd) ++ [(866, bH (IntKind.u64.wrap (((i : Nat) : Int) * 40)))]) [fP fb dat abi aH big aU aJ aG aV i ah pg aj, (aV, .cells cur 133 (0, 0)), (aW, .cells nms 36 (0, 0)), (sd, .cells (X.map Bv).toArray 5 (0, 0))] (by kernel_rfl) ?_
 clear HF HM; intro a w HF HM
 rw [show IntKind.u64.wrap (((i : Nat) : Int) * 40) = (((i * 40) : Nat) : Int) from (IntWalk.u64_in _ (by omega)).trans (by omega)] at HF
 refine aT HF HM rfl 1 [] ((mD b o n c s fb big ak aj au ah aW i sd) ++ [(44, aI (i * 40))]) [fP fb dat abi aH big aU aJ aG aV i ah pg aj, (aV, .cells cur 133 (0, 0)), (aW, .cells nms 36 (0, 0)), (sd, .cells (X.map Bv).toArray 5 (0, 0))] (by kernel_rfl) ?_
 clear HF HM; intro a w HF HM
 refine aA ?_
 obtain ⟨z5, uG⟩ : ∃ z, w.heap.size = z := ⟨_, rfl⟩
 refine bG HF HM uG [] ((mD b o n c s fb big ak aj au ah aW i sd) ++ [(44, aI (i * 40)), (45, aB z5)]) [lC z5, fP fb dat abi aH big aU aJ aG aV i ah pg aj, (aV, .cells cur 133 (0, 0)), (aW, .cells nms 36 (0, 0)), (sd, .cells (X.map Bv).toArray 5 (0, 0))] (by kernel_rfl) ?_
 clear HF HM uG; intro a w HF HM
 refine wp_seq ?_
 refine bG HF HM rfl [[3]] ((mD b o n c s fb big ak aj au ah aW i sd) ++ [(44, aI (i * 40)), (45, aB z5), (872, aQ 1)]) [lC z5, fP fb dat abi aH big aU aJ aG aV i ah pg aj, (aV, .cells cur 133 (0, 0)), (aW, .cells nms 36 (0, 0)), (sd, .cells (X.map Bv).toArray 5 (0, 0))] (by kernel_rfl) ?_
 clear HF HM; intro a w HF HM
 refine wp_block ?_
 refine bG HF HM rfl [] ((mD b o n c s fb big ak aj au ah aW i sd) ++ [(44, aI (i * 40)), (45, aB z5), (872, aQ 1), (873, .bool true)]) [lC z5, fP fb dat abi aH big aU aJ aG aV i ah pg aj, (aV, .cells cur 133 (0, 0)), (aW, .cells nms 36 (0, 0)), (sd, .cells (X.map Bv).toArray 5 (0, 0))] (by kernel_rfl) ?_
 clear HF HM; intro a w HF HM
 refine bD HF rfl ?_
 replace HF := HF.sub ((mD b o n c s fb big ak aj au ah aW i sd) ++ [(44, aI (i * 40)), (45, aB z5)]) (by kernel_rfl)
 refine wp_seq (wp_region_lit ?_)
 refine aT HF HM rfl 5 [] ((mD b o n c s fb big ak aj au ah aW i sd) ++ [(44, aI (i * 40)), (45, aB z5), (875, aC aW i ah), (876, (aS big)), (877, aC sd (ah * 40) (ah * 40)), (879, bH (IntKind.u64.wrap ((((i * 40) : Nat) : Int) + 0)))]) [lC z5, fP fb dat abi aH big aU aJ aG aV i ah pg aj, (aV, .cells cur 133 (0, 0)), (aW, .cells nms 36 (0, 0)), (sd, .cells (X.map Bv).toArray 5 (0, 0))] (by kernel_rfl) ?_
 clear HF HM; intro a w HF HM
 rw [show IntKind.u64.wrap ((((i * 40) : Nat) : Int) + 0) = ((((i * 40) + 0) : Nat) : Int) from (IntWalk.u64_in _ (by omega)).trans (by omega)] at HF
 refine dG HF (by kernel_rfl) (.slice (some ⟨sd, ((i * 40) + 0), none⟩) ((ah * 40) - ((i * 40) + 0)) ((ah * 40) - ((i * 40) + 0))) (by kernel_rfl) (fF (t := 33) Tryd.underlying33 hi0 hs0 rfl ((i * 40) + 0) (kk := .u64) rfl rfl (by omega) (by omega) (by omega) _) ?_
 clear HF; intro a HF; replace HF := HF.sub ((mD b o n c s fb big ak aj au ah aW i sd) ++ [(44, aI (i * 40)), (45, aB z5), (875, aC aW i ah), (876, (aS big)), (877, aC sd (ah * 40) (ah * 40)), (879, aI ((i * 40) + 0)), (880, .slice (some ⟨sd, ((i * 40) + 0), none⟩) ((ah * 40) - ((i * 40) + 0)) ((ah * 40) - ((i * 40) + 0)))]) (by kernel_rfl)
 refine bf HF (by kernel_rfl) 87 #[(aS big), .slice (some ⟨sd, ((i * 40) + 0), none⟩) ((ah * 40) - ((i * 40) + 0)) ((ah * 40) - ((i * 40) + 0))] (by kernel_rfl) (fun w => by kernel_rfl) (Calls.mono (kF (HM.get (i := 4) rfl) (by unfold maxLen; omega) big ((i * 40) + 0) ((ah * 40) - ((i * 40) + 0)) (by omega) (by omega) ((v.name : Nat) : Int) (by rw [en])) ?_)
 rintro _ w1 ⟨rfl, kM, hq⟩
 replace HM : Mm [fb, aV, aW, sd] W1 w1 [lC z5, fP fb dat abi aH big aU aJ aG aV i ah pg aj, (aV, .cells cur 133 (0, 0)), (aW, .cells nms 36 (0, 0)), (sd, .cells (X.map Bv).toArray 5 (0, 0))] := by rw [hq]; exact HM.drewN _
 clear hq
 refine ⟨_, rfl, ?_⟩; clear HF; intro a HF; replace HF := HF.sub ((mD b o n c s fb big ak aj au ah aW i sd) ++ [(44, aI (i * 40)), (45, aB z5), (875, aC aW i ah), (876, (aS big)), (877, aC sd (ah * 40) (ah * 40)), (879, aI ((i * 40) + 0)), (880, .slice (some ⟨sd, ((i * 40) + 0), none⟩) ((ah * 40) - ((i * 40) + 0)) ((ah * 40) - ((i * 40) + 0))), (881, bn v.name)]) (by kernel_rfl)
 obtain ⟨z9, hz9⟩ : ∃ z, w1.heap.size = z := ⟨_, rfl⟩
 refine aT HF HM hz9 1 [] ((mD b o n c s fb big ak aj au ah aW i sd) ++ [(44, aI (i * 40)), (45, aB z5), (875, aC aW i ah), (882, aC z9 1 1)]) [(z9, .cells #[bn v.name] 36 (0, 0)), lC z5, fP fb dat abi aH big aU aJ aG aV i ah pg aj, (aV, .cells cur 133 (0, 0)), (aW, .cells nms 36 (0, 0)), (sd, .cells (X.map Bv).toArray 5 (0, 0))] (by kernel_rfl) ?_
 clear HF HM hz9; intro a w HF HM
 refine sD HF HM rfl _ _ 222 rfl rfl 36 (iR 0) 4 Tryd.underlying222 AO 4 0 aW _ i ah nms _ _ rfl hns (by omega) (by unfold maxLen; omega) rfl rfl rfl rfl ?_
 intro a2 w2 gK G8 htn bT HF2; clear HF HM; have HM : Mm [fb, aV, aW, sd] W1 w2 [(z9, .cells #[bn v.name] 36 (0, 0)), lC z5, fP fb dat abi aH big aU aJ aG aV i ah pg aj, (aV, .cells cur 133 (0, 0)), (aW, .cells gK 36 (0, 0)), (sd, .cells (X.map Bv).toArray 5 (0, 0))] := bT; have HF := HF2; clear bT HF2
 replace HF := HF.sub ((mD b o n c s fb big ak aj au ah aW i sd) ++ [(44, aI (i * 40)), (45, aB z5), (883, aC aW (i + 1) ah)]) (by kernel_rfl)
 refine aT HF HM rfl 1 [] (fH b o n c s fb big ak aj au ah sd i z5 aW) [(z9, .cells #[bn v.name] 36 (0, 0)), lC z5, fP fb dat abi aH big aU aJ aG aV i ah pg aj, (aV, .cells cur 133 (0, 0)), (aW, .cells gK 36 (0, 0)), (sd, .cells (X.map Bv).toArray 5 (0, 0))] (by kernel_rfl) ?_
 clear HF HM; intro a w HF HM
 refine aA ?_
 refine wQ HM (by kernel_rfl) [(sd, .cells (X.map Bv).toArray 5 (0, 0))] [(0, false), (1, false), (2, false), (3, false), (4, false), (5, false), (7, false), (8, false), (9, false), (10, false), (11, false), (13, false), (14, false), (15, false), (16, false), (17, false), (20, false), (21, false), (22, false), (23, false), (24, false), (27, false), (28, false), (29, false), (30, false), (31, false), (34, false), (35, false), (36, false), (37, false), (38, false), (40, false), (41, false), (42, false), (43, false), (44, false), (46, false), (47, false), (48, false), (49, false), (50, false), (53, false), (54, false), (55, false), (56, false), (57, false), (6, true), (12, true), (18, true), (19, false), (25, true), (26, false), (32, true), (33, false), (39, true), (45, true), (51, true), (52, false), (58, true), (59, false), (60, false), (61, false), (62, false), (63, true)] (by kernel_rfl) ?_
 clear HM; intro w3 HM
 refine bI HF (HM.told [5] rfl) 1 [] ((fH b o n c s fb big ak aj au ah sd i z5 aW) ++ [(884, aB z5)]) (by kernel_rfl) ?_
 clear HF; intro a HF
 refine bI HF (HM.told [5] rfl) 4 [] ((fH b o n c s fb big ak aj au ah sd i z5 aW) ++ [(884, aB z5), (885, (aS big)), (886, aC sd (ah * 40) (ah * 40)), (888, bH (IntKind.u64.wrap ((((i * 40) : Nat) : Int) + 4)))]) (by kernel_rfl) ?_
 clear HF; intro a HF
 rw [show IntKind.u64.wrap ((((i * 40) : Nat) : Int) + 4) = ((((i * 40) + 4) : Nat) : Int) from (IntWalk.u64_in _ (by omega)).trans (by omega)] at HF
 refine dL rfl HF (HM.told [5] rfl) rfl (.slice (some ⟨sd, ((i * 40) + 4), none⟩) ((ah * 40) - ((i * 40) + 4)) ((ah * 40) - ((i * 40) + 4))) (by kernel_rfl) (fun w hw => fF (t := 33) Tryd.underlying33 hi0 hs0 rfl ((i * 40) + 4) (kk := .u64) rfl rfl (by omega) (by omega) (by omega) w) ?_
 clear HF; intro a HF; replace HF := HF.sub ((fH b o n c s fb big ak aj au ah sd i z5 aW) ++ [(884, aB z5), (885, (aS big)), (886, aC sd (ah * 40) (ah * 40)), (888, aI ((i * 40) + 4)), Pm sd i ah]) (by kernel_rfl)
 replace HF := HF.sub (BF b o n c s fb big ak aj au ah sd i z5 aW) (by kernel_rfl)
 refine bI HF (HM.told [5] rfl) 4 [] ((BF b o n c s fb big ak aj au ah sd i z5 aW) ++ [(891, (aS big)), (892, aC sd (ah * 40) (ah * 40)), (894, bH (IntKind.u64.wrap ((((i * 40) : Nat) : Int) + 8)))]) (by kernel_rfl) ?_
 clear HF; intro a HF
 rw [show IntKind.u64.wrap ((((i * 40) : Nat) : Int) + 8) = ((((i * 40) + 8) : Nat) : Int) from (IntWalk.u64_in _ (by omega)).trans (by omega)] at HF
 refine dL rfl HF (HM.told [5] rfl) rfl (.slice (some ⟨sd, ((i * 40) + 8), none⟩) ((ah * 40) - ((i * 40) + 8)) ((ah * 40) - ((i * 40) + 8))) (by kernel_rfl) (fun w hw => fF (t := 33) Tryd.underlying33 hi0 hs0 rfl ((i * 40) + 8) (kk := .u64) rfl rfl (by omega) (by omega) (by omega) w) ?_
 clear HF; intro a HF; replace HF := HF.sub ((BF b o n c s fb big ak aj au ah sd i z5 aW) ++ [(891, (aS big)), (892, aC sd (ah * 40) (ah * 40)), (894, aI ((i * 40) + 8)), EO sd i ah]) (by kernel_rfl)
 replace HF := HF.sub (zO b o n c s fb big ak aj au ah sd i z5 aW) (by kernel_rfl)
 refine bI HF (HM.told [5] rfl) 4 [] ((zO b o n c s fb big ak aj au ah sd i z5 aW) ++ [(897, (aS big)), (898, aC sd (ah * 40) (ah * 40)), (900, bH (IntKind.u64.wrap ((((i * 40) : Nat) : Int) + 12)))]) (by kernel_rfl) ?_
 clear HF; intro a HF
 rw [show IntKind.u64.wrap ((((i * 40) : Nat) : Int) + 12) = ((((i * 40) + 12) : Nat) : Int) from (IntWalk.u64_in _ (by omega)).trans (by omega)] at HF
 refine dL rfl HF (HM.told [5] rfl) rfl (.slice (some ⟨sd, ((i * 40) + 12), none⟩) ((ah * 40) - ((i * 40) + 12)) ((ah * 40) - ((i * 40) + 12))) (by kernel_rfl) (fun w hw => fF (t := 33) Tryd.underlying33 hi0 hs0 rfl ((i * 40) + 12) (kk := .u64) rfl rfl (by omega) (by omega) (by omega) w) ?_
 clear HF; intro a HF; replace HF := HF.sub ((zO b o n c s fb big ak aj au ah sd i z5 aW) ++ [(897, (aS big)), (898, aC sd (ah * 40) (ah * 40)), (900, aI ((i * 40) + 12)), xJ sd i ah]) (by kernel_rfl)
 replace HF := HF.sub (zN b o n c s fb big ak aj au ah sd i z5 aW) (by kernel_rfl)
 refine bI HF (HM.told [5] rfl) 4 [] ((zN b o n c s fb big ak aj au ah sd i z5 aW) ++ [(904, (aS big)), (905, aC sd (ah * 40) (ah * 40)), (907, bH (IntKind.u64.wrap ((((i * 40) : Nat) : Int) + 16)))]) (by kernel_rfl) ?_
 clear HF; intro a HF
 rw [show IntKind.u64.wrap ((((i * 40) : Nat) : Int) + 16) = ((((i * 40) + 16) : Nat) : Int) from (IntWalk.u64_in _ (by omega)).trans (by omega)] at HF
 refine dL rfl HF (HM.told [5] rfl) rfl (.slice (some ⟨sd, ((i * 40) + 16), none⟩) ((ah * 40) - ((i * 40) + 16)) ((ah * 40) - ((i * 40) + 16))) (by kernel_rfl) (fun w hw => fF (t := 33) Tryd.underlying33 hi0 hs0 rfl ((i * 40) + 16) (kk := .u64) rfl rfl (by omega) (by omega) (by omega) w) ?_
 clear HF; intro a HF; replace HF := HF.sub ((zN b o n c s fb big ak aj au ah sd i z5 aW) ++ [(904, (aS big)), (905, aC sd (ah * 40) (ah * 40)), (907, aI ((i * 40) + 16)), xI sd i ah]) (by kernel_rfl)
 replace HF := HF.sub (zM b o n c s fb big ak aj au ah sd i z5 aW) (by kernel_rfl)
 refine bI HF (HM.told [5] rfl) 4 [] ((zM b o n c s fb big ak aj au ah sd i z5 aW) ++ [(911, (aS big)), (912, aC sd (ah * 40) (ah * 40)), (914, bH (IntKind.u64.wrap ((((i * 40) : Nat) : Int) + 20)))]) (by kernel_rfl) ?_
 clear HF; intro a HF
 rw [show IntKind.u64.wrap ((((i * 40) : Nat) : Int) + 20) = ((((i * 40) + 20) : Nat) : Int) from (IntWalk.u64_in _ (by omega)).trans (by omega)] at HF
 refine dL rfl HF (HM.told [5] rfl) rfl (.slice (some ⟨sd, ((i * 40) + 20), none⟩) ((ah * 40) - ((i * 40) + 20)) ((ah * 40) - ((i * 40) + 20))) (by kernel_rfl) (fun w hw => fF (t := 33) Tryd.underlying33 hi0 hs0 rfl ((i * 40) + 20) (kk := .u64) rfl rfl (by omega) (by omega) (by omega) w) ?_
 clear HF; intro a HF; replace HF := HF.sub ((zM b o n c s fb big ak aj au ah sd i z5 aW) ++ [(911, (aS big)), (912, aC sd (ah * 40) (ah * 40)), (914, aI ((i * 40) + 20)), xH sd i ah]) (by kernel_rfl)
 replace HF := HF.sub (zL b o n c s fb big ak aj au ah sd i z5 aW) (by kernel_rfl)
 refine bI HF (HM.told [5] rfl) 4 [] ((zL b o n c s fb big ak aj au ah sd i z5 aW) ++ [(918, (aS big)), (919, aC sd (ah * 40) (ah * 40)), (921, bH (IntKind.u64.wrap ((((i * 40) : Nat) : Int) + 24)))]) (by kernel_rfl) ?_
 clear HF; intro a HF
 rw [show IntKind.u64.wrap ((((i * 40) : Nat) : Int) + 24) = ((((i * 40) + 24) : Nat) : Int) from (IntWalk.u64_in _ (by omega)).trans (by omega)] at HF
 refine dL rfl HF (HM.told [5] rfl) rfl (.slice (some ⟨sd, ((i * 40) + 24), none⟩) ((ah * 40) - ((i * 40) + 24)) ((ah * 40) - ((i * 40) + 24))) (by kernel_rfl) (fun w hw => fF (t := 33) Tryd.underlying33 hi0 hs0 rfl ((i * 40) + 24) (kk := .u64) rfl rfl (by omega) (by omega) (by omega) w) ?_
 clear HF; intro a HF; replace HF := HF.sub ((zL b o n c s fb big ak aj au ah sd i z5 aW) ++ [(918, (aS big)), (919, aC sd (ah * 40) (ah * 40)), (921, aI ((i * 40) + 24)), xG sd i ah]) (by kernel_rfl)
 replace HF := HF.sub (zK b o n c s fb big ak aj au ah sd i z5 aW) (by kernel_rfl)
 refine bI HF (HM.told [5] rfl) 4 [] ((zK b o n c s fb big ak aj au ah sd i z5 aW) ++ [(924, (aS big)), (925, aC sd (ah * 40) (ah * 40)), (927, bH (IntKind.u64.wrap ((((i * 40) : Nat) : Int) + 28)))]) (by kernel_rfl) ?_
 clear HF; intro a HF
 rw [show IntKind.u64.wrap ((((i * 40) : Nat) : Int) + 28) = ((((i * 40) + 28) : Nat) : Int) from (IntWalk.u64_in _ (by omega)).trans (by omega)] at HF
 refine dL rfl HF (HM.told [5] rfl) rfl (.slice (some ⟨sd, ((i * 40) + 28), none⟩) ((ah * 40) - ((i * 40) + 28)) ((ah * 40) - ((i * 40) + 28))) (by kernel_rfl) (fun w hw => fF (t := 33) Tryd.underlying33 hi0 hs0 rfl ((i * 40) + 28) (kk := .u64) rfl rfl (by omega) (by omega) (by omega) w) ?_
 clear HF; intro a HF; replace HF := HF.sub ((zK b o n c s fb big ak aj au ah sd i z5 aW) ++ [(924, (aS big)), (925, aC sd (ah * 40) (ah * 40)), (927, aI ((i * 40) + 28)), tX sd i ah]) (by kernel_rfl)
 replace HF := HF.sub (zJ b o n c s fb big ak aj au ah sd i z5 aW) (by kernel_rfl)
 refine bI HF (HM.told [5] rfl) 4 [] ((zJ b o n c s fb big ak aj au ah sd i z5 aW) ++ [(930, (aS big)), (931, aC sd (ah * 40) (ah * 40)), (933, bH (IntKind.u64.wrap ((((i * 40) : Nat) : Int) + 32)))]) (by kernel_rfl) ?_
 clear HF; intro a HF
 rw [show IntKind.u64.wrap ((((i * 40) : Nat) : Int) + 32) = ((((i * 40) + 32) : Nat) : Int) from (IntWalk.u64_in _ (by omega)).trans (by omega)] at HF
 refine dL rfl HF (HM.told [5] rfl) rfl (.slice (some ⟨sd, ((i * 40) + 32), none⟩) ((ah * 40) - ((i * 40) + 32)) ((ah * 40) - ((i * 40) + 32))) (by kernel_rfl) (fun w hw => fF (t := 33) Tryd.underlying33 hi0 hs0 rfl ((i * 40) + 32) (kk := .u64) rfl rfl (by omega) (by omega) (by omega) w) ?_
 clear HF; intro a HF; replace HF := HF.sub ((zJ b o n c s fb big ak aj au ah sd i z5 aW) ++ [(930, (aS big)), (931, aC sd (ah * 40) (ah * 40)), (933, aI ((i * 40) + 32)), pY sd i ah]) (by kernel_rfl)
 replace HF := HF.sub (xE b o n c s fb big ak aj au ah sd i z5 aW) (by kernel_rfl)
 refine bI HF (HM.told [5] rfl) 4 [] ((xE b o n c s fb big ak aj au ah sd i z5 aW) ++ [(937, (aS big)), (938, aC sd (ah * 40) (ah * 40)), (940, bH (IntKind.u64.wrap ((((i * 40) : Nat) : Int) + 36)))]) (by kernel_rfl) ?_
 clear HF; intro a HF
 rw [show IntKind.u64.wrap ((((i * 40) : Nat) : Int) + 36) = ((((i * 40) + 36) : Nat) : Int) from (IntWalk.u64_in _ (by omega)).trans (by omega)] at HF
 refine dL rfl HF (HM.told [5] rfl) rfl (.slice (some ⟨sd, ((i * 40) + 36), none⟩) ((ah * 40) - ((i * 40) + 36)) ((ah * 40) - ((i * 40) + 36))) (by kernel_rfl) (fun w hw => fF (t := 33) Tryd.underlying33 hi0 hs0 rfl ((i * 40) + 36) (kk := .u64) rfl rfl (by omega) (by omega) (by omega) w) ?_
 clear HF; intro a HF; replace HF := HF.sub ((xE b o n c s fb big ak aj au ah sd i z5 aW) ++ [(937, (aS big)), (938, aC sd (ah * 40) (ah * 40)), (940, aI ((i * 40) + 36)), oq sd i ah]) (by kernel_rfl)
 replace HF := HF.sub ((xE b o n c s fb big ak aj au ah sd i z5 aW) ++ [(937, (aS big)), oq sd i ah]) (by kernel_rfl)
 refine bW rfl ?_
 refine bf HF (by kernel_rfl) 87 #[(aS big), .slice (some ⟨sd, ((i * 40) + 4), none⟩) ((ah * 40) - ((i * 40) + 4)) ((ah * 40) - ((i * 40) + 4))] (by kernel_rfl) (fun w => by kernel_rfl) (Calls.mono (kF (HM.get (i := 5) rfl) (by unfold maxLen; omega) big ((i * 40) + 4) ((ah * 40) - ((i * 40) + 4)) (by omega) (by omega) ((v.ty : Nat) : Int) (by rw [QI])) ?_)
 rintro _ w4 ⟨rfl, kM, hq⟩
 replace HM : Mm [fb, aV, aW, sd] W1 w4 [(z9, .cells #[bn v.name] 36 (0, 0)), lC z5, fP fb dat abi aH big aU aJ aG aV i ah pg aj, (aV, .cells cur 133 (0, 0)), (aW, .cells gK 36 (0, 0)), (sd, .cells (X.map Bv).toArray 5 (0, 0))] := by rw [hq]; exact HM.drewN _
 clear hq
 refine ⟨_, rfl, ?_⟩; clear HF; intro a HF; replace HF := HF.sub ((xE b o n c s fb big ak aj au ah sd i z5 aW) ++ [(937, (aS big)), oq sd i ah, (890, bn v.ty)]) (by kernel_rfl)
 refine dH (HM.told [5] rfl) ?_
 replace HF := HF.sub ((fH b o n c s fb big ak aj au ah sd i z5 aW) ++ [(884, aB z5), (891, (aS big)), EO sd i ah, (897, (aS big)), xJ sd i ah, (904, (aS big)), xI sd i ah, (911, (aS big)), xH sd i ah, (918, (aS big)), xG sd i ah, (924, (aS big)), tX sd i ah, (930, (aS big)), pY sd i ah, (937, (aS big)), oq sd i ah, (890, bn v.ty)]) (by kernel_rfl)
 refine bW rfl ?_
 refine bf HF (by kernel_rfl) 87 #[(aS big), .slice (some ⟨sd, ((i * 40) + 8), none⟩) ((ah * 40) - ((i * 40) + 8)) ((ah * 40) - ((i * 40) + 8))] (by kernel_rfl) (fun w => by kernel_rfl) (Calls.mono (kF (HM.get (i := 5) rfl) (by unfold maxLen; omega) big ((i * 40) + 8) ((ah * 40) - ((i * 40) + 8)) (by omega) (by omega) ((v.flags : Nat) : Int) (by rw [I4])) ?_)
 rintro _ w5 ⟨rfl, kM, hq⟩
 replace HM : Mm [fb, aV, aW, sd] W1 w5 [(z9, .cells #[bn v.name] 36 (0, 0)), lC z5, fP fb dat abi aH big aU aJ aG aV i ah pg aj, (aV, .cells cur 133 (0, 0)), (aW, .cells gK 36 (0, 0)), (sd, .cells (X.map Bv).toArray 5 (0, 0))] := by rw [hq]; exact HM.drewN _
 clear hq
 refine ⟨_, rfl, ?_⟩; clear HF; intro a HF; replace HF := HF.sub ((fH b o n c s fb big ak aj au ah sd i z5 aW) ++ [(884, aB z5), (891, (aS big)), EO sd i ah, (897, (aS big)), xJ sd i ah, (904, (aS big)), xI sd i ah, (911, (aS big)), xH sd i ah, (918, (aS big)), xG sd i ah, (924, (aS big)), tX sd i ah, (930, (aS big)), pY sd i ah, (937, (aS big)), oq sd i ah, (890, bn v.ty), (896, bn v.flags)]) (by kernel_rfl)
 refine dH (HM.told [5] rfl) ?_
 replace HF := HF.sub ((fH b o n c s fb big ak aj au ah sd i z5 aW) ++ [(884, aB z5), (897, (aS big)), xJ sd i ah, (904, (aS big)), xI sd i ah, (911, (aS big)), xH sd i ah, (918, (aS big)), xG sd i ah, (924, (aS big)), tX sd i ah, (930, (aS big)), pY sd i ah, (937, (aS big)), oq sd i ah, (890, bn v.ty), (896, bn v.flags)]) (by kernel_rfl)
 refine bW rfl ?_
 refine bf HF (by kernel_rfl) 87 #[(aS big), .slice (some ⟨sd, ((i * 40) + 12), none⟩) ((ah * 40) - ((i * 40) + 12)) ((ah * 40) - ((i * 40) + 12))] (by kernel_rfl) (fun w => by kernel_rfl) (Calls.mono (kF (HM.get (i := 5) rfl) (by unfold maxLen; omega) big ((i * 40) + 12) ((ah * 40) - ((i * 40) + 12)) (by omega) (by omega) ((v.addr : Nat) : Int) (by rw [LD])) ?_)
 rintro _ w6 ⟨rfl, kM, hq⟩
 replace HM : Mm [fb, aV, aW, sd] W1 w6 [(z9, .cells #[bn v.name] 36 (0, 0)), lC z5, fP fb dat abi aH big aU aJ aG aV i ah pg aj, (aV, .cells cur 133 (0, 0)), (aW, .cells gK 36 (0, 0)), (sd, .cells (X.map Bv).toArray 5 (0, 0))] := by rw [hq]; exact HM.drewN _
 clear hq
 refine ⟨_, rfl, ?_⟩; clear HF; intro a HF; replace HF := HF.sub ((fH b o n c s fb big ak aj au ah sd i z5 aW) ++ [(884, aB z5), (897, (aS big)), xJ sd i ah, (904, (aS big)), xI sd i ah, (911, (aS big)), xH sd i ah, (918, (aS big)), xG sd i ah, (924, (aS big)), tX sd i ah, (930, (aS big)), pY sd i ah, (937, (aS big)), oq sd i ah, (890, bn v.ty), (896, bn v.flags), (902, bn v.addr)]) (by kernel_rfl)
 refine dH (HM.told [5] rfl) ?_
 replace HF := HF.sub ((DI b o n c s fb big ak aj au ah sd i z5 aW v) ++ [(902, bn v.addr)]) (by kernel_rfl)
 refine bI HF (HM.told [5] rfl) 1 [] ((DI b o n c s fb big ak aj au ah sd i z5 aW v) ++ [(903, bH (IntKind.u64.wrap ((v.addr : Nat) : Int)))]) (by kernel_rfl) ?_
 clear HF; intro a HF
 rw [show IntKind.u64.wrap ((v.addr : Nat) : Int) = ((v.addr : Nat) : Int) from IntWalk.u64_in _ (by omega)] at HF
 refine bW rfl ?_
 refine bf HF (by kernel_rfl) 87 #[(aS big), .slice (some ⟨sd, ((i * 40) + 16), none⟩) ((ah * 40) - ((i * 40) + 16)) ((ah * 40) - ((i * 40) + 16))] (by kernel_rfl) (fun w => by kernel_rfl) (Calls.mono (kF (HM.get (i := 5) rfl) (by unfold maxLen; omega) big ((i * 40) + 16) ((ah * 40) - ((i * 40) + 16)) (by omega) (by omega) ((v.off : Nat) : Int) (by rw [Oz])) ?_)
 rintro _ w7 ⟨rfl, kM, hq⟩
 replace HM : Mm [fb, aV, aW, sd] W1 w7 [(z9, .cells #[bn v.name] 36 (0, 0)), lC z5, fP fb dat abi aH big aU aJ aG aV i ah pg aj, (aV, .cells cur 133 (0, 0)), (aW, .cells gK 36 (0, 0)), (sd, .cells (X.map Bv).toArray 5 (0, 0))] := by rw [hq]; exact HM.drewN _
 clear hq
 refine ⟨_, rfl, ?_⟩; clear HF; intro a HF; replace HF := HF.sub ((DI b o n c s fb big ak aj au ah sd i z5 aW v) ++ [(903, aI v.addr), (909, bn v.off)]) (by kernel_rfl)
 refine dH (HM.told [5] rfl) ?_
 replace HF := HF.sub ((DF b o n c s fb big ak aj au ah sd i z5 aW v) ++ [(909, bn v.off)]) (by kernel_rfl)
 refine bI HF (HM.told [5] rfl) 1 [] ((DF b o n c s fb big ak aj au ah sd i z5 aW v) ++ [(910, bH (IntKind.u64.wrap ((v.off : Nat) : Int)))]) (by kernel_rfl) ?_
 clear HF; intro a HF
 rw [show IntKind.u64.wrap ((v.off : Nat) : Int) = ((v.off : Nat) : Int) from IntWalk.u64_in _ (by omega)] at HF
 refine bW rfl ?_
 refine bf HF (by kernel_rfl) 87 #[(aS big), .slice (some ⟨sd, ((i * 40) + 20), none⟩) ((ah * 40) - ((i * 40) + 20)) ((ah * 40) - ((i * 40) + 20))] (by kernel_rfl) (fun w => by kernel_rfl) (Calls.mono (kF (HM.get (i := 5) rfl) (by unfold maxLen; omega) big ((i * 40) + 20) ((ah * 40) - ((i * 40) + 20)) (by omega) (by omega) ((v.bP : Nat) : Int) (by rw [OA])) ?_)
 rintro _ w8 ⟨rfl, kM, hq⟩
 replace HM : Mm [fb, aV, aW, sd] W1 w8 [(z9, .cells #[bn v.name] 36 (0, 0)), lC z5, fP fb dat abi aH big aU aJ aG aV i ah pg aj, (aV, .cells cur 133 (0, 0)), (aW, .cells gK 36 (0, 0)), (sd, .cells (X.map Bv).toArray 5 (0, 0))] := by rw [hq]; exact HM.drewN _
 clear hq
 refine ⟨_, rfl, ?_⟩; clear HF; intro a HF; replace HF := HF.sub ((DF b o n c s fb big ak aj au ah sd i z5 aW v) ++ [(910, aI v.off), (916, bn v.bP)]) (by kernel_rfl)
 refine dH (HM.told [5] rfl) ?_
 replace HF := HF.sub ((DC b o n c s fb big ak aj au ah sd i z5 aW v) ++ [(916, bn v.bP)]) (by kernel_rfl)
 refine bI HF (HM.told [5] rfl) 1 [] ((DC b o n c s fb big ak aj au ah sd i z5 aW v) ++ [(917, bH (IntKind.u64.wrap ((v.bP : Nat) : Int)))]) (by kernel_rfl) ?_
 clear HF; intro a HF
 rw [show IntKind.u64.wrap ((v.bP : Nat) : Int) = ((v.bP : Nat) : Int) from IntWalk.u64_in _ (by omega)] at HF
 refine bW rfl ?_
 refine bf HF (by kernel_rfl) 87 #[(aS big), .slice (some ⟨sd, ((i * 40) + 24), none⟩) ((ah * 40) - ((i * 40) + 24)) ((ah * 40) - ((i * 40) + 24))] (by kernel_rfl) (fun w => by kernel_rfl) (Calls.mono (kF (HM.get (i := 5) rfl) (by unfold maxLen; omega) big ((i * 40) + 24) ((ah * 40) - ((i * 40) + 24)) (by omega) (by omega) ((v.link : Nat) : Int) (by rw [Lu])) ?_)
 rintro _ w9 ⟨rfl, kM, hq⟩
 replace HM : Mm [fb, aV, aW, sd] W1 w9 [(z9, .cells #[bn v.name] 36 (0, 0)), lC z5, fP fb dat abi aH big aU aJ aG aV i ah pg aj, (aV, .cells cur 133 (0, 0)), (aW, .cells gK 36 (0, 0)), (sd, .cells (X.map Bv).toArray 5 (0, 0))] := by rw [hq]; exact HM.drewN _
 clear hq
 refine ⟨_, rfl, ?_⟩; clear HF; intro a HF; replace HF := HF.sub ((DC b o n c s fb big ak aj au ah sd i z5 aW v) ++ [(917, aI v.bP), (923, bn v.link)]) (by kernel_rfl)
 refine dH (HM.told [5] rfl) ?_
 replace HF := HF.sub ((fH b o n c s fb big ak aj au ah sd i z5 aW) ++ [(884, aB z5), (924, (aS big)), tX sd i ah, (930, (aS big)), pY sd i ah, (937, (aS big)), oq sd i ah, (890, bn v.ty), (896, bn v.flags), (903, aI v.addr), (910, aI v.off), (917, aI v.bP), (923, bn v.link)]) (by kernel_rfl)
 refine bW rfl ?_
 refine bf HF (by kernel_rfl) 87 #[(aS big), .slice (some ⟨sd, ((i * 40) + 28), none⟩) ((ah * 40) - ((i * 40) + 28)) ((ah * 40) - ((i * 40) + 28))] (by kernel_rfl) (fun w => by kernel_rfl) (Calls.mono (kF (HM.get (i := 5) rfl) (by unfold maxLen; omega) big ((i * 40) + 28) ((ah * 40) - ((i * 40) + 28)) (by omega) (by omega) ((v.info : Nat) : Int) (by rw [LC])) ?_)
 rintro _ w10 ⟨rfl, kM, hq⟩
 replace HM : Mm [fb, aV, aW, sd] W1 w10 [(z9, .cells #[bn v.name] 36 (0, 0)), lC z5, fP fb dat abi aH big aU aJ aG aV i ah pg aj, (aV, .cells cur 133 (0, 0)), (aW, .cells gK 36 (0, 0)), (sd, .cells (X.map Bv).toArray 5 (0, 0))] := by rw [hq]; exact HM.drewN _
 clear hq
 refine ⟨_, rfl, ?_⟩; clear HF; intro a HF; replace HF := HF.sub ((fH b o n c s fb big ak aj au ah sd i z5 aW) ++ [(884, aB z5), (924, (aS big)), tX sd i ah, (930, (aS big)), pY sd i ah, (937, (aS big)), oq sd i ah, (890, bn v.ty), (896, bn v.flags), (903, aI v.addr), (910, aI v.off), (917, aI v.bP), (923, bn v.link), (929, bn v.info)]) (by kernel_rfl)
 refine dH (HM.told [5] rfl) ?_
 replace HF := HF.sub ((fH b o n c s fb big ak aj au ah sd i z5 aW) ++ [(884, aB z5), (930, (aS big)), pY sd i ah, (937, (aS big)), oq sd i ah, (890, bn v.ty), (896, bn v.flags), (903, aI v.addr), (910, aI v.off), (917, aI v.bP), (923, bn v.link), (929, bn v.info)]) (by kernel_rfl)
 refine bW rfl ?_
 refine bf HF (by kernel_rfl) 87 #[(aS big), .slice (some ⟨sd, ((i * 40) + 32), none⟩) ((ah * 40) - ((i * 40) + 32)) ((ah * 40) - ((i * 40) + 32))] (by kernel_rfl) (fun w => by kernel_rfl) (Calls.mono (kF (HM.get (i := 5) rfl) (by unfold maxLen; omega) big ((i * 40) + 32) ((ah * 40) - ((i * 40) + 32)) (by omega) (by omega) ((v.align : Nat) : Int) (by rw [I5])) ?_)
 rintro _ qU ⟨rfl, kM, hq⟩
 replace HM : Mm [fb, aV, aW, sd] W1 qU [(z9, .cells #[bn v.name] 36 (0, 0)), lC z5, fP fb dat abi aH big aU aJ aG aV i ah pg aj, (aV, .cells cur 133 (0, 0)), (aW, .cells gK 36 (0, 0)), (sd, .cells (X.map Bv).toArray 5 (0, 0))] := by rw [hq]; exact HM.drewN _
 clear hq
 refine ⟨_, rfl, ?_⟩; clear HF; intro a HF; replace HF := HF.sub ((fH b o n c s fb big ak aj au ah sd i z5 aW) ++ [(884, aB z5), (930, (aS big)), pY sd i ah, (937, (aS big)), oq sd i ah, (890, bn v.ty), (896, bn v.flags), (903, aI v.addr), (910, aI v.off), (917, aI v.bP), (923, bn v.link), (929, bn v.info), (935, bn v.align)]) (by kernel_rfl)
 refine dH (HM.told [5] rfl) ?_
 replace HF := HF.sub ((Dz b o n c s fb big ak aj au ah sd i z5 aW v) ++ [(935, bn v.align)]) (by kernel_rfl)
 refine bI HF (HM.told [5] rfl) 1 [] ((Dz b o n c s fb big ak aj au ah sd i z5 aW v) ++ [(936, bH (IntKind.u64.wrap ((v.align : Nat) : Int)))]) (by kernel_rfl) ?_
 clear HF; intro a HF
 rw [show IntKind.u64.wrap ((v.align : Nat) : Int) = ((v.align : Nat) : Int) from IntWalk.u64_in _ (by omega)] at HF
 refine bW rfl ?_
 refine bf HF (by kernel_rfl) 87 #[(aS big), .slice (some ⟨sd, ((i * 40) + 36), none⟩) ((ah * 40) - ((i * 40) + 36)) ((ah * 40) - ((i * 40) + 36))] (by kernel_rfl) (fun w => by kernel_rfl) (Calls.mono (kF (HM.get (i := 5) rfl) (by unfold maxLen; omega) big ((i * 40) + 36) ((ah * 40) - ((i * 40) + 36)) (by omega) (by omega) ((v.ent : Nat) : Int) (by rw [OB])) ?_)
 rintro _ w12 ⟨rfl, kM, hq⟩
 replace HM : Mm [fb, aV, aW, sd] W1 w12 [(z9, .cells #[bn v.name] 36 (0, 0)), lC z5, fP fb dat abi aH big aU aJ aG aV i ah pg aj, (aV, .cells cur 133 (0, 0)), (aW, .cells gK 36 (0, 0)), (sd, .cells (X.map Bv).toArray 5 (0, 0))] := by rw [hq]; exact HM.drewN _
 clear hq
 refine ⟨_, rfl, ?_⟩; clear HF; intro a HF; replace HF := HF.sub ((Dz b o n c s fb big ak aj au ah sd i z5 aW v) ++ [(936, aI v.align), (942, bn v.ent)]) (by kernel_rfl)
 refine dH (HM.told [5] rfl) ?_
 replace HF := HF.sub ((Dy b o n c s fb big ak aj au ah sd i z5 aW v) ++ [(942, bn v.ent)]) (by kernel_rfl)
 refine bI HF (HM.told [5] rfl) 1 [] ((Dy b o n c s fb big ak aj au ah sd i z5 aW v) ++ [(943, bH (IntKind.u64.wrap ((v.ent : Nat) : Int)))]) (by kernel_rfl) ?_
 clear HF; intro a HF
 rw [show IntKind.u64.wrap ((v.ent : Nat) : Int) = ((v.ent : Nat) : Int) from IntWalk.u64_in _ (by omega)] at HF
 refine bI HF (HM.told [5] rfl) 3 [] ((Dy b o n c s fb big ak aj au ah sd i z5 aW v) ++ [(943, aI v.ent), Ib v, (946, aB z5)]) (by kernel_rfl) ?_
 clear HF; intro a HF
 replace HF := HF.sub ((fH b o n c s fb big ak aj au ah sd i z5 aW) ++ [Ib v, (946, aB z5)]) (by kernel_rfl)
 refine bW rfl ?_
 refine aT HF HM rfl 1 [[4, 4, 4, 4, 4, 4, 4, 4, 4, 4, 4]] (fH b o n c s fb big ak aj au ah sd i z5 aW) [(z9, .cells #[bn v.name] 36 (0, 0)), vJ z5 v, fP fb dat abi aH big aU aJ aG aV i ah pg aj, (aV, .cells cur 133 (0, 0)), (aW, .cells gK 36 (0, 0)), (sd, .cells (X.map Bv).toArray 5 (0, 0))] (by kernel_rfl) ?_
 clear HF HM; intro a w HF HM
 refine dH (HM.told [5] rfl) ?_
 refine iM ?_
 repeat (first | refine aK ?_ | refine aP ?_)
 refine wp_seq ?_
 refine wp_seq (wp_region_lit ?_)
 refine aT HF HM rfl 6 [[4]] ((fH b o n c s fb big ak aj au ah sd i z5 aW) ++ [(1022, aF (IntKind.i64.wrap ((v.off : Nat) : Int)))]) [(z9, .cells #[bn v.name] 36 (0, 0)), vJ z5 v, fP fb dat abi aH big aU aJ aG aV i ah pg aj, (aV, .cells cur 133 (0, 0)), (aW, .cells gK 36 (0, 0)), (sd, .cells (X.map Bv).toArray 5 (0, 0))] (by kernel_rfl) ?_
 clear HF HM; intro a w HF HM
 rw [show IntKind.i64.wrap ((v.off : Nat) : Int) = ((v.off : Nat) : Int) from IntWalk.i64_in _ (by omega)] at HF
 refine aT HF HM rfl 1 [] ((fH b o n c s fb big ak aj au ah sd i z5 aW) ++ [(1023, .bool (decide (((v.off : Nat) : Int) < 0)))]) [(z9, .cells #[bn v.name] 36 (0, 0)), vJ z5 v, fP fb dat abi aH big aU aJ aG aV i ah pg aj, (aV, .cells cur 133 (0, 0)), (aW, .cells gK 36 (0, 0)), (sd, .cells (X.map Bv).toArray 5 (0, 0))] (by kernel_rfl) ?_
 clear HF HM; intro a w HF HM
 rw [show decide (((v.off : Nat) : Int) < 0) = false from cZ (by omega)] at HF
 refine aA ?_
 refine aY HF rfl ?_
 refine wp_skip ?_
 repeat (first | refine aK ?_ | refine aP ?_)
 replace HF := HF.sub (fH b o n c s fb big ak aj au ah sd i z5 aW) (by kernel_rfl)
 refine wp_seq ?_
 refine wp_seq (wp_region_lit ?_)
 refine aT HF HM rfl 6 [[4]] ((fH b o n c s fb big ak aj au ah sd i z5 aW) ++ [(1043, aF (IntKind.i64.wrap ((v.bP : Nat) : Int)))]) [(z9, .cells #[bn v.name] 36 (0, 0)), vJ z5 v, fP fb dat abi aH big aU aJ aG aV i ah pg aj, (aV, .cells cur 133 (0, 0)), (aW, .cells gK 36 (0, 0)), (sd, .cells (X.map Bv).toArray 5 (0, 0))] (by kernel_rfl) ?_
 clear HF HM; intro a w HF HM
 rw [show IntKind.i64.wrap ((v.bP : Nat) : Int) = ((v.bP : Nat) : Int) from IntWalk.i64_in _ (by omega)] at HF
 refine aT HF HM rfl 1 [] ((fH b o n c s fb big ak aj au ah sd i z5 aW) ++ [(1044, .bool (decide (((v.bP : Nat) : Int) < 0)))]) [(z9, .cells #[bn v.name] 36 (0, 0)), vJ z5 v, fP fb dat abi aH big aU aJ aG aV i ah pg aj, (aV, .cells cur 133 (0, 0)), (aW, .cells gK 36 (0, 0)), (sd, .cells (X.map Bv).toArray 5 (0, 0))] (by kernel_rfl) ?_
 clear HF HM; intro a w HF HM
 rw [show decide (((v.bP : Nat) : Int) < 0) = false from cZ (by omega)] at HF
 refine aA ?_
 refine aY HF rfl ?_
 refine wp_skip ?_
 repeat (first | refine aK ?_ | refine aP ?_)
 replace HF := HF.sub (fH b o n c s fb big ak aj au ah sd i z5 aW) (by kernel_rfl)
 refine Bl HM (by kernel_rfl) (fun w => w.cell? ⟨z5, 4, none⟩ = some (aI v.off) ∧ w.cell? ⟨z5, 10, none⟩ = some (aI v.bP)) [(0, false), (1, false), (2, false), (3, false), (4, false), (5, false), (6, false), (7, false), (8, false), (9, false), (10, false), (11, false), (12, false), (13, false), (14, true), (15, false), (16, false), (17, true)] (by kernel_rfl) ?_
 clear HM; intro uI HM
 refine jX (LS := []) (fun _ _ => kX _) HF ⟨HM.cellAt (i := 1) (k := 4) rfl rfl, HM.cellAt (i := 1) (k := 10) rfl rfl⟩ 6 [] ((tV b o n c s fb big ak aj au ah sd i z5 aW) ++ [(1064, .pointer (some ⟨z5, 4, none⟩))]) (by kernel_rfl) ?_
 clear HF; intro a HF
 refine sV rfl HF ⟨HM.cellAt (i := 1) (k := 4) rfl rfl, HM.cellAt (i := 1) (k := 10) rfl rfl⟩ rfl (aI v.off) (by kernel_rfl) (fun w hw => dV rfl rfl (by kernel_rfl) hw.1) ?_
 clear HF; intro a HF; replace HF := HF.sub ((tV b o n c s fb big ak aj au ah sd i z5 aW) ++ [(1064, .pointer (some ⟨z5, 4, none⟩)), (1065, aI v.off)]) (by kernel_rfl)
 refine jX (LS := []) (fun _ _ => kX _) HF ⟨HM.cellAt (i := 1) (k := 4) rfl rfl, HM.cellAt (i := 1) (k := 10) rfl rfl⟩ 1 [] ((tV b o n c s fb big ak aj au ah sd i z5 aW) ++ [(1066, aF (IntKind.i64.wrap ((v.off : Nat) : Int)))]) (by kernel_rfl) ?_
 clear HF; intro a HF
 rw [show IntKind.i64.wrap ((v.off : Nat) : Int) = ((v.off : Nat) : Int) from IntWalk.i64_in _ (by omega)] at HF
 refine jX (LS := []) (fun _ _ => kX _) HF ⟨HM.cellAt (i := 1) (k := 4) rfl rfl, HM.cellAt (i := 1) (k := 10) rfl rfl⟩ 4 [] ((tV b o n c s fb big ak aj au ah sd i z5 aW) ++ [(1066, ay v.off), (1070, .pointer (some ⟨z5, 10, none⟩))]) (by kernel_rfl) ?_
 clear HF; intro a HF
 refine sV rfl HF ⟨HM.cellAt (i := 1) (k := 4) rfl rfl, HM.cellAt (i := 1) (k := 10) rfl rfl⟩ rfl (aI v.bP) (by kernel_rfl) (fun w hw => dV rfl rfl (by kernel_rfl) hw.2) ?_
 clear HF; intro a HF; replace HF := HF.sub ((tV b o n c s fb big ak aj au ah sd i z5 aW) ++ [(1066, ay v.off), (1070, .pointer (some ⟨z5, 10, none⟩)), (1071, aI v.bP)]) (by kernel_rfl)
 refine jX (LS := []) (fun _ _ => kX _) HF ⟨HM.cellAt (i := 1) (k := 4) rfl rfl, HM.cellAt (i := 1) (k := 10) rfl rfl⟩ 1 [] ((tV b o n c s fb big ak aj au ah sd i z5 aW) ++ [(1066, ay v.off), (1072, aF (IntKind.i64.wrap ((v.bP : Nat) : Int)))]) (by kernel_rfl) ?_
 clear HF; intro a HF
 rw [show IntKind.i64.wrap ((v.bP : Nat) : Int) = ((v.bP : Nat) : Int) from IntWalk.i64_in _ (by omega)] at HF
 refine qx rfl ?_
 refine bf HF (by kernel_rfl) 92 #[.iface 178 (.slice (some ⟨b, o, none⟩) n c), ay v.off, ay v.bP] (by kernel_rfl) (fun w => by kernel_rfl) (Calls.mono (rF 178 (.slice (some ⟨b, o, none⟩) n c) ((v.off : Nat) : Int) ((v.bP : Nat) : Int) (by omega) (by omega) (by omega) uI) ?_)
 rintro _ Ey ⟨sb, rfl, hb, hge, hgn⟩
 replace HM : Mm [fb, aV, aW, sd] W1 Ey [oW sb b o n c v, (z9, .cells #[bn v.name] 36 (0, 0)), vJ z5 v, fP fb dat abi aH big aU aJ aG aV i ah pg aj, (aV, .cells cur 133 (0, 0)), (aW, .cells gK 36 (0, 0)), (sd, .cells (X.map Bv).toArray 5 (0, 0))] := HM.push hb hge hgn
 clear hb hge hgn
 refine ⟨_, rfl, ?_⟩; clear HF; intro a HF; replace HF := HF.sub ((tV b o n c s fb big ak aj au ah sd i z5 aW) ++ [(1066, ay v.off), (1072, ay v.bP), (1073, aB sb)]) (by kernel_rfl)
 refine sW ⟨HM.cellAt (i := 2) (k := 4) rfl rfl, HM.cellAt (i := 2) (k := 10) rfl rfl⟩ ?_
 refine jX (LS := []) (fun _ _ => kX _) HF ⟨HM.cellAt (i := 2) (k := 4) rfl rfl, HM.cellAt (i := 2) (k := 10) rfl rfl⟩ 2 [] ((fH b o n c s fb big ak aj au ah sd i z5 aW) ++ [(1073, aB sb), (1075, .pointer (some ⟨z5, 12, none⟩))]) (by kernel_rfl) ?_
 clear HF; intro a HF
 refine qx rfl ?_
 refine aT HF HM rfl 1 [[4]] (fH b o n c s fb big ak aj au ah sd i z5 aW) [oW sb b o n c v, (z9, .cells #[bn v.name] 36 (0, 0)), Ic z5 v sb, fP fb dat abi aH big aU aJ aG aV i ah pg aj, (aV, .cells cur 133 (0, 0)), (aW, .cells gK 36 (0, 0)), (sd, .cells (X.map Bv).toArray 5 (0, 0))] (by kernel_rfl) ?_
 clear HF HM; intro a w HF HM
 refine sW ⟨HM.cellAt (i := 2) (k := 4) rfl rfl, HM.cellAt (i := 2) (k := 10) rfl rfl⟩ ?_
 refine Bo (aK ?_)
 refine wp_seq ?_
 refine wp_seq (wp_region_lit ?_)
 refine aT HF HM rfl 7 [[4]] [(0, .iface 178 (.slice (some ⟨b, o, none⟩) n c)), (4, aB s), (8, aB fb), (9, (aS big)), (10, ay ak), (11, aF 32), (12, ay aj), (13, ay au), (14, aF 40), (15, ay ah), (16, ay (ah - 1)), (26, aF 40), (42, aC sd (ah * 40) (ah * 40)), (43, ay i), (44, aI (i * 40)), (45, aB z5), (41, aC aW (i + 1) ah), (1082, .bool (qO ((v.flags : Nat) : Int) 2048 == 0))] [oW sb b o n c v, (z9, .cells #[bn v.name] 36 (0, 0)), Ic z5 v sb, fP fb dat abi aH big aU aJ aG aV i ah pg aj, (aV, .cells cur 133 (0, 0)), (aW, .cells gK 36 (0, 0)), (sd, .cells (X.map Bv).toArray 5 (0, 0))] (by kernel_rfl) ?_
 clear HF HM; intro a w HF HM
 rw [v9] at HF
 refine aA ?_
 refine bD HF rfl ?_
 replace HF := HF.sub (fH b o n c s fb big ak aj au ah sd i z5 aW) (by kernel_rfl)
 refine bG HF HM rfl [[4], [4]] (fH b o n c s fb big ak aj au ah sd i z5 aW) [oW sb b o n c v, (z9, .cells #[bn v.name] 36 (0, 0)), (z5, .cells #[.string ⟨#[]⟩, bn (v).ty, bn (v).flags, aI (v).addr, aI (v).off, bH 0, bn (v).link, bn (v).info, aI (v).align, aI (v).ent, aI (v).bP, .iface 144 (aB sb), aB sb, aF 0, aF 0] 153 (0, 0)), fP fb dat abi aH big aU aJ aG aV i ah pg aj, (aV, .cells cur 133 (0, 0)), (aW, .cells gK 36 (0, 0)), (sd, .cells (X.map Bv).toArray 5 (0, 0))] (by kernel_rfl) ?_
 clear HF HM; intro a w HF HM
 refine pK HF HM rfl [[4], [4]] (fH b o n c s fb big ak aj au ah sd i z5 aW) [oW sb b o n c v, (z9, .cells #[bn v.name] 36 (0, 0)), vI z5 v sb, fP fb dat abi aH big aU aJ aG aV i ah pg aj, (aV, .cells cur 133 (0, 0)), (aW, .cells gK 36 (0, 0)), (sd, .cells (X.map Bv).toArray 5 (0, 0))] (by kernel_rfl) ?_
 clear HF HM; intro a w HF HM
 repeat (first | refine aK ?_ | refine aP ?_)
 refine wp_region_lit ?_
 obtain ⟨z20, KO⟩ : ∃ z, w.heap.size = z := ⟨_, rfl⟩
 refine aT HF HM KO 7 [[3]] ((fH b o n c s fb big ak aj au ah sd i z5 aW) ++ [(1191, aB fb), (1195, aC aV i ah), (1197, aC z20 1 1)]) [(z20, .cells #[aB z5] 133 (0, 0)), oW sb b o n c v, (z9, .cells #[bn v.name] 36 (0, 0)), vI z5 v sb, fP fb dat abi aH big aU aJ aG aV i ah pg aj, (aV, .cells cur 133 (0, 0)), (aW, .cells gK 36 (0, 0)), (sd, .cells (X.map Bv).toArray 5 (0, 0))] (by kernel_rfl) ?_
 clear HF HM KO; intro a w HF HM
 refine sD HF HM rfl _ _ 126 rfl rfl 133 (.pointer none) 8 Tryd.underlying126 CV 5 0 aV _ i ah cur _ _ rfl hcs (by omega) (by unfold maxLen; omega) rfl rfl rfl rfl ?_
 intro a2 Bg cur' hcs' htk bT HF2; clear HF HM; have HM : Mm [fb, aV, aW, sd] W1 Bg [(z20, .cells #[aB z5] 133 (0, 0)), oW sb b o n c v, (z9, .cells #[bn v.name] 36 (0, 0)), vI z5 v sb, fP fb dat abi aH big aU aJ aG aV i ah pg aj, (aV, .cells cur' 133 (0, 0)), (aW, .cells gK 36 (0, 0)), (sd, .cells (X.map Bv).toArray 5 (0, 0))] := bT; have HF := HF2; clear bT HF2
 replace HF := HF.sub ((fH b o n c s fb big ak aj au ah sd i z5 aW) ++ [(1191, aB fb), (1198, aC aV (i + 1) ah)]) (by kernel_rfl)
 refine aT HF HM rfl 3 [[3]] (fH b o n c s fb big ak aj au ah sd i z5 aW) [(z20, .cells #[aB z5] 133 (0, 0)), oW sb b o n c v, (z9, .cells #[bn v.name] 36 (0, 0)), vI z5 v sb, BH fb dat abi aH big aU aJ aG aV i ah pg aj, (aV, .cells cur' 133 (0, 0)), (aW, .cells gK 36 (0, 0)), (sd, .cells (X.map Bv).toArray 5 (0, 0))] (by kernel_rfl) ?_
 clear HF HM; intro a w HF HM
 refine wpList_nil ?_
 repeat (first | refine aK ?_ | refine aP ?_)
 refine wp_region_lit ?_
 refine aT HF HM rfl 2 [] ((fH b o n c s fb big ak aj au ah sd i z5 aW) ++ [(861, aF (IntKind.i64.wrap (((i : Nat) : Int) + 1)))]) [(z20, .cells #[aB z5] 133 (0, 0)), oW sb b o n c v, (z9, .cells #[bn v.name] 36 (0, 0)), vI z5 v sb, BH fb dat abi aH big aU aJ aG aV i ah pg aj, (aV, .cells cur' 133 (0, 0)), (aW, .cells gK 36 (0, 0)), (sd, .cells (X.map Bv).toArray 5 (0, 0))] (by kernel_rfl) ?_
 clear HF HM; intro a w HF HM
 rw [show IntKind.i64.wrap (((i : Nat) : Int) + 1) = (((i + 1) : Nat) : Int) from (IntWalk.i64_in _ (by omega)).trans (by omega)] at HF
 refine aT HF HM rfl 1 [] ((BG b o n c s fb big ak aj au ah) ++ [(42, aC sd (ah * 40) (ah * 40)), (44, aI (i * 40)), (45, aB z5), (41, aC aW (i + 1) ah), (43, ay (i + 1))]) [(z20, .cells #[aB z5] 133 (0, 0)), oW sb b o n c v, (z9, .cells #[bn v.name] 36 (0, 0)), vI z5 v sb, BH fb dat abi aH big aU aJ aG aV i ah pg aj, (aV, .cells cur' 133 (0, 0)), (aW, .cells gK 36 (0, 0)), (sd, .cells (X.map Bv).toArray 5 (0, 0))] (by kernel_rfl) ?_
 clear HF HM; intro a w HF HM
 refine wpList_nil ?_
 repeat (first | refine aK ?_ | refine aP ?_)
 replace HF := HF.sub ((BG b o n c s fb big ak aj au ah) ++ [(41, aC aW (i + 1) ah), (42, aC sd (ah * 40) (ah * 40)), (43, ay (i + 1))]) (by kernel_rfl)
 exact K a w z5 sb cur' gK hcs' G8 htk htn HF (HM.sub (List.Sublist.cons _ (List.Sublist.cons_cons _ (List.Sublist.cons _ (List.Sublist.refl _)))))

abbrev fG := fun (fb : Nat) (dat : Int) (abi : Nat) (aH : Nat) (big : Bool) (aU : Nat) (aJ : Nat) (aG : Nat) (aV : Nat) (i : Nat) (ah : Nat) (pg : Nat) (aj : Nat) => ((fb, .cells #[aQ 2, .int .u8 dat, aQ 1, aX abi, aX aH, (aS big), bF aU, bF aJ, aI aG, aC aV i ah, aC pg aj aj, aN, aN, aN] 131 (0, 0)) : Nat × Obj)
abbrev lQ := fun (b : Nat) (o : Nat) (n : Nat) (c : Nat) (s : Nat) (fb : Nat) (big : Bool) (ak : Nat) (aj : Nat) (au : Nat) (ah : Nat) (aW : Nat) (i : Nat) (sd : Nat) => ([(0, .iface 178 (.slice (some ⟨b, o, none⟩) n c)), (4, aB s), (8, aB fb), (9, (aS big)), (10, ay ak), (11, aF 56), (12, ay aj), (13, ay au), (14, aF 64), (15, ay ah), (16, ay (ah - 1)), (26, aF 64), (41, aC aW i ah), (42, aC sd (ah * 64) (ah * 64)), (43, ay i)] : Slots)
abbrev BD := fun (fb : Nat) (dat : Int) (abi : Nat) (aH : Nat) (big : Bool) (aU : Nat) (aJ : Nat) (aG : Nat) (aV : Nat) (i : Nat) (ah : Nat) (pg : Nat) (aj : Nat) => ((fb, .cells #[aQ 2, .int .u8 dat, aQ 1, aX abi, aX aH, (aS big), bF aU, bF aJ, aI aG, aC aV (i + 1) ah, aC pg aj aj, aN, aN, aN] 131 (0, 0)) : Nat × Obj)
abbrev oV := fun sb (b : Nat) (o : Nat) (n : Nat) (c : Nat) (v : jy) => ((sb, .cells #[.iface 178 (.slice (some ⟨b, o, none⟩) n c), ay v.off, ay v.off, aF (((v.bP : Nat) : Int) + ((v.off : Nat) : Int)), ay v.bP] 246 (0, 0)) : Nat × Obj)
abbrev BA := fun (b : Nat) (o : Nat) (n : Nat) (c : Nat) (s : Nat) (fb : Nat) (big : Bool) (ak : Nat) (aj : Nat) (au : Nat) (ah : Nat) => ([(0, .iface 178 (.slice (some ⟨b, o, none⟩) n c)), (4, aB s), (8, aB fb), (9, (aS big)), (10, ay ak), (11, aF 56), (12, ay aj), (13, ay au), (14, aF 64), (15, ay ah), (16, ay (ah - 1)), (26, aF 64)] : Slots)
abbrev kV := fun z5 => ((z5, .cells #[.string ⟨#[]⟩, iR 0, iR 0, bH 0, bH 0, bH 0, iR 0, iR 0, bH 0, bH 0, bH 0, .nilIface, .pointer none, aF 0, aF 0] 153 (0, 0)) : Nat × Obj)
abbrev eu := fun (b : Nat) (o : Nat) (n : Nat) (c : Nat) (s : Nat) (fb : Nat) (big : Bool) (ak : Nat) (aj : Nat) (au : Nat) (ah : Nat) (sd : Nat) (i : Nat) z5 (aW : Nat) => ((BA b o n c s fb big ak aj au ah) ++ [(42, aC sd (ah * 64) (ah * 64)), (43, ay i), (44, aI (i * 64)), (45, aB z5), (41, aC aW (i + 1) ah)] : Slots)
abbrev Pj := fun (sd : Nat) (i : Nat) (ah : Nat) => ((963, .slice (some ⟨sd, ((i * 64) + 4), none⟩) ((ah * 64) - ((i * 64) + 4)) ((ah * 64) - ((i * 64) + 4))) : Nat × Value)
abbrev Bz := fun (b : Nat) (o : Nat) (n : Nat) (c : Nat) (s : Nat) (fb : Nat) (big : Bool) (ak : Nat) (aj : Nat) (au : Nat) (ah : Nat) (sd : Nat) (i : Nat) z5 (aW : Nat) => ((eu b o n c s fb big ak aj au ah sd i z5 aW) ++ [(958, aB z5), (959, (aS big)), (963, .slice (some ⟨sd, ((i * 64) + 4), none⟩) ((ah * 64) - ((i * 64) + 4)) ((ah * 64) - ((i * 64) + 4)))] : Slots)
abbrev EN := fun (sd : Nat) (i : Nat) (ah : Nat) => ((969, .slice (some ⟨sd, ((i * 64) + 8), none⟩) ((ah * 64) - ((i * 64) + 8)) ((ah * 64) - ((i * 64) + 8))) : Nat × Value)
abbrev zI := fun (b : Nat) (o : Nat) (n : Nat) (c : Nat) (s : Nat) (fb : Nat) (big : Bool) (ak : Nat) (aj : Nat) (au : Nat) (ah : Nat) (sd : Nat) (i : Nat) z5 (aW : Nat) => ((Bz b o n c s fb big ak aj au ah sd i z5 aW) ++ [(965, (aS big)), (969, .slice (some ⟨sd, ((i * 64) + 8), none⟩) ((ah * 64) - ((i * 64) + 8)) ((ah * 64) - ((i * 64) + 8)))] : Slots)
abbrev Dx := fun (sd : Nat) (i : Nat) (ah : Nat) => ((976, .slice (some ⟨sd, ((i * 64) + 24), none⟩) ((ah * 64) - ((i * 64) + 24)) ((ah * 64) - ((i * 64) + 24))) : Nat × Value)
abbrev zH := fun (b : Nat) (o : Nat) (n : Nat) (c : Nat) (s : Nat) (fb : Nat) (big : Bool) (ak : Nat) (aj : Nat) (au : Nat) (ah : Nat) (sd : Nat) (i : Nat) z5 (aW : Nat) => ((zI b o n c s fb big ak aj au ah sd i z5 aW) ++ [(972, (aS big)), (976, .slice (some ⟨sd, ((i * 64) + 24), none⟩) ((ah * 64) - ((i * 64) + 24)) ((ah * 64) - ((i * 64) + 24)))] : Slots)
abbrev xC := fun (sd : Nat) (i : Nat) (ah : Nat) => ((982, .slice (some ⟨sd, ((i * 64) + 32), none⟩) ((ah * 64) - ((i * 64) + 32)) ((ah * 64) - ((i * 64) + 32))) : Nat × Value)
abbrev zG := fun (b : Nat) (o : Nat) (n : Nat) (c : Nat) (s : Nat) (fb : Nat) (big : Bool) (ak : Nat) (aj : Nat) (au : Nat) (ah : Nat) (sd : Nat) (i : Nat) z5 (aW : Nat) => ((zH b o n c s fb big ak aj au ah sd i z5 aW) ++ [(978, (aS big)), (982, .slice (some ⟨sd, ((i * 64) + 32), none⟩) ((ah * 64) - ((i * 64) + 32)) ((ah * 64) - ((i * 64) + 32)))] : Slots)
abbrev tN := fun (sd : Nat) (i : Nat) (ah : Nat) => ((988, .slice (some ⟨sd, ((i * 64) + 16), none⟩) ((ah * 64) - ((i * 64) + 16)) ((ah * 64) - ((i * 64) + 16))) : Nat × Value)
abbrev zF := fun (b : Nat) (o : Nat) (n : Nat) (c : Nat) (s : Nat) (fb : Nat) (big : Bool) (ak : Nat) (aj : Nat) (au : Nat) (ah : Nat) (sd : Nat) (i : Nat) z5 (aW : Nat) => ((zG b o n c s fb big ak aj au ah sd i z5 aW) ++ [(984, (aS big)), (988, .slice (some ⟨sd, ((i * 64) + 16), none⟩) ((ah * 64) - ((i * 64) + 16)) ((ah * 64) - ((i * 64) + 16)))] : Slots)
abbrev pX := fun (sd : Nat) (i : Nat) (ah : Nat) => ((994, .slice (some ⟨sd, ((i * 64) + 40), none⟩) ((ah * 64) - ((i * 64) + 40)) ((ah * 64) - ((i * 64) + 40))) : Nat × Value)
abbrev zD := fun (b : Nat) (o : Nat) (n : Nat) (c : Nat) (s : Nat) (fb : Nat) (big : Bool) (ak : Nat) (aj : Nat) (au : Nat) (ah : Nat) (sd : Nat) (i : Nat) z5 (aW : Nat) => ((zF b o n c s fb big ak aj au ah sd i z5 aW) ++ [(990, (aS big)), (994, .slice (some ⟨sd, ((i * 64) + 40), none⟩) ((ah * 64) - ((i * 64) + 40)) ((ah * 64) - ((i * 64) + 40)))] : Slots)
abbrev oh := fun (sd : Nat) (i : Nat) (ah : Nat) => ((1000, .slice (some ⟨sd, ((i * 64) + 44), none⟩) ((ah * 64) - ((i * 64) + 44)) ((ah * 64) - ((i * 64) + 44))) : Nat × Value)
abbrev zC := fun (b : Nat) (o : Nat) (n : Nat) (c : Nat) (s : Nat) (fb : Nat) (big : Bool) (ak : Nat) (aj : Nat) (au : Nat) (ah : Nat) (sd : Nat) (i : Nat) z5 (aW : Nat) => ((zD b o n c s fb big ak aj au ah sd i z5 aW) ++ [(996, (aS big)), (1000, .slice (some ⟨sd, ((i * 64) + 44), none⟩) ((ah * 64) - ((i * 64) + 44)) ((ah * 64) - ((i * 64) + 44)))] : Slots)
abbrev ny := fun (sd : Nat) (i : Nat) (ah : Nat) => ((1006, .slice (some ⟨sd, ((i * 64) + 48), none⟩) ((ah * 64) - ((i * 64) + 48)) ((ah * 64) - ((i * 64) + 48))) : Nat × Value)
abbrev xB := fun (b : Nat) (o : Nat) (n : Nat) (c : Nat) (s : Nat) (fb : Nat) (big : Bool) (ak : Nat) (aj : Nat) (au : Nat) (ah : Nat) (sd : Nat) (i : Nat) z5 (aW : Nat) => ((zC b o n c s fb big ak aj au ah sd i z5 aW) ++ [(1002, (aS big)), (1006, .slice (some ⟨sd, ((i * 64) + 48), none⟩) ((ah * 64) - ((i * 64) + 48)) ((ah * 64) - ((i * 64) + 48)))] : Slots)
abbrev kG := fun (sd : Nat) (i : Nat) (ah : Nat) => ((1012, .slice (some ⟨sd, ((i * 64) + 56), none⟩) ((ah * 64) - ((i * 64) + 56)) ((ah * 64) - ((i * 64) + 56))) : Nat × Value)
abbrev Dw := fun (b : Nat) (o : Nat) (n : Nat) (c : Nat) (s : Nat) (fb : Nat) (big : Bool) (ak : Nat) (aj : Nat) (au : Nat) (ah : Nat) (sd : Nat) (i : Nat) z5 (aW : Nat) (v : jy) => ((eu b o n c s fb big ak aj au ah sd i z5 aW) ++ [(958, aB z5), (972, (aS big)), (976, .slice (some ⟨sd, ((i * 64) + 24), none⟩) ((ah * 64) - ((i * 64) + 24)) ((ah * 64) - ((i * 64) + 24))), (978, (aS big)), (982, .slice (some ⟨sd, ((i * 64) + 32), none⟩) ((ah * 64) - ((i * 64) + 32)) ((ah * 64) - ((i * 64) + 32))), (984, (aS big)), (988, .slice (some ⟨sd, ((i * 64) + 16), none⟩) ((ah * 64) - ((i * 64) + 16)) ((ah * 64) - ((i * 64) + 16))), (990, (aS big)), (994, .slice (some ⟨sd, ((i * 64) + 40), none⟩) ((ah * 64) - ((i * 64) + 40)) ((ah * 64) - ((i * 64) + 40))), (996, (aS big)), (1000, .slice (some ⟨sd, ((i * 64) + 44), none⟩) ((ah * 64) - ((i * 64) + 44)) ((ah * 64) - ((i * 64) + 44))), (1002, (aS big)), (1006, .slice (some ⟨sd, ((i * 64) + 48), none⟩) ((ah * 64) - ((i * 64) + 48)) ((ah * 64) - ((i * 64) + 48))), (1008, (aS big)), (1012, .slice (some ⟨sd, ((i * 64) + 56), none⟩) ((ah * 64) - ((i * 64) + 56)) ((ah * 64) - ((i * 64) + 56))), (964, bn v.ty)] : Slots)
abbrev H_ := fun (v : jy) => ((1014, .agg #[.string ⟨#[]⟩, bn (v).ty, bn (v).flags, aI (v).addr, aI (v).off, bH 0, bn (v).link, bn (v).info, aI (v).align, aI (v).ent, aI (v).bP]) : Nat × Value)
abbrev vH := fun z5 (v : jy) => ((z5, .cells #[.string ⟨#[]⟩, bn (v).ty, bn (v).flags, aI (v).addr, aI (v).off, bH 0, bn (v).link, bn (v).info, aI (v).align, aI (v).ent, aI (v).bP, .nilIface, .pointer none, aF 0, aF 0] 153 (0, 0)) : Nat × Obj)
abbrev tK := fun (b : Nat) (o : Nat) (n : Nat) (c : Nat) (s : Nat) (fb : Nat) (big : Bool) (ak : Nat) (aj : Nat) (au : Nat) (ah : Nat) (sd : Nat) (i : Nat) z5 (aW : Nat) => ((eu b o n c s fb big ak aj au ah sd i z5 aW) ++ [(1059, aB z5), (1060, .iface 178 (.slice (some ⟨b, o, none⟩) n c))] : Slots)
abbrev Ia := fun z5 (v : jy) sb => ((z5, .cells #[.string ⟨#[]⟩, bn (v).ty, bn (v).flags, aI (v).addr, aI (v).off, bH 0, bn (v).link, bn (v).info, aI (v).align, aI (v).ent, aI (v).bP, .nilIface, aB sb, aF 0, aF 0] 153 (0, 0)) : Nat × Obj)
abbrev vG := fun z5 (v : jy) sb => ((z5, .cells #[.string ⟨#[]⟩, bn (v).ty, bn (v).flags, aI (v).addr, aI (v).off, aI (v).bP, bn (v).link, bn (v).info, aI (v).align, aI (v).ent, aI (v).bP, .iface 144 (aB sb), aB sb, aF 0, aF 0] 153 (0, 0)) : Nat × Obj)
theorem SE (l : List UInt8) (b o n c : Nat) (hl : n = l.length) (hnc : n ≤ c) (big : Bool) (abi aH aU aJ aG ak aj au ah : Nat) (dat : Int) (b1 : aU < 65536) (b2 : aJ < 65536) (b3 : aG ≤ 18446744073709551615) (b4 : ak < 4611686018427387904) (b5 : au < 4611686018427387904) (b6 : aj < 200) (b7 : ah < 200) (X : List UInt8) (pV : X.length = (ah * 64)) (i : Nat) (hi : i < ah) (v : jy) (hv : yB (X.drop (i * 64)) true big v.name v.ty v.flags v.addr v.off v.bP v.link v.info v.align v.ent) (v1 : v.name < 4294967296) (v2 : v.ty < 4294967296) (v3 : v.flags < 4294967296) (v4 : v.off < 4611686018427387904) (v5 : v.bP < 4611686018427387904) (v6 : v.addr ≤ 18446744073709551615) (v7 : v.align ≤ 18446744073709551615) (v8 : v.ent ≤ 18446744073709551615) (v9 : (qO (v.flags : Int) 2048 == 0) = true)
  {K0 : Act → World → Prop} {Q : Exit → Act → World → Prop} (a : Act) (W1 : World) (s fb pg aV aW sd : Nat) (cur nms : Array Value) (hcs : cur.size = ah) (hns : nms.size = ah) (LW : Mm [fb, aV, aW, sd] W1 W1 [fG fb dat abi aH big aU aJ aG aV i ah pg aj, (aV, .cells cur 133 (0, 0)), (aW, .cells nms 36 (0, 0)), (sd, .cells (X.map Bv).toArray 5 (0, 0))]) (HF : Fr 1287 a (lQ b o n c s fb big ak aj au ah aW i sd))
  (K : ∀ a w' pb sb cur' gK, cur'.size = ah → gK.size = ah → cur'.toList.take (i + 1) = cur.toList.take i ++ [aB pb] → gK.toList.take (i + 1) = nms.toList.take i ++ [bn v.name] → Fr 1287 a ((BA b o n c s fb big ak aj au ah) ++ [(41, aC aW (i + 1) ah), (42, aC sd (ah * 64) (ah * 64)), (43, ay (i + 1))]) → Mm [fb, aV, aW, sd] W1 w' [oV sb b o n c v, (pb, .cells #[.string ⟨#[]⟩, bn (v).ty, bn (v).flags, aI (v).addr, aI (v).off, aI (v).bP, bn (v).link, bn (v).info, aI (v).align, aI (v).ent, aI (v).bP, .iface 144 (aB sb), aB sb, aF 0, aF 0] 153 (0, 0)), BD fb dat abi aH big aU aJ aG aV i ah pg aj, (aV, .cells cur' 133 (0, 0)), (aW, .cells gK 36 (0, 0)), (sd, .cells (X.map Bv).toArray 5 (0, 0))] → K0 a w') : (pR (spine Tryd.f78 44)).wp Tryd.prog (Exit.then K0 Q) a W1 := by
 obtain ⟨i0, hi0, hs0⟩ := yD
 have en : num big X ((i * 64) + 0) 4 = v.name := (gI big X (i * 64) 0 4).symm.trans hv.name
 have QI : num big X ((i * 64) + 4) 4 = v.ty := (gI big X (i * 64) 4 4).symm.trans hv.ty
 have I4 : num big X ((i * 64) + 8) 8 = v.flags := (gI big X (i * 64) 8 8).symm.trans hv.flags
 have Oz : num big X ((i * 64) + 24) 8 = v.off := (gI big X (i * 64) 24 8).symm.trans hv.off
 have OA : num big X ((i * 64) + 32) 8 = v.bP := (gI big X (i * 64) 32 8).symm.trans hv.size
 have LD : num big X ((i * 64) + 16) 8 = v.addr := (gI big X (i * 64) 16 8).symm.trans hv.addr
 have Lu : num big X ((i * 64) + 40) 4 = v.link := (gI big X (i * 64) 40 4).symm.trans hv.link
 have LC : num big X ((i * 64) + 44) 4 = v.info := (gI big X (i * 64) 44 4).symm.trans hv.info
 have I5 : num big X ((i * 64) + 48) 8 = v.align := (gI big X (i * 64) 48 8).symm.trans hv.align
 have OB : num big X ((i * 64) + 56) 8 = v.ent := (gI big X (i * 64) 56 8).symm.trans hv.ent
 obtain ⟨w, hw⟩ : ∃ w, W1 = w := ⟨_, rfl⟩
 have HM : Mm [fb, aV, aW, sd] W1 w [fG fb dat abi aH big aU aJ aG aV i ah pg aj, (aV, .cells cur 133 (0, 0)), (aW, .cells nms 36 (0, 0)), (sd, .cells (X.map Bv).toArray 5 (0, 0))] := hw ▸ LW
 conv => arg 5; rw [hw]
 clear hw LW
 refine wp_seq ?_
 refine wp_seq (wp_region_lit ?_)
 refine aT HF HM rfl 3 [] ((lQ b o n c s fb big ak aj au ah aW i sd) ++ [(859, .bool (decide (((i : Nat) : Int) < ((ah : Nat) : Int))))]) [fG fb dat abi aH big aU aJ aG aV i ah pg aj, (aV, .cells cur 133 (0, 0)), (aW, .cells nms 36 (0, 0)), (sd, .cells (X.map Bv).toArray 5 (0, 0))] (by kernel_rfl) ?_
 clear HF HM; intro a w HF HM
 rw [show decide (((i : Nat) : Int) < ((ah : Nat) : Int)) = true from dK (by omega)] at HF
 refine aA ?_
 refine bD HF rfl ?_
 refine wp_skip ?_
 repeat (first | refine aK ?_ | refine aP ?_)
 replace HF := HF.sub (lQ b o n c s fb big ak aj au ah aW i sd) (by kernel_rfl)
 refine wp_seq (wp_block ?_)
 refine wp_seq (wp_region_lit ?_)
 refine aT HF HM rfl 2 [] ((lQ b o n c s fb big ak aj au ah aW i sd) ++ [(863, bH (IntKind.u64.wrap ((i : Nat) : Int)))]) [fG fb dat abi aH big aU aJ aG aV i ah pg aj, (aV, .cells cur 133 (0, 0)), (aW, .cells nms 36 (0, 0)), (sd, .cells (X.map Bv).toArray 5 (0, 0))] (by kernel_rfl) ?_
 clear HF HM; intro a w HF HM
 rw [show IntKind.u64.wrap ((i : Nat) : Int) = ((i : Nat) : Int) from IntWalk.u64_in _ (by omega)] at HF
 refine aT HF HM rfl 3 [] ((lQ b o n c s fb big ak aj au ah aW i sd) ++ [(866, bH (IntKind.u64.wrap (((i : Nat) : Int) * 64)))]) [fG fb dat abi aH big aU aJ aG aV i ah pg aj, (aV, .cells cur 133 (0, 0)), (aW, .cells nms 36 (0, 0)), (sd, .cells (X.map Bv).toArray 5 (0, 0))] (by kernel_rfl) ?_
 clear HF HM; intro a w HF HM
 rw [show IntKind.u64.wrap (((i : Nat) : Int) * 64) = (((i * 64) : Nat) : Int) from (IntWalk.u64_in _ (by omega)).trans (by omega)] at HF
 refine aT HF HM rfl 1 [] ((lQ b o n c s fb big ak aj au ah aW i sd) ++ [(44, aI (i * 64))]) [fG fb dat abi aH big aU aJ aG aV i ah pg aj, (aV, .cells cur 133 (0, 0)), (aW, .cells nms 36 (0, 0)), (sd, .cells (X.map Bv).toArray 5 (0, 0))] (by kernel_rfl) ?_
 clear HF HM; intro a w HF HM
 refine aA ?_
 obtain ⟨z5, uG⟩ : ∃ z, w.heap.size = z := ⟨_, rfl⟩
 refine bG HF HM uG [] ((lQ b o n c s fb big ak aj au ah aW i sd) ++ [(44, aI (i * 64)), (45, aB z5)]) [kV z5, fG fb dat abi aH big aU aJ aG aV i ah pg aj, (aV, .cells cur 133 (0, 0)), (aW, .cells nms 36 (0, 0)), (sd, .cells (X.map Bv).toArray 5 (0, 0))] (by kernel_rfl) ?_
 clear HF HM uG; intro a w HF HM
 refine wp_seq ?_
 refine bG HF HM rfl [[3]] ((lQ b o n c s fb big ak aj au ah aW i sd) ++ [(44, aI (i * 64)), (45, aB z5), (872, aQ 2)]) [kV z5, fG fb dat abi aH big aU aJ aG aV i ah pg aj, (aV, .cells cur 133 (0, 0)), (aW, .cells nms 36 (0, 0)), (sd, .cells (X.map Bv).toArray 5 (0, 0))] (by kernel_rfl) ?_
 clear HF HM; intro a w HF HM
 refine wp_block ?_
 refine bG HF HM rfl [] ((lQ b o n c s fb big ak aj au ah aW i sd) ++ [(44, aI (i * 64)), (45, aB z5), (872, aQ 2), (873, .bool false)]) [kV z5, fG fb dat abi aH big aU aJ aG aV i ah pg aj, (aV, .cells cur 133 (0, 0)), (aW, .cells nms 36 (0, 0)), (sd, .cells (X.map Bv).toArray 5 (0, 0))] (by kernel_rfl) ?_
 clear HF HM; intro a w HF HM
 refine aY HF rfl ?_
 refine bG HF HM rfl [] ((lQ b o n c s fb big ak aj au ah aW i sd) ++ [(44, aI (i * 64)), (45, aB z5), (872, aQ 2), (947, .bool true)]) [kV z5, fG fb dat abi aH big aU aJ aG aV i ah pg aj, (aV, .cells cur 133 (0, 0)), (aW, .cells nms 36 (0, 0)), (sd, .cells (X.map Bv).toArray 5 (0, 0))] (by kernel_rfl) ?_
 clear HF HM; intro a w HF HM
 refine bD HF rfl ?_
 replace HF := HF.sub ((lQ b o n c s fb big ak aj au ah aW i sd) ++ [(44, aI (i * 64)), (45, aB z5)]) (by kernel_rfl)
 refine wp_seq (wp_region_lit ?_)
 refine aT HF HM rfl 5 [] ((lQ b o n c s fb big ak aj au ah aW i sd) ++ [(44, aI (i * 64)), (45, aB z5), (949, aC aW i ah), (950, (aS big)), (951, aC sd (ah * 64) (ah * 64)), (953, bH (IntKind.u64.wrap ((((i * 64) : Nat) : Int) + 0)))]) [kV z5, fG fb dat abi aH big aU aJ aG aV i ah pg aj, (aV, .cells cur 133 (0, 0)), (aW, .cells nms 36 (0, 0)), (sd, .cells (X.map Bv).toArray 5 (0, 0))] (by kernel_rfl) ?_
 clear HF HM; intro a w HF HM
 rw [show IntKind.u64.wrap ((((i * 64) : Nat) : Int) + 0) = ((((i * 64) + 0) : Nat) : Int) from (IntWalk.u64_in _ (by omega)).trans (by omega)] at HF
 refine dG HF (by kernel_rfl) (.slice (some ⟨sd, ((i * 64) + 0), none⟩) ((ah * 64) - ((i * 64) + 0)) ((ah * 64) - ((i * 64) + 0))) (by kernel_rfl) (fF (t := 33) Tryd.underlying33 hi0 hs0 rfl ((i * 64) + 0) (kk := .u64) rfl rfl (by omega) (by omega) (by omega) _) ?_
 clear HF; intro a HF; replace HF := HF.sub ((lQ b o n c s fb big ak aj au ah aW i sd) ++ [(44, aI (i * 64)), (45, aB z5), (949, aC aW i ah), (950, (aS big)), (951, aC sd (ah * 64) (ah * 64)), (953, aI ((i * 64) + 0)), (954, .slice (some ⟨sd, ((i * 64) + 0), none⟩) ((ah * 64) - ((i * 64) + 0)) ((ah * 64) - ((i * 64) + 0)))]) (by kernel_rfl)
 refine bf HF (by kernel_rfl) 87 #[(aS big), .slice (some ⟨sd, ((i * 64) + 0), none⟩) ((ah * 64) - ((i * 64) + 0)) ((ah * 64) - ((i * 64) + 0))] (by kernel_rfl) (fun w => by kernel_rfl) (Calls.mono (kF (HM.get (i := 4) rfl) (by unfold maxLen; omega) big ((i * 64) + 0) ((ah * 64) - ((i * 64) + 0)) (by omega) (by omega) ((v.name : Nat) : Int) (by rw [en])) ?_)
 rintro _ w1 ⟨rfl, kM, hq⟩
 replace HM : Mm [fb, aV, aW, sd] W1 w1 [kV z5, fG fb dat abi aH big aU aJ aG aV i ah pg aj, (aV, .cells cur 133 (0, 0)), (aW, .cells nms 36 (0, 0)), (sd, .cells (X.map Bv).toArray 5 (0, 0))] := by rw [hq]; exact HM.drewN _
 clear hq
 refine ⟨_, rfl, ?_⟩; clear HF; intro a HF; replace HF := HF.sub ((lQ b o n c s fb big ak aj au ah aW i sd) ++ [(44, aI (i * 64)), (45, aB z5), (949, aC aW i ah), (950, (aS big)), (951, aC sd (ah * 64) (ah * 64)), (953, aI ((i * 64) + 0)), (954, .slice (some ⟨sd, ((i * 64) + 0), none⟩) ((ah * 64) - ((i * 64) + 0)) ((ah * 64) - ((i * 64) + 0))), (955, bn v.name)]) (by kernel_rfl)
 obtain ⟨z10, E5⟩ : ∃ z, w1.heap.size = z := ⟨_, rfl⟩
 refine aT HF HM E5 1 [] ((lQ b o n c s fb big ak aj au ah aW i sd) ++ [(44, aI (i * 64)), (45, aB z5), (949, aC aW i ah), (956, aC z10 1 1)]) [(z10, .cells #[bn v.name] 36 (0, 0)), kV z5, fG fb dat abi aH big aU aJ aG aV i ah pg aj, (aV, .cells cur 133 (0, 0)), (aW, .cells nms 36 (0, 0)), (sd, .cells (X.map Bv).toArray 5 (0, 0))] (by kernel_rfl) ?_
 clear HF HM E5; intro a w HF HM
 refine sD HF HM rfl _ _ 222 rfl rfl 36 (iR 0) 4 Tryd.underlying222 AO 4 0 aW _ i ah nms _ _ rfl hns (by omega) (by unfold maxLen; omega) rfl rfl rfl rfl ?_
 intro a2 w2 gK G8 htn bT HF2; clear HF HM; have HM : Mm [fb, aV, aW, sd] W1 w2 [(z10, .cells #[bn v.name] 36 (0, 0)), kV z5, fG fb dat abi aH big aU aJ aG aV i ah pg aj, (aV, .cells cur 133 (0, 0)), (aW, .cells gK 36 (0, 0)), (sd, .cells (X.map Bv).toArray 5 (0, 0))] := bT; have HF := HF2; clear bT HF2
 replace HF := HF.sub ((lQ b o n c s fb big ak aj au ah aW i sd) ++ [(44, aI (i * 64)), (45, aB z5), (957, aC aW (i + 1) ah)]) (by kernel_rfl)
 refine aT HF HM rfl 1 [] (eu b o n c s fb big ak aj au ah sd i z5 aW) [(z10, .cells #[bn v.name] 36 (0, 0)), kV z5, fG fb dat abi aH big aU aJ aG aV i ah pg aj, (aV, .cells cur 133 (0, 0)), (aW, .cells gK 36 (0, 0)), (sd, .cells (X.map Bv).toArray 5 (0, 0))] (by kernel_rfl) ?_
 clear HF HM; intro a w HF HM
 refine aA ?_
 refine wQ HM (by kernel_rfl) [(sd, .cells (X.map Bv).toArray 5 (0, 0))] [(0, false), (1, false), (2, false), (3, false), (4, false), (5, false), (7, false), (8, false), (9, false), (10, false), (11, false), (14, false), (15, false), (16, false), (17, false), (18, false), (20, false), (21, false), (22, false), (23, false), (24, false), (26, false), (27, false), (28, false), (29, false), (30, false), (32, false), (33, false), (34, false), (35, false), (36, false), (38, false), (39, false), (40, false), (41, false), (42, false), (44, false), (45, false), (46, false), (47, false), (48, false), (50, false), (51, false), (52, false), (53, false), (54, false), (6, true), (12, true), (13, false), (19, true), (25, true), (31, true), (37, true), (43, true), (49, true), (55, true), (56, false), (57, false), (58, false), (59, true)] (by kernel_rfl) ?_
 clear HM; intro w3 HM
 refine bI HF (HM.told [5] rfl) 1 [] ((eu b o n c s fb big ak aj au ah sd i z5 aW) ++ [(958, aB z5)]) (by kernel_rfl) ?_
 clear HF; intro a HF
 refine bI HF (HM.told [5] rfl) 4 [] ((eu b o n c s fb big ak aj au ah sd i z5 aW) ++ [(958, aB z5), (959, (aS big)), (960, aC sd (ah * 64) (ah * 64)), (962, bH (IntKind.u64.wrap ((((i * 64) : Nat) : Int) + 4)))]) (by kernel_rfl) ?_
 clear HF; intro a HF
 rw [show IntKind.u64.wrap ((((i * 64) : Nat) : Int) + 4) = ((((i * 64) + 4) : Nat) : Int) from (IntWalk.u64_in _ (by omega)).trans (by omega)] at HF
 refine dL rfl HF (HM.told [5] rfl) rfl (.slice (some ⟨sd, ((i * 64) + 4), none⟩) ((ah * 64) - ((i * 64) + 4)) ((ah * 64) - ((i * 64) + 4))) (by kernel_rfl) (fun w hw => fF (t := 33) Tryd.underlying33 hi0 hs0 rfl ((i * 64) + 4) (kk := .u64) rfl rfl (by omega) (by omega) (by omega) w) ?_
 clear HF; intro a HF; replace HF := HF.sub ((eu b o n c s fb big ak aj au ah sd i z5 aW) ++ [(958, aB z5), (959, (aS big)), (960, aC sd (ah * 64) (ah * 64)), (962, aI ((i * 64) + 4)), Pj sd i ah]) (by kernel_rfl)
 replace HF := HF.sub (Bz b o n c s fb big ak aj au ah sd i z5 aW) (by kernel_rfl)
 refine bI HF (HM.told [5] rfl) 4 [] ((Bz b o n c s fb big ak aj au ah sd i z5 aW) ++ [(965, (aS big)), (966, aC sd (ah * 64) (ah * 64)), (968, bH (IntKind.u64.wrap ((((i * 64) : Nat) : Int) + 8)))]) (by kernel_rfl) ?_
 clear HF; intro a HF
 rw [show IntKind.u64.wrap ((((i * 64) : Nat) : Int) + 8) = ((((i * 64) + 8) : Nat) : Int) from (IntWalk.u64_in _ (by omega)).trans (by omega)] at HF
 refine dL rfl HF (HM.told [5] rfl) rfl (.slice (some ⟨sd, ((i * 64) + 8), none⟩) ((ah * 64) - ((i * 64) + 8)) ((ah * 64) - ((i * 64) + 8))) (by kernel_rfl) (fun w hw => fF (t := 33) Tryd.underlying33 hi0 hs0 rfl ((i * 64) + 8) (kk := .u64) rfl rfl (by omega) (by omega) (by omega) w) ?_
 clear HF; intro a HF; replace HF := HF.sub ((Bz b o n c s fb big ak aj au ah sd i z5 aW) ++ [(965, (aS big)), (966, aC sd (ah * 64) (ah * 64)), (968, aI ((i * 64) + 8)), EN sd i ah]) (by kernel_rfl)
 replace HF := HF.sub (zI b o n c s fb big ak aj au ah sd i z5 aW) (by kernel_rfl)
 refine bI HF (HM.told [5] rfl) 4 [] ((zI b o n c s fb big ak aj au ah sd i z5 aW) ++ [(972, (aS big)), (973, aC sd (ah * 64) (ah * 64)), (975, bH (IntKind.u64.wrap ((((i * 64) : Nat) : Int) + 24)))]) (by kernel_rfl) ?_
 clear HF; intro a HF
 rw [show IntKind.u64.wrap ((((i * 64) : Nat) : Int) + 24) = ((((i * 64) + 24) : Nat) : Int) from (IntWalk.u64_in _ (by omega)).trans (by omega)] at HF
 refine dL rfl HF (HM.told [5] rfl) rfl (.slice (some ⟨sd, ((i * 64) + 24), none⟩) ((ah * 64) - ((i * 64) + 24)) ((ah * 64) - ((i * 64) + 24))) (by kernel_rfl) (fun w hw => fF (t := 33) Tryd.underlying33 hi0 hs0 rfl ((i * 64) + 24) (kk := .u64) rfl rfl (by omega) (by omega) (by omega) w) ?_
 clear HF; intro a HF; replace HF := HF.sub ((zI b o n c s fb big ak aj au ah sd i z5 aW) ++ [(972, (aS big)), (973, aC sd (ah * 64) (ah * 64)), (975, aI ((i * 64) + 24)), Dx sd i ah]) (by kernel_rfl)
 replace HF := HF.sub (zH b o n c s fb big ak aj au ah sd i z5 aW) (by kernel_rfl)
 refine bI HF (HM.told [5] rfl) 4 [] ((zH b o n c s fb big ak aj au ah sd i z5 aW) ++ [(978, (aS big)), (979, aC sd (ah * 64) (ah * 64)), (981, bH (IntKind.u64.wrap ((((i * 64) : Nat) : Int) + 32)))]) (by kernel_rfl) ?_
 clear HF; intro a HF
 rw [show IntKind.u64.wrap ((((i * 64) : Nat) : Int) + 32) = ((((i * 64) + 32) : Nat) : Int) from (IntWalk.u64_in _ (by omega)).trans (by omega)] at HF
 refine dL rfl HF (HM.told [5] rfl) rfl (.slice (some ⟨sd, ((i * 64) + 32), none⟩) ((ah * 64) - ((i * 64) + 32)) ((ah * 64) - ((i * 64) + 32))) (by kernel_rfl) (fun w hw => fF (t := 33) Tryd.underlying33 hi0 hs0 rfl ((i * 64) + 32) (kk := .u64) rfl rfl (by omega) (by omega) (by omega) w) ?_
 clear HF; intro a HF; replace HF := HF.sub ((zH b o n c s fb big ak aj au ah sd i z5 aW) ++ [(978, (aS big)), (979, aC sd (ah * 64) (ah * 64)), (981, aI ((i * 64) + 32)), xC sd i ah]) (by kernel_rfl)
 replace HF := HF.sub (zG b o n c s fb big ak aj au ah sd i z5 aW) (by kernel_rfl)
 refine bI HF (HM.told [5] rfl) 4 [] ((zG b o n c s fb big ak aj au ah sd i z5 aW) ++ [(984, (aS big)), (985, aC sd (ah * 64) (ah * 64)), (987, bH (IntKind.u64.wrap ((((i * 64) : Nat) : Int) + 16)))]) (by kernel_rfl) ?_
 clear HF; intro a HF
 rw [show IntKind.u64.wrap ((((i * 64) : Nat) : Int) + 16) = ((((i * 64) + 16) : Nat) : Int) from (IntWalk.u64_in _ (by omega)).trans (by omega)] at HF
 refine dL rfl HF (HM.told [5] rfl) rfl (.slice (some ⟨sd, ((i * 64) + 16), none⟩) ((ah * 64) - ((i * 64) + 16)) ((ah * 64) - ((i * 64) + 16))) (by kernel_rfl) (fun w hw => fF (t := 33) Tryd.underlying33 hi0 hs0 rfl ((i * 64) + 16) (kk := .u64) rfl rfl (by omega) (by omega) (by omega) w) ?_
 clear HF; intro a HF; replace HF := HF.sub ((zG b o n c s fb big ak aj au ah sd i z5 aW) ++ [(984, (aS big)), (985, aC sd (ah * 64) (ah * 64)), (987, aI ((i * 64) + 16)), tN sd i ah]) (by kernel_rfl)
 replace HF := HF.sub (zF b o n c s fb big ak aj au ah sd i z5 aW) (by kernel_rfl)
 refine bI HF (HM.told [5] rfl) 4 [] ((zF b o n c s fb big ak aj au ah sd i z5 aW) ++ [(990, (aS big)), (991, aC sd (ah * 64) (ah * 64)), (993, bH (IntKind.u64.wrap ((((i * 64) : Nat) : Int) + 40)))]) (by kernel_rfl) ?_
 clear HF; intro a HF
 rw [show IntKind.u64.wrap ((((i * 64) : Nat) : Int) + 40) = ((((i * 64) + 40) : Nat) : Int) from (IntWalk.u64_in _ (by omega)).trans (by omega)] at HF
 refine dL rfl HF (HM.told [5] rfl) rfl (.slice (some ⟨sd, ((i * 64) + 40), none⟩) ((ah * 64) - ((i * 64) + 40)) ((ah * 64) - ((i * 64) + 40))) (by kernel_rfl) (fun w hw => fF (t := 33) Tryd.underlying33 hi0 hs0 rfl ((i * 64) + 40) (kk := .u64) rfl rfl (by omega) (by omega) (by omega) w) ?_
 clear HF; intro a HF; replace HF := HF.sub ((zF b o n c s fb big ak aj au ah sd i z5 aW) ++ [(990, (aS big)), (991, aC sd (ah * 64) (ah * 64)), (993, aI ((i * 64) + 40)), pX sd i ah]) (by kernel_rfl)
 replace HF := HF.sub (zD b o n c s fb big ak aj au ah sd i z5 aW) (by kernel_rfl)
 refine bI HF (HM.told [5] rfl) 4 [] ((zD b o n c s fb big ak aj au ah sd i z5 aW) ++ [(996, (aS big)), (997, aC sd (ah * 64) (ah * 64)), (999, bH (IntKind.u64.wrap ((((i * 64) : Nat) : Int) + 44)))]) (by kernel_rfl) ?_
 clear HF; intro a HF
 rw [show IntKind.u64.wrap ((((i * 64) : Nat) : Int) + 44) = ((((i * 64) + 44) : Nat) : Int) from (IntWalk.u64_in _ (by omega)).trans (by omega)] at HF
 refine dL rfl HF (HM.told [5] rfl) rfl (.slice (some ⟨sd, ((i * 64) + 44), none⟩) ((ah * 64) - ((i * 64) + 44)) ((ah * 64) - ((i * 64) + 44))) (by kernel_rfl) (fun w hw => fF (t := 33) Tryd.underlying33 hi0 hs0 rfl ((i * 64) + 44) (kk := .u64) rfl rfl (by omega) (by omega) (by omega) w) ?_
 clear HF; intro a HF; replace HF := HF.sub ((zD b o n c s fb big ak aj au ah sd i z5 aW) ++ [(996, (aS big)), (997, aC sd (ah * 64) (ah * 64)), (999, aI ((i * 64) + 44)), oh sd i ah]) (by kernel_rfl)
 replace HF := HF.sub (zC b o n c s fb big ak aj au ah sd i z5 aW) (by kernel_rfl)
 refine bI HF (HM.told [5] rfl) 4 [] ((zC b o n c s fb big ak aj au ah sd i z5 aW) ++ [(1002, (aS big)), (1003, aC sd (ah * 64) (ah * 64)), (1005, bH (IntKind.u64.wrap ((((i * 64) : Nat) : Int) + 48)))]) (by kernel_rfl) ?_
 clear HF; intro a HF
 rw [show IntKind.u64.wrap ((((i * 64) : Nat) : Int) + 48) = ((((i * 64) + 48) : Nat) : Int) from (IntWalk.u64_in _ (by omega)).trans (by omega)] at HF
 refine dL rfl HF (HM.told [5] rfl) rfl (.slice (some ⟨sd, ((i * 64) + 48), none⟩) ((ah * 64) - ((i * 64) + 48)) ((ah * 64) - ((i * 64) + 48))) (by kernel_rfl) (fun w hw => fF (t := 33) Tryd.underlying33 hi0 hs0 rfl ((i * 64) + 48) (kk := .u64) rfl rfl (by omega) (by omega) (by omega) w) ?_
 clear HF; intro a HF; replace HF := HF.sub ((zC b o n c s fb big ak aj au ah sd i z5 aW) ++ [(1002, (aS big)), (1003, aC sd (ah * 64) (ah * 64)), (1005, aI ((i * 64) + 48)), ny sd i ah]) (by kernel_rfl)
 replace HF := HF.sub (xB b o n c s fb big ak aj au ah sd i z5 aW) (by kernel_rfl)
 refine bI HF (HM.told [5] rfl) 4 [] ((xB b o n c s fb big ak aj au ah sd i z5 aW) ++ [(1008, (aS big)), (1009, aC sd (ah * 64) (ah * 64)), (1011, bH (IntKind.u64.wrap ((((i * 64) : Nat) : Int) + 56)))]) (by kernel_rfl) ?_
 clear HF; intro a HF
 rw [show IntKind.u64.wrap ((((i * 64) : Nat) : Int) + 56) = ((((i * 64) + 56) : Nat) : Int) from (IntWalk.u64_in _ (by omega)).trans (by omega)] at HF
 refine dL rfl HF (HM.told [5] rfl) rfl (.slice (some ⟨sd, ((i * 64) + 56), none⟩) ((ah * 64) - ((i * 64) + 56)) ((ah * 64) - ((i * 64) + 56))) (by kernel_rfl) (fun w hw => fF (t := 33) Tryd.underlying33 hi0 hs0 rfl ((i * 64) + 56) (kk := .u64) rfl rfl (by omega) (by omega) (by omega) w) ?_
 clear HF; intro a HF; replace HF := HF.sub ((xB b o n c s fb big ak aj au ah sd i z5 aW) ++ [(1008, (aS big)), (1009, aC sd (ah * 64) (ah * 64)), (1011, aI ((i * 64) + 56)), kG sd i ah]) (by kernel_rfl)
 replace HF := HF.sub ((xB b o n c s fb big ak aj au ah sd i z5 aW) ++ [(1008, (aS big)), kG sd i ah]) (by kernel_rfl)
 refine bW rfl ?_
 refine bf HF (by kernel_rfl) 87 #[(aS big), .slice (some ⟨sd, ((i * 64) + 4), none⟩) ((ah * 64) - ((i * 64) + 4)) ((ah * 64) - ((i * 64) + 4))] (by kernel_rfl) (fun w => by kernel_rfl) (Calls.mono (kF (HM.get (i := 5) rfl) (by unfold maxLen; omega) big ((i * 64) + 4) ((ah * 64) - ((i * 64) + 4)) (by omega) (by omega) ((v.ty : Nat) : Int) (by rw [QI])) ?_)
 rintro _ w4 ⟨rfl, kM, hq⟩
 replace HM : Mm [fb, aV, aW, sd] W1 w4 [(z10, .cells #[bn v.name] 36 (0, 0)), kV z5, fG fb dat abi aH big aU aJ aG aV i ah pg aj, (aV, .cells cur 133 (0, 0)), (aW, .cells gK 36 (0, 0)), (sd, .cells (X.map Bv).toArray 5 (0, 0))] := by rw [hq]; exact HM.drewN _
 clear hq
 refine ⟨_, rfl, ?_⟩; clear HF; intro a HF; replace HF := HF.sub ((xB b o n c s fb big ak aj au ah sd i z5 aW) ++ [(1008, (aS big)), kG sd i ah, (964, bn v.ty)]) (by kernel_rfl)
 refine dH (HM.told [5] rfl) ?_
 replace HF := HF.sub ((eu b o n c s fb big ak aj au ah sd i z5 aW) ++ [(958, aB z5), (965, (aS big)), EN sd i ah, (972, (aS big)), Dx sd i ah, (978, (aS big)), xC sd i ah, (984, (aS big)), tN sd i ah, (990, (aS big)), pX sd i ah, (996, (aS big)), oh sd i ah, (1002, (aS big)), ny sd i ah, (1008, (aS big)), kG sd i ah, (964, bn v.ty)]) (by kernel_rfl)
 refine bW rfl ?_
 refine bf HF (by kernel_rfl) 88 #[(aS big), .slice (some ⟨sd, ((i * 64) + 8), none⟩) ((ah * 64) - ((i * 64) + 8)) ((ah * 64) - ((i * 64) + 8))] (by kernel_rfl) (fun w => by kernel_rfl) (Calls.mono (qI (HM.get (i := 5) rfl) (by unfold maxLen; omega) big ((i * 64) + 8) ((ah * 64) - ((i * 64) + 8)) (by omega) (by omega) ((v.flags : Nat) : Int) (by rw [I4])) ?_)
 rintro _ w5 ⟨rfl, kM, hq⟩
 replace HM : Mm [fb, aV, aW, sd] W1 w5 [(z10, .cells #[bn v.name] 36 (0, 0)), kV z5, fG fb dat abi aH big aU aJ aG aV i ah pg aj, (aV, .cells cur 133 (0, 0)), (aW, .cells gK 36 (0, 0)), (sd, .cells (X.map Bv).toArray 5 (0, 0))] := by rw [hq]; exact HM.drewN _
 clear hq
 refine ⟨_, rfl, ?_⟩; clear HF; intro a HF; replace HF := HF.sub ((eu b o n c s fb big ak aj au ah sd i z5 aW) ++ [(958, aB z5), (965, (aS big)), EN sd i ah, (972, (aS big)), Dx sd i ah, (978, (aS big)), xC sd i ah, (984, (aS big)), tN sd i ah, (990, (aS big)), pX sd i ah, (996, (aS big)), oh sd i ah, (1002, (aS big)), ny sd i ah, (1008, (aS big)), kG sd i ah, (964, bn v.ty), (970, aI v.flags)]) (by kernel_rfl)
 refine dH (HM.told [5] rfl) ?_
 replace HF := HF.sub ((Dw b o n c s fb big ak aj au ah sd i z5 aW v) ++ [(970, aI v.flags)]) (by kernel_rfl)
 refine bI HF (HM.told [5] rfl) 1 [] ((Dw b o n c s fb big ak aj au ah sd i z5 aW v) ++ [(971, iR (IntKind.u32.wrap ((v.flags : Nat) : Int)))]) (by kernel_rfl) ?_
 clear HF; intro a HF
 rw [show IntKind.u32.wrap ((v.flags : Nat) : Int) = ((v.flags : Nat) : Int) from IntWalk.u32_in _ (by omega)] at HF
 refine bW rfl ?_
 refine bf HF (by kernel_rfl) 88 #[(aS big), .slice (some ⟨sd, ((i * 64) + 24), none⟩) ((ah * 64) - ((i * 64) + 24)) ((ah * 64) - ((i * 64) + 24))] (by kernel_rfl) (fun w => by kernel_rfl) (Calls.mono (qI (HM.get (i := 5) rfl) (by unfold maxLen; omega) big ((i * 64) + 24) ((ah * 64) - ((i * 64) + 24)) (by omega) (by omega) ((v.off : Nat) : Int) (by rw [Oz])) ?_)
 rintro _ w6 ⟨rfl, kM, hq⟩
 replace HM : Mm [fb, aV, aW, sd] W1 w6 [(z10, .cells #[bn v.name] 36 (0, 0)), kV z5, fG fb dat abi aH big aU aJ aG aV i ah pg aj, (aV, .cells cur 133 (0, 0)), (aW, .cells gK 36 (0, 0)), (sd, .cells (X.map Bv).toArray 5 (0, 0))] := by rw [hq]; exact HM.drewN _
 clear hq
 refine ⟨_, rfl, ?_⟩; clear HF; intro a HF; replace HF := HF.sub ((Dw b o n c s fb big ak aj au ah sd i z5 aW v) ++ [(971, bn v.flags), (977, aI v.off)]) (by kernel_rfl)
 refine dH (HM.told [5] rfl) ?_
 replace HF := HF.sub ((eu b o n c s fb big ak aj au ah sd i z5 aW) ++ [(958, aB z5), (978, (aS big)), xC sd i ah, (984, (aS big)), tN sd i ah, (990, (aS big)), pX sd i ah, (996, (aS big)), oh sd i ah, (1002, (aS big)), ny sd i ah, (1008, (aS big)), kG sd i ah, (964, bn v.ty), (971, bn v.flags), (977, aI v.off)]) (by kernel_rfl)
 refine bW rfl ?_
 refine bf HF (by kernel_rfl) 88 #[(aS big), .slice (some ⟨sd, ((i * 64) + 32), none⟩) ((ah * 64) - ((i * 64) + 32)) ((ah * 64) - ((i * 64) + 32))] (by kernel_rfl) (fun w => by kernel_rfl) (Calls.mono (qI (HM.get (i := 5) rfl) (by unfold maxLen; omega) big ((i * 64) + 32) ((ah * 64) - ((i * 64) + 32)) (by omega) (by omega) ((v.bP : Nat) : Int) (by rw [OA])) ?_)
 rintro _ w7 ⟨rfl, kM, hq⟩
 replace HM : Mm [fb, aV, aW, sd] W1 w7 [(z10, .cells #[bn v.name] 36 (0, 0)), kV z5, fG fb dat abi aH big aU aJ aG aV i ah pg aj, (aV, .cells cur 133 (0, 0)), (aW, .cells gK 36 (0, 0)), (sd, .cells (X.map Bv).toArray 5 (0, 0))] := by rw [hq]; exact HM.drewN _
 clear hq
 refine ⟨_, rfl, ?_⟩; clear HF; intro a HF; replace HF := HF.sub ((eu b o n c s fb big ak aj au ah sd i z5 aW) ++ [(958, aB z5), (978, (aS big)), xC sd i ah, (984, (aS big)), tN sd i ah, (990, (aS big)), pX sd i ah, (996, (aS big)), oh sd i ah, (1002, (aS big)), ny sd i ah, (1008, (aS big)), kG sd i ah, (964, bn v.ty), (971, bn v.flags), (977, aI v.off), (983, aI v.bP)]) (by kernel_rfl)
 refine dH (HM.told [5] rfl) ?_
 replace HF := HF.sub ((eu b o n c s fb big ak aj au ah sd i z5 aW) ++ [(958, aB z5), (984, (aS big)), tN sd i ah, (990, (aS big)), pX sd i ah, (996, (aS big)), oh sd i ah, (1002, (aS big)), ny sd i ah, (1008, (aS big)), kG sd i ah, (964, bn v.ty), (971, bn v.flags), (977, aI v.off), (983, aI v.bP)]) (by kernel_rfl)
 refine bW rfl ?_
 refine bf HF (by kernel_rfl) 88 #[(aS big), .slice (some ⟨sd, ((i * 64) + 16), none⟩) ((ah * 64) - ((i * 64) + 16)) ((ah * 64) - ((i * 64) + 16))] (by kernel_rfl) (fun w => by kernel_rfl) (Calls.mono (qI (HM.get (i := 5) rfl) (by unfold maxLen; omega) big ((i * 64) + 16) ((ah * 64) - ((i * 64) + 16)) (by omega) (by omega) ((v.addr : Nat) : Int) (by rw [LD])) ?_)
 rintro _ w8 ⟨rfl, kM, hq⟩
 replace HM : Mm [fb, aV, aW, sd] W1 w8 [(z10, .cells #[bn v.name] 36 (0, 0)), kV z5, fG fb dat abi aH big aU aJ aG aV i ah pg aj, (aV, .cells cur 133 (0, 0)), (aW, .cells gK 36 (0, 0)), (sd, .cells (X.map Bv).toArray 5 (0, 0))] := by rw [hq]; exact HM.drewN _
 clear hq
 refine ⟨_, rfl, ?_⟩; clear HF; intro a HF; replace HF := HF.sub ((eu b o n c s fb big ak aj au ah sd i z5 aW) ++ [(958, aB z5), (984, (aS big)), tN sd i ah, (990, (aS big)), pX sd i ah, (996, (aS big)), oh sd i ah, (1002, (aS big)), ny sd i ah, (1008, (aS big)), kG sd i ah, (964, bn v.ty), (971, bn v.flags), (977, aI v.off), (983, aI v.bP), (989, aI v.addr)]) (by kernel_rfl)
 refine dH (HM.told [5] rfl) ?_
 replace HF := HF.sub ((eu b o n c s fb big ak aj au ah sd i z5 aW) ++ [(958, aB z5), (990, (aS big)), pX sd i ah, (996, (aS big)), oh sd i ah, (1002, (aS big)), ny sd i ah, (1008, (aS big)), kG sd i ah, (964, bn v.ty), (971, bn v.flags), (977, aI v.off), (983, aI v.bP), (989, aI v.addr)]) (by kernel_rfl)
 refine bW rfl ?_
 refine bf HF (by kernel_rfl) 87 #[(aS big), .slice (some ⟨sd, ((i * 64) + 40), none⟩) ((ah * 64) - ((i * 64) + 40)) ((ah * 64) - ((i * 64) + 40))] (by kernel_rfl) (fun w => by kernel_rfl) (Calls.mono (kF (HM.get (i := 5) rfl) (by unfold maxLen; omega) big ((i * 64) + 40) ((ah * 64) - ((i * 64) + 40)) (by omega) (by omega) ((v.link : Nat) : Int) (by rw [Lu])) ?_)
 rintro _ w9 ⟨rfl, kM, hq⟩
 replace HM : Mm [fb, aV, aW, sd] W1 w9 [(z10, .cells #[bn v.name] 36 (0, 0)), kV z5, fG fb dat abi aH big aU aJ aG aV i ah pg aj, (aV, .cells cur 133 (0, 0)), (aW, .cells gK 36 (0, 0)), (sd, .cells (X.map Bv).toArray 5 (0, 0))] := by rw [hq]; exact HM.drewN _
 clear hq
 refine ⟨_, rfl, ?_⟩; clear HF; intro a HF; replace HF := HF.sub ((eu b o n c s fb big ak aj au ah sd i z5 aW) ++ [(958, aB z5), (990, (aS big)), pX sd i ah, (996, (aS big)), oh sd i ah, (1002, (aS big)), ny sd i ah, (1008, (aS big)), kG sd i ah, (964, bn v.ty), (971, bn v.flags), (977, aI v.off), (983, aI v.bP), (989, aI v.addr), (995, bn v.link)]) (by kernel_rfl)
 refine dH (HM.told [5] rfl) ?_
 replace HF := HF.sub ((eu b o n c s fb big ak aj au ah sd i z5 aW) ++ [(958, aB z5), (996, (aS big)), oh sd i ah, (1002, (aS big)), ny sd i ah, (1008, (aS big)), kG sd i ah, (964, bn v.ty), (971, bn v.flags), (977, aI v.off), (983, aI v.bP), (989, aI v.addr), (995, bn v.link)]) (by kernel_rfl)
 refine bW rfl ?_
 refine bf HF (by kernel_rfl) 87 #[(aS big), .slice (some ⟨sd, ((i * 64) + 44), none⟩) ((ah * 64) - ((i * 64) + 44)) ((ah * 64) - ((i * 64) + 44))] (by kernel_rfl) (fun w => by kernel_rfl) (Calls.mono (kF (HM.get (i := 5) rfl) (by unfold maxLen; omega) big ((i * 64) + 44) ((ah * 64) - ((i * 64) + 44)) (by omega) (by omega) ((v.info : Nat) : Int) (by rw [LC])) ?_)
 rintro _ w10 ⟨rfl, kM, hq⟩
 replace HM : Mm [fb, aV, aW, sd] W1 w10 [(z10, .cells #[bn v.name] 36 (0, 0)), kV z5, fG fb dat abi aH big aU aJ aG aV i ah pg aj, (aV, .cells cur 133 (0, 0)), (aW, .cells gK 36 (0, 0)), (sd, .cells (X.map Bv).toArray 5 (0, 0))] := by rw [hq]; exact HM.drewN _
 clear hq
 refine ⟨_, rfl, ?_⟩; clear HF; intro a HF; replace HF := HF.sub ((eu b o n c s fb big ak aj au ah sd i z5 aW) ++ [(958, aB z5), (996, (aS big)), oh sd i ah, (1002, (aS big)), ny sd i ah, (1008, (aS big)), kG sd i ah, (964, bn v.ty), (971, bn v.flags), (977, aI v.off), (983, aI v.bP), (989, aI v.addr), (995, bn v.link), (1001, bn v.info)]) (by kernel_rfl)
 refine dH (HM.told [5] rfl) ?_
 replace HF := HF.sub ((eu b o n c s fb big ak aj au ah sd i z5 aW) ++ [(958, aB z5), (1002, (aS big)), ny sd i ah, (1008, (aS big)), kG sd i ah, (964, bn v.ty), (971, bn v.flags), (977, aI v.off), (983, aI v.bP), (989, aI v.addr), (995, bn v.link), (1001, bn v.info)]) (by kernel_rfl)
 refine bW rfl ?_
 refine bf HF (by kernel_rfl) 88 #[(aS big), .slice (some ⟨sd, ((i * 64) + 48), none⟩) ((ah * 64) - ((i * 64) + 48)) ((ah * 64) - ((i * 64) + 48))] (by kernel_rfl) (fun w => by kernel_rfl) (Calls.mono (qI (HM.get (i := 5) rfl) (by unfold maxLen; omega) big ((i * 64) + 48) ((ah * 64) - ((i * 64) + 48)) (by omega) (by omega) ((v.align : Nat) : Int) (by rw [I5])) ?_)
 rintro _ qU ⟨rfl, kM, hq⟩
 replace HM : Mm [fb, aV, aW, sd] W1 qU [(z10, .cells #[bn v.name] 36 (0, 0)), kV z5, fG fb dat abi aH big aU aJ aG aV i ah pg aj, (aV, .cells cur 133 (0, 0)), (aW, .cells gK 36 (0, 0)), (sd, .cells (X.map Bv).toArray 5 (0, 0))] := by rw [hq]; exact HM.drewN _
 clear hq
 refine ⟨_, rfl, ?_⟩; clear HF; intro a HF; replace HF := HF.sub ((eu b o n c s fb big ak aj au ah sd i z5 aW) ++ [(958, aB z5), (1002, (aS big)), ny sd i ah, (1008, (aS big)), kG sd i ah, (964, bn v.ty), (971, bn v.flags), (977, aI v.off), (983, aI v.bP), (989, aI v.addr), (995, bn v.link), (1001, bn v.info), (1007, aI v.align)]) (by kernel_rfl)
 refine dH (HM.told [5] rfl) ?_
 replace HF := HF.sub ((eu b o n c s fb big ak aj au ah sd i z5 aW) ++ [(958, aB z5), (1008, (aS big)), kG sd i ah, (964, bn v.ty), (971, bn v.flags), (977, aI v.off), (983, aI v.bP), (989, aI v.addr), (995, bn v.link), (1001, bn v.info), (1007, aI v.align)]) (by kernel_rfl)
 refine bW rfl ?_
 refine bf HF (by kernel_rfl) 88 #[(aS big), .slice (some ⟨sd, ((i * 64) + 56), none⟩) ((ah * 64) - ((i * 64) + 56)) ((ah * 64) - ((i * 64) + 56))] (by kernel_rfl) (fun w => by kernel_rfl) (Calls.mono (qI (HM.get (i := 5) rfl) (by unfold maxLen; omega) big ((i * 64) + 56) ((ah * 64) - ((i * 64) + 56)) (by omega) (by omega) ((v.ent : Nat) : Int) (by rw [OB])) ?_)
 rintro _ w12 ⟨rfl, kM, hq⟩
 replace HM : Mm [fb, aV, aW, sd] W1 w12 [(z10, .cells #[bn v.name] 36 (0, 0)), kV z5, fG fb dat abi aH big aU aJ aG aV i ah pg aj, (aV, .cells cur 133 (0, 0)), (aW, .cells gK 36 (0, 0)), (sd, .cells (X.map Bv).toArray 5 (0, 0))] := by rw [hq]; exact HM.drewN _
 clear hq
 refine ⟨_, rfl, ?_⟩; clear HF; intro a HF; replace HF := HF.sub ((eu b o n c s fb big ak aj au ah sd i z5 aW) ++ [(958, aB z5), (1008, (aS big)), kG sd i ah, (964, bn v.ty), (971, bn v.flags), (977, aI v.off), (983, aI v.bP), (989, aI v.addr), (995, bn v.link), (1001, bn v.info), (1007, aI v.align), (1013, aI v.ent)]) (by kernel_rfl)
 refine dH (HM.told [5] rfl) ?_
 replace HF := HF.sub ((eu b o n c s fb big ak aj au ah sd i z5 aW) ++ [(958, aB z5), (964, bn v.ty), (971, bn v.flags), (977, aI v.off), (983, aI v.bP), (989, aI v.addr), (995, bn v.link), (1001, bn v.info), (1007, aI v.align), (1013, aI v.ent)]) (by kernel_rfl)
 refine bI HF (HM.told [5] rfl) 3 [] ((eu b o n c s fb big ak aj au ah sd i z5 aW) ++ [(958, aB z5), (964, bn v.ty), (971, bn v.flags), (977, aI v.off), (983, aI v.bP), (989, aI v.addr), (995, bn v.link), (1001, bn v.info), (1007, aI v.align), (1013, aI v.ent), H_ v, (1016, aB z5)]) (by kernel_rfl) ?_
 clear HF; intro a HF
 replace HF := HF.sub ((eu b o n c s fb big ak aj au ah sd i z5 aW) ++ [H_ v, (1016, aB z5)]) (by kernel_rfl)
 refine bW rfl ?_
 refine aT HF HM rfl 1 [[4, 4, 4, 4, 4, 4, 4, 4, 4, 4, 4]] (eu b o n c s fb big ak aj au ah sd i z5 aW) [(z10, .cells #[bn v.name] 36 (0, 0)), vH z5 v, fG fb dat abi aH big aU aJ aG aV i ah pg aj, (aV, .cells cur 133 (0, 0)), (aW, .cells gK 36 (0, 0)), (sd, .cells (X.map Bv).toArray 5 (0, 0))] (by kernel_rfl) ?_
 clear HF HM; intro a w HF HM
 refine dH (HM.told [5] rfl) ?_
 refine iM ?_
 repeat (first | refine aK ?_ | refine aP ?_)
 refine wp_seq ?_
 refine wp_seq (wp_region_lit ?_)
 refine aT HF HM rfl 6 [[4]] ((eu b o n c s fb big ak aj au ah sd i z5 aW) ++ [(1022, aF (IntKind.i64.wrap ((v.off : Nat) : Int)))]) [(z10, .cells #[bn v.name] 36 (0, 0)), vH z5 v, fG fb dat abi aH big aU aJ aG aV i ah pg aj, (aV, .cells cur 133 (0, 0)), (aW, .cells gK 36 (0, 0)), (sd, .cells (X.map Bv).toArray 5 (0, 0))] (by kernel_rfl) ?_
 clear HF HM; intro a w HF HM
 rw [show IntKind.i64.wrap ((v.off : Nat) : Int) = ((v.off : Nat) : Int) from IntWalk.i64_in _ (by omega)] at HF
 refine aT HF HM rfl 1 [] ((eu b o n c s fb big ak aj au ah sd i z5 aW) ++ [(1023, .bool (decide (((v.off : Nat) : Int) < 0)))]) [(z10, .cells #[bn v.name] 36 (0, 0)), vH z5 v, fG fb dat abi aH big aU aJ aG aV i ah pg aj, (aV, .cells cur 133 (0, 0)), (aW, .cells gK 36 (0, 0)), (sd, .cells (X.map Bv).toArray 5 (0, 0))] (by kernel_rfl) ?_
 clear HF HM; intro a w HF HM
 rw [show decide (((v.off : Nat) : Int) < 0) = false from cZ (by omega)] at HF
 refine aA ?_
 refine aY HF rfl ?_
 refine wp_skip ?_
 repeat (first | refine aK ?_ | refine aP ?_)
 replace HF := HF.sub (eu b o n c s fb big ak aj au ah sd i z5 aW) (by kernel_rfl)
 refine wp_seq ?_
 refine wp_seq (wp_region_lit ?_)
 refine aT HF HM rfl 6 [[4]] ((eu b o n c s fb big ak aj au ah sd i z5 aW) ++ [(1043, aF (IntKind.i64.wrap ((v.bP : Nat) : Int)))]) [(z10, .cells #[bn v.name] 36 (0, 0)), vH z5 v, fG fb dat abi aH big aU aJ aG aV i ah pg aj, (aV, .cells cur 133 (0, 0)), (aW, .cells gK 36 (0, 0)), (sd, .cells (X.map Bv).toArray 5 (0, 0))] (by kernel_rfl) ?_
 clear HF HM; intro a w HF HM
 rw [show IntKind.i64.wrap ((v.bP : Nat) : Int) = ((v.bP : Nat) : Int) from IntWalk.i64_in _ (by omega)] at HF
 refine aT HF HM rfl 1 [] ((eu b o n c s fb big ak aj au ah sd i z5 aW) ++ [(1044, .bool (decide (((v.bP : Nat) : Int) < 0)))]) [(z10, .cells #[bn v.name] 36 (0, 0)), vH z5 v, fG fb dat abi aH big aU aJ aG aV i ah pg aj, (aV, .cells cur 133 (0, 0)), (aW, .cells gK 36 (0, 0)), (sd, .cells (X.map Bv).toArray 5 (0, 0))] (by kernel_rfl) ?_
 clear HF HM; intro a w HF HM
 rw [show decide (((v.bP : Nat) : Int) < 0) = false from cZ (by omega)] at HF
 refine aA ?_
 refine aY HF rfl ?_
 refine wp_skip ?_
 repeat (first | refine aK ?_ | refine aP ?_)
 replace HF := HF.sub (eu b o n c s fb big ak aj au ah sd i z5 aW) (by kernel_rfl)
 refine Bl HM (by kernel_rfl) (fun w => w.cell? ⟨z5, 4, none⟩ = some (aI v.off) ∧ w.cell? ⟨z5, 10, none⟩ = some (aI v.bP)) [(0, false), (1, false), (2, false), (3, false), (4, false), (5, false), (6, false), (7, false), (8, false), (9, false), (10, false), (11, false), (12, false), (13, false), (14, true), (15, false), (16, false), (17, true)] (by kernel_rfl) ?_
 clear HM; intro uI HM
 refine jX (LS := []) (fun _ _ => kX _) HF ⟨HM.cellAt (i := 1) (k := 4) rfl rfl, HM.cellAt (i := 1) (k := 10) rfl rfl⟩ 6 [] ((tK b o n c s fb big ak aj au ah sd i z5 aW) ++ [(1064, .pointer (some ⟨z5, 4, none⟩))]) (by kernel_rfl) ?_
 clear HF; intro a HF
 refine sV rfl HF ⟨HM.cellAt (i := 1) (k := 4) rfl rfl, HM.cellAt (i := 1) (k := 10) rfl rfl⟩ rfl (aI v.off) (by kernel_rfl) (fun w hw => dV rfl rfl (by kernel_rfl) hw.1) ?_
 clear HF; intro a HF; replace HF := HF.sub ((tK b o n c s fb big ak aj au ah sd i z5 aW) ++ [(1064, .pointer (some ⟨z5, 4, none⟩)), (1065, aI v.off)]) (by kernel_rfl)
 refine jX (LS := []) (fun _ _ => kX _) HF ⟨HM.cellAt (i := 1) (k := 4) rfl rfl, HM.cellAt (i := 1) (k := 10) rfl rfl⟩ 1 [] ((tK b o n c s fb big ak aj au ah sd i z5 aW) ++ [(1066, aF (IntKind.i64.wrap ((v.off : Nat) : Int)))]) (by kernel_rfl) ?_
 clear HF; intro a HF
 rw [show IntKind.i64.wrap ((v.off : Nat) : Int) = ((v.off : Nat) : Int) from IntWalk.i64_in _ (by omega)] at HF
 refine jX (LS := []) (fun _ _ => kX _) HF ⟨HM.cellAt (i := 1) (k := 4) rfl rfl, HM.cellAt (i := 1) (k := 10) rfl rfl⟩ 4 [] ((tK b o n c s fb big ak aj au ah sd i z5 aW) ++ [(1066, ay v.off), (1070, .pointer (some ⟨z5, 10, none⟩))]) (by kernel_rfl) ?_
 clear HF; intro a HF
 refine sV rfl HF ⟨HM.cellAt (i := 1) (k := 4) rfl rfl, HM.cellAt (i := 1) (k := 10) rfl rfl⟩ rfl (aI v.bP) (by kernel_rfl) (fun w hw => dV rfl rfl (by kernel_rfl) hw.2) ?_
 clear HF; intro a HF; replace HF := HF.sub ((tK b o n c s fb big ak aj au ah sd i z5 aW) ++ [(1066, ay v.off), (1070, .pointer (some ⟨z5, 10, none⟩)), (1071, aI v.bP)]) (by kernel_rfl)
 refine jX (LS := []) (fun _ _ => kX _) HF ⟨HM.cellAt (i := 1) (k := 4) rfl rfl, HM.cellAt (i := 1) (k := 10) rfl rfl⟩ 1 [] ((tK b o n c s fb big ak aj au ah sd i z5 aW) ++ [(1066, ay v.off), (1072, aF (IntKind.i64.wrap ((v.bP : Nat) : Int)))]) (by kernel_rfl) ?_
 clear HF; intro a HF
 rw [show IntKind.i64.wrap ((v.bP : Nat) : Int) = ((v.bP : Nat) : Int) from IntWalk.i64_in _ (by omega)] at HF
 refine qx rfl ?_
 refine bf HF (by kernel_rfl) 92 #[.iface 178 (.slice (some ⟨b, o, none⟩) n c), ay v.off, ay v.bP] (by kernel_rfl) (fun w => by kernel_rfl) (Calls.mono (rF 178 (.slice (some ⟨b, o, none⟩) n c) ((v.off : Nat) : Int) ((v.bP : Nat) : Int) (by omega) (by omega) (by omega) uI) ?_)
 rintro _ Ey ⟨sb, rfl, hb, hge, hgn⟩
 replace HM : Mm [fb, aV, aW, sd] W1 Ey [oV sb b o n c v, (z10, .cells #[bn v.name] 36 (0, 0)), vH z5 v, fG fb dat abi aH big aU aJ aG aV i ah pg aj, (aV, .cells cur 133 (0, 0)), (aW, .cells gK 36 (0, 0)), (sd, .cells (X.map Bv).toArray 5 (0, 0))] := HM.push hb hge hgn
 clear hb hge hgn
 refine ⟨_, rfl, ?_⟩; clear HF; intro a HF; replace HF := HF.sub ((tK b o n c s fb big ak aj au ah sd i z5 aW) ++ [(1066, ay v.off), (1072, ay v.bP), (1073, aB sb)]) (by kernel_rfl)
 refine sW ⟨HM.cellAt (i := 2) (k := 4) rfl rfl, HM.cellAt (i := 2) (k := 10) rfl rfl⟩ ?_
 refine jX (LS := []) (fun _ _ => kX _) HF ⟨HM.cellAt (i := 2) (k := 4) rfl rfl, HM.cellAt (i := 2) (k := 10) rfl rfl⟩ 2 [] ((eu b o n c s fb big ak aj au ah sd i z5 aW) ++ [(1073, aB sb), (1075, .pointer (some ⟨z5, 12, none⟩))]) (by kernel_rfl) ?_
 clear HF; intro a HF
 refine qx rfl ?_
 refine aT HF HM rfl 1 [[4]] (eu b o n c s fb big ak aj au ah sd i z5 aW) [oV sb b o n c v, (z10, .cells #[bn v.name] 36 (0, 0)), Ia z5 v sb, fG fb dat abi aH big aU aJ aG aV i ah pg aj, (aV, .cells cur 133 (0, 0)), (aW, .cells gK 36 (0, 0)), (sd, .cells (X.map Bv).toArray 5 (0, 0))] (by kernel_rfl) ?_
 clear HF HM; intro a w HF HM
 refine sW ⟨HM.cellAt (i := 2) (k := 4) rfl rfl, HM.cellAt (i := 2) (k := 10) rfl rfl⟩ ?_
 refine Bo (aK ?_)
 refine wp_seq ?_
 refine wp_seq (wp_region_lit ?_)
 refine aT HF HM rfl 7 [[4]] [(0, .iface 178 (.slice (some ⟨b, o, none⟩) n c)), (4, aB s), (8, aB fb), (9, (aS big)), (10, ay ak), (11, aF 56), (12, ay aj), (13, ay au), (14, aF 64), (15, ay ah), (16, ay (ah - 1)), (26, aF 64), (42, aC sd (ah * 64) (ah * 64)), (43, ay i), (44, aI (i * 64)), (45, aB z5), (41, aC aW (i + 1) ah), (1082, .bool (qO ((v.flags : Nat) : Int) 2048 == 0))] [oV sb b o n c v, (z10, .cells #[bn v.name] 36 (0, 0)), Ia z5 v sb, fG fb dat abi aH big aU aJ aG aV i ah pg aj, (aV, .cells cur 133 (0, 0)), (aW, .cells gK 36 (0, 0)), (sd, .cells (X.map Bv).toArray 5 (0, 0))] (by kernel_rfl) ?_
 clear HF HM; intro a w HF HM
 rw [v9] at HF
 refine aA ?_
 refine bD HF rfl ?_
 replace HF := HF.sub (eu b o n c s fb big ak aj au ah sd i z5 aW) (by kernel_rfl)
 refine bG HF HM rfl [[4], [4]] (eu b o n c s fb big ak aj au ah sd i z5 aW) [oV sb b o n c v, (z10, .cells #[bn v.name] 36 (0, 0)), (z5, .cells #[.string ⟨#[]⟩, bn (v).ty, bn (v).flags, aI (v).addr, aI (v).off, bH 0, bn (v).link, bn (v).info, aI (v).align, aI (v).ent, aI (v).bP, .iface 144 (aB sb), aB sb, aF 0, aF 0] 153 (0, 0)), fG fb dat abi aH big aU aJ aG aV i ah pg aj, (aV, .cells cur 133 (0, 0)), (aW, .cells gK 36 (0, 0)), (sd, .cells (X.map Bv).toArray 5 (0, 0))] (by kernel_rfl) ?_
 clear HF HM; intro a w HF HM
 refine pK HF HM rfl [[4], [4]] (eu b o n c s fb big ak aj au ah sd i z5 aW) [oV sb b o n c v, (z10, .cells #[bn v.name] 36 (0, 0)), vG z5 v sb, fG fb dat abi aH big aU aJ aG aV i ah pg aj, (aV, .cells cur 133 (0, 0)), (aW, .cells gK 36 (0, 0)), (sd, .cells (X.map Bv).toArray 5 (0, 0))] (by kernel_rfl) ?_
 clear HF HM; intro a w HF HM
 repeat (first | refine aK ?_ | refine aP ?_)
 refine wp_region_lit ?_
 obtain ⟨z21, hz21⟩ : ∃ z, w.heap.size = z := ⟨_, rfl⟩
 refine aT HF HM hz21 7 [[3]] ((eu b o n c s fb big ak aj au ah sd i z5 aW) ++ [(1191, aB fb), (1195, aC aV i ah), (1197, aC z21 1 1)]) [(z21, .cells #[aB z5] 133 (0, 0)), oV sb b o n c v, (z10, .cells #[bn v.name] 36 (0, 0)), vG z5 v sb, fG fb dat abi aH big aU aJ aG aV i ah pg aj, (aV, .cells cur 133 (0, 0)), (aW, .cells gK 36 (0, 0)), (sd, .cells (X.map Bv).toArray 5 (0, 0))] (by kernel_rfl) ?_
 clear HF HM hz21; intro a w HF HM
 refine sD HF HM rfl _ _ 126 rfl rfl 133 (.pointer none) 8 Tryd.underlying126 CV 5 0 aV _ i ah cur _ _ rfl hcs (by omega) (by unfold maxLen; omega) rfl rfl rfl rfl ?_
 intro a2 Bg cur' hcs' htk bT HF2; clear HF HM; have HM : Mm [fb, aV, aW, sd] W1 Bg [(z21, .cells #[aB z5] 133 (0, 0)), oV sb b o n c v, (z10, .cells #[bn v.name] 36 (0, 0)), vG z5 v sb, fG fb dat abi aH big aU aJ aG aV i ah pg aj, (aV, .cells cur' 133 (0, 0)), (aW, .cells gK 36 (0, 0)), (sd, .cells (X.map Bv).toArray 5 (0, 0))] := bT; have HF := HF2; clear bT HF2
 replace HF := HF.sub ((eu b o n c s fb big ak aj au ah sd i z5 aW) ++ [(1191, aB fb), (1198, aC aV (i + 1) ah)]) (by kernel_rfl)
 refine aT HF HM rfl 3 [[3]] (eu b o n c s fb big ak aj au ah sd i z5 aW) [(z21, .cells #[aB z5] 133 (0, 0)), oV sb b o n c v, (z10, .cells #[bn v.name] 36 (0, 0)), vG z5 v sb, BD fb dat abi aH big aU aJ aG aV i ah pg aj, (aV, .cells cur' 133 (0, 0)), (aW, .cells gK 36 (0, 0)), (sd, .cells (X.map Bv).toArray 5 (0, 0))] (by kernel_rfl) ?_
 clear HF HM; intro a w HF HM
 refine wpList_nil ?_
 repeat (first | refine aK ?_ | refine aP ?_)
 refine wp_region_lit ?_
 refine aT HF HM rfl 2 [] ((eu b o n c s fb big ak aj au ah sd i z5 aW) ++ [(861, aF (IntKind.i64.wrap (((i : Nat) : Int) + 1)))]) [(z21, .cells #[aB z5] 133 (0, 0)), oV sb b o n c v, (z10, .cells #[bn v.name] 36 (0, 0)), vG z5 v sb, BD fb dat abi aH big aU aJ aG aV i ah pg aj, (aV, .cells cur' 133 (0, 0)), (aW, .cells gK 36 (0, 0)), (sd, .cells (X.map Bv).toArray 5 (0, 0))] (by kernel_rfl) ?_
 clear HF HM; intro a w HF HM
 rw [show IntKind.i64.wrap (((i : Nat) : Int) + 1) = (((i + 1) : Nat) : Int) from (IntWalk.i64_in _ (by omega)).trans (by omega)] at HF
 refine aT HF HM rfl 1 [] ((BA b o n c s fb big ak aj au ah) ++ [(42, aC sd (ah * 64) (ah * 64)), (44, aI (i * 64)), (45, aB z5), (41, aC aW (i + 1) ah), (43, ay (i + 1))]) [(z21, .cells #[aB z5] 133 (0, 0)), oV sb b o n c v, (z10, .cells #[bn v.name] 36 (0, 0)), vG z5 v sb, BD fb dat abi aH big aU aJ aG aV i ah pg aj, (aV, .cells cur' 133 (0, 0)), (aW, .cells gK 36 (0, 0)), (sd, .cells (X.map Bv).toArray 5 (0, 0))] (by kernel_rfl) ?_
 clear HF HM; intro a w HF HM
 refine wpList_nil ?_
 repeat (first | refine aK ?_ | refine aP ?_)
 replace HF := HF.sub ((BA b o n c s fb big ak aj au ah) ++ [(41, aC aW (i + 1) ah), (42, aC sd (ah * 64) (ah * 64)), (43, ay (i + 1))]) (by kernel_rfl)
 exact K a w z5 sb cur' gK hcs' G8 htk htn HF (HM.sub (List.Sublist.cons _ (List.Sublist.cons_cons _ (List.Sublist.cons _ (List.Sublist.refl _)))))

end Go.Proofs.YtdgehpocmfjbiaaDoor
