/- elf.NewFile: one round of the loop over the sections. -/
import Derived.Test.YtdgehpocmfjbiaaDoorTd
set_option linter.unusedVariables false
set_option linter.unusedSimpArgs false
set_option maxRecDepth 100000
set_option maxHeartbeats 2000000
namespace Go.Proofs.YtdgehpocmfjbiaaDoor
open Go.RowKit

structure iM where
 name : Nat
 ty : Nat
 flags : Nat
 addr : Nat
 off : Nat
 bH : Nat
 link : Nat
 info : Nat
 align : Nat
 ent : Nat
theorem Mm.restart {G : List Nat} {w0 w : World} {L : List (Nat × Obj)} (h : Mm G w0 w L) : Mm (L.map (·.1)) w w L := ⟨Keep.refl _ _, fun p hp => ⟨(h.2.1 p hp).1, .inr (List.mem_map_of_mem hp)⟩, h.2.2⟩

abbrev fA := fun (fb : Nat) (dat : Int) (abi : Nat) (aF : Nat) (big : Bool) (aS : Nat) (aG : Nat) (aB : Nat) (aW : Nat) (i : Nat) (ah : Nat) (pg : Nat) (aj : Nat) => ((fb, .cells #[aK 1, .int .u8 dat, aK 1, aV abi, aV aF, (aP big), bf aS, bf aG, aJ aB, aH aW i ah, aH pg aj aj, aN, aN, aN] 131 (0, 0)) : Nat × Obj)
abbrev kP := fun (b : Nat) (o : Nat) (n : Nat) (c : Nat) (s : Nat) (fb : Nat) (big : Bool) (ak : Nat) (aj : Nat) (au : Nat) (ah : Nat) (aT : Nat) (i : Nat) (sd : Nat) => ([(0, .iface 178 (.slice (some ⟨b, o, none⟩) n c)), (4, aC s), (8, aC fb), (9, (aP big)), (10, aA ak), (11, ay 32), (12, aA aj), (13, aA au), (14, ay 40), (15, aA ah), (16, aA (ah - 1)), (26, ay 40), (41, aH aT i ah), (42, aH sd (ah * 40) (ah * 40)), (43, aA i)] : Slots)
abbrev xB := fun (fb : Nat) (dat : Int) (abi : Nat) (aF : Nat) (big : Bool) (aS : Nat) (aG : Nat) (aB : Nat) (aW : Nat) (i : Nat) (ah : Nat) (pg : Nat) (aj : Nat) => ((fb, .cells #[aK 1, .int .u8 dat, aK 1, aV abi, aV aF, (aP big), bf aS, bf aG, aJ aB, aH aW (i + 1) ah, aH pg aj aj, aN, aN, aN] 131 (0, 0)) : Nat × Obj)
abbrev mV := fun sb (b : Nat) (o : Nat) (n : Nat) (c : Nat) (v : iM) => ((sb, .cells #[.iface 178 (.slice (some ⟨b, o, none⟩) n c), aA v.off, aA v.off, ay (((v.bH : Nat) : Int) + ((v.off : Nat) : Int)), aA v.bH] 246 (0, 0)) : Nat × Obj)
abbrev xA := fun (b : Nat) (o : Nat) (n : Nat) (c : Nat) (s : Nat) (fb : Nat) (big : Bool) (ak : Nat) (aj : Nat) (au : Nat) (ah : Nat) => ([(0, .iface 178 (.slice (some ⟨b, o, none⟩) n c)), (4, aC s), (8, aC fb), (9, (aP big)), (10, aA ak), (11, ay 32), (12, aA aj), (13, aA au), (14, ay 40), (15, aA ah), (16, aA (ah - 1)), (26, ay 40)] : Slots)
abbrev jW := fun z5 => ((z5, .cells #[.string ⟨#[]⟩, lJ 0, lJ 0, bG 0, bG 0, bG 0, lJ 0, lJ 0, bG 0, bG 0, bG 0, .nilIface, .pointer none, ay 0, ay 0] 153 (0, 0)) : Nat × Obj)
abbrev eP := fun (b : Nat) (o : Nat) (n : Nat) (c : Nat) (s : Nat) (fb : Nat) (big : Bool) (ak : Nat) (aj : Nat) (au : Nat) (ah : Nat) (sd : Nat) (i : Nat) z5 (aT : Nat) => ((xA b o n c s fb big ak aj au ah) ++ [(42, aH sd (ah * 40) (ah * 40)), (43, aA i), (44, aJ (i * 40)), (45, aC z5), (41, aH aT (i + 1) ah)] : Slots)
abbrev J4 := fun (sd : Nat) (i : Nat) (ah : Nat) => ((889, .slice (some ⟨sd, ((i * 40) + 4), none⟩) ((ah * 40) - ((i * 40) + 4)) ((ah * 40) - ((i * 40) + 4))) : Nat × Value)
abbrev xw := fun (b : Nat) (o : Nat) (n : Nat) (c : Nat) (s : Nat) (fb : Nat) (big : Bool) (ak : Nat) (aj : Nat) (au : Nat) (ah : Nat) (sd : Nat) (i : Nat) z5 (aT : Nat) => ((eP b o n c s fb big ak aj au ah sd i z5 aT) ++ [(884, aC z5), (885, (aP big)), (889, .slice (some ⟨sd, ((i * 40) + 4), none⟩) ((ah * 40) - ((i * 40) + 4)) ((ah * 40) - ((i * 40) + 4)))] : Slots)
abbrev Az := fun (sd : Nat) (i : Nat) (ah : Nat) => ((895, .slice (some ⟨sd, ((i * 40) + 8), none⟩) ((ah * 40) - ((i * 40) + 8)) ((ah * 40) - ((i * 40) + 8))) : Nat × Value)
abbrev vK := fun (b : Nat) (o : Nat) (n : Nat) (c : Nat) (s : Nat) (fb : Nat) (big : Bool) (ak : Nat) (aj : Nat) (au : Nat) (ah : Nat) (sd : Nat) (i : Nat) z5 (aT : Nat) => ((xw b o n c s fb big ak aj au ah sd i z5 aT) ++ [(891, (aP big)), (895, .slice (some ⟨sd, ((i * 40) + 8), none⟩) ((ah * 40) - ((i * 40) + 8)) ((ah * 40) - ((i * 40) + 8)))] : Slots)
abbrev sU := fun (sd : Nat) (i : Nat) (ah : Nat) => ((901, .slice (some ⟨sd, ((i * 40) + 12), none⟩) ((ah * 40) - ((i * 40) + 12)) ((ah * 40) - ((i * 40) + 12))) : Nat × Value)
abbrev vJ := fun (b : Nat) (o : Nat) (n : Nat) (c : Nat) (s : Nat) (fb : Nat) (big : Bool) (ak : Nat) (aj : Nat) (au : Nat) (ah : Nat) (sd : Nat) (i : Nat) z5 (aT : Nat) => ((vK b o n c s fb big ak aj au ah sd i z5 aT) ++ [(897, (aP big)), (901, .slice (some ⟨sd, ((i * 40) + 12), none⟩) ((ah * 40) - ((i * 40) + 12)) ((ah * 40) - ((i * 40) + 12)))] : Slots)
abbrev sS := fun (sd : Nat) (i : Nat) (ah : Nat) => ((908, .slice (some ⟨sd, ((i * 40) + 16), none⟩) ((ah * 40) - ((i * 40) + 16)) ((ah * 40) - ((i * 40) + 16))) : Nat × Value)
abbrev vI := fun (b : Nat) (o : Nat) (n : Nat) (c : Nat) (s : Nat) (fb : Nat) (big : Bool) (ak : Nat) (aj : Nat) (au : Nat) (ah : Nat) (sd : Nat) (i : Nat) z5 (aT : Nat) => ((vJ b o n c s fb big ak aj au ah sd i z5 aT) ++ [(904, (aP big)), (908, .slice (some ⟨sd, ((i * 40) + 16), none⟩) ((ah * 40) - ((i * 40) + 16)) ((ah * 40) - ((i * 40) + 16)))] : Slots)
abbrev sQ := fun (sd : Nat) (i : Nat) (ah : Nat) => ((915, .slice (some ⟨sd, ((i * 40) + 20), none⟩) ((ah * 40) - ((i * 40) + 20)) ((ah * 40) - ((i * 40) + 20))) : Nat × Value)
abbrev vH := fun (b : Nat) (o : Nat) (n : Nat) (c : Nat) (s : Nat) (fb : Nat) (big : Bool) (ak : Nat) (aj : Nat) (au : Nat) (ah : Nat) (sd : Nat) (i : Nat) z5 (aT : Nat) => ((vI b o n c s fb big ak aj au ah sd i z5 aT) ++ [(911, (aP big)), (915, .slice (some ⟨sd, ((i * 40) + 20), none⟩) ((ah * 40) - ((i * 40) + 20)) ((ah * 40) - ((i * 40) + 20)))] : Slots)
abbrev sO := fun (sd : Nat) (i : Nat) (ah : Nat) => ((922, .slice (some ⟨sd, ((i * 40) + 24), none⟩) ((ah * 40) - ((i * 40) + 24)) ((ah * 40) - ((i * 40) + 24))) : Nat × Value)
abbrev vG := fun (b : Nat) (o : Nat) (n : Nat) (c : Nat) (s : Nat) (fb : Nat) (big : Bool) (ak : Nat) (aj : Nat) (au : Nat) (ah : Nat) (sd : Nat) (i : Nat) z5 (aT : Nat) => ((vH b o n c s fb big ak aj au ah sd i z5 aT) ++ [(918, (aP big)), (922, .slice (some ⟨sd, ((i * 40) + 24), none⟩) ((ah * 40) - ((i * 40) + 24)) ((ah * 40) - ((i * 40) + 24)))] : Slots)
abbrev pJ := fun (sd : Nat) (i : Nat) (ah : Nat) => ((928, .slice (some ⟨sd, ((i * 40) + 28), none⟩) ((ah * 40) - ((i * 40) + 28)) ((ah * 40) - ((i * 40) + 28))) : Nat × Value)
abbrev vF := fun (b : Nat) (o : Nat) (n : Nat) (c : Nat) (s : Nat) (fb : Nat) (big : Bool) (ak : Nat) (aj : Nat) (au : Nat) (ah : Nat) (sd : Nat) (i : Nat) z5 (aT : Nat) => ((vG b o n c s fb big ak aj au ah sd i z5 aT) ++ [(924, (aP big)), (928, .slice (some ⟨sd, ((i * 40) + 28), none⟩) ((ah * 40) - ((i * 40) + 28)) ((ah * 40) - ((i * 40) + 28)))] : Slots)
abbrev nM := fun (sd : Nat) (i : Nat) (ah : Nat) => ((934, .slice (some ⟨sd, ((i * 40) + 32), none⟩) ((ah * 40) - ((i * 40) + 32)) ((ah * 40) - ((i * 40) + 32))) : Nat × Value)
abbrev sN := fun (b : Nat) (o : Nat) (n : Nat) (c : Nat) (s : Nat) (fb : Nat) (big : Bool) (ak : Nat) (aj : Nat) (au : Nat) (ah : Nat) (sd : Nat) (i : Nat) z5 (aT : Nat) => ((vF b o n c s fb big ak aj au ah sd i z5 aT) ++ [(930, (aP big)), (934, .slice (some ⟨sd, ((i * 40) + 32), none⟩) ((ah * 40) - ((i * 40) + 32)) ((ah * 40) - ((i * 40) + 32)))] : Slots)
abbrev lV := fun (sd : Nat) (i : Nat) (ah : Nat) => ((941, .slice (some ⟨sd, ((i * 40) + 36), none⟩) ((ah * 40) - ((i * 40) + 36)) ((ah * 40) - ((i * 40) + 36))) : Nat × Value)
abbrev zl := fun (b : Nat) (o : Nat) (n : Nat) (c : Nat) (s : Nat) (fb : Nat) (big : Bool) (ak : Nat) (aj : Nat) (au : Nat) (ah : Nat) (sd : Nat) (i : Nat) z5 (aT : Nat) (v : iM) => ((eP b o n c s fb big ak aj au ah sd i z5 aT) ++ [(884, aC z5), (904, (aP big)), (908, .slice (some ⟨sd, ((i * 40) + 16), none⟩) ((ah * 40) - ((i * 40) + 16)) ((ah * 40) - ((i * 40) + 16))), (911, (aP big)), (915, .slice (some ⟨sd, ((i * 40) + 20), none⟩) ((ah * 40) - ((i * 40) + 20)) ((ah * 40) - ((i * 40) + 20))), (918, (aP big)), (922, .slice (some ⟨sd, ((i * 40) + 24), none⟩) ((ah * 40) - ((i * 40) + 24)) ((ah * 40) - ((i * 40) + 24))), (924, (aP big)), (928, .slice (some ⟨sd, ((i * 40) + 28), none⟩) ((ah * 40) - ((i * 40) + 28)) ((ah * 40) - ((i * 40) + 28))), (930, (aP big)), (934, .slice (some ⟨sd, ((i * 40) + 32), none⟩) ((ah * 40) - ((i * 40) + 32)) ((ah * 40) - ((i * 40) + 32))), (937, (aP big)), (941, .slice (some ⟨sd, ((i * 40) + 36), none⟩) ((ah * 40) - ((i * 40) + 36)) ((ah * 40) - ((i * 40) + 36))), (890, aX v.ty), (896, aX v.flags)] : Slots)
abbrev zk := fun (b : Nat) (o : Nat) (n : Nat) (c : Nat) (s : Nat) (fb : Nat) (big : Bool) (ak : Nat) (aj : Nat) (au : Nat) (ah : Nat) (sd : Nat) (i : Nat) z5 (aT : Nat) (v : iM) => ((eP b o n c s fb big ak aj au ah sd i z5 aT) ++ [(884, aC z5), (911, (aP big)), (915, .slice (some ⟨sd, ((i * 40) + 20), none⟩) ((ah * 40) - ((i * 40) + 20)) ((ah * 40) - ((i * 40) + 20))), (918, (aP big)), (922, .slice (some ⟨sd, ((i * 40) + 24), none⟩) ((ah * 40) - ((i * 40) + 24)) ((ah * 40) - ((i * 40) + 24))), (924, (aP big)), (928, .slice (some ⟨sd, ((i * 40) + 28), none⟩) ((ah * 40) - ((i * 40) + 28)) ((ah * 40) - ((i * 40) + 28))), (930, (aP big)), (934, .slice (some ⟨sd, ((i * 40) + 32), none⟩) ((ah * 40) - ((i * 40) + 32)) ((ah * 40) - ((i * 40) + 32))), (937, (aP big)), (941, .slice (some ⟨sd, ((i * 40) + 36), none⟩) ((ah * 40) - ((i * 40) + 36)) ((ah * 40) - ((i * 40) + 36))), (890, aX v.ty), (896, aX v.flags), (903, aJ v.addr)] : Slots)
abbrev zi := fun (b : Nat) (o : Nat) (n : Nat) (c : Nat) (s : Nat) (fb : Nat) (big : Bool) (ak : Nat) (aj : Nat) (au : Nat) (ah : Nat) (sd : Nat) (i : Nat) z5 (aT : Nat) (v : iM) => ((eP b o n c s fb big ak aj au ah sd i z5 aT) ++ [(884, aC z5), (918, (aP big)), (922, .slice (some ⟨sd, ((i * 40) + 24), none⟩) ((ah * 40) - ((i * 40) + 24)) ((ah * 40) - ((i * 40) + 24))), (924, (aP big)), (928, .slice (some ⟨sd, ((i * 40) + 28), none⟩) ((ah * 40) - ((i * 40) + 28)) ((ah * 40) - ((i * 40) + 28))), (930, (aP big)), (934, .slice (some ⟨sd, ((i * 40) + 32), none⟩) ((ah * 40) - ((i * 40) + 32)) ((ah * 40) - ((i * 40) + 32))), (937, (aP big)), (941, .slice (some ⟨sd, ((i * 40) + 36), none⟩) ((ah * 40) - ((i * 40) + 36)) ((ah * 40) - ((i * 40) + 36))), (890, aX v.ty), (896, aX v.flags), (903, aJ v.addr), (910, aJ v.off)] : Slots)
abbrev zh := fun (b : Nat) (o : Nat) (n : Nat) (c : Nat) (s : Nat) (fb : Nat) (big : Bool) (ak : Nat) (aj : Nat) (au : Nat) (ah : Nat) (sd : Nat) (i : Nat) z5 (aT : Nat) (v : iM) => ((eP b o n c s fb big ak aj au ah sd i z5 aT) ++ [(884, aC z5), (937, (aP big)), (941, .slice (some ⟨sd, ((i * 40) + 36), none⟩) ((ah * 40) - ((i * 40) + 36)) ((ah * 40) - ((i * 40) + 36))), (890, aX v.ty), (896, aX v.flags), (903, aJ v.addr), (910, aJ v.off), (917, aJ v.bH), (923, aX v.link), (929, aX v.info)] : Slots)
abbrev yZ := fun (b : Nat) (o : Nat) (n : Nat) (c : Nat) (s : Nat) (fb : Nat) (big : Bool) (ak : Nat) (aj : Nat) (au : Nat) (ah : Nat) (sd : Nat) (i : Nat) z5 (aT : Nat) (v : iM) => ((eP b o n c s fb big ak aj au ah sd i z5 aT) ++ [(884, aC z5), (890, aX v.ty), (896, aX v.flags), (903, aJ v.addr), (910, aJ v.off), (917, aJ v.bH), (923, aX v.link), (929, aX v.info), (936, aJ v.align)] : Slots)
abbrev DI := fun (v : iM) => ((944, .agg #[.string ⟨#[]⟩, aX (v).ty, aX (v).flags, aJ (v).addr, aJ (v).off, bG 0, aX (v).link, aX (v).info, aJ (v).align, aJ (v).ent, aJ (v).bH]) : Nat × Value)
abbrev qQ := fun z5 (v : iM) => ((z5, .cells #[.string ⟨#[]⟩, aX (v).ty, aX (v).flags, aJ (v).addr, aJ (v).off, bG 0, aX (v).link, aX (v).info, aJ (v).align, aJ (v).ent, aJ (v).bH, .nilIface, .pointer none, ay 0, ay 0] 153 (0, 0)) : Nat × Obj)
abbrev pI := fun (b : Nat) (o : Nat) (n : Nat) (c : Nat) (s : Nat) (fb : Nat) (big : Bool) (ak : Nat) (aj : Nat) (au : Nat) (ah : Nat) (sd : Nat) (i : Nat) z5 (aT : Nat) => ((eP b o n c s fb big ak aj au ah sd i z5 aT) ++ [(1059, aC z5), (1060, .iface 178 (.slice (some ⟨b, o, none⟩) n c))] : Slots)
abbrev DJ := fun z5 (v : iM) sb => ((z5, .cells #[.string ⟨#[]⟩, aX (v).ty, aX (v).flags, aJ (v).addr, aJ (v).off, bG 0, aX (v).link, aX (v).info, aJ (v).align, aJ (v).ent, aJ (v).bH, .nilIface, aC sb, ay 0, ay 0] 153 (0, 0)) : Nat × Obj)
abbrev qP := fun z5 (v : iM) sb => ((z5, .cells #[.string ⟨#[]⟩, aX (v).ty, aX (v).flags, aJ (v).addr, aJ (v).off, aJ (v).bH, aX (v).link, aX (v).info, aJ (v).align, aJ (v).ent, aJ (v).bH, .iface 144 (aC sb), aC sb, ay 0, ay 0] 153 (0, 0)) : Nat × Obj)
theorem NI (l : List UInt8) (b o n c : Nat) (hl : n = l.length) (hnc : n ≤ c) (big : Bool) (abi aF aS aG aB ak aj au ah : Nat) (dat : Int) (b1 : aS < 65536) (b2 : aG < 65536) (b3 : aB ≤ 18446744073709551615) (b4 : ak < 4611686018427387904) (b5 : au < 4611686018427387904) (b6 : aj < 200) (b7 : ah < 200) (X : List UInt8) (nI : X.length = (ah * 40)) (i : Nat) (hi : i < ah) (v : iM) (hv : uo (X.drop (i * 40)) false big v.name v.ty v.flags v.addr v.off v.bH v.link v.info v.align v.ent) (v1 : v.name < 4294967296) (v2 : v.ty < 4294967296) (v3 : v.flags < 4294967296) (v4 : v.off < 4611686018427387904) (v5 : v.bH < 4611686018427387904) (v6 : v.addr ≤ 18446744073709551615) (v7 : v.align ≤ 18446744073709551615) (v8 : v.ent ≤ 18446744073709551615) (v9 : (oC (v.flags : Int) 2048 == 0) = true)
  {K0 : Act → World → Prop} {Q : Exit → Act → World → Prop} (a : Act) (W1 : World) (s fb pg aW aT sd : Nat) (cur nms : Array Value) (hcs : cur.size = ah) (hns : nms.size = ah) (G_ : Mm [fb, aW, aT, sd] W1 W1 [fA fb dat abi aF big aS aG aB aW i ah pg aj, (aW, .cells cur 133 (0, 0)), (aT, .cells nms 36 (0, 0)), (sd, .cells (X.map Bv).toArray 5 (0, 0))]) (HF : Fr 1287 a (kP b o n c s fb big ak aj au ah aT i sd))
  (K : ∀ a w' pb sb cur' fK, cur'.size = ah → fK.size = ah → cur'.toList.take (i + 1) = cur.toList.take i ++ [aC pb] → fK.toList.take (i + 1) = nms.toList.take i ++ [aX v.name] → Fr 1287 a ((xA b o n c s fb big ak aj au ah) ++ [(41, aH aT (i + 1) ah), (42, aH sd (ah * 40) (ah * 40)), (43, aA (i + 1))]) → Mm [fb, aW, aT, sd] W1 w' [mV sb b o n c v, (pb, .cells #[.string ⟨#[]⟩, aX (v).ty, aX (v).flags, aJ (v).addr, aJ (v).off, aJ (v).bH, aX (v).link, aX (v).info, aJ (v).align, aJ (v).ent, aJ (v).bH, .iface 144 (aC sb), aC sb, ay 0, ay 0] 153 (0, 0)), xB fb dat abi aF big aS aG aB aW i ah pg aj, (aW, .cells cur' 133 (0, 0)), (aT, .cells fK 36 (0, 0)), (sd, .cells (X.map Bv).toArray 5 (0, 0))] → K0 a w') : (oG (spine Tryd.f78 44)).wp Tryd.prog (Exit.then K0 Q) a W1 := by
 obtain ⟨i0, hi0, hs0⟩ := uq
 have en : num big X ((i * 40) + 0) 4 = v.name := (fJ big X (i * 40) 0 4).symm.trans hv.name
 have LX : num big X ((i * 40) + 4) 4 = v.ty := (fJ big X (i * 40) 4 4).symm.trans hv.ty
 have Ef : num big X ((i * 40) + 8) 4 = v.flags := (fJ big X (i * 40) 8 4).symm.trans hv.flags
 have GY : num big X ((i * 40) + 12) 4 = v.addr := (fJ big X (i * 40) 12 4).symm.trans hv.addr
 have Jy : num big X ((i * 40) + 16) 4 = v.off := (fJ big X (i * 40) 16 4).symm.trans hv.off
 have Jz : num big X ((i * 40) + 20) 4 = v.bH := (fJ big X (i * 40) 20 4).symm.trans hv.size
 have GV : num big X ((i * 40) + 24) 4 = v.link := (fJ big X (i * 40) 24 4).symm.trans hv.link
 have GX : num big X ((i * 40) + 28) 4 = v.info := (fJ big X (i * 40) 28 4).symm.trans hv.info
 have Eh : num big X ((i * 40) + 32) 4 = v.align := (fJ big X (i * 40) 32 4).symm.trans hv.align
 have JA : num big X ((i * 40) + 36) 4 = v.ent := (fJ big X (i * 40) 36 4).symm.trans hv.ent
 obtain ⟨w, hw⟩ : ∃ w, W1 = w := ⟨_, rfl⟩
 have HM : Mm [fb, aW, aT, sd] W1 w [fA fb dat abi aF big aS aG aB aW i ah pg aj, (aW, .cells cur 133 (0, 0)), (aT, .cells nms 36 (0, 0)), (sd, .cells (X.map Bv).toArray 5 (0, 0))] := hw ▸ G_
 conv => arg 5; rw [hw]
 clear hw G_
 refine wp_seq ?_
 refine wp_seq (wp_region_lit ?_)
 refine aO HF HM rfl 3 [] ((kP b o n c s fb big ak aj au ah aT i sd) ++ [(859, .bool (decide (((i : Nat) : Int) < ((ah : Nat) : Int))))]) [fA fb dat abi aF big aS aG aB aW i ah pg aj, (aW, .cells cur 133 (0, 0)), (aT, .cells nms 36 (0, 0)), (sd, .cells (X.map Bv).toArray 5 (0, 0))] (by kernel_rfl) ?_
 clear HF HM; intro a w HF HM
 rw [show decide (((i : Nat) : Int) < ((ah : Nat) : Int)) = true from fC (by omega)] at HF
 refine aI ?_
 refine bF HF rfl ?_
 refine wp_skip ?_
 repeat (first | refine aQ ?_ | refine aU ?_)
 replace HF := HF.sub (kP b o n c s fb big ak aj au ah aT i sd) (by kernel_rfl)
 refine wp_seq (wp_block ?_)
 refine wp_seq (wp_region_lit ?_)
 refine aO HF HM rfl 2 [] ((kP b o n c s fb big ak aj au ah aT i sd) ++ [(863, bG (IntKind.u64.wrap ((i : Nat) : Int)))]) [fA fb dat abi aF big aS aG aB aW i ah pg aj, (aW, .cells cur 133 (0, 0)), (aT, .cells nms 36 (0, 0)), (sd, .cells (X.map Bv).toArray 5 (0, 0))] (by kernel_rfl) ?_
 clear HF HM; intro a w HF HM
 rw [show IntKind.u64.wrap ((i : Nat) : Int) = ((i : Nat) : Int) from IntWalk.u64_in _ (by omega)] at HF
 refine aO HF HM rfl 3 [] ((kP b o n c s fb big ak aj au ah aT i sd) ++ [(866, bG (IntKind.u64.wrap (((i : Nat) : Int) * 40)))]) [fA fb dat abi aF big aS aG aB aW i ah pg aj, (aW, .cells cur 133 (0, 0)), (aT, .cells nms 36 (0, 0)), (sd, .cells (X.map Bv).toArray 5 (0, 0))] (by kernel_rfl) ?_
 clear HF HM; intro a w HF HM
 rw [show IntKind.u64.wrap (((i : Nat) : Int) * 40) = (((i * 40) : Nat) : Int) from (IntWalk.u64_in _ (by omega)).trans (by omega)] at HF
 refine aO HF HM rfl 1 [] ((kP b o n c s fb big ak aj au ah aT i sd) ++ [(44, aJ (i * 40))]) [fA fb dat abi aF big aS aG aB aW i ah pg aj, (aW, .cells cur 133 (0, 0)), (aT, .cells nms 36 (0, 0)), (sd, .cells (X.map Bv).toArray 5 (0, 0))] (by kernel_rfl) ?_
 clear HF HM; intro a w HF HM
 refine aI ?_
 obtain ⟨z5, uT⟩ : ∃ z, w.heap.size = z := ⟨_, rfl⟩
 refine bC HF HM uT [] ((kP b o n c s fb big ak aj au ah aT i sd) ++ [(44, aJ (i * 40)), (45, aC z5)]) [jW z5, fA fb dat abi aF big aS aG aB aW i ah pg aj, (aW, .cells cur 133 (0, 0)), (aT, .cells nms 36 (0, 0)), (sd, .cells (X.map Bv).toArray 5 (0, 0))] (by kernel_rfl) ?_
 clear HF HM uT; intro a w HF HM
 refine wp_seq ?_
 refine bC HF HM rfl [[3]] ((kP b o n c s fb big ak aj au ah aT i sd) ++ [(44, aJ (i * 40)), (45, aC z5), (872, aK 1)]) [jW z5, fA fb dat abi aF big aS aG aB aW i ah pg aj, (aW, .cells cur 133 (0, 0)), (aT, .cells nms 36 (0, 0)), (sd, .cells (X.map Bv).toArray 5 (0, 0))] (by kernel_rfl) ?_
 clear HF HM; intro a w HF HM
 refine wp_block ?_
 refine bC HF HM rfl [] ((kP b o n c s fb big ak aj au ah aT i sd) ++ [(44, aJ (i * 40)), (45, aC z5), (872, aK 1), (873, .bool true)]) [jW z5, fA fb dat abi aF big aS aG aB aW i ah pg aj, (aW, .cells cur 133 (0, 0)), (aT, .cells nms 36 (0, 0)), (sd, .cells (X.map Bv).toArray 5 (0, 0))] (by kernel_rfl) ?_
 clear HF HM; intro a w HF HM
 refine bF HF rfl ?_
 replace HF := HF.sub ((kP b o n c s fb big ak aj au ah aT i sd) ++ [(44, aJ (i * 40)), (45, aC z5)]) (by kernel_rfl)
 refine wp_seq (wp_region_lit ?_)
 refine aO HF HM rfl 5 [] ((kP b o n c s fb big ak aj au ah aT i sd) ++ [(44, aJ (i * 40)), (45, aC z5), (875, aH aT i ah), (876, (aP big)), (877, aH sd (ah * 40) (ah * 40)), (879, bG (IntKind.u64.wrap ((((i * 40) : Nat) : Int) + 0)))]) [jW z5, fA fb dat abi aF big aS aG aB aW i ah pg aj, (aW, .cells cur 133 (0, 0)), (aT, .cells nms 36 (0, 0)), (sd, .cells (X.map Bv).toArray 5 (0, 0))] (by kernel_rfl) ?_
 clear HF HM; intro a w HF HM
 rw [show IntKind.u64.wrap ((((i * 40) : Nat) : Int) + 0) = ((((i * 40) + 0) : Nat) : Int) from (IntWalk.u64_in _ (by omega)).trans (by omega)] at HF
 refine eY HF (by kernel_rfl) (.slice (some ⟨sd, ((i * 40) + 0), none⟩) ((ah * 40) - ((i * 40) + 0)) ((ah * 40) - ((i * 40) + 0))) (by kernel_rfl) (eG (t := 33) Tryd.underlying33 hi0 hs0 rfl ((i * 40) + 0) (kk := .u64) rfl rfl (by omega) (by omega) (by omega) _) ?_
 clear HF; intro a HF; replace HF := HF.sub ((kP b o n c s fb big ak aj au ah aT i sd) ++ [(44, aJ (i * 40)), (45, aC z5), (875, aH aT i ah), (876, (aP big)), (877, aH sd (ah * 40) (ah * 40)), (879, aJ ((i * 40) + 0)), (880, .slice (some ⟨sd, ((i * 40) + 0), none⟩) ((ah * 40) - ((i * 40) + 0)) ((ah * 40) - ((i * 40) + 0)))]) (by kernel_rfl)
 refine bn HF (by kernel_rfl) 87 #[(aP big), .slice (some ⟨sd, ((i * 40) + 0), none⟩) ((ah * 40) - ((i * 40) + 0)) ((ah * 40) - ((i * 40) + 0))] (by kernel_rfl) (fun w => by kernel_rfl) (Calls.mono (jy (HM.get (i := 4) rfl) (by unfold maxLen; omega) big ((i * 40) + 0) ((ah * 40) - ((i * 40) + 0)) (by omega) (by omega) ((v.name : Nat) : Int) (by rw [en])) ?_)
 rintro _ w1 ⟨rfl, jF, hq⟩
 replace HM : Mm [fb, aW, aT, sd] W1 w1 [jW z5, fA fb dat abi aF big aS aG aB aW i ah pg aj, (aW, .cells cur 133 (0, 0)), (aT, .cells nms 36 (0, 0)), (sd, .cells (X.map Bv).toArray 5 (0, 0))] := by rw [hq]; exact HM.drewN _
 clear hq
 refine ⟨_, rfl, ?_⟩; clear HF; intro a HF; replace HF := HF.sub ((kP b o n c s fb big ak aj au ah aT i sd) ++ [(44, aJ (i * 40)), (45, aC z5), (875, aH aT i ah), (876, (aP big)), (877, aH sd (ah * 40) (ah * 40)), (879, aJ ((i * 40) + 0)), (880, .slice (some ⟨sd, ((i * 40) + 0), none⟩) ((ah * 40) - ((i * 40) + 0)) ((ah * 40) - ((i * 40) + 0))), (881, aX v.name)]) (by kernel_rfl)
 obtain ⟨z9, hz9⟩ : ∃ z, w1.heap.size = z := ⟨_, rfl⟩
 refine aO HF HM hz9 1 [] ((kP b o n c s fb big ak aj au ah aT i sd) ++ [(44, aJ (i * 40)), (45, aC z5), (875, aH aT i ah), (882, aH z9 1 1)]) [(z9, .cells #[aX v.name] 36 (0, 0)), jW z5, fA fb dat abi aF big aS aG aB aW i ah pg aj, (aW, .cells cur 133 (0, 0)), (aT, .cells nms 36 (0, 0)), (sd, .cells (X.map Bv).toArray 5 (0, 0))] (by kernel_rfl) ?_
 clear HF HM hz9; intro a w HF HM
 refine oP HF HM rfl _ _ 222 rfl rfl 36 (lJ 0) 4 Tryd.underlying222 wO 4 0 aT _ i ah nms _ _ rfl hns (by omega) (by unfold maxLen; omega) rfl rfl rfl rfl ?_
 intro a2 w2 fK Df htn bU HF2; clear HF HM; have HM : Mm [fb, aW, aT, sd] W1 w2 [(z9, .cells #[aX v.name] 36 (0, 0)), jW z5, fA fb dat abi aF big aS aG aB aW i ah pg aj, (aW, .cells cur 133 (0, 0)), (aT, .cells fK 36 (0, 0)), (sd, .cells (X.map Bv).toArray 5 (0, 0))] := bU; have HF := HF2; clear bU HF2
 replace HF := HF.sub ((kP b o n c s fb big ak aj au ah aT i sd) ++ [(44, aJ (i * 40)), (45, aC z5), (883, aH aT (i + 1) ah)]) (by kernel_rfl)
 refine aO HF HM rfl 1 [] (eP b o n c s fb big ak aj au ah sd i z5 aT) [(z9, .cells #[aX v.name] 36 (0, 0)), jW z5, fA fb dat abi aF big aS aG aB aW i ah pg aj, (aW, .cells cur 133 (0, 0)), (aT, .cells fK 36 (0, 0)), (sd, .cells (X.map Bv).toArray 5 (0, 0))] (by kernel_rfl) ?_
 clear HF HM; intro a w HF HM
 refine aI ?_
 refine rQ HM (by kernel_rfl) [(sd, .cells (X.map Bv).toArray 5 (0, 0))] [(0, false), (1, false), (2, false), (3, false), (4, false), (5, false), (7, false), (8, false), (9, false), (10, false), (11, false), (13, false), (14, false), (15, false), (16, false), (17, false), (20, false), (21, false), (22, false), (23, false), (24, false), (27, false), (28, false), (29, false), (30, false), (31, false), (34, false), (35, false), (36, false), (37, false), (38, false), (40, false), (41, false), (42, false), (43, false), (44, false), (46, false), (47, false), (48, false), (49, false), (50, false), (53, false), (54, false), (55, false), (56, false), (57, false), (6, true), (12, true), (18, true), (19, false), (25, true), (26, false), (32, true), (33, false), (39, true), (45, true), (51, true), (52, false), (58, true), (59, false), (60, false), (61, false), (62, false), (63, true)] (by kernel_rfl) ?_
 clear HM; intro w3 HM
 refine bD HF (HM.told [5] rfl) 1 [] ((eP b o n c s fb big ak aj au ah sd i z5 aT) ++ [(884, aC z5)]) (by kernel_rfl) ?_
 clear HF; intro a HF
 refine bD HF (HM.told [5] rfl) 4 [] ((eP b o n c s fb big ak aj au ah sd i z5 aT) ++ [(884, aC z5), (885, (aP big)), (886, aH sd (ah * 40) (ah * 40)), (888, bG (IntKind.u64.wrap ((((i * 40) : Nat) : Int) + 4)))]) (by kernel_rfl) ?_
 clear HF; intro a HF
 rw [show IntKind.u64.wrap ((((i * 40) : Nat) : Int) + 4) = ((((i * 40) + 4) : Nat) : Int) from (IntWalk.u64_in _ (by omega)).trans (by omega)] at HF
 refine eu rfl HF (HM.told [5] rfl) rfl (.slice (some ⟨sd, ((i * 40) + 4), none⟩) ((ah * 40) - ((i * 40) + 4)) ((ah * 40) - ((i * 40) + 4))) (by kernel_rfl) (fun w hw => eG (t := 33) Tryd.underlying33 hi0 hs0 rfl ((i * 40) + 4) (kk := .u64) rfl rfl (by omega) (by omega) (by omega) w) ?_
 clear HF; intro a HF; replace HF := HF.sub ((eP b o n c s fb big ak aj au ah sd i z5 aT) ++ [(884, aC z5), (885, (aP big)), (886, aH sd (ah * 40) (ah * 40)), (888, aJ ((i * 40) + 4)), J4 sd i ah]) (by kernel_rfl)
 replace HF := HF.sub (xw b o n c s fb big ak aj au ah sd i z5 aT) (by kernel_rfl)
 refine bD HF (HM.told [5] rfl) 4 [] ((xw b o n c s fb big ak aj au ah sd i z5 aT) ++ [(891, (aP big)), (892, aH sd (ah * 40) (ah * 40)), (894, bG (IntKind.u64.wrap ((((i * 40) : Nat) : Int) + 8)))]) (by kernel_rfl) ?_
 clear HF; intro a HF
 rw [show IntKind.u64.wrap ((((i * 40) : Nat) : Int) + 8) = ((((i * 40) + 8) : Nat) : Int) from (IntWalk.u64_in _ (by omega)).trans (by omega)] at HF
 refine eu rfl HF (HM.told [5] rfl) rfl (.slice (some ⟨sd, ((i * 40) + 8), none⟩) ((ah * 40) - ((i * 40) + 8)) ((ah * 40) - ((i * 40) + 8))) (by kernel_rfl) (fun w hw => eG (t := 33) Tryd.underlying33 hi0 hs0 rfl ((i * 40) + 8) (kk := .u64) rfl rfl (by omega) (by omega) (by omega) w) ?_
 clear HF; intro a HF; replace HF := HF.sub ((xw b o n c s fb big ak aj au ah sd i z5 aT) ++ [(891, (aP big)), (892, aH sd (ah * 40) (ah * 40)), (894, aJ ((i * 40) + 8)), Az sd i ah]) (by kernel_rfl)
 replace HF := HF.sub (vK b o n c s fb big ak aj au ah sd i z5 aT) (by kernel_rfl)
 refine bD HF (HM.told [5] rfl) 4 [] ((vK b o n c s fb big ak aj au ah sd i z5 aT) ++ [(897, (aP big)), (898, aH sd (ah * 40) (ah * 40)), (900, bG (IntKind.u64.wrap ((((i * 40) : Nat) : Int) + 12)))]) (by kernel_rfl) ?_
 clear HF; intro a HF
 rw [show IntKind.u64.wrap ((((i * 40) : Nat) : Int) + 12) = ((((i * 40) + 12) : Nat) : Int) from (IntWalk.u64_in _ (by omega)).trans (by omega)] at HF
 refine eu rfl HF (HM.told [5] rfl) rfl (.slice (some ⟨sd, ((i * 40) + 12), none⟩) ((ah * 40) - ((i * 40) + 12)) ((ah * 40) - ((i * 40) + 12))) (by kernel_rfl) (fun w hw => eG (t := 33) Tryd.underlying33 hi0 hs0 rfl ((i * 40) + 12) (kk := .u64) rfl rfl (by omega) (by omega) (by omega) w) ?_
 clear HF; intro a HF; replace HF := HF.sub ((vK b o n c s fb big ak aj au ah sd i z5 aT) ++ [(897, (aP big)), (898, aH sd (ah * 40) (ah * 40)), (900, aJ ((i * 40) + 12)), sU sd i ah]) (by kernel_rfl)
 replace HF := HF.sub (vJ b o n c s fb big ak aj au ah sd i z5 aT) (by kernel_rfl)
 refine bD HF (HM.told [5] rfl) 4 [] ((vJ b o n c s fb big ak aj au ah sd i z5 aT) ++ [(904, (aP big)), (905, aH sd (ah * 40) (ah * 40)), (907, bG (IntKind.u64.wrap ((((i * 40) : Nat) : Int) + 16)))]) (by kernel_rfl) ?_
 clear HF; intro a HF
 rw [show IntKind.u64.wrap ((((i * 40) : Nat) : Int) + 16) = ((((i * 40) + 16) : Nat) : Int) from (IntWalk.u64_in _ (by omega)).trans (by omega)] at HF
 refine eu rfl HF (HM.told [5] rfl) rfl (.slice (some ⟨sd, ((i * 40) + 16), none⟩) ((ah * 40) - ((i * 40) + 16)) ((ah * 40) - ((i * 40) + 16))) (by kernel_rfl) (fun w hw => eG (t := 33) Tryd.underlying33 hi0 hs0 rfl ((i * 40) + 16) (kk := .u64) rfl rfl (by omega) (by omega) (by omega) w) ?_
 clear HF; intro a HF; replace HF := HF.sub ((vJ b o n c s fb big ak aj au ah sd i z5 aT) ++ [(904, (aP big)), (905, aH sd (ah * 40) (ah * 40)), (907, aJ ((i * 40) + 16)), sS sd i ah]) (by kernel_rfl)
 replace HF := HF.sub (vI b o n c s fb big ak aj au ah sd i z5 aT) (by kernel_rfl)
 refine bD HF (HM.told [5] rfl) 4 [] ((vI b o n c s fb big ak aj au ah sd i z5 aT) ++ [(911, (aP big)), (912, aH sd (ah * 40) (ah * 40)), (914, bG (IntKind.u64.wrap ((((i * 40) : Nat) : Int) + 20)))]) (by kernel_rfl) ?_
 clear HF; intro a HF
 rw [show IntKind.u64.wrap ((((i * 40) : Nat) : Int) + 20) = ((((i * 40) + 20) : Nat) : Int) from (IntWalk.u64_in _ (by omega)).trans (by omega)] at HF
 refine eu rfl HF (HM.told [5] rfl) rfl (.slice (some ⟨sd, ((i * 40) + 20), none⟩) ((ah * 40) - ((i * 40) + 20)) ((ah * 40) - ((i * 40) + 20))) (by kernel_rfl) (fun w hw => eG (t := 33) Tryd.underlying33 hi0 hs0 rfl ((i * 40) + 20) (kk := .u64) rfl rfl (by omega) (by omega) (by omega) w) ?_
 clear HF; intro a HF; replace HF := HF.sub ((vI b o n c s fb big ak aj au ah sd i z5 aT) ++ [(911, (aP big)), (912, aH sd (ah * 40) (ah * 40)), (914, aJ ((i * 40) + 20)), sQ sd i ah]) (by kernel_rfl)
 replace HF := HF.sub (vH b o n c s fb big ak aj au ah sd i z5 aT) (by kernel_rfl)
 refine bD HF (HM.told [5] rfl) 4 [] ((vH b o n c s fb big ak aj au ah sd i z5 aT) ++ [(918, (aP big)), (919, aH sd (ah * 40) (ah * 40)), (921, bG (IntKind.u64.wrap ((((i * 40) : Nat) : Int) + 24)))]) (by kernel_rfl) ?_
 clear HF; intro a HF
 rw [show IntKind.u64.wrap ((((i * 40) : Nat) : Int) + 24) = ((((i * 40) + 24) : Nat) : Int) from (IntWalk.u64_in _ (by omega)).trans (by omega)] at HF
 refine eu rfl HF (HM.told [5] rfl) rfl (.slice (some ⟨sd, ((i * 40) + 24), none⟩) ((ah * 40) - ((i * 40) + 24)) ((ah * 40) - ((i * 40) + 24))) (by kernel_rfl) (fun w hw => eG (t := 33) Tryd.underlying33 hi0 hs0 rfl ((i * 40) + 24) (kk := .u64) rfl rfl (by omega) (by omega) (by omega) w) ?_
 clear HF; intro a HF; replace HF := HF.sub ((vH b o n c s fb big ak aj au ah sd i z5 aT) ++ [(918, (aP big)), (919, aH sd (ah * 40) (ah * 40)), (921, aJ ((i * 40) + 24)), sO sd i ah]) (by kernel_rfl)
 replace HF := HF.sub (vG b o n c s fb big ak aj au ah sd i z5 aT) (by kernel_rfl)
 refine bD HF (HM.told [5] rfl) 4 [] ((vG b o n c s fb big ak aj au ah sd i z5 aT) ++ [(924, (aP big)), (925, aH sd (ah * 40) (ah * 40)), (927, bG (IntKind.u64.wrap ((((i * 40) : Nat) : Int) + 28)))]) (by kernel_rfl) ?_
 clear HF; intro a HF
 rw [show IntKind.u64.wrap ((((i * 40) : Nat) : Int) + 28) = ((((i * 40) + 28) : Nat) : Int) from (IntWalk.u64_in _ (by omega)).trans (by omega)] at HF
 refine eu rfl HF (HM.told [5] rfl) rfl (.slice (some ⟨sd, ((i * 40) + 28), none⟩) ((ah * 40) - ((i * 40) + 28)) ((ah * 40) - ((i * 40) + 28))) (by kernel_rfl) (fun w hw => eG (t := 33) Tryd.underlying33 hi0 hs0 rfl ((i * 40) + 28) (kk := .u64) rfl rfl (by omega) (by omega) (by omega) w) ?_
 clear HF; intro a HF; replace HF := HF.sub ((vG b o n c s fb big ak aj au ah sd i z5 aT) ++ [(924, (aP big)), (925, aH sd (ah * 40) (ah * 40)), (927, aJ ((i * 40) + 28)), pJ sd i ah]) (by kernel_rfl)
 replace HF := HF.sub (vF b o n c s fb big ak aj au ah sd i z5 aT) (by kernel_rfl)
 refine bD HF (HM.told [5] rfl) 4 [] ((vF b o n c s fb big ak aj au ah sd i z5 aT) ++ [(930, (aP big)), (931, aH sd (ah * 40) (ah * 40)), (933, bG (IntKind.u64.wrap ((((i * 40) : Nat) : Int) + 32)))]) (by kernel_rfl) ?_
 clear HF; intro a HF
 rw [show IntKind.u64.wrap ((((i * 40) : Nat) : Int) + 32) = ((((i * 40) + 32) : Nat) : Int) from (IntWalk.u64_in _ (by omega)).trans (by omega)] at HF
 refine eu rfl HF (HM.told [5] rfl) rfl (.slice (some ⟨sd, ((i * 40) + 32), none⟩) ((ah * 40) - ((i * 40) + 32)) ((ah * 40) - ((i * 40) + 32))) (by kernel_rfl) (fun w hw => eG (t := 33) Tryd.underlying33 hi0 hs0 rfl ((i * 40) + 32) (kk := .u64) rfl rfl (by omega) (by omega) (by omega) w) ?_
 clear HF; intro a HF; replace HF := HF.sub ((vF b o n c s fb big ak aj au ah sd i z5 aT) ++ [(930, (aP big)), (931, aH sd (ah * 40) (ah * 40)), (933, aJ ((i * 40) + 32)), nM sd i ah]) (by kernel_rfl)
 replace HF := HF.sub (sN b o n c s fb big ak aj au ah sd i z5 aT) (by kernel_rfl)
 refine bD HF (HM.told [5] rfl) 4 [] ((sN b o n c s fb big ak aj au ah sd i z5 aT) ++ [(937, (aP big)), (938, aH sd (ah * 40) (ah * 40)), (940, bG (IntKind.u64.wrap ((((i * 40) : Nat) : Int) + 36)))]) (by kernel_rfl) ?_
 clear HF; intro a HF
 rw [show IntKind.u64.wrap ((((i * 40) : Nat) : Int) + 36) = ((((i * 40) + 36) : Nat) : Int) from (IntWalk.u64_in _ (by omega)).trans (by omega)] at HF
 refine eu rfl HF (HM.told [5] rfl) rfl (.slice (some ⟨sd, ((i * 40) + 36), none⟩) ((ah * 40) - ((i * 40) + 36)) ((ah * 40) - ((i * 40) + 36))) (by kernel_rfl) (fun w hw => eG (t := 33) Tryd.underlying33 hi0 hs0 rfl ((i * 40) + 36) (kk := .u64) rfl rfl (by omega) (by omega) (by omega) w) ?_
 clear HF; intro a HF; replace HF := HF.sub ((sN b o n c s fb big ak aj au ah sd i z5 aT) ++ [(937, (aP big)), (938, aH sd (ah * 40) (ah * 40)), (940, aJ ((i * 40) + 36)), lV sd i ah]) (by kernel_rfl)
 replace HF := HF.sub ((sN b o n c s fb big ak aj au ah sd i z5 aT) ++ [(937, (aP big)), lV sd i ah]) (by kernel_rfl)
 refine bQ rfl ?_
 refine bn HF (by kernel_rfl) 87 #[(aP big), .slice (some ⟨sd, ((i * 40) + 4), none⟩) ((ah * 40) - ((i * 40) + 4)) ((ah * 40) - ((i * 40) + 4))] (by kernel_rfl) (fun w => by kernel_rfl) (Calls.mono (jy (HM.get (i := 5) rfl) (by unfold maxLen; omega) big ((i * 40) + 4) ((ah * 40) - ((i * 40) + 4)) (by omega) (by omega) ((v.ty : Nat) : Int) (by rw [LX])) ?_)
 rintro _ w4 ⟨rfl, jF, hq⟩
 replace HM : Mm [fb, aW, aT, sd] W1 w4 [(z9, .cells #[aX v.name] 36 (0, 0)), jW z5, fA fb dat abi aF big aS aG aB aW i ah pg aj, (aW, .cells cur 133 (0, 0)), (aT, .cells fK 36 (0, 0)), (sd, .cells (X.map Bv).toArray 5 (0, 0))] := by rw [hq]; exact HM.drewN _
 clear hq
 refine ⟨_, rfl, ?_⟩; clear HF; intro a HF; replace HF := HF.sub ((sN b o n c s fb big ak aj au ah sd i z5 aT) ++ [(937, (aP big)), lV sd i ah, (890, aX v.ty)]) (by kernel_rfl)
 refine cZ (HM.told [5] rfl) ?_
 replace HF := HF.sub ((eP b o n c s fb big ak aj au ah sd i z5 aT) ++ [(884, aC z5), (891, (aP big)), Az sd i ah, (897, (aP big)), sU sd i ah, (904, (aP big)), sS sd i ah, (911, (aP big)), sQ sd i ah, (918, (aP big)), sO sd i ah, (924, (aP big)), pJ sd i ah, (930, (aP big)), nM sd i ah, (937, (aP big)), lV sd i ah, (890, aX v.ty)]) (by kernel_rfl)
 refine bQ rfl ?_
 refine bn HF (by kernel_rfl) 87 #[(aP big), .slice (some ⟨sd, ((i * 40) + 8), none⟩) ((ah * 40) - ((i * 40) + 8)) ((ah * 40) - ((i * 40) + 8))] (by kernel_rfl) (fun w => by kernel_rfl) (Calls.mono (jy (HM.get (i := 5) rfl) (by unfold maxLen; omega) big ((i * 40) + 8) ((ah * 40) - ((i * 40) + 8)) (by omega) (by omega) ((v.flags : Nat) : Int) (by rw [Ef])) ?_)
 rintro _ w5 ⟨rfl, jF, hq⟩
 replace HM : Mm [fb, aW, aT, sd] W1 w5 [(z9, .cells #[aX v.name] 36 (0, 0)), jW z5, fA fb dat abi aF big aS aG aB aW i ah pg aj, (aW, .cells cur 133 (0, 0)), (aT, .cells fK 36 (0, 0)), (sd, .cells (X.map Bv).toArray 5 (0, 0))] := by rw [hq]; exact HM.drewN _
 clear hq
 refine ⟨_, rfl, ?_⟩; clear HF; intro a HF; replace HF := HF.sub ((eP b o n c s fb big ak aj au ah sd i z5 aT) ++ [(884, aC z5), (891, (aP big)), Az sd i ah, (897, (aP big)), sU sd i ah, (904, (aP big)), sS sd i ah, (911, (aP big)), sQ sd i ah, (918, (aP big)), sO sd i ah, (924, (aP big)), pJ sd i ah, (930, (aP big)), nM sd i ah, (937, (aP big)), lV sd i ah, (890, aX v.ty), (896, aX v.flags)]) (by kernel_rfl)
 refine cZ (HM.told [5] rfl) ?_
 replace HF := HF.sub ((eP b o n c s fb big ak aj au ah sd i z5 aT) ++ [(884, aC z5), (897, (aP big)), sU sd i ah, (904, (aP big)), sS sd i ah, (911, (aP big)), sQ sd i ah, (918, (aP big)), sO sd i ah, (924, (aP big)), pJ sd i ah, (930, (aP big)), nM sd i ah, (937, (aP big)), lV sd i ah, (890, aX v.ty), (896, aX v.flags)]) (by kernel_rfl)
 refine bQ rfl ?_
 refine bn HF (by kernel_rfl) 87 #[(aP big), .slice (some ⟨sd, ((i * 40) + 12), none⟩) ((ah * 40) - ((i * 40) + 12)) ((ah * 40) - ((i * 40) + 12))] (by kernel_rfl) (fun w => by kernel_rfl) (Calls.mono (jy (HM.get (i := 5) rfl) (by unfold maxLen; omega) big ((i * 40) + 12) ((ah * 40) - ((i * 40) + 12)) (by omega) (by omega) ((v.addr : Nat) : Int) (by rw [GY])) ?_)
 rintro _ w6 ⟨rfl, jF, hq⟩
 replace HM : Mm [fb, aW, aT, sd] W1 w6 [(z9, .cells #[aX v.name] 36 (0, 0)), jW z5, fA fb dat abi aF big aS aG aB aW i ah pg aj, (aW, .cells cur 133 (0, 0)), (aT, .cells fK 36 (0, 0)), (sd, .cells (X.map Bv).toArray 5 (0, 0))] := by rw [hq]; exact HM.drewN _
 clear hq
 refine ⟨_, rfl, ?_⟩; clear HF; intro a HF; replace HF := HF.sub ((eP b o n c s fb big ak aj au ah sd i z5 aT) ++ [(884, aC z5), (897, (aP big)), sU sd i ah, (904, (aP big)), sS sd i ah, (911, (aP big)), sQ sd i ah, (918, (aP big)), sO sd i ah, (924, (aP big)), pJ sd i ah, (930, (aP big)), nM sd i ah, (937, (aP big)), lV sd i ah, (890, aX v.ty), (896, aX v.flags), (902, aX v.addr)]) (by kernel_rfl)
 refine cZ (HM.told [5] rfl) ?_
 replace HF := HF.sub ((zl b o n c s fb big ak aj au ah sd i z5 aT v) ++ [(902, aX v.addr)]) (by kernel_rfl)
 refine bD HF (HM.told [5] rfl) 1 [] ((zl b o n c s fb big ak aj au ah sd i z5 aT v) ++ [(903, bG (IntKind.u64.wrap ((v.addr : Nat) : Int)))]) (by kernel_rfl) ?_
 clear HF; intro a HF
 rw [show IntKind.u64.wrap ((v.addr : Nat) : Int) = ((v.addr : Nat) : Int) from IntWalk.u64_in _ (by omega)] at HF
 refine bQ rfl ?_
 refine bn HF (by kernel_rfl) 87 #[(aP big), .slice (some ⟨sd, ((i * 40) + 16), none⟩) ((ah * 40) - ((i * 40) + 16)) ((ah * 40) - ((i * 40) + 16))] (by kernel_rfl) (fun w => by kernel_rfl) (Calls.mono (jy (HM.get (i := 5) rfl) (by unfold maxLen; omega) big ((i * 40) + 16) ((ah * 40) - ((i * 40) + 16)) (by omega) (by omega) ((v.off : Nat) : Int) (by rw [Jy])) ?_)
 rintro _ w7 ⟨rfl, jF, hq⟩
 replace HM : Mm [fb, aW, aT, sd] W1 w7 [(z9, .cells #[aX v.name] 36 (0, 0)), jW z5, fA fb dat abi aF big aS aG aB aW i ah pg aj, (aW, .cells cur 133 (0, 0)), (aT, .cells fK 36 (0, 0)), (sd, .cells (X.map Bv).toArray 5 (0, 0))] := by rw [hq]; exact HM.drewN _
 clear hq
 refine ⟨_, rfl, ?_⟩; clear HF; intro a HF; replace HF := HF.sub ((zl b o n c s fb big ak aj au ah sd i z5 aT v) ++ [(903, aJ v.addr), (909, aX v.off)]) (by kernel_rfl)
 refine cZ (HM.told [5] rfl) ?_
 replace HF := HF.sub ((zk b o n c s fb big ak aj au ah sd i z5 aT v) ++ [(909, aX v.off)]) (by kernel_rfl)
 refine bD HF (HM.told [5] rfl) 1 [] ((zk b o n c s fb big ak aj au ah sd i z5 aT v) ++ [(910, bG (IntKind.u64.wrap ((v.off : Nat) : Int)))]) (by kernel_rfl) ?_
 clear HF; intro a HF
 rw [show IntKind.u64.wrap ((v.off : Nat) : Int) = ((v.off : Nat) : Int) from IntWalk.u64_in _ (by omega)] at HF
 refine bQ rfl ?_
 refine bn HF (by kernel_rfl) 87 #[(aP big), .slice (some ⟨sd, ((i * 40) + 20), none⟩) ((ah * 40) - ((i * 40) + 20)) ((ah * 40) - ((i * 40) + 20))] (by kernel_rfl) (fun w => by kernel_rfl) (Calls.mono (jy (HM.get (i := 5) rfl) (by unfold maxLen; omega) big ((i * 40) + 20) ((ah * 40) - ((i * 40) + 20)) (by omega) (by omega) ((v.bH : Nat) : Int) (by rw [Jz])) ?_)
 rintro _ w8 ⟨rfl, jF, hq⟩
 replace HM : Mm [fb, aW, aT, sd] W1 w8 [(z9, .cells #[aX v.name] 36 (0, 0)), jW z5, fA fb dat abi aF big aS aG aB aW i ah pg aj, (aW, .cells cur 133 (0, 0)), (aT, .cells fK 36 (0, 0)), (sd, .cells (X.map Bv).toArray 5 (0, 0))] := by rw [hq]; exact HM.drewN _
 clear hq
 refine ⟨_, rfl, ?_⟩; clear HF; intro a HF; replace HF := HF.sub ((zk b o n c s fb big ak aj au ah sd i z5 aT v) ++ [(910, aJ v.off), (916, aX v.bH)]) (by kernel_rfl)
 refine cZ (HM.told [5] rfl) ?_
 replace HF := HF.sub ((zi b o n c s fb big ak aj au ah sd i z5 aT v) ++ [(916, aX v.bH)]) (by kernel_rfl)
 refine bD HF (HM.told [5] rfl) 1 [] ((zi b o n c s fb big ak aj au ah sd i z5 aT v) ++ [(917, bG (IntKind.u64.wrap ((v.bH : Nat) : Int)))]) (by kernel_rfl) ?_
 clear HF; intro a HF
 rw [show IntKind.u64.wrap ((v.bH : Nat) : Int) = ((v.bH : Nat) : Int) from IntWalk.u64_in _ (by omega)] at HF
 refine bQ rfl ?_
 refine bn HF (by kernel_rfl) 87 #[(aP big), .slice (some ⟨sd, ((i * 40) + 24), none⟩) ((ah * 40) - ((i * 40) + 24)) ((ah * 40) - ((i * 40) + 24))] (by kernel_rfl) (fun w => by kernel_rfl) (Calls.mono (jy (HM.get (i := 5) rfl) (by unfold maxLen; omega) big ((i * 40) + 24) ((ah * 40) - ((i * 40) + 24)) (by omega) (by omega) ((v.link : Nat) : Int) (by rw [GV])) ?_)
 rintro _ w9 ⟨rfl, jF, hq⟩
 replace HM : Mm [fb, aW, aT, sd] W1 w9 [(z9, .cells #[aX v.name] 36 (0, 0)), jW z5, fA fb dat abi aF big aS aG aB aW i ah pg aj, (aW, .cells cur 133 (0, 0)), (aT, .cells fK 36 (0, 0)), (sd, .cells (X.map Bv).toArray 5 (0, 0))] := by rw [hq]; exact HM.drewN _
 clear hq
 refine ⟨_, rfl, ?_⟩; clear HF; intro a HF; replace HF := HF.sub ((zi b o n c s fb big ak aj au ah sd i z5 aT v) ++ [(917, aJ v.bH), (923, aX v.link)]) (by kernel_rfl)
 refine cZ (HM.told [5] rfl) ?_
 replace HF := HF.sub ((eP b o n c s fb big ak aj au ah sd i z5 aT) ++ [(884, aC z5), (924, (aP big)), pJ sd i ah, (930, (aP big)), nM sd i ah, (937, (aP big)), lV sd i ah, (890, aX v.ty), (896, aX v.flags), (903, aJ v.addr), (910, aJ v.off), (917, aJ v.bH), (923, aX v.link)]) (by kernel_rfl)
 refine bQ rfl ?_
 refine bn HF (by kernel_rfl) 87 #[(aP big), .slice (some ⟨sd, ((i * 40) + 28), none⟩) ((ah * 40) - ((i * 40) + 28)) ((ah * 40) - ((i * 40) + 28))] (by kernel_rfl) (fun w => by kernel_rfl) (Calls.mono (jy (HM.get (i := 5) rfl) (by unfold maxLen; omega) big ((i * 40) + 28) ((ah * 40) - ((i * 40) + 28)) (by omega) (by omega) ((v.info : Nat) : Int) (by rw [GX])) ?_)
 rintro _ w10 ⟨rfl, jF, hq⟩
 replace HM : Mm [fb, aW, aT, sd] W1 w10 [(z9, .cells #[aX v.name] 36 (0, 0)), jW z5, fA fb dat abi aF big aS aG aB aW i ah pg aj, (aW, .cells cur 133 (0, 0)), (aT, .cells fK 36 (0, 0)), (sd, .cells (X.map Bv).toArray 5 (0, 0))] := by rw [hq]; exact HM.drewN _
 clear hq
 refine ⟨_, rfl, ?_⟩; clear HF; intro a HF; replace HF := HF.sub ((eP b o n c s fb big ak aj au ah sd i z5 aT) ++ [(884, aC z5), (924, (aP big)), pJ sd i ah, (930, (aP big)), nM sd i ah, (937, (aP big)), lV sd i ah, (890, aX v.ty), (896, aX v.flags), (903, aJ v.addr), (910, aJ v.off), (917, aJ v.bH), (923, aX v.link), (929, aX v.info)]) (by kernel_rfl)
 refine cZ (HM.told [5] rfl) ?_
 replace HF := HF.sub ((eP b o n c s fb big ak aj au ah sd i z5 aT) ++ [(884, aC z5), (930, (aP big)), nM sd i ah, (937, (aP big)), lV sd i ah, (890, aX v.ty), (896, aX v.flags), (903, aJ v.addr), (910, aJ v.off), (917, aJ v.bH), (923, aX v.link), (929, aX v.info)]) (by kernel_rfl)
 refine bQ rfl ?_
 refine bn HF (by kernel_rfl) 87 #[(aP big), .slice (some ⟨sd, ((i * 40) + 32), none⟩) ((ah * 40) - ((i * 40) + 32)) ((ah * 40) - ((i * 40) + 32))] (by kernel_rfl) (fun w => by kernel_rfl) (Calls.mono (jy (HM.get (i := 5) rfl) (by unfold maxLen; omega) big ((i * 40) + 32) ((ah * 40) - ((i * 40) + 32)) (by omega) (by omega) ((v.align : Nat) : Int) (by rw [Eh])) ?_)
 rintro _ rZ ⟨rfl, jF, hq⟩
 replace HM : Mm [fb, aW, aT, sd] W1 rZ [(z9, .cells #[aX v.name] 36 (0, 0)), jW z5, fA fb dat abi aF big aS aG aB aW i ah pg aj, (aW, .cells cur 133 (0, 0)), (aT, .cells fK 36 (0, 0)), (sd, .cells (X.map Bv).toArray 5 (0, 0))] := by rw [hq]; exact HM.drewN _
 clear hq
 refine ⟨_, rfl, ?_⟩; clear HF; intro a HF; replace HF := HF.sub ((eP b o n c s fb big ak aj au ah sd i z5 aT) ++ [(884, aC z5), (930, (aP big)), nM sd i ah, (937, (aP big)), lV sd i ah, (890, aX v.ty), (896, aX v.flags), (903, aJ v.addr), (910, aJ v.off), (917, aJ v.bH), (923, aX v.link), (929, aX v.info), (935, aX v.align)]) (by kernel_rfl)
 refine cZ (HM.told [5] rfl) ?_
 replace HF := HF.sub ((zh b o n c s fb big ak aj au ah sd i z5 aT v) ++ [(935, aX v.align)]) (by kernel_rfl)
 refine bD HF (HM.told [5] rfl) 1 [] ((zh b o n c s fb big ak aj au ah sd i z5 aT v) ++ [(936, bG (IntKind.u64.wrap ((v.align : Nat) : Int)))]) (by kernel_rfl) ?_
 clear HF; intro a HF
 rw [show IntKind.u64.wrap ((v.align : Nat) : Int) = ((v.align : Nat) : Int) from IntWalk.u64_in _ (by omega)] at HF
 refine bQ rfl ?_
 refine bn HF (by kernel_rfl) 87 #[(aP big), .slice (some ⟨sd, ((i * 40) + 36), none⟩) ((ah * 40) - ((i * 40) + 36)) ((ah * 40) - ((i * 40) + 36))] (by kernel_rfl) (fun w => by kernel_rfl) (Calls.mono (jy (HM.get (i := 5) rfl) (by unfold maxLen; omega) big ((i * 40) + 36) ((ah * 40) - ((i * 40) + 36)) (by omega) (by omega) ((v.ent : Nat) : Int) (by rw [JA])) ?_)
 rintro _ w12 ⟨rfl, jF, hq⟩
 replace HM : Mm [fb, aW, aT, sd] W1 w12 [(z9, .cells #[aX v.name] 36 (0, 0)), jW z5, fA fb dat abi aF big aS aG aB aW i ah pg aj, (aW, .cells cur 133 (0, 0)), (aT, .cells fK 36 (0, 0)), (sd, .cells (X.map Bv).toArray 5 (0, 0))] := by rw [hq]; exact HM.drewN _
 clear hq
 refine ⟨_, rfl, ?_⟩; clear HF; intro a HF; replace HF := HF.sub ((zh b o n c s fb big ak aj au ah sd i z5 aT v) ++ [(936, aJ v.align), (942, aX v.ent)]) (by kernel_rfl)
 refine cZ (HM.told [5] rfl) ?_
 replace HF := HF.sub ((yZ b o n c s fb big ak aj au ah sd i z5 aT v) ++ [(942, aX v.ent)]) (by kernel_rfl)
 refine bD HF (HM.told [5] rfl) 1 [] ((yZ b o n c s fb big ak aj au ah sd i z5 aT v) ++ [(943, bG (IntKind.u64.wrap ((v.ent : Nat) : Int)))]) (by kernel_rfl) ?_
 clear HF; intro a HF
 rw [show IntKind.u64.wrap ((v.ent : Nat) : Int) = ((v.ent : Nat) : Int) from IntWalk.u64_in _ (by omega)] at HF
 refine bD HF (HM.told [5] rfl) 3 [] ((yZ b o n c s fb big ak aj au ah sd i z5 aT v) ++ [(943, aJ v.ent), DI v, (946, aC z5)]) (by kernel_rfl) ?_
 clear HF; intro a HF
 replace HF := HF.sub ((eP b o n c s fb big ak aj au ah sd i z5 aT) ++ [DI v, (946, aC z5)]) (by kernel_rfl)
 refine bQ rfl ?_
 refine aO HF HM rfl 1 [[4, 4, 4, 4, 4, 4, 4, 4, 4, 4, 4]] (eP b o n c s fb big ak aj au ah sd i z5 aT) [(z9, .cells #[aX v.name] 36 (0, 0)), qQ z5 v, fA fb dat abi aF big aS aG aB aW i ah pg aj, (aW, .cells cur 133 (0, 0)), (aT, .cells fK 36 (0, 0)), (sd, .cells (X.map Bv).toArray 5 (0, 0))] (by kernel_rfl) ?_
 clear HF HM; intro a w HF HM
 refine cZ (HM.told [5] rfl) ?_
 refine iP ?_
 repeat (first | refine aQ ?_ | refine aU ?_)
 refine wp_seq ?_
 refine wp_seq (wp_region_lit ?_)
 refine aO HF HM rfl 6 [[4]] ((eP b o n c s fb big ak aj au ah sd i z5 aT) ++ [(1022, ay (IntKind.i64.wrap ((v.off : Nat) : Int)))]) [(z9, .cells #[aX v.name] 36 (0, 0)), qQ z5 v, fA fb dat abi aF big aS aG aB aW i ah pg aj, (aW, .cells cur 133 (0, 0)), (aT, .cells fK 36 (0, 0)), (sd, .cells (X.map Bv).toArray 5 (0, 0))] (by kernel_rfl) ?_
 clear HF HM; intro a w HF HM
 rw [show IntKind.i64.wrap ((v.off : Nat) : Int) = ((v.off : Nat) : Int) from IntWalk.i64_in _ (by omega)] at HF
 refine aO HF HM rfl 1 [] ((eP b o n c s fb big ak aj au ah sd i z5 aT) ++ [(1023, .bool (decide (((v.off : Nat) : Int) < 0)))]) [(z9, .cells #[aX v.name] 36 (0, 0)), qQ z5 v, fA fb dat abi aF big aS aG aB aW i ah pg aj, (aW, .cells cur 133 (0, 0)), (aT, .cells fK 36 (0, 0)), (sd, .cells (X.map Bv).toArray 5 (0, 0))] (by kernel_rfl) ?_
 clear HF HM; intro a w HF HM
 rw [show decide (((v.off : Nat) : Int) < 0) = false from dI (by omega)] at HF
 refine aI ?_
 refine aZ HF rfl ?_
 refine wp_skip ?_
 repeat (first | refine aQ ?_ | refine aU ?_)
 replace HF := HF.sub (eP b o n c s fb big ak aj au ah sd i z5 aT) (by kernel_rfl)
 refine wp_seq ?_
 refine wp_seq (wp_region_lit ?_)
 refine aO HF HM rfl 6 [[4]] ((eP b o n c s fb big ak aj au ah sd i z5 aT) ++ [(1043, ay (IntKind.i64.wrap ((v.bH : Nat) : Int)))]) [(z9, .cells #[aX v.name] 36 (0, 0)), qQ z5 v, fA fb dat abi aF big aS aG aB aW i ah pg aj, (aW, .cells cur 133 (0, 0)), (aT, .cells fK 36 (0, 0)), (sd, .cells (X.map Bv).toArray 5 (0, 0))] (by kernel_rfl) ?_
 clear HF HM; intro a w HF HM
 rw [show IntKind.i64.wrap ((v.bH : Nat) : Int) = ((v.bH : Nat) : Int) from IntWalk.i64_in _ (by omega)] at HF
 refine aO HF HM rfl 1 [] ((eP b o n c s fb big ak aj au ah sd i z5 aT) ++ [(1044, .bool (decide (((v.bH : Nat) : Int) < 0)))]) [(z9, .cells #[aX v.name] 36 (0, 0)), qQ z5 v, fA fb dat abi aF big aS aG aB aW i ah pg aj, (aW, .cells cur 133 (0, 0)), (aT, .cells fK 36 (0, 0)), (sd, .cells (X.map Bv).toArray 5 (0, 0))] (by kernel_rfl) ?_
 clear HF HM; intro a w HF HM
 rw [show decide (((v.bH : Nat) : Int) < 0) = false from dI (by omega)] at HF
 refine aI ?_
 refine aZ HF rfl ?_
 refine wp_skip ?_
 repeat (first | refine aQ ?_ | refine aU ?_)
 replace HF := HF.sub (eP b o n c s fb big ak aj au ah sd i z5 aT) (by kernel_rfl)
 refine w_ HM (by kernel_rfl) (fun w => w.cell? ⟨z5, 4, none⟩ = some (aJ v.off) ∧ w.cell? ⟨z5, 10, none⟩ = some (aJ v.bH)) [(0, false), (1, false), (2, false), (3, false), (4, false), (5, false), (6, false), (7, false), (8, false), (9, false), (10, false), (11, false), (12, false), (13, false), (14, true), (15, false), (16, false), (17, true)] (by kernel_rfl) ?_
 clear HM; intro wE HM
 refine jl (LS := []) (fun _ _ => jM _) HF ⟨HM.cellAt (i := 1) (k := 4) rfl rfl, HM.cellAt (i := 1) (k := 10) rfl rfl⟩ 6 [] ((pI b o n c s fb big ak aj au ah sd i z5 aT) ++ [(1064, .pointer (some ⟨z5, 4, none⟩))]) (by kernel_rfl) ?_
 clear HF; intro a HF
 refine o7 rfl HF ⟨HM.cellAt (i := 1) (k := 4) rfl rfl, HM.cellAt (i := 1) (k := 10) rfl rfl⟩ rfl (aJ v.off) (by kernel_rfl) (fun w hw => iE rfl rfl (by kernel_rfl) hw.1) ?_
 clear HF; intro a HF; replace HF := HF.sub ((pI b o n c s fb big ak aj au ah sd i z5 aT) ++ [(1064, .pointer (some ⟨z5, 4, none⟩)), (1065, aJ v.off)]) (by kernel_rfl)
 refine jl (LS := []) (fun _ _ => jM _) HF ⟨HM.cellAt (i := 1) (k := 4) rfl rfl, HM.cellAt (i := 1) (k := 10) rfl rfl⟩ 1 [] ((pI b o n c s fb big ak aj au ah sd i z5 aT) ++ [(1066, ay (IntKind.i64.wrap ((v.off : Nat) : Int)))]) (by kernel_rfl) ?_
 clear HF; intro a HF
 rw [show IntKind.i64.wrap ((v.off : Nat) : Int) = ((v.off : Nat) : Int) from IntWalk.i64_in _ (by omega)] at HF
 refine jl (LS := []) (fun _ _ => jM _) HF ⟨HM.cellAt (i := 1) (k := 4) rfl rfl, HM.cellAt (i := 1) (k := 10) rfl rfl⟩ 4 [] ((pI b o n c s fb big ak aj au ah sd i z5 aT) ++ [(1066, aA v.off), (1070, .pointer (some ⟨z5, 10, none⟩))]) (by kernel_rfl) ?_
 clear HF; intro a HF
 refine o7 rfl HF ⟨HM.cellAt (i := 1) (k := 4) rfl rfl, HM.cellAt (i := 1) (k := 10) rfl rfl⟩ rfl (aJ v.bH) (by kernel_rfl) (fun w hw => iE rfl rfl (by kernel_rfl) hw.2) ?_
 clear HF; intro a HF; replace HF := HF.sub ((pI b o n c s fb big ak aj au ah sd i z5 aT) ++ [(1066, aA v.off), (1070, .pointer (some ⟨z5, 10, none⟩)), (1071, aJ v.bH)]) (by kernel_rfl)
 refine jl (LS := []) (fun _ _ => jM _) HF ⟨HM.cellAt (i := 1) (k := 4) rfl rfl, HM.cellAt (i := 1) (k := 10) rfl rfl⟩ 1 [] ((pI b o n c s fb big ak aj au ah sd i z5 aT) ++ [(1066, aA v.off), (1072, ay (IntKind.i64.wrap ((v.bH : Nat) : Int)))]) (by kernel_rfl) ?_
 clear HF; intro a HF
 rw [show IntKind.i64.wrap ((v.bH : Nat) : Int) = ((v.bH : Nat) : Int) from IntWalk.i64_in _ (by omega)] at HF
 refine nS rfl ?_
 refine bn HF (by kernel_rfl) 92 #[.iface 178 (.slice (some ⟨b, o, none⟩) n c), aA v.off, aA v.bH] (by kernel_rfl) (fun w => by kernel_rfl) (Calls.mono (nX 178 (.slice (some ⟨b, o, none⟩) n c) ((v.off : Nat) : Int) ((v.bH : Nat) : Int) (by omega) (by omega) (by omega) wE) ?_)
 rintro _ zU ⟨sb, rfl, hb, hge, hgn⟩
 replace HM : Mm [fb, aW, aT, sd] W1 zU [mV sb b o n c v, (z9, .cells #[aX v.name] 36 (0, 0)), qQ z5 v, fA fb dat abi aF big aS aG aB aW i ah pg aj, (aW, .cells cur 133 (0, 0)), (aT, .cells fK 36 (0, 0)), (sd, .cells (X.map Bv).toArray 5 (0, 0))] := HM.push hb hge hgn
 clear hb hge hgn
 refine ⟨_, rfl, ?_⟩; clear HF; intro a HF; replace HF := HF.sub ((pI b o n c s fb big ak aj au ah sd i z5 aT) ++ [(1066, aA v.off), (1072, aA v.bH), (1073, aC sb)]) (by kernel_rfl)
 refine o8 ⟨HM.cellAt (i := 2) (k := 4) rfl rfl, HM.cellAt (i := 2) (k := 10) rfl rfl⟩ ?_
 refine jl (LS := []) (fun _ _ => jM _) HF ⟨HM.cellAt (i := 2) (k := 4) rfl rfl, HM.cellAt (i := 2) (k := 10) rfl rfl⟩ 2 [] ((eP b o n c s fb big ak aj au ah sd i z5 aT) ++ [(1073, aC sb), (1075, .pointer (some ⟨z5, 12, none⟩))]) (by kernel_rfl) ?_
 clear HF; intro a HF
 refine nS rfl ?_
 refine aO HF HM rfl 1 [[4]] (eP b o n c s fb big ak aj au ah sd i z5 aT) [mV sb b o n c v, (z9, .cells #[aX v.name] 36 (0, 0)), DJ z5 v sb, fA fb dat abi aF big aS aG aB aW i ah pg aj, (aW, .cells cur 133 (0, 0)), (aT, .cells fK 36 (0, 0)), (sd, .cells (X.map Bv).toArray 5 (0, 0))] (by kernel_rfl) ?_
 clear HF HM; intro a w HF HM
 refine o8 ⟨HM.cellAt (i := 2) (k := 4) rfl rfl, HM.cellAt (i := 2) (k := 10) rfl rfl⟩ ?_
 refine xg (aQ ?_)
 refine wp_seq ?_
 refine wp_seq (wp_region_lit ?_)
 refine aO HF HM rfl 7 [[4]] [(0, .iface 178 (.slice (some ⟨b, o, none⟩) n c)), (4, aC s), (8, aC fb), (9, (aP big)), (10, aA ak), (11, ay 32), (12, aA aj), (13, aA au), (14, ay 40), (15, aA ah), (16, aA (ah - 1)), (26, ay 40), (42, aH sd (ah * 40) (ah * 40)), (43, aA i), (44, aJ (i * 40)), (45, aC z5), (41, aH aT (i + 1) ah), (1082, .bool (oC ((v.flags : Nat) : Int) 2048 == 0))] [mV sb b o n c v, (z9, .cells #[aX v.name] 36 (0, 0)), DJ z5 v sb, fA fb dat abi aF big aS aG aB aW i ah pg aj, (aW, .cells cur 133 (0, 0)), (aT, .cells fK 36 (0, 0)), (sd, .cells (X.map Bv).toArray 5 (0, 0))] (by kernel_rfl) ?_
 clear HF HM; intro a w HF HM
 rw [v9] at HF
 refine aI ?_
 refine bF HF rfl ?_
 replace HF := HF.sub (eP b o n c s fb big ak aj au ah sd i z5 aT) (by kernel_rfl)
 refine bC HF HM rfl [[4], [4]] (eP b o n c s fb big ak aj au ah sd i z5 aT) [mV sb b o n c v, (z9, .cells #[aX v.name] 36 (0, 0)), (z5, .cells #[.string ⟨#[]⟩, aX (v).ty, aX (v).flags, aJ (v).addr, aJ (v).off, bG 0, aX (v).link, aX (v).info, aJ (v).align, aJ (v).ent, aJ (v).bH, .iface 144 (aC sb), aC sb, ay 0, ay 0] 153 (0, 0)), fA fb dat abi aF big aS aG aB aW i ah pg aj, (aW, .cells cur 133 (0, 0)), (aT, .cells fK 36 (0, 0)), (sd, .cells (X.map Bv).toArray 5 (0, 0))] (by kernel_rfl) ?_
 clear HF HM; intro a w HF HM
 refine nD HF HM rfl [[4], [4]] (eP b o n c s fb big ak aj au ah sd i z5 aT) [mV sb b o n c v, (z9, .cells #[aX v.name] 36 (0, 0)), qP z5 v sb, fA fb dat abi aF big aS aG aB aW i ah pg aj, (aW, .cells cur 133 (0, 0)), (aT, .cells fK 36 (0, 0)), (sd, .cells (X.map Bv).toArray 5 (0, 0))] (by kernel_rfl) ?_
 clear HF HM; intro a w HF HM
 repeat (first | refine aQ ?_ | refine aU ?_)
 refine wp_region_lit ?_
 obtain ⟨z20, hz20⟩ : ∃ z, w.heap.size = z := ⟨_, rfl⟩
 refine aO HF HM hz20 7 [[3]] ((eP b o n c s fb big ak aj au ah sd i z5 aT) ++ [(1191, aC fb), (1195, aH aW i ah), (1197, aH z20 1 1)]) [(z20, .cells #[aC z5] 133 (0, 0)), mV sb b o n c v, (z9, .cells #[aX v.name] 36 (0, 0)), qP z5 v sb, fA fb dat abi aF big aS aG aB aW i ah pg aj, (aW, .cells cur 133 (0, 0)), (aT, .cells fK 36 (0, 0)), (sd, .cells (X.map Bv).toArray 5 (0, 0))] (by kernel_rfl) ?_
 clear HF HM hz20; intro a w HF HM
 refine oP HF HM rfl _ _ 126 rfl rfl 133 (.pointer none) 8 Tryd.underlying126 yD 5 0 aW _ i ah cur _ _ rfl hcs (by omega) (by unfold maxLen; omega) rfl rfl rfl rfl ?_
 intro a2 Cm cur' hcs' htk bU HF2; clear HF HM; have HM : Mm [fb, aW, aT, sd] W1 Cm [(z20, .cells #[aC z5] 133 (0, 0)), mV sb b o n c v, (z9, .cells #[aX v.name] 36 (0, 0)), qP z5 v sb, fA fb dat abi aF big aS aG aB aW i ah pg aj, (aW, .cells cur' 133 (0, 0)), (aT, .cells fK 36 (0, 0)), (sd, .cells (X.map Bv).toArray 5 (0, 0))] := bU; have HF := HF2; clear bU HF2
 replace HF := HF.sub ((eP b o n c s fb big ak aj au ah sd i z5 aT) ++ [(1191, aC fb), (1198, aH aW (i + 1) ah)]) (by kernel_rfl)
 refine aO HF HM rfl 3 [[3]] (eP b o n c s fb big ak aj au ah sd i z5 aT) [(z20, .cells #[aC z5] 133 (0, 0)), mV sb b o n c v, (z9, .cells #[aX v.name] 36 (0, 0)), qP z5 v sb, xB fb dat abi aF big aS aG aB aW i ah pg aj, (aW, .cells cur' 133 (0, 0)), (aT, .cells fK 36 (0, 0)), (sd, .cells (X.map Bv).toArray 5 (0, 0))] (by kernel_rfl) ?_
 clear HF HM; intro a w HF HM
 refine wpList_nil ?_
 repeat (first | refine aQ ?_ | refine aU ?_)
 refine wp_region_lit ?_
 refine aO HF HM rfl 2 [] ((eP b o n c s fb big ak aj au ah sd i z5 aT) ++ [(861, ay (IntKind.i64.wrap (((i : Nat) : Int) + 1)))]) [(z20, .cells #[aC z5] 133 (0, 0)), mV sb b o n c v, (z9, .cells #[aX v.name] 36 (0, 0)), qP z5 v sb, xB fb dat abi aF big aS aG aB aW i ah pg aj, (aW, .cells cur' 133 (0, 0)), (aT, .cells fK 36 (0, 0)), (sd, .cells (X.map Bv).toArray 5 (0, 0))] (by kernel_rfl) ?_
 clear HF HM; intro a w HF HM
 rw [show IntKind.i64.wrap (((i : Nat) : Int) + 1) = (((i + 1) : Nat) : Int) from (IntWalk.i64_in _ (by omega)).trans (by omega)] at HF
 refine aO HF HM rfl 1 [] ((xA b o n c s fb big ak aj au ah) ++ [(42, aH sd (ah * 40) (ah * 40)), (44, aJ (i * 40)), (45, aC z5), (41, aH aT (i + 1) ah), (43, aA (i + 1))]) [(z20, .cells #[aC z5] 133 (0, 0)), mV sb b o n c v, (z9, .cells #[aX v.name] 36 (0, 0)), qP z5 v sb, xB fb dat abi aF big aS aG aB aW i ah pg aj, (aW, .cells cur' 133 (0, 0)), (aT, .cells fK 36 (0, 0)), (sd, .cells (X.map Bv).toArray 5 (0, 0))] (by kernel_rfl) ?_
 clear HF HM; intro a w HF HM
 refine wpList_nil ?_
 repeat (first | refine aQ ?_ | refine aU ?_)
 replace HF := HF.sub ((xA b o n c s fb big ak aj au ah) ++ [(41, aH aT (i + 1) ah), (42, aH sd (ah * 40) (ah * 40)), (43, aA (i + 1))]) (by kernel_rfl)
 exact K a w z5 sb cur' fK hcs' Df htk htn HF (HM.sub (List.Sublist.cons _ (List.Sublist.cons_cons _ (List.Sublist.cons _ (List.Sublist.refl _)))))

abbrev eH := fun (fb : Nat) (dat : Int) (abi : Nat) (aF : Nat) (big : Bool) (aS : Nat) (aG : Nat) (aB : Nat) (aW : Nat) (i : Nat) (ah : Nat) (pg : Nat) (aj : Nat) => ((fb, .cells #[aK 2, .int .u8 dat, aK 1, aV abi, aV aF, (aP big), bf aS, bf aG, aJ aB, aH aW i ah, aH pg aj aj, aN, aN, aN] 131 (0, 0)) : Nat × Obj)
abbrev kG := fun (b : Nat) (o : Nat) (n : Nat) (c : Nat) (s : Nat) (fb : Nat) (big : Bool) (ak : Nat) (aj : Nat) (au : Nat) (ah : Nat) (aT : Nat) (i : Nat) (sd : Nat) => ([(0, .iface 178 (.slice (some ⟨b, o, none⟩) n c)), (4, aC s), (8, aC fb), (9, (aP big)), (10, aA ak), (11, ay 56), (12, aA aj), (13, aA au), (14, ay 64), (15, aA ah), (16, aA (ah - 1)), (26, ay 64), (41, aH aT i ah), (42, aH sd (ah * 64) (ah * 64)), (43, aA i)] : Slots)
abbrev xu := fun (fb : Nat) (dat : Int) (abi : Nat) (aF : Nat) (big : Bool) (aS : Nat) (aG : Nat) (aB : Nat) (aW : Nat) (i : Nat) (ah : Nat) (pg : Nat) (aj : Nat) => ((fb, .cells #[aK 2, .int .u8 dat, aK 1, aV abi, aV aF, (aP big), bf aS, bf aG, aJ aB, aH aW (i + 1) ah, aH pg aj aj, aN, aN, aN] 131 (0, 0)) : Nat × Obj)
abbrev mQ := fun sb (b : Nat) (o : Nat) (n : Nat) (c : Nat) (v : iM) => ((sb, .cells #[.iface 178 (.slice (some ⟨b, o, none⟩) n c), aA v.off, aA v.off, ay (((v.bH : Nat) : Int) + ((v.off : Nat) : Int)), aA v.bH] 246 (0, 0)) : Nat × Obj)
abbrev xq := fun (b : Nat) (o : Nat) (n : Nat) (c : Nat) (s : Nat) (fb : Nat) (big : Bool) (ak : Nat) (aj : Nat) (au : Nat) (ah : Nat) => ([(0, .iface 178 (.slice (some ⟨b, o, none⟩) n c)), (4, aC s), (8, aC fb), (9, (aP big)), (10, aA ak), (11, ay 56), (12, aA aj), (13, aA au), (14, ay 64), (15, aA ah), (16, aA (ah - 1)), (26, ay 64)] : Slots)
abbrev jK := fun z5 => ((z5, .cells #[.string ⟨#[]⟩, lJ 0, lJ 0, bG 0, bG 0, bG 0, lJ 0, lJ 0, bG 0, bG 0, bG 0, .nilIface, .pointer none, ay 0, ay 0] 153 (0, 0)) : Nat × Obj)
abbrev dP := fun (b : Nat) (o : Nat) (n : Nat) (c : Nat) (s : Nat) (fb : Nat) (big : Bool) (ak : Nat) (aj : Nat) (au : Nat) (ah : Nat) (sd : Nat) (i : Nat) z5 (aT : Nat) => ((xq b o n c s fb big ak aj au ah) ++ [(42, aH sd (ah * 64) (ah * 64)), (43, aA i), (44, aJ (i * 64)), (45, aC z5), (41, aH aT (i + 1) ah)] : Slots)
abbrev J3 := fun (sd : Nat) (i : Nat) (ah : Nat) => ((963, .slice (some ⟨sd, ((i * 64) + 4), none⟩) ((ah * 64) - ((i * 64) + 4)) ((ah * 64) - ((i * 64) + 4))) : Nat × Value)
abbrev xk := fun (b : Nat) (o : Nat) (n : Nat) (c : Nat) (s : Nat) (fb : Nat) (big : Bool) (ak : Nat) (aj : Nat) (au : Nat) (ah : Nat) (sd : Nat) (i : Nat) z5 (aT : Nat) => ((dP b o n c s fb big ak aj au ah sd i z5 aT) ++ [(958, aC z5), (959, (aP big)), (963, .slice (some ⟨sd, ((i * 64) + 4), none⟩) ((ah * 64) - ((i * 64) + 4)) ((ah * 64) - ((i * 64) + 4)))] : Slots)
abbrev Aw := fun (sd : Nat) (i : Nat) (ah : Nat) => ((969, .slice (some ⟨sd, ((i * 64) + 8), none⟩) ((ah * 64) - ((i * 64) + 8)) ((ah * 64) - ((i * 64) + 8))) : Nat × Value)
abbrev vC := fun (b : Nat) (o : Nat) (n : Nat) (c : Nat) (s : Nat) (fb : Nat) (big : Bool) (ak : Nat) (aj : Nat) (au : Nat) (ah : Nat) (sd : Nat) (i : Nat) z5 (aT : Nat) => ((xk b o n c s fb big ak aj au ah sd i z5 aT) ++ [(965, (aP big)), (969, .slice (some ⟨sd, ((i * 64) + 8), none⟩) ((ah * 64) - ((i * 64) + 8)) ((ah * 64) - ((i * 64) + 8)))] : Slots)
abbrev yY := fun (sd : Nat) (i : Nat) (ah : Nat) => ((976, .slice (some ⟨sd, ((i * 64) + 24), none⟩) ((ah * 64) - ((i * 64) + 24)) ((ah * 64) - ((i * 64) + 24))) : Nat × Value)
abbrev vw := fun (b : Nat) (o : Nat) (n : Nat) (c : Nat) (s : Nat) (fb : Nat) (big : Bool) (ak : Nat) (aj : Nat) (au : Nat) (ah : Nat) (sd : Nat) (i : Nat) z5 (aT : Nat) => ((vC b o n c s fb big ak aj au ah sd i z5 aT) ++ [(972, (aP big)), (976, .slice (some ⟨sd, ((i * 64) + 24), none⟩) ((ah * 64) - ((i * 64) + 24)) ((ah * 64) - ((i * 64) + 24)))] : Slots)
abbrev sK := fun (sd : Nat) (i : Nat) (ah : Nat) => ((982, .slice (some ⟨sd, ((i * 64) + 32), none⟩) ((ah * 64) - ((i * 64) + 32)) ((ah * 64) - ((i * 64) + 32))) : Nat × Value)
abbrev vk := fun (b : Nat) (o : Nat) (n : Nat) (c : Nat) (s : Nat) (fb : Nat) (big : Bool) (ak : Nat) (aj : Nat) (au : Nat) (ah : Nat) (sd : Nat) (i : Nat) z5 (aT : Nat) => ((vw b o n c s fb big ak aj au ah sd i z5 aT) ++ [(978, (aP big)), (982, .slice (some ⟨sd, ((i * 64) + 32), none⟩) ((ah * 64) - ((i * 64) + 32)) ((ah * 64) - ((i * 64) + 32)))] : Slots)
abbrev pG := fun (sd : Nat) (i : Nat) (ah : Nat) => ((988, .slice (some ⟨sd, ((i * 64) + 16), none⟩) ((ah * 64) - ((i * 64) + 16)) ((ah * 64) - ((i * 64) + 16))) : Nat × Value)
abbrev vg := fun (b : Nat) (o : Nat) (n : Nat) (c : Nat) (s : Nat) (fb : Nat) (big : Bool) (ak : Nat) (aj : Nat) (au : Nat) (ah : Nat) (sd : Nat) (i : Nat) z5 (aT : Nat) => ((vk b o n c s fb big ak aj au ah sd i z5 aT) ++ [(984, (aP big)), (988, .slice (some ⟨sd, ((i * 64) + 16), none⟩) ((ah * 64) - ((i * 64) + 16)) ((ah * 64) - ((i * 64) + 16)))] : Slots)
abbrev nK := fun (sd : Nat) (i : Nat) (ah : Nat) => ((994, .slice (some ⟨sd, ((i * 64) + 40), none⟩) ((ah * 64) - ((i * 64) + 40)) ((ah * 64) - ((i * 64) + 40))) : Nat × Value)
abbrev u_ := fun (b : Nat) (o : Nat) (n : Nat) (c : Nat) (s : Nat) (fb : Nat) (big : Bool) (ak : Nat) (aj : Nat) (au : Nat) (ah : Nat) (sd : Nat) (i : Nat) z5 (aT : Nat) => ((vg b o n c s fb big ak aj au ah sd i z5 aT) ++ [(990, (aP big)), (994, .slice (some ⟨sd, ((i * 64) + 40), none⟩) ((ah * 64) - ((i * 64) + 40)) ((ah * 64) - ((i * 64) + 40)))] : Slots)
abbrev lU := fun (sd : Nat) (i : Nat) (ah : Nat) => ((1000, .slice (some ⟨sd, ((i * 64) + 44), none⟩) ((ah * 64) - ((i * 64) + 44)) ((ah * 64) - ((i * 64) + 44))) : Nat × Value)
abbrev uZ := fun (b : Nat) (o : Nat) (n : Nat) (c : Nat) (s : Nat) (fb : Nat) (big : Bool) (ak : Nat) (aj : Nat) (au : Nat) (ah : Nat) (sd : Nat) (i : Nat) z5 (aT : Nat) => ((u_ b o n c s fb big ak aj au ah sd i z5 aT) ++ [(996, (aP big)), (1000, .slice (some ⟨sd, ((i * 64) + 44), none⟩) ((ah * 64) - ((i * 64) + 44)) ((ah * 64) - ((i * 64) + 44)))] : Slots)
abbrev lg := fun (sd : Nat) (i : Nat) (ah : Nat) => ((1006, .slice (some ⟨sd, ((i * 64) + 48), none⟩) ((ah * 64) - ((i * 64) + 48)) ((ah * 64) - ((i * 64) + 48))) : Nat × Value)
abbrev sJ := fun (b : Nat) (o : Nat) (n : Nat) (c : Nat) (s : Nat) (fb : Nat) (big : Bool) (ak : Nat) (aj : Nat) (au : Nat) (ah : Nat) (sd : Nat) (i : Nat) z5 (aT : Nat) => ((uZ b o n c s fb big ak aj au ah sd i z5 aT) ++ [(1002, (aP big)), (1006, .slice (some ⟨sd, ((i * 64) + 48), none⟩) ((ah * 64) - ((i * 64) + 48)) ((ah * 64) - ((i * 64) + 48)))] : Slots)
abbrev jA := fun (sd : Nat) (i : Nat) (ah : Nat) => ((1012, .slice (some ⟨sd, ((i * 64) + 56), none⟩) ((ah * 64) - ((i * 64) + 56)) ((ah * 64) - ((i * 64) + 56))) : Nat × Value)
abbrev yX := fun (b : Nat) (o : Nat) (n : Nat) (c : Nat) (s : Nat) (fb : Nat) (big : Bool) (ak : Nat) (aj : Nat) (au : Nat) (ah : Nat) (sd : Nat) (i : Nat) z5 (aT : Nat) (v : iM) => ((dP b o n c s fb big ak aj au ah sd i z5 aT) ++ [(958, aC z5), (972, (aP big)), (976, .slice (some ⟨sd, ((i * 64) + 24), none⟩) ((ah * 64) - ((i * 64) + 24)) ((ah * 64) - ((i * 64) + 24))), (978, (aP big)), (982, .slice (some ⟨sd, ((i * 64) + 32), none⟩) ((ah * 64) - ((i * 64) + 32)) ((ah * 64) - ((i * 64) + 32))), (984, (aP big)), (988, .slice (some ⟨sd, ((i * 64) + 16), none⟩) ((ah * 64) - ((i * 64) + 16)) ((ah * 64) - ((i * 64) + 16))), (990, (aP big)), (994, .slice (some ⟨sd, ((i * 64) + 40), none⟩) ((ah * 64) - ((i * 64) + 40)) ((ah * 64) - ((i * 64) + 40))), (996, (aP big)), (1000, .slice (some ⟨sd, ((i * 64) + 44), none⟩) ((ah * 64) - ((i * 64) + 44)) ((ah * 64) - ((i * 64) + 44))), (1002, (aP big)), (1006, .slice (some ⟨sd, ((i * 64) + 48), none⟩) ((ah * 64) - ((i * 64) + 48)) ((ah * 64) - ((i * 64) + 48))), (1008, (aP big)), (1012, .slice (some ⟨sd, ((i * 64) + 56), none⟩) ((ah * 64) - ((i * 64) + 56)) ((ah * 64) - ((i * 64) + 56))), (964, aX v.ty)] : Slots)
abbrev DC := fun (v : iM) => ((1014, .agg #[.string ⟨#[]⟩, aX (v).ty, aX (v).flags, aJ (v).addr, aJ (v).off, bG 0, aX (v).link, aX (v).info, aJ (v).align, aJ (v).ent, aJ (v).bH]) : Nat × Value)
abbrev qO := fun z5 (v : iM) => ((z5, .cells #[.string ⟨#[]⟩, aX (v).ty, aX (v).flags, aJ (v).addr, aJ (v).off, bG 0, aX (v).link, aX (v).info, aJ (v).align, aJ (v).ent, aJ (v).bH, .nilIface, .pointer none, ay 0, ay 0] 153 (0, 0)) : Nat × Obj)
abbrev pF := fun (b : Nat) (o : Nat) (n : Nat) (c : Nat) (s : Nat) (fb : Nat) (big : Bool) (ak : Nat) (aj : Nat) (au : Nat) (ah : Nat) (sd : Nat) (i : Nat) z5 (aT : Nat) => ((dP b o n c s fb big ak aj au ah sd i z5 aT) ++ [(1059, aC z5), (1060, .iface 178 (.slice (some ⟨b, o, none⟩) n c))] : Slots)
abbrev DF := fun z5 (v : iM) sb => ((z5, .cells #[.string ⟨#[]⟩, aX (v).ty, aX (v).flags, aJ (v).addr, aJ (v).off, bG 0, aX (v).link, aX (v).info, aJ (v).align, aJ (v).ent, aJ (v).bH, .nilIface, aC sb, ay 0, ay 0] 153 (0, 0)) : Nat × Obj)
abbrev qN := fun z5 (v : iM) sb => ((z5, .cells #[.string ⟨#[]⟩, aX (v).ty, aX (v).flags, aJ (v).addr, aJ (v).off, aJ (v).bH, aX (v).link, aX (v).info, aJ (v).align, aJ (v).ent, aJ (v).bH, .iface 144 (aC sb), aC sb, ay 0, ay 0] 153 (0, 0)) : Nat × Obj)
theorem NH (l : List UInt8) (b o n c : Nat) (hl : n = l.length) (hnc : n ≤ c) (big : Bool) (abi aF aS aG aB ak aj au ah : Nat) (dat : Int) (b1 : aS < 65536) (b2 : aG < 65536) (b3 : aB ≤ 18446744073709551615) (b4 : ak < 4611686018427387904) (b5 : au < 4611686018427387904) (b6 : aj < 200) (b7 : ah < 200) (X : List UInt8) (nI : X.length = (ah * 64)) (i : Nat) (hi : i < ah) (v : iM) (hv : uo (X.drop (i * 64)) true big v.name v.ty v.flags v.addr v.off v.bH v.link v.info v.align v.ent) (v1 : v.name < 4294967296) (v2 : v.ty < 4294967296) (v3 : v.flags < 4294967296) (v4 : v.off < 4611686018427387904) (v5 : v.bH < 4611686018427387904) (v6 : v.addr ≤ 18446744073709551615) (v7 : v.align ≤ 18446744073709551615) (v8 : v.ent ≤ 18446744073709551615) (v9 : (oC (v.flags : Int) 2048 == 0) = true)
  {K0 : Act → World → Prop} {Q : Exit → Act → World → Prop} (a : Act) (W1 : World) (s fb pg aW aT sd : Nat) (cur nms : Array Value) (hcs : cur.size = ah) (hns : nms.size = ah) (G_ : Mm [fb, aW, aT, sd] W1 W1 [eH fb dat abi aF big aS aG aB aW i ah pg aj, (aW, .cells cur 133 (0, 0)), (aT, .cells nms 36 (0, 0)), (sd, .cells (X.map Bv).toArray 5 (0, 0))]) (HF : Fr 1287 a (kG b o n c s fb big ak aj au ah aT i sd))
  (K : ∀ a w' pb sb cur' fK, cur'.size = ah → fK.size = ah → cur'.toList.take (i + 1) = cur.toList.take i ++ [aC pb] → fK.toList.take (i + 1) = nms.toList.take i ++ [aX v.name] → Fr 1287 a ((xq b o n c s fb big ak aj au ah) ++ [(41, aH aT (i + 1) ah), (42, aH sd (ah * 64) (ah * 64)), (43, aA (i + 1))]) → Mm [fb, aW, aT, sd] W1 w' [mQ sb b o n c v, (pb, .cells #[.string ⟨#[]⟩, aX (v).ty, aX (v).flags, aJ (v).addr, aJ (v).off, aJ (v).bH, aX (v).link, aX (v).info, aJ (v).align, aJ (v).ent, aJ (v).bH, .iface 144 (aC sb), aC sb, ay 0, ay 0] 153 (0, 0)), xu fb dat abi aF big aS aG aB aW i ah pg aj, (aW, .cells cur' 133 (0, 0)), (aT, .cells fK 36 (0, 0)), (sd, .cells (X.map Bv).toArray 5 (0, 0))] → K0 a w') : (oG (spine Tryd.f78 44)).wp Tryd.prog (Exit.then K0 Q) a W1 := by
 obtain ⟨i0, hi0, hs0⟩ := uq
 have en : num big X ((i * 64) + 0) 4 = v.name := (fJ big X (i * 64) 0 4).symm.trans hv.name
 have LX : num big X ((i * 64) + 4) 4 = v.ty := (fJ big X (i * 64) 4 4).symm.trans hv.ty
 have Ef : num big X ((i * 64) + 8) 8 = v.flags := (fJ big X (i * 64) 8 8).symm.trans hv.flags
 have Jy : num big X ((i * 64) + 24) 8 = v.off := (fJ big X (i * 64) 24 8).symm.trans hv.off
 have Jz : num big X ((i * 64) + 32) 8 = v.bH := (fJ big X (i * 64) 32 8).symm.trans hv.size
 have GY : num big X ((i * 64) + 16) 8 = v.addr := (fJ big X (i * 64) 16 8).symm.trans hv.addr
 have GV : num big X ((i * 64) + 40) 4 = v.link := (fJ big X (i * 64) 40 4).symm.trans hv.link
 have GX : num big X ((i * 64) + 44) 4 = v.info := (fJ big X (i * 64) 44 4).symm.trans hv.info
 have Eh : num big X ((i * 64) + 48) 8 = v.align := (fJ big X (i * 64) 48 8).symm.trans hv.align
 have JA : num big X ((i * 64) + 56) 8 = v.ent := (fJ big X (i * 64) 56 8).symm.trans hv.ent
 obtain ⟨w, hw⟩ : ∃ w, W1 = w := ⟨_, rfl⟩
 have HM : Mm [fb, aW, aT, sd] W1 w [eH fb dat abi aF big aS aG aB aW i ah pg aj, (aW, .cells cur 133 (0, 0)), (aT, .cells nms 36 (0, 0)), (sd, .cells (X.map Bv).toArray 5 (0, 0))] := hw ▸ G_
 conv => arg 5; rw [hw]
 clear hw G_
 refine wp_seq ?_
 refine wp_seq (wp_region_lit ?_)
 refine aO HF HM rfl 3 [] ((kG b o n c s fb big ak aj au ah aT i sd) ++ [(859, .bool (decide (((i : Nat) : Int) < ((ah : Nat) : Int))))]) [eH fb dat abi aF big aS aG aB aW i ah pg aj, (aW, .cells cur 133 (0, 0)), (aT, .cells nms 36 (0, 0)), (sd, .cells (X.map Bv).toArray 5 (0, 0))] (by kernel_rfl) ?_
 clear HF HM; intro a w HF HM
 rw [show decide (((i : Nat) : Int) < ((ah : Nat) : Int)) = true from fC (by omega)] at HF
 refine aI ?_
 refine bF HF rfl ?_
 refine wp_skip ?_
 repeat (first | refine aQ ?_ | refine aU ?_)
 replace HF := HF.sub (kG b o n c s fb big ak aj au ah aT i sd) (by kernel_rfl)
 refine wp_seq (wp_block ?_)
 refine wp_seq (wp_region_lit ?_)
 refine aO HF HM rfl 2 [] ((kG b o n c s fb big ak aj au ah aT i sd) ++ [(863, bG (IntKind.u64.wrap ((i : Nat) : Int)))]) [eH fb dat abi aF big aS aG aB aW i ah pg aj, (aW, .cells cur 133 (0, 0)), (aT, .cells nms 36 (0, 0)), (sd, .cells (X.map Bv).toArray 5 (0, 0))] (by kernel_rfl) ?_
 clear HF HM; intro a w HF HM
 rw [show IntKind.u64.wrap ((i : Nat) : Int) = ((i : Nat) : Int) from IntWalk.u64_in _ (by omega)] at HF
 refine aO HF HM rfl 3 [] ((kG b o n c s fb big ak aj au ah aT i sd) ++ [(866, bG (IntKind.u64.wrap (((i : Nat) : Int) * 64)))]) [eH fb dat abi aF big aS aG aB aW i ah pg aj, (aW, .cells cur 133 (0, 0)), (aT, .cells nms 36 (0, 0)), (sd, .cells (X.map Bv).toArray 5 (0, 0))] (by kernel_rfl) ?_
 clear HF HM; intro a w HF HM
 rw [show IntKind.u64.wrap (((i : Nat) : Int) * 64) = (((i * 64) : Nat) : Int) from (IntWalk.u64_in _ (by omega)).trans (by omega)] at HF
 refine aO HF HM rfl 1 [] ((kG b o n c s fb big ak aj au ah aT i sd) ++ [(44, aJ (i * 64))]) [eH fb dat abi aF big aS aG aB aW i ah pg aj, (aW, .cells cur 133 (0, 0)), (aT, .cells nms 36 (0, 0)), (sd, .cells (X.map Bv).toArray 5 (0, 0))] (by kernel_rfl) ?_
 clear HF HM; intro a w HF HM
 refine aI ?_
 obtain ⟨z5, uT⟩ : ∃ z, w.heap.size = z := ⟨_, rfl⟩
 refine bC HF HM uT [] ((kG b o n c s fb big ak aj au ah aT i sd) ++ [(44, aJ (i * 64)), (45, aC z5)]) [jK z5, eH fb dat abi aF big aS aG aB aW i ah pg aj, (aW, .cells cur 133 (0, 0)), (aT, .cells nms 36 (0, 0)), (sd, .cells (X.map Bv).toArray 5 (0, 0))] (by kernel_rfl) ?_
 clear HF HM uT; intro a w HF HM
 refine wp_seq ?_
 refine bC HF HM rfl [[3]] ((kG b o n c s fb big ak aj au ah aT i sd) ++ [(44, aJ (i * 64)), (45, aC z5), (872, aK 2)]) [jK z5, eH fb dat abi aF big aS aG aB aW i ah pg aj, (aW, .cells cur 133 (0, 0)), (aT, .cells nms 36 (0, 0)), (sd, .cells (X.map Bv).toArray 5 (0, 0))] (by kernel_rfl) ?_
 clear HF HM; intro a w HF HM
 refine wp_block ?_
 refine bC HF HM rfl [] ((kG b o n c s fb big ak aj au ah aT i sd) ++ [(44, aJ (i * 64)), (45, aC z5), (872, aK 2), (873, .bool false)]) [jK z5, eH fb dat abi aF big aS aG aB aW i ah pg aj, (aW, .cells cur 133 (0, 0)), (aT, .cells nms 36 (0, 0)), (sd, .cells (X.map Bv).toArray 5 (0, 0))] (by kernel_rfl) ?_
 clear HF HM; intro a w HF HM
 refine aZ HF rfl ?_
 refine bC HF HM rfl [] ((kG b o n c s fb big ak aj au ah aT i sd) ++ [(44, aJ (i * 64)), (45, aC z5), (872, aK 2), (947, .bool true)]) [jK z5, eH fb dat abi aF big aS aG aB aW i ah pg aj, (aW, .cells cur 133 (0, 0)), (aT, .cells nms 36 (0, 0)), (sd, .cells (X.map Bv).toArray 5 (0, 0))] (by kernel_rfl) ?_
 clear HF HM; intro a w HF HM
 refine bF HF rfl ?_
 replace HF := HF.sub ((kG b o n c s fb big ak aj au ah aT i sd) ++ [(44, aJ (i * 64)), (45, aC z5)]) (by kernel_rfl)
 refine wp_seq (wp_region_lit ?_)
 refine aO HF HM rfl 5 [] ((kG b o n c s fb big ak aj au ah aT i sd) ++ [(44, aJ (i * 64)), (45, aC z5), (949, aH aT i ah), (950, (aP big)), (951, aH sd (ah * 64) (ah * 64)), (953, bG (IntKind.u64.wrap ((((i * 64) : Nat) : Int) + 0)))]) [jK z5, eH fb dat abi aF big aS aG aB aW i ah pg aj, (aW, .cells cur 133 (0, 0)), (aT, .cells nms 36 (0, 0)), (sd, .cells (X.map Bv).toArray 5 (0, 0))] (by kernel_rfl) ?_
 clear HF HM; intro a w HF HM
 rw [show IntKind.u64.wrap ((((i * 64) : Nat) : Int) + 0) = ((((i * 64) + 0) : Nat) : Int) from (IntWalk.u64_in _ (by omega)).trans (by omega)] at HF
 refine eY HF (by kernel_rfl) (.slice (some ⟨sd, ((i * 64) + 0), none⟩) ((ah * 64) - ((i * 64) + 0)) ((ah * 64) - ((i * 64) + 0))) (by kernel_rfl) (eG (t := 33) Tryd.underlying33 hi0 hs0 rfl ((i * 64) + 0) (kk := .u64) rfl rfl (by omega) (by omega) (by omega) _) ?_
 clear HF; intro a HF; replace HF := HF.sub ((kG b o n c s fb big ak aj au ah aT i sd) ++ [(44, aJ (i * 64)), (45, aC z5), (949, aH aT i ah), (950, (aP big)), (951, aH sd (ah * 64) (ah * 64)), (953, aJ ((i * 64) + 0)), (954, .slice (some ⟨sd, ((i * 64) + 0), none⟩) ((ah * 64) - ((i * 64) + 0)) ((ah * 64) - ((i * 64) + 0)))]) (by kernel_rfl)
 refine bn HF (by kernel_rfl) 87 #[(aP big), .slice (some ⟨sd, ((i * 64) + 0), none⟩) ((ah * 64) - ((i * 64) + 0)) ((ah * 64) - ((i * 64) + 0))] (by kernel_rfl) (fun w => by kernel_rfl) (Calls.mono (jy (HM.get (i := 4) rfl) (by unfold maxLen; omega) big ((i * 64) + 0) ((ah * 64) - ((i * 64) + 0)) (by omega) (by omega) ((v.name : Nat) : Int) (by rw [en])) ?_)
 rintro _ w1 ⟨rfl, jF, hq⟩
 replace HM : Mm [fb, aW, aT, sd] W1 w1 [jK z5, eH fb dat abi aF big aS aG aB aW i ah pg aj, (aW, .cells cur 133 (0, 0)), (aT, .cells nms 36 (0, 0)), (sd, .cells (X.map Bv).toArray 5 (0, 0))] := by rw [hq]; exact HM.drewN _
 clear hq
 refine ⟨_, rfl, ?_⟩; clear HF; intro a HF; replace HF := HF.sub ((kG b o n c s fb big ak aj au ah aT i sd) ++ [(44, aJ (i * 64)), (45, aC z5), (949, aH aT i ah), (950, (aP big)), (951, aH sd (ah * 64) (ah * 64)), (953, aJ ((i * 64) + 0)), (954, .slice (some ⟨sd, ((i * 64) + 0), none⟩) ((ah * 64) - ((i * 64) + 0)) ((ah * 64) - ((i * 64) + 0))), (955, aX v.name)]) (by kernel_rfl)
 obtain ⟨z10, AU⟩ : ∃ z, w1.heap.size = z := ⟨_, rfl⟩
 refine aO HF HM AU 1 [] ((kG b o n c s fb big ak aj au ah aT i sd) ++ [(44, aJ (i * 64)), (45, aC z5), (949, aH aT i ah), (956, aH z10 1 1)]) [(z10, .cells #[aX v.name] 36 (0, 0)), jK z5, eH fb dat abi aF big aS aG aB aW i ah pg aj, (aW, .cells cur 133 (0, 0)), (aT, .cells nms 36 (0, 0)), (sd, .cells (X.map Bv).toArray 5 (0, 0))] (by kernel_rfl) ?_
 clear HF HM AU; intro a w HF HM
 refine oP HF HM rfl _ _ 222 rfl rfl 36 (lJ 0) 4 Tryd.underlying222 wO 4 0 aT _ i ah nms _ _ rfl hns (by omega) (by unfold maxLen; omega) rfl rfl rfl rfl ?_
 intro a2 w2 fK Df htn bU HF2; clear HF HM; have HM : Mm [fb, aW, aT, sd] W1 w2 [(z10, .cells #[aX v.name] 36 (0, 0)), jK z5, eH fb dat abi aF big aS aG aB aW i ah pg aj, (aW, .cells cur 133 (0, 0)), (aT, .cells fK 36 (0, 0)), (sd, .cells (X.map Bv).toArray 5 (0, 0))] := bU; have HF := HF2; clear bU HF2
 replace HF := HF.sub ((kG b o n c s fb big ak aj au ah aT i sd) ++ [(44, aJ (i * 64)), (45, aC z5), (957, aH aT (i + 1) ah)]) (by kernel_rfl)
 refine aO HF HM rfl 1 [] (dP b o n c s fb big ak aj au ah sd i z5 aT) [(z10, .cells #[aX v.name] 36 (0, 0)), jK z5, eH fb dat abi aF big aS aG aB aW i ah pg aj, (aW, .cells cur 133 (0, 0)), (aT, .cells fK 36 (0, 0)), (sd, .cells (X.map Bv).toArray 5 (0, 0))] (by kernel_rfl) ?_
 clear HF HM; intro a w HF HM
 refine aI ?_
 refine rQ HM (by kernel_rfl) [(sd, .cells (X.map Bv).toArray 5 (0, 0))] [(0, false), (1, false), (2, false), (3, false), (4, false), (5, false), (7, false), (8, false), (9, false), (10, false), (11, false), (14, false), (15, false), (16, false), (17, false), (18, false), (20, false), (21, false), (22, false), (23, false), (24, false), (26, false), (27, false), (28, false), (29, false), (30, false), (32, false), (33, false), (34, false), (35, false), (36, false), (38, false), (39, false), (40, false), (41, false), (42, false), (44, false), (45, false), (46, false), (47, false), (48, false), (50, false), (51, false), (52, false), (53, false), (54, false), (6, true), (12, true), (13, false), (19, true), (25, true), (31, true), (37, true), (43, true), (49, true), (55, true), (56, false), (57, false), (58, false), (59, true)] (by kernel_rfl) ?_
 clear HM; intro w3 HM
 refine bD HF (HM.told [5] rfl) 1 [] ((dP b o n c s fb big ak aj au ah sd i z5 aT) ++ [(958, aC z5)]) (by kernel_rfl) ?_
 clear HF; intro a HF
 refine bD HF (HM.told [5] rfl) 4 [] ((dP b o n c s fb big ak aj au ah sd i z5 aT) ++ [(958, aC z5), (959, (aP big)), (960, aH sd (ah * 64) (ah * 64)), (962, bG (IntKind.u64.wrap ((((i * 64) : Nat) : Int) + 4)))]) (by kernel_rfl) ?_
 clear HF; intro a HF
 rw [show IntKind.u64.wrap ((((i * 64) : Nat) : Int) + 4) = ((((i * 64) + 4) : Nat) : Int) from (IntWalk.u64_in _ (by omega)).trans (by omega)] at HF
 refine eu rfl HF (HM.told [5] rfl) rfl (.slice (some ⟨sd, ((i * 64) + 4), none⟩) ((ah * 64) - ((i * 64) + 4)) ((ah * 64) - ((i * 64) + 4))) (by kernel_rfl) (fun w hw => eG (t := 33) Tryd.underlying33 hi0 hs0 rfl ((i * 64) + 4) (kk := .u64) rfl rfl (by omega) (by omega) (by omega) w) ?_
 clear HF; intro a HF; replace HF := HF.sub ((dP b o n c s fb big ak aj au ah sd i z5 aT) ++ [(958, aC z5), (959, (aP big)), (960, aH sd (ah * 64) (ah * 64)), (962, aJ ((i * 64) + 4)), J3 sd i ah]) (by kernel_rfl)
 replace HF := HF.sub (xk b o n c s fb big ak aj au ah sd i z5 aT) (by kernel_rfl)
 refine bD HF (HM.told [5] rfl) 4 [] ((xk b o n c s fb big ak aj au ah sd i z5 aT) ++ [(965, (aP big)), (966, aH sd (ah * 64) (ah * 64)), (968, bG (IntKind.u64.wrap ((((i * 64) : Nat) : Int) + 8)))]) (by kernel_rfl) ?_
 clear HF; intro a HF
 rw [show IntKind.u64.wrap ((((i * 64) : Nat) : Int) + 8) = ((((i * 64) + 8) : Nat) : Int) from (IntWalk.u64_in _ (by omega)).trans (by omega)] at HF
 refine eu rfl HF (HM.told [5] rfl) rfl (.slice (some ⟨sd, ((i * 64) + 8), none⟩) ((ah * 64) - ((i * 64) + 8)) ((ah * 64) - ((i * 64) + 8))) (by kernel_rfl) (fun w hw => eG (t := 33) Tryd.underlying33 hi0 hs0 rfl ((i * 64) + 8) (kk := .u64) rfl rfl (by omega) (by omega) (by omega) w) ?_
 clear HF; intro a HF; replace HF := HF.sub ((xk b o n c s fb big ak aj au ah sd i z5 aT) ++ [(965, (aP big)), (966, aH sd (ah * 64) (ah * 64)), (968, aJ ((i * 64) + 8)), Aw sd i ah]) (by kernel_rfl)
 replace HF := HF.sub (vC b o n c s fb big ak aj au ah sd i z5 aT) (by kernel_rfl)
 refine bD HF (HM.told [5] rfl) 4 [] ((vC b o n c s fb big ak aj au ah sd i z5 aT) ++ [(972, (aP big)), (973, aH sd (ah * 64) (ah * 64)), (975, bG (IntKind.u64.wrap ((((i * 64) : Nat) : Int) + 24)))]) (by kernel_rfl) ?_
 clear HF; intro a HF
 rw [show IntKind.u64.wrap ((((i * 64) : Nat) : Int) + 24) = ((((i * 64) + 24) : Nat) : Int) from (IntWalk.u64_in _ (by omega)).trans (by omega)] at HF
 refine eu rfl HF (HM.told [5] rfl) rfl (.slice (some ⟨sd, ((i * 64) + 24), none⟩) ((ah * 64) - ((i * 64) + 24)) ((ah * 64) - ((i * 64) + 24))) (by kernel_rfl) (fun w hw => eG (t := 33) Tryd.underlying33 hi0 hs0 rfl ((i * 64) + 24) (kk := .u64) rfl rfl (by omega) (by omega) (by omega) w) ?_
 clear HF; intro a HF; replace HF := HF.sub ((vC b o n c s fb big ak aj au ah sd i z5 aT) ++ [(972, (aP big)), (973, aH sd (ah * 64) (ah * 64)), (975, aJ ((i * 64) + 24)), yY sd i ah]) (by kernel_rfl)
 replace HF := HF.sub (vw b o n c s fb big ak aj au ah sd i z5 aT) (by kernel_rfl)
 refine bD HF (HM.told [5] rfl) 4 [] ((vw b o n c s fb big ak aj au ah sd i z5 aT) ++ [(978, (aP big)), (979, aH sd (ah * 64) (ah * 64)), (981, bG (IntKind.u64.wrap ((((i * 64) : Nat) : Int) + 32)))]) (by kernel_rfl) ?_
 clear HF; intro a HF
 rw [show IntKind.u64.wrap ((((i * 64) : Nat) : Int) + 32) = ((((i * 64) + 32) : Nat) : Int) from (IntWalk.u64_in _ (by omega)).trans (by omega)] at HF
 refine eu rfl HF (HM.told [5] rfl) rfl (.slice (some ⟨sd, ((i * 64) + 32), none⟩) ((ah * 64) - ((i * 64) + 32)) ((ah * 64) - ((i * 64) + 32))) (by kernel_rfl) (fun w hw => eG (t := 33) Tryd.underlying33 hi0 hs0 rfl ((i * 64) + 32) (kk := .u64) rfl rfl (by omega) (by omega) (by omega) w) ?_
 clear HF; intro a HF; replace HF := HF.sub ((vw b o n c s fb big ak aj au ah sd i z5 aT) ++ [(978, (aP big)), (979, aH sd (ah * 64) (ah * 64)), (981, aJ ((i * 64) + 32)), sK sd i ah]) (by kernel_rfl)
 replace HF := HF.sub (vk b o n c s fb big ak aj au ah sd i z5 aT) (by kernel_rfl)
 refine bD HF (HM.told [5] rfl) 4 [] ((vk b o n c s fb big ak aj au ah sd i z5 aT) ++ [(984, (aP big)), (985, aH sd (ah * 64) (ah * 64)), (987, bG (IntKind.u64.wrap ((((i * 64) : Nat) : Int) + 16)))]) (by kernel_rfl) ?_
 clear HF; intro a HF
 rw [show IntKind.u64.wrap ((((i * 64) : Nat) : Int) + 16) = ((((i * 64) + 16) : Nat) : Int) from (IntWalk.u64_in _ (by omega)).trans (by omega)] at HF
 refine eu rfl HF (HM.told [5] rfl) rfl (.slice (some ⟨sd, ((i * 64) + 16), none⟩) ((ah * 64) - ((i * 64) + 16)) ((ah * 64) - ((i * 64) + 16))) (by kernel_rfl) (fun w hw => eG (t := 33) Tryd.underlying33 hi0 hs0 rfl ((i * 64) + 16) (kk := .u64) rfl rfl (by omega) (by omega) (by omega) w) ?_
 clear HF; intro a HF; replace HF := HF.sub ((vk b o n c s fb big ak aj au ah sd i z5 aT) ++ [(984, (aP big)), (985, aH sd (ah * 64) (ah * 64)), (987, aJ ((i * 64) + 16)), pG sd i ah]) (by kernel_rfl)
 replace HF := HF.sub (vg b o n c s fb big ak aj au ah sd i z5 aT) (by kernel_rfl)
 refine bD HF (HM.told [5] rfl) 4 [] ((vg b o n c s fb big ak aj au ah sd i z5 aT) ++ [(990, (aP big)), (991, aH sd (ah * 64) (ah * 64)), (993, bG (IntKind.u64.wrap ((((i * 64) : Nat) : Int) + 40)))]) (by kernel_rfl) ?_
 clear HF; intro a HF
 rw [show IntKind.u64.wrap ((((i * 64) : Nat) : Int) + 40) = ((((i * 64) + 40) : Nat) : Int) from (IntWalk.u64_in _ (by omega)).trans (by omega)] at HF
 refine eu rfl HF (HM.told [5] rfl) rfl (.slice (some ⟨sd, ((i * 64) + 40), none⟩) ((ah * 64) - ((i * 64) + 40)) ((ah * 64) - ((i * 64) + 40))) (by kernel_rfl) (fun w hw => eG (t := 33) Tryd.underlying33 hi0 hs0 rfl ((i * 64) + 40) (kk := .u64) rfl rfl (by omega) (by omega) (by omega) w) ?_
 clear HF; intro a HF; replace HF := HF.sub ((vg b o n c s fb big ak aj au ah sd i z5 aT) ++ [(990, (aP big)), (991, aH sd (ah * 64) (ah * 64)), (993, aJ ((i * 64) + 40)), nK sd i ah]) (by kernel_rfl)
 replace HF := HF.sub (u_ b o n c s fb big ak aj au ah sd i z5 aT) (by kernel_rfl)
 refine bD HF (HM.told [5] rfl) 4 [] ((u_ b o n c s fb big ak aj au ah sd i z5 aT) ++ [(996, (aP big)), (997, aH sd (ah * 64) (ah * 64)), (999, bG (IntKind.u64.wrap ((((i * 64) : Nat) : Int) + 44)))]) (by kernel_rfl) ?_
 clear HF; intro a HF
 rw [show IntKind.u64.wrap ((((i * 64) : Nat) : Int) + 44) = ((((i * 64) + 44) : Nat) : Int) from (IntWalk.u64_in _ (by omega)).trans (by omega)] at HF
 refine eu rfl HF (HM.told [5] rfl) rfl (.slice (some ⟨sd, ((i * 64) + 44), none⟩) ((ah * 64) - ((i * 64) + 44)) ((ah * 64) - ((i * 64) + 44))) (by kernel_rfl) (fun w hw => eG (t := 33) Tryd.underlying33 hi0 hs0 rfl ((i * 64) + 44) (kk := .u64) rfl rfl (by omega) (by omega) (by omega) w) ?_
 clear HF; intro a HF; replace HF := HF.sub ((u_ b o n c s fb big ak aj au ah sd i z5 aT) ++ [(996, (aP big)), (997, aH sd (ah * 64) (ah * 64)), (999, aJ ((i * 64) + 44)), lU sd i ah]) (by kernel_rfl)
 replace HF := HF.sub (uZ b o n c s fb big ak aj au ah sd i z5 aT) (by kernel_rfl)
 refine bD HF (HM.told [5] rfl) 4 [] ((uZ b o n c s fb big ak aj au ah sd i z5 aT) ++ [(1002, (aP big)), (1003, aH sd (ah * 64) (ah * 64)), (1005, bG (IntKind.u64.wrap ((((i * 64) : Nat) : Int) + 48)))]) (by kernel_rfl) ?_
 clear HF; intro a HF
 rw [show IntKind.u64.wrap ((((i * 64) : Nat) : Int) + 48) = ((((i * 64) + 48) : Nat) : Int) from (IntWalk.u64_in _ (by omega)).trans (by omega)] at HF
 refine eu rfl HF (HM.told [5] rfl) rfl (.slice (some ⟨sd, ((i * 64) + 48), none⟩) ((ah * 64) - ((i * 64) + 48)) ((ah * 64) - ((i * 64) + 48))) (by kernel_rfl) (fun w hw => eG (t := 33) Tryd.underlying33 hi0 hs0 rfl ((i * 64) + 48) (kk := .u64) rfl rfl (by omega) (by omega) (by omega) w) ?_
 clear HF; intro a HF; replace HF := HF.sub ((uZ b o n c s fb big ak aj au ah sd i z5 aT) ++ [(1002, (aP big)), (1003, aH sd (ah * 64) (ah * 64)), (1005, aJ ((i * 64) + 48)), lg sd i ah]) (by kernel_rfl)
 replace HF := HF.sub (sJ b o n c s fb big ak aj au ah sd i z5 aT) (by kernel_rfl)
 refine bD HF (HM.told [5] rfl) 4 [] ((sJ b o n c s fb big ak aj au ah sd i z5 aT) ++ [(1008, (aP big)), (1009, aH sd (ah * 64) (ah * 64)), (1011, bG (IntKind.u64.wrap ((((i * 64) : Nat) : Int) + 56)))]) (by kernel_rfl) ?_
 clear HF; intro a HF
 rw [show IntKind.u64.wrap ((((i * 64) : Nat) : Int) + 56) = ((((i * 64) + 56) : Nat) : Int) from (IntWalk.u64_in _ (by omega)).trans (by omega)] at HF
 refine eu rfl HF (HM.told [5] rfl) rfl (.slice (some ⟨sd, ((i * 64) + 56), none⟩) ((ah * 64) - ((i * 64) + 56)) ((ah * 64) - ((i * 64) + 56))) (by kernel_rfl) (fun w hw => eG (t := 33) Tryd.underlying33 hi0 hs0 rfl ((i * 64) + 56) (kk := .u64) rfl rfl (by omega) (by omega) (by omega) w) ?_
 clear HF; intro a HF; replace HF := HF.sub ((sJ b o n c s fb big ak aj au ah sd i z5 aT) ++ [(1008, (aP big)), (1009, aH sd (ah * 64) (ah * 64)), (1011, aJ ((i * 64) + 56)), jA sd i ah]) (by kernel_rfl)
 replace HF := HF.sub ((sJ b o n c s fb big ak aj au ah sd i z5 aT) ++ [(1008, (aP big)), jA sd i ah]) (by kernel_rfl)
 refine bQ rfl ?_
 refine bn HF (by kernel_rfl) 87 #[(aP big), .slice (some ⟨sd, ((i * 64) + 4), none⟩) ((ah * 64) - ((i * 64) + 4)) ((ah * 64) - ((i * 64) + 4))] (by kernel_rfl) (fun w => by kernel_rfl) (Calls.mono (jy (HM.get (i := 5) rfl) (by unfold maxLen; omega) big ((i * 64) + 4) ((ah * 64) - ((i * 64) + 4)) (by omega) (by omega) ((v.ty : Nat) : Int) (by rw [LX])) ?_)
 rintro _ w4 ⟨rfl, jF, hq⟩
 replace HM : Mm [fb, aW, aT, sd] W1 w4 [(z10, .cells #[aX v.name] 36 (0, 0)), jK z5, eH fb dat abi aF big aS aG aB aW i ah pg aj, (aW, .cells cur 133 (0, 0)), (aT, .cells fK 36 (0, 0)), (sd, .cells (X.map Bv).toArray 5 (0, 0))] := by rw [hq]; exact HM.drewN _
 clear hq
 refine ⟨_, rfl, ?_⟩; clear HF; intro a HF; replace HF := HF.sub ((sJ b o n c s fb big ak aj au ah sd i z5 aT) ++ [(1008, (aP big)), jA sd i ah, (964, aX v.ty)]) (by kernel_rfl)
 refine cZ (HM.told [5] rfl) ?_
 replace HF := HF.sub ((dP b o n c s fb big ak aj au ah sd i z5 aT) ++ [(958, aC z5), (965, (aP big)), Aw sd i ah, (972, (aP big)), yY sd i ah, (978, (aP big)), sK sd i ah, (984, (aP big)), pG sd i ah, (990, (aP big)), nK sd i ah, (996, (aP big)), lU sd i ah, (1002, (aP big)), lg sd i ah, (1008, (aP big)), jA sd i ah, (964, aX v.ty)]) (by kernel_rfl)
 refine bQ rfl ?_
 refine bn HF (by kernel_rfl) 88 #[(aP big), .slice (some ⟨sd, ((i * 64) + 8), none⟩) ((ah * 64) - ((i * 64) + 8)) ((ah * 64) - ((i * 64) + 8))] (by kernel_rfl) (fun w => by kernel_rfl) (Calls.mono (oh (HM.get (i := 5) rfl) (by unfold maxLen; omega) big ((i * 64) + 8) ((ah * 64) - ((i * 64) + 8)) (by omega) (by omega) ((v.flags : Nat) : Int) (by rw [Ef])) ?_)
 rintro _ w5 ⟨rfl, jF, hq⟩
 replace HM : Mm [fb, aW, aT, sd] W1 w5 [(z10, .cells #[aX v.name] 36 (0, 0)), jK z5, eH fb dat abi aF big aS aG aB aW i ah pg aj, (aW, .cells cur 133 (0, 0)), (aT, .cells fK 36 (0, 0)), (sd, .cells (X.map Bv).toArray 5 (0, 0))] := by rw [hq]; exact HM.drewN _
 clear hq
 refine ⟨_, rfl, ?_⟩; clear HF; intro a HF; replace HF := HF.sub ((dP b o n c s fb big ak aj au ah sd i z5 aT) ++ [(958, aC z5), (965, (aP big)), Aw sd i ah, (972, (aP big)), yY sd i ah, (978, (aP big)), sK sd i ah, (984, (aP big)), pG sd i ah, (990, (aP big)), nK sd i ah, (996, (aP big)), lU sd i ah, (1002, (aP big)), lg sd i ah, (1008, (aP big)), jA sd i ah, (964, aX v.ty), (970, aJ v.flags)]) (by kernel_rfl)
 refine cZ (HM.told [5] rfl) ?_
 replace HF := HF.sub ((yX b o n c s fb big ak aj au ah sd i z5 aT v) ++ [(970, aJ v.flags)]) (by kernel_rfl)
 refine bD HF (HM.told [5] rfl) 1 [] ((yX b o n c s fb big ak aj au ah sd i z5 aT v) ++ [(971, lJ (IntKind.u32.wrap ((v.flags : Nat) : Int)))]) (by kernel_rfl) ?_
 clear HF; intro a HF
 rw [show IntKind.u32.wrap ((v.flags : Nat) : Int) = ((v.flags : Nat) : Int) from IntWalk.u32_in _ (by omega)] at HF
 refine bQ rfl ?_
 refine bn HF (by kernel_rfl) 88 #[(aP big), .slice (some ⟨sd, ((i * 64) + 24), none⟩) ((ah * 64) - ((i * 64) + 24)) ((ah * 64) - ((i * 64) + 24))] (by kernel_rfl) (fun w => by kernel_rfl) (Calls.mono (oh (HM.get (i := 5) rfl) (by unfold maxLen; omega) big ((i * 64) + 24) ((ah * 64) - ((i * 64) + 24)) (by omega) (by omega) ((v.off : Nat) : Int) (by rw [Jy])) ?_)
 rintro _ w6 ⟨rfl, jF, hq⟩
 replace HM : Mm [fb, aW, aT, sd] W1 w6 [(z10, .cells #[aX v.name] 36 (0, 0)), jK z5, eH fb dat abi aF big aS aG aB aW i ah pg aj, (aW, .cells cur 133 (0, 0)), (aT, .cells fK 36 (0, 0)), (sd, .cells (X.map Bv).toArray 5 (0, 0))] := by rw [hq]; exact HM.drewN _
 clear hq
 refine ⟨_, rfl, ?_⟩; clear HF; intro a HF; replace HF := HF.sub ((yX b o n c s fb big ak aj au ah sd i z5 aT v) ++ [(971, aX v.flags), (977, aJ v.off)]) (by kernel_rfl)
 refine cZ (HM.told [5] rfl) ?_
 replace HF := HF.sub ((dP b o n c s fb big ak aj au ah sd i z5 aT) ++ [(958, aC z5), (978, (aP big)), sK sd i ah, (984, (aP big)), pG sd i ah, (990, (aP big)), nK sd i ah, (996, (aP big)), lU sd i ah, (1002, (aP big)), lg sd i ah, (1008, (aP big)), jA sd i ah, (964, aX v.ty), (971, aX v.flags), (977, aJ v.off)]) (by kernel_rfl)
 refine bQ rfl ?_
 refine bn HF (by kernel_rfl) 88 #[(aP big), .slice (some ⟨sd, ((i * 64) + 32), none⟩) ((ah * 64) - ((i * 64) + 32)) ((ah * 64) - ((i * 64) + 32))] (by kernel_rfl) (fun w => by kernel_rfl) (Calls.mono (oh (HM.get (i := 5) rfl) (by unfold maxLen; omega) big ((i * 64) + 32) ((ah * 64) - ((i * 64) + 32)) (by omega) (by omega) ((v.bH : Nat) : Int) (by rw [Jz])) ?_)
 rintro _ w7 ⟨rfl, jF, hq⟩
 replace HM : Mm [fb, aW, aT, sd] W1 w7 [(z10, .cells #[aX v.name] 36 (0, 0)), jK z5, eH fb dat abi aF big aS aG aB aW i ah pg aj, (aW, .cells cur 133 (0, 0)), (aT, .cells fK 36 (0, 0)), (sd, .cells (X.map Bv).toArray 5 (0, 0))] := by rw [hq]; exact HM.drewN _
 clear hq
 refine ⟨_, rfl, ?_⟩; clear HF; intro a HF; replace HF := HF.sub ((dP b o n c s fb big ak aj au ah sd i z5 aT) ++ [(958, aC z5), (978, (aP big)), sK sd i ah, (984, (aP big)), pG sd i ah, (990, (aP big)), nK sd i ah, (996, (aP big)), lU sd i ah, (1002, (aP big)), lg sd i ah, (1008, (aP big)), jA sd i ah, (964, aX v.ty), (971, aX v.flags), (977, aJ v.off), (983, aJ v.bH)]) (by kernel_rfl)
 refine cZ (HM.told [5] rfl) ?_
 replace HF := HF.sub ((dP b o n c s fb big ak aj au ah sd i z5 aT) ++ [(958, aC z5), (984, (aP big)), pG sd i ah, (990, (aP big)), nK sd i ah, (996, (aP big)), lU sd i ah, (1002, (aP big)), lg sd i ah, (1008, (aP big)), jA sd i ah, (964, aX v.ty), (971, aX v.flags), (977, aJ v.off), (983, aJ v.bH)]) (by kernel_rfl)
 refine bQ rfl ?_
 refine bn HF (by kernel_rfl) 88 #[(aP big), .slice (some ⟨sd, ((i * 64) + 16), none⟩) ((ah * 64) - ((i * 64) + 16)) ((ah * 64) - ((i * 64) + 16))] (by kernel_rfl) (fun w => by kernel_rfl) (Calls.mono (oh (HM.get (i := 5) rfl) (by unfold maxLen; omega) big ((i * 64) + 16) ((ah * 64) - ((i * 64) + 16)) (by omega) (by omega) ((v.addr : Nat) : Int) (by rw [GY])) ?_)
 rintro _ w8 ⟨rfl, jF, hq⟩
 replace HM : Mm [fb, aW, aT, sd] W1 w8 [(z10, .cells #[aX v.name] 36 (0, 0)), jK z5, eH fb dat abi aF big aS aG aB aW i ah pg aj, (aW, .cells cur 133 (0, 0)), (aT, .cells fK 36 (0, 0)), (sd, .cells (X.map Bv).toArray 5 (0, 0))] := by rw [hq]; exact HM.drewN _
 clear hq
 refine ⟨_, rfl, ?_⟩; clear HF; intro a HF; replace HF := HF.sub ((dP b o n c s fb big ak aj au ah sd i z5 aT) ++ [(958, aC z5), (984, (aP big)), pG sd i ah, (990, (aP big)), nK sd i ah, (996, (aP big)), lU sd i ah, (1002, (aP big)), lg sd i ah, (1008, (aP big)), jA sd i ah, (964, aX v.ty), (971, aX v.flags), (977, aJ v.off), (983, aJ v.bH), (989, aJ v.addr)]) (by kernel_rfl)
 refine cZ (HM.told [5] rfl) ?_
 replace HF := HF.sub ((dP b o n c s fb big ak aj au ah sd i z5 aT) ++ [(958, aC z5), (990, (aP big)), nK sd i ah, (996, (aP big)), lU sd i ah, (1002, (aP big)), lg sd i ah, (1008, (aP big)), jA sd i ah, (964, aX v.ty), (971, aX v.flags), (977, aJ v.off), (983, aJ v.bH), (989, aJ v.addr)]) (by kernel_rfl)
 refine bQ rfl ?_
 refine bn HF (by kernel_rfl) 87 #[(aP big), .slice (some ⟨sd, ((i * 64) + 40), none⟩) ((ah * 64) - ((i * 64) + 40)) ((ah * 64) - ((i * 64) + 40))] (by kernel_rfl) (fun w => by kernel_rfl) (Calls.mono (jy (HM.get (i := 5) rfl) (by unfold maxLen; omega) big ((i * 64) + 40) ((ah * 64) - ((i * 64) + 40)) (by omega) (by omega) ((v.link : Nat) : Int) (by rw [GV])) ?_)
 rintro _ w9 ⟨rfl, jF, hq⟩
 replace HM : Mm [fb, aW, aT, sd] W1 w9 [(z10, .cells #[aX v.name] 36 (0, 0)), jK z5, eH fb dat abi aF big aS aG aB aW i ah pg aj, (aW, .cells cur 133 (0, 0)), (aT, .cells fK 36 (0, 0)), (sd, .cells (X.map Bv).toArray 5 (0, 0))] := by rw [hq]; exact HM.drewN _
 clear hq
 refine ⟨_, rfl, ?_⟩; clear HF; intro a HF; replace HF := HF.sub ((dP b o n c s fb big ak aj au ah sd i z5 aT) ++ [(958, aC z5), (990, (aP big)), nK sd i ah, (996, (aP big)), lU sd i ah, (1002, (aP big)), lg sd i ah, (1008, (aP big)), jA sd i ah, (964, aX v.ty), (971, aX v.flags), (977, aJ v.off), (983, aJ v.bH), (989, aJ v.addr), (995, aX v.link)]) (by kernel_rfl)
 refine cZ (HM.told [5] rfl) ?_
 replace HF := HF.sub ((dP b o n c s fb big ak aj au ah sd i z5 aT) ++ [(958, aC z5), (996, (aP big)), lU sd i ah, (1002, (aP big)), lg sd i ah, (1008, (aP big)), jA sd i ah, (964, aX v.ty), (971, aX v.flags), (977, aJ v.off), (983, aJ v.bH), (989, aJ v.addr), (995, aX v.link)]) (by kernel_rfl)
 refine bQ rfl ?_
 refine bn HF (by kernel_rfl) 87 #[(aP big), .slice (some ⟨sd, ((i * 64) + 44), none⟩) ((ah * 64) - ((i * 64) + 44)) ((ah * 64) - ((i * 64) + 44))] (by kernel_rfl) (fun w => by kernel_rfl) (Calls.mono (jy (HM.get (i := 5) rfl) (by unfold maxLen; omega) big ((i * 64) + 44) ((ah * 64) - ((i * 64) + 44)) (by omega) (by omega) ((v.info : Nat) : Int) (by rw [GX])) ?_)
 rintro _ w10 ⟨rfl, jF, hq⟩
 replace HM : Mm [fb, aW, aT, sd] W1 w10 [(z10, .cells #[aX v.name] 36 (0, 0)), jK z5, eH fb dat abi aF big aS aG aB aW i ah pg aj, (aW, .cells cur 133 (0, 0)), (aT, .cells fK 36 (0, 0)), (sd, .cells (X.map Bv).toArray 5 (0, 0))] := by rw [hq]; exact HM.drewN _
 clear hq
 refine ⟨_, rfl, ?_⟩; clear HF; intro a HF; replace HF := HF.sub ((dP b o n c s fb big ak aj au ah sd i z5 aT) ++ [(958, aC z5), (996, (aP big)), lU sd i ah, (1002, (aP big)), lg sd i ah, (1008, (aP big)), jA sd i ah, (964, aX v.ty), (971, aX v.flags), (977, aJ v.off), (983, aJ v.bH), (989, aJ v.addr), (995, aX v.link), (1001, aX v.info)]) (by kernel_rfl)
 refine cZ (HM.told [5] rfl) ?_
 replace HF := HF.sub ((dP b o n c s fb big ak aj au ah sd i z5 aT) ++ [(958, aC z5), (1002, (aP big)), lg sd i ah, (1008, (aP big)), jA sd i ah, (964, aX v.ty), (971, aX v.flags), (977, aJ v.off), (983, aJ v.bH), (989, aJ v.addr), (995, aX v.link), (1001, aX v.info)]) (by kernel_rfl)
 refine bQ rfl ?_
 refine bn HF (by kernel_rfl) 88 #[(aP big), .slice (some ⟨sd, ((i * 64) + 48), none⟩) ((ah * 64) - ((i * 64) + 48)) ((ah * 64) - ((i * 64) + 48))] (by kernel_rfl) (fun w => by kernel_rfl) (Calls.mono (oh (HM.get (i := 5) rfl) (by unfold maxLen; omega) big ((i * 64) + 48) ((ah * 64) - ((i * 64) + 48)) (by omega) (by omega) ((v.align : Nat) : Int) (by rw [Eh])) ?_)
 rintro _ rZ ⟨rfl, jF, hq⟩
 replace HM : Mm [fb, aW, aT, sd] W1 rZ [(z10, .cells #[aX v.name] 36 (0, 0)), jK z5, eH fb dat abi aF big aS aG aB aW i ah pg aj, (aW, .cells cur 133 (0, 0)), (aT, .cells fK 36 (0, 0)), (sd, .cells (X.map Bv).toArray 5 (0, 0))] := by rw [hq]; exact HM.drewN _
 clear hq
 refine ⟨_, rfl, ?_⟩; clear HF; intro a HF; replace HF := HF.sub ((dP b o n c s fb big ak aj au ah sd i z5 aT) ++ [(958, aC z5), (1002, (aP big)), lg sd i ah, (1008, (aP big)), jA sd i ah, (964, aX v.ty), (971, aX v.flags), (977, aJ v.off), (983, aJ v.bH), (989, aJ v.addr), (995, aX v.link), (1001, aX v.info), (1007, aJ v.align)]) (by kernel_rfl)
 refine cZ (HM.told [5] rfl) ?_
 replace HF := HF.sub ((dP b o n c s fb big ak aj au ah sd i z5 aT) ++ [(958, aC z5), (1008, (aP big)), jA sd i ah, (964, aX v.ty), (971, aX v.flags), (977, aJ v.off), (983, aJ v.bH), (989, aJ v.addr), (995, aX v.link), (1001, aX v.info), (1007, aJ v.align)]) (by kernel_rfl)
 refine bQ rfl ?_
 refine bn HF (by kernel_rfl) 88 #[(aP big), .slice (some ⟨sd, ((i * 64) + 56), none⟩) ((ah * 64) - ((i * 64) + 56)) ((ah * 64) - ((i * 64) + 56))] (by kernel_rfl) (fun w => by kernel_rfl) (Calls.mono (oh (HM.get (i := 5) rfl) (by unfold maxLen; omega) big ((i * 64) + 56) ((ah * 64) - ((i * 64) + 56)) (by omega) (by omega) ((v.ent : Nat) : Int) (by rw [JA])) ?_)
 rintro _ w12 ⟨rfl, jF, hq⟩
 replace HM : Mm [fb, aW, aT, sd] W1 w12 [(z10, .cells #[aX v.name] 36 (0, 0)), jK z5, eH fb dat abi aF big aS aG aB aW i ah pg aj, (aW, .cells cur 133 (0, 0)), (aT, .cells fK 36 (0, 0)), (sd, .cells (X.map Bv).toArray 5 (0, 0))] := by rw [hq]; exact HM.drewN _
 clear hq
 refine ⟨_, rfl, ?_⟩; clear HF; intro a HF; replace HF := HF.sub ((dP b o n c s fb big ak aj au ah sd i z5 aT) ++ [(958, aC z5), (1008, (aP big)), jA sd i ah, (964, aX v.ty), (971, aX v.flags), (977, aJ v.off), (983, aJ v.bH), (989, aJ v.addr), (995, aX v.link), (1001, aX v.info), (1007, aJ v.align), (1013, aJ v.ent)]) (by kernel_rfl)
 refine cZ (HM.told [5] rfl) ?_
 replace HF := HF.sub ((dP b o n c s fb big ak aj au ah sd i z5 aT) ++ [(958, aC z5), (964, aX v.ty), (971, aX v.flags), (977, aJ v.off), (983, aJ v.bH), (989, aJ v.addr), (995, aX v.link), (1001, aX v.info), (1007, aJ v.align), (1013, aJ v.ent)]) (by kernel_rfl)
 refine bD HF (HM.told [5] rfl) 3 [] ((dP b o n c s fb big ak aj au ah sd i z5 aT) ++ [(958, aC z5), (964, aX v.ty), (971, aX v.flags), (977, aJ v.off), (983, aJ v.bH), (989, aJ v.addr), (995, aX v.link), (1001, aX v.info), (1007, aJ v.align), (1013, aJ v.ent), DC v, (1016, aC z5)]) (by kernel_rfl) ?_
 clear HF; intro a HF
 replace HF := HF.sub ((dP b o n c s fb big ak aj au ah sd i z5 aT) ++ [DC v, (1016, aC z5)]) (by kernel_rfl)
 refine bQ rfl ?_
 refine aO HF HM rfl 1 [[4, 4, 4, 4, 4, 4, 4, 4, 4, 4, 4]] (dP b o n c s fb big ak aj au ah sd i z5 aT) [(z10, .cells #[aX v.name] 36 (0, 0)), qO z5 v, eH fb dat abi aF big aS aG aB aW i ah pg aj, (aW, .cells cur 133 (0, 0)), (aT, .cells fK 36 (0, 0)), (sd, .cells (X.map Bv).toArray 5 (0, 0))] (by kernel_rfl) ?_
 clear HF HM; intro a w HF HM
 refine cZ (HM.told [5] rfl) ?_
 refine iP ?_
 repeat (first | refine aQ ?_ | refine aU ?_)
 refine wp_seq ?_
 refine wp_seq (wp_region_lit ?_)
 refine aO HF HM rfl 6 [[4]] ((dP b o n c s fb big ak aj au ah sd i z5 aT) ++ [(1022, ay (IntKind.i64.wrap ((v.off : Nat) : Int)))]) [(z10, .cells #[aX v.name] 36 (0, 0)), qO z5 v, eH fb dat abi aF big aS aG aB aW i ah pg aj, (aW, .cells cur 133 (0, 0)), (aT, .cells fK 36 (0, 0)), (sd, .cells (X.map Bv).toArray 5 (0, 0))] (by kernel_rfl) ?_
 clear HF HM; intro a w HF HM
 rw [show IntKind.i64.wrap ((v.off : Nat) : Int) = ((v.off : Nat) : Int) from IntWalk.i64_in _ (by omega)] at HF
 refine aO HF HM rfl 1 [] ((dP b o n c s fb big ak aj au ah sd i z5 aT) ++ [(1023, .bool (decide (((v.off : Nat) : Int) < 0)))]) [(z10, .cells #[aX v.name] 36 (0, 0)), qO z5 v, eH fb dat abi aF big aS aG aB aW i ah pg aj, (aW, .cells cur 133 (0, 0)), (aT, .cells fK 36 (0, 0)), (sd, .cells (X.map Bv).toArray 5 (0, 0))] (by kernel_rfl) ?_
 clear HF HM; intro a w HF HM
 rw [show decide (((v.off : Nat) : Int) < 0) = false from dI (by omega)] at HF
 refine aI ?_
 refine aZ HF rfl ?_
 refine wp_skip ?_
 repeat (first | refine aQ ?_ | refine aU ?_)
 replace HF := HF.sub (dP b o n c s fb big ak aj au ah sd i z5 aT) (by kernel_rfl)
 refine wp_seq ?_
 refine wp_seq (wp_region_lit ?_)
 refine aO HF HM rfl 6 [[4]] ((dP b o n c s fb big ak aj au ah sd i z5 aT) ++ [(1043, ay (IntKind.i64.wrap ((v.bH : Nat) : Int)))]) [(z10, .cells #[aX v.name] 36 (0, 0)), qO z5 v, eH fb dat abi aF big aS aG aB aW i ah pg aj, (aW, .cells cur 133 (0, 0)), (aT, .cells fK 36 (0, 0)), (sd, .cells (X.map Bv).toArray 5 (0, 0))] (by kernel_rfl) ?_
 clear HF HM; intro a w HF HM
 rw [show IntKind.i64.wrap ((v.bH : Nat) : Int) = ((v.bH : Nat) : Int) from IntWalk.i64_in _ (by omega)] at HF
 refine aO HF HM rfl 1 [] ((dP b o n c s fb big ak aj au ah sd i z5 aT) ++ [(1044, .bool (decide (((v.bH : Nat) : Int) < 0)))]) [(z10, .cells #[aX v.name] 36 (0, 0)), qO z5 v, eH fb dat abi aF big aS aG aB aW i ah pg aj, (aW, .cells cur 133 (0, 0)), (aT, .cells fK 36 (0, 0)), (sd, .cells (X.map Bv).toArray 5 (0, 0))] (by kernel_rfl) ?_
 clear HF HM; intro a w HF HM
 rw [show decide (((v.bH : Nat) : Int) < 0) = false from dI (by omega)] at HF
 refine aI ?_
 refine aZ HF rfl ?_
 refine wp_skip ?_
 repeat (first | refine aQ ?_ | refine aU ?_)
 replace HF := HF.sub (dP b o n c s fb big ak aj au ah sd i z5 aT) (by kernel_rfl)
 refine w_ HM (by kernel_rfl) (fun w => w.cell? ⟨z5, 4, none⟩ = some (aJ v.off) ∧ w.cell? ⟨z5, 10, none⟩ = some (aJ v.bH)) [(0, false), (1, false), (2, false), (3, false), (4, false), (5, false), (6, false), (7, false), (8, false), (9, false), (10, false), (11, false), (12, false), (13, false), (14, true), (15, false), (16, false), (17, true)] (by kernel_rfl) ?_
 clear HM; intro wE HM
 refine jl (LS := []) (fun _ _ => jM _) HF ⟨HM.cellAt (i := 1) (k := 4) rfl rfl, HM.cellAt (i := 1) (k := 10) rfl rfl⟩ 6 [] ((pF b o n c s fb big ak aj au ah sd i z5 aT) ++ [(1064, .pointer (some ⟨z5, 4, none⟩))]) (by kernel_rfl) ?_
 clear HF; intro a HF
 refine o7 rfl HF ⟨HM.cellAt (i := 1) (k := 4) rfl rfl, HM.cellAt (i := 1) (k := 10) rfl rfl⟩ rfl (aJ v.off) (by kernel_rfl) (fun w hw => iE rfl rfl (by kernel_rfl) hw.1) ?_
 clear HF; intro a HF; replace HF := HF.sub ((pF b o n c s fb big ak aj au ah sd i z5 aT) ++ [(1064, .pointer (some ⟨z5, 4, none⟩)), (1065, aJ v.off)]) (by kernel_rfl)
 refine jl (LS := []) (fun _ _ => jM _) HF ⟨HM.cellAt (i := 1) (k := 4) rfl rfl, HM.cellAt (i := 1) (k := 10) rfl rfl⟩ 1 [] ((pF b o n c s fb big ak aj au ah sd i z5 aT) ++ [(1066, ay (IntKind.i64.wrap ((v.off : Nat) : Int)))]) (by kernel_rfl) ?_
 clear HF; intro a HF
 rw [show IntKind.i64.wrap ((v.off : Nat) : Int) = ((v.off : Nat) : Int) from IntWalk.i64_in _ (by omega)] at HF
 refine jl (LS := []) (fun _ _ => jM _) HF ⟨HM.cellAt (i := 1) (k := 4) rfl rfl, HM.cellAt (i := 1) (k := 10) rfl rfl⟩ 4 [] ((pF b o n c s fb big ak aj au ah sd i z5 aT) ++ [(1066, aA v.off), (1070, .pointer (some ⟨z5, 10, none⟩))]) (by kernel_rfl) ?_
 clear HF; intro a HF
 refine o7 rfl HF ⟨HM.cellAt (i := 1) (k := 4) rfl rfl, HM.cellAt (i := 1) (k := 10) rfl rfl⟩ rfl (aJ v.bH) (by kernel_rfl) (fun w hw => iE rfl rfl (by kernel_rfl) hw.2) ?_
 clear HF; intro a HF; replace HF := HF.sub ((pF b o n c s fb big ak aj au ah sd i z5 aT) ++ [(1066, aA v.off), (1070, .pointer (some ⟨z5, 10, none⟩)), (1071, aJ v.bH)]) (by kernel_rfl)
 refine jl (LS := []) (fun _ _ => jM _) HF ⟨HM.cellAt (i := 1) (k := 4) rfl rfl, HM.cellAt (i := 1) (k := 10) rfl rfl⟩ 1 [] ((pF b o n c s fb big ak aj au ah sd i z5 aT) ++ [(1066, aA v.off), (1072, ay (IntKind.i64.wrap ((v.bH : Nat) : Int)))]) (by kernel_rfl) ?_
 clear HF; intro a HF
 rw [show IntKind.i64.wrap ((v.bH : Nat) : Int) = ((v.bH : Nat) : Int) from IntWalk.i64_in _ (by omega)] at HF
 refine nS rfl ?_
 refine bn HF (by kernel_rfl) 92 #[.iface 178 (.slice (some ⟨b, o, none⟩) n c), aA v.off, aA v.bH] (by kernel_rfl) (fun w => by kernel_rfl) (Calls.mono (nX 178 (.slice (some ⟨b, o, none⟩) n c) ((v.off : Nat) : Int) ((v.bH : Nat) : Int) (by omega) (by omega) (by omega) wE) ?_)
 rintro _ zU ⟨sb, rfl, hb, hge, hgn⟩
 replace HM : Mm [fb, aW, aT, sd] W1 zU [mQ sb b o n c v, (z10, .cells #[aX v.name] 36 (0, 0)), qO z5 v, eH fb dat abi aF big aS aG aB aW i ah pg aj, (aW, .cells cur 133 (0, 0)), (aT, .cells fK 36 (0, 0)), (sd, .cells (X.map Bv).toArray 5 (0, 0))] := HM.push hb hge hgn
 clear hb hge hgn
 refine ⟨_, rfl, ?_⟩; clear HF; intro a HF; replace HF := HF.sub ((pF b o n c s fb big ak aj au ah sd i z5 aT) ++ [(1066, aA v.off), (1072, aA v.bH), (1073, aC sb)]) (by kernel_rfl)
 refine o8 ⟨HM.cellAt (i := 2) (k := 4) rfl rfl, HM.cellAt (i := 2) (k := 10) rfl rfl⟩ ?_
 refine jl (LS := []) (fun _ _ => jM _) HF ⟨HM.cellAt (i := 2) (k := 4) rfl rfl, HM.cellAt (i := 2) (k := 10) rfl rfl⟩ 2 [] ((dP b o n c s fb big ak aj au ah sd i z5 aT) ++ [(1073, aC sb), (1075, .pointer (some ⟨z5, 12, none⟩))]) (by kernel_rfl) ?_
 clear HF; intro a HF
 refine nS rfl ?_
 refine aO HF HM rfl 1 [[4]] (dP b o n c s fb big ak aj au ah sd i z5 aT) [mQ sb b o n c v, (z10, .cells #[aX v.name] 36 (0, 0)), DF z5 v sb, eH fb dat abi aF big aS aG aB aW i ah pg aj, (aW, .cells cur 133 (0, 0)), (aT, .cells fK 36 (0, 0)), (sd, .cells (X.map Bv).toArray 5 (0, 0))] (by kernel_rfl) ?_
 clear HF HM; intro a w HF HM
 refine o8 ⟨HM.cellAt (i := 2) (k := 4) rfl rfl, HM.cellAt (i := 2) (k := 10) rfl rfl⟩ ?_
 refine xg (aQ ?_)
 refine wp_seq ?_
 refine wp_seq (wp_region_lit ?_)
 refine aO HF HM rfl 7 [[4]] [(0, .iface 178 (.slice (some ⟨b, o, none⟩) n c)), (4, aC s), (8, aC fb), (9, (aP big)), (10, aA ak), (11, ay 56), (12, aA aj), (13, aA au), (14, ay 64), (15, aA ah), (16, aA (ah - 1)), (26, ay 64), (42, aH sd (ah * 64) (ah * 64)), (43, aA i), (44, aJ (i * 64)), (45, aC z5), (41, aH aT (i + 1) ah), (1082, .bool (oC ((v.flags : Nat) : Int) 2048 == 0))] [mQ sb b o n c v, (z10, .cells #[aX v.name] 36 (0, 0)), DF z5 v sb, eH fb dat abi aF big aS aG aB aW i ah pg aj, (aW, .cells cur 133 (0, 0)), (aT, .cells fK 36 (0, 0)), (sd, .cells (X.map Bv).toArray 5 (0, 0))] (by kernel_rfl) ?_
 clear HF HM; intro a w HF HM
 rw [v9] at HF
 refine aI ?_
 refine bF HF rfl ?_
 replace HF := HF.sub (dP b o n c s fb big ak aj au ah sd i z5 aT) (by kernel_rfl)
 refine bC HF HM rfl [[4], [4]] (dP b o n c s fb big ak aj au ah sd i z5 aT) [mQ sb b o n c v, (z10, .cells #[aX v.name] 36 (0, 0)), (z5, .cells #[.string ⟨#[]⟩, aX (v).ty, aX (v).flags, aJ (v).addr, aJ (v).off, bG 0, aX (v).link, aX (v).info, aJ (v).align, aJ (v).ent, aJ (v).bH, .iface 144 (aC sb), aC sb, ay 0, ay 0] 153 (0, 0)), eH fb dat abi aF big aS aG aB aW i ah pg aj, (aW, .cells cur 133 (0, 0)), (aT, .cells fK 36 (0, 0)), (sd, .cells (X.map Bv).toArray 5 (0, 0))] (by kernel_rfl) ?_
 clear HF HM; intro a w HF HM
 refine nD HF HM rfl [[4], [4]] (dP b o n c s fb big ak aj au ah sd i z5 aT) [mQ sb b o n c v, (z10, .cells #[aX v.name] 36 (0, 0)), qN z5 v sb, eH fb dat abi aF big aS aG aB aW i ah pg aj, (aW, .cells cur 133 (0, 0)), (aT, .cells fK 36 (0, 0)), (sd, .cells (X.map Bv).toArray 5 (0, 0))] (by kernel_rfl) ?_
 clear HF HM; intro a w HF HM
 repeat (first | refine aQ ?_ | refine aU ?_)
 refine wp_region_lit ?_
 obtain ⟨z21, hz21⟩ : ∃ z, w.heap.size = z := ⟨_, rfl⟩
 refine aO HF HM hz21 7 [[3]] ((dP b o n c s fb big ak aj au ah sd i z5 aT) ++ [(1191, aC fb), (1195, aH aW i ah), (1197, aH z21 1 1)]) [(z21, .cells #[aC z5] 133 (0, 0)), mQ sb b o n c v, (z10, .cells #[aX v.name] 36 (0, 0)), qN z5 v sb, eH fb dat abi aF big aS aG aB aW i ah pg aj, (aW, .cells cur 133 (0, 0)), (aT, .cells fK 36 (0, 0)), (sd, .cells (X.map Bv).toArray 5 (0, 0))] (by kernel_rfl) ?_
 clear HF HM hz21; intro a w HF HM
 refine oP HF HM rfl _ _ 126 rfl rfl 133 (.pointer none) 8 Tryd.underlying126 yD 5 0 aW _ i ah cur _ _ rfl hcs (by omega) (by unfold maxLen; omega) rfl rfl rfl rfl ?_
 intro a2 Cm cur' hcs' htk bU HF2; clear HF HM; have HM : Mm [fb, aW, aT, sd] W1 Cm [(z21, .cells #[aC z5] 133 (0, 0)), mQ sb b o n c v, (z10, .cells #[aX v.name] 36 (0, 0)), qN z5 v sb, eH fb dat abi aF big aS aG aB aW i ah pg aj, (aW, .cells cur' 133 (0, 0)), (aT, .cells fK 36 (0, 0)), (sd, .cells (X.map Bv).toArray 5 (0, 0))] := bU; have HF := HF2; clear bU HF2
 replace HF := HF.sub ((dP b o n c s fb big ak aj au ah sd i z5 aT) ++ [(1191, aC fb), (1198, aH aW (i + 1) ah)]) (by kernel_rfl)
 refine aO HF HM rfl 3 [[3]] (dP b o n c s fb big ak aj au ah sd i z5 aT) [(z21, .cells #[aC z5] 133 (0, 0)), mQ sb b o n c v, (z10, .cells #[aX v.name] 36 (0, 0)), qN z5 v sb, xu fb dat abi aF big aS aG aB aW i ah pg aj, (aW, .cells cur' 133 (0, 0)), (aT, .cells fK 36 (0, 0)), (sd, .cells (X.map Bv).toArray 5 (0, 0))] (by kernel_rfl) ?_
 clear HF HM; intro a w HF HM
 refine wpList_nil ?_
 repeat (first | refine aQ ?_ | refine aU ?_)
 refine wp_region_lit ?_
 refine aO HF HM rfl 2 [] ((dP b o n c s fb big ak aj au ah sd i z5 aT) ++ [(861, ay (IntKind.i64.wrap (((i : Nat) : Int) + 1)))]) [(z21, .cells #[aC z5] 133 (0, 0)), mQ sb b o n c v, (z10, .cells #[aX v.name] 36 (0, 0)), qN z5 v sb, xu fb dat abi aF big aS aG aB aW i ah pg aj, (aW, .cells cur' 133 (0, 0)), (aT, .cells fK 36 (0, 0)), (sd, .cells (X.map Bv).toArray 5 (0, 0))] (by kernel_rfl) ?_
 clear HF HM; intro a w HF HM
 rw [show IntKind.i64.wrap (((i : Nat) : Int) + 1) = (((i + 1) : Nat) : Int) from (IntWalk.i64_in _ (by omega)).trans (by omega)] at HF
 refine aO HF HM rfl 1 [] ((xq b o n c s fb big ak aj au ah) ++ [(42, aH sd (ah * 64) (ah * 64)), (44, aJ (i * 64)), (45, aC z5), (41, aH aT (i + 1) ah), (43, aA (i + 1))]) [(z21, .cells #[aC z5] 133 (0, 0)), mQ sb b o n c v, (z10, .cells #[aX v.name] 36 (0, 0)), qN z5 v sb, xu fb dat abi aF big aS aG aB aW i ah pg aj, (aW, .cells cur' 133 (0, 0)), (aT, .cells fK 36 (0, 0)), (sd, .cells (X.map Bv).toArray 5 (0, 0))] (by kernel_rfl) ?_
 clear HF HM; intro a w HF HM
 refine wpList_nil ?_
 repeat (first | refine aQ ?_ | refine aU ?_)
 replace HF := HF.sub ((xq b o n c s fb big ak aj au ah) ++ [(41, aH aT (i + 1) ah), (42, aH sd (ah * 64) (ah * 64)), (43, aA (i + 1))]) (by kernel_rfl)
 exact K a w z5 sb cur' fK hcs' Df htk htn HF (HM.sub (List.Sublist.cons _ (List.Sublist.cons_cons _ (List.Sublist.cons _ (List.Sublist.refl _)))))

end Go.Proofs.YtdgehpocmfjbiaaDoor
