/- elf.NewFile: one round of the loop over the sections. -/
import Derived.Test.YtdgehpocmfjbiaaDoorRd
set_option linter.unusedVariables false
set_option linter.unusedSimpArgs false
set_option maxRecDepth 100000
set_option maxHeartbeats 2000000
namespace Go.Proofs.YtdgehpocmfjbiaaDoor
open Go.RowKit

structure jG where
 name : Nat
 ty : Nat
 flags : Nat
 addr : Nat
 off : Nat
 bP : Nat
 link : Nat
 info : Nat
 align : Nat
 ent : Nat
theorem Mm.restart {G : List Nat} {w0 w : World} {L : List (Nat × Obj)} (h : Mm G w0 w L) : Mm (L.map (·.1)) w w L := ⟨Keep.refl _ _, fun p hp => ⟨(h.2.1 p hp).1, .inr (List.mem_map_of_mem hp)⟩, h.2.2⟩

abbrev gI := fun (fb : Nat) (dat : Int) (abi : Nat) (aH : Nat) (big : Bool) (aW : Nat) (aJ : Nat) (aG : Nat) (aV : Nat) (i : Nat) (ah : Nat) (pg : Nat) (aj : Nat) => ((fb, .cells #[aO 1, .int .u8 dat, aO 1, aT abi, aT aH, (aU big), bn aW, bn aJ, aI aG, aC aV i ah, aC pg aj aj, aQ, aQ, aQ] 131 (0, 0)) : Nat × Obj)
abbrev mF := fun (b : Nat) (o : Nat) (n : Nat) (c : Nat) (s : Nat) (fb : Nat) (big : Bool) (ak : Nat) (aj : Nat) (au : Nat) (ah : Nat) (aY : Nat) (i : Nat) (sd : Nat) => ([(0, .iface 178 (.slice (some ⟨b, o, none⟩) n c)), (4, aA s), (8, aA fb), (9, (aU big)), (10, ay ak), (11, aF 32), (12, ay aj), (13, ay au), (14, aF 40), (15, ay ah), (16, ay (ah - 1)), (26, aF 40), (41, aC aY i ah), (42, aC sd (ah * 40) (ah * 40)), (43, ay i)] : Slots)
abbrev BM := fun (fb : Nat) (dat : Int) (abi : Nat) (aH : Nat) (big : Bool) (aW : Nat) (aJ : Nat) (aG : Nat) (aV : Nat) (i : Nat) (ah : Nat) (pg : Nat) (aj : Nat) => ((fb, .cells #[aO 1, .int .u8 dat, aO 1, aT abi, aT aH, (aU big), bn aW, bn aJ, aI aG, aC aV (i + 1) ah, aC pg aj aj, aQ, aQ, aQ] 131 (0, 0)) : Nat × Obj)
abbrev pI := fun sb (b : Nat) (o : Nat) (n : Nat) (c : Nat) (v : jG) => ((sb, .cells #[.iface 178 (.slice (some ⟨b, o, none⟩) n c), ay v.off, ay v.off, aF (((v.bP : Nat) : Int) + ((v.off : Nat) : Int)), ay v.bP] 246 (0, 0)) : Nat × Obj)
abbrev BL := fun (b : Nat) (o : Nat) (n : Nat) (c : Nat) (s : Nat) (fb : Nat) (big : Bool) (ak : Nat) (aj : Nat) (au : Nat) (ah : Nat) => ([(0, .iface 178 (.slice (some ⟨b, o, none⟩) n c)), (4, aA s), (8, aA fb), (9, (aU big)), (10, ay ak), (11, aF 32), (12, ay aj), (13, ay au), (14, aF 40), (15, ay ah), (16, ay (ah - 1)), (26, aF 40)] : Slots)
abbrev lC := fun z5 => ((z5, .cells #[.string ⟨#[]⟩, gV 0, gV 0, bF 0, bF 0, bF 0, gV 0, gV 0, bF 0, bF 0, bF 0, .nilIface, .pointer none, aF 0, aF 0] 153 (0, 0)) : Nat × Obj)
abbrev gy := fun (b : Nat) (o : Nat) (n : Nat) (c : Nat) (s : Nat) (fb : Nat) (big : Bool) (ak : Nat) (aj : Nat) (au : Nat) (ah : Nat) (sd : Nat) (i : Nat) z5 (aY : Nat) => ((BL b o n c s fb big ak aj au ah) ++ [(42, aC sd (ah * 40) (ah * 40)), (43, ay i), (44, aI (i * 40)), (45, aA z5), (41, aC aY (i + 1) ah)] : Slots)
abbrev QJ := fun (sd : Nat) (i : Nat) (ah : Nat) => ((889, .slice (some ⟨sd, ((i * 40) + 4), none⟩) ((ah * 40) - ((i * 40) + 4)) ((ah * 40) - ((i * 40) + 4))) : Nat × Value)
abbrev BK := fun (b : Nat) (o : Nat) (n : Nat) (c : Nat) (s : Nat) (fb : Nat) (big : Bool) (ak : Nat) (aj : Nat) (au : Nat) (ah : Nat) (sd : Nat) (i : Nat) z5 (aY : Nat) => ((gy b o n c s fb big ak aj au ah sd i z5 aY) ++ [(884, aA z5), (885, (aU big)), (889, .slice (some ⟨sd, ((i * 40) + 4), none⟩) ((ah * 40) - ((i * 40) + 4)) ((ah * 40) - ((i * 40) + 4)))] : Slots)
abbrev Fg := fun (sd : Nat) (i : Nat) (ah : Nat) => ((895, .slice (some ⟨sd, ((i * 40) + 8), none⟩) ((ah * 40) - ((i * 40) + 8)) ((ah * 40) - ((i * 40) + 8))) : Nat × Value)
abbrev z_ := fun (b : Nat) (o : Nat) (n : Nat) (c : Nat) (s : Nat) (fb : Nat) (big : Bool) (ak : Nat) (aj : Nat) (au : Nat) (ah : Nat) (sd : Nat) (i : Nat) z5 (aY : Nat) => ((BK b o n c s fb big ak aj au ah sd i z5 aY) ++ [(891, (aU big)), (895, .slice (some ⟨sd, ((i * 40) + 8), none⟩) ((ah * 40) - ((i * 40) + 8)) ((ah * 40) - ((i * 40) + 8)))] : Slots)
abbrev xu := fun (sd : Nat) (i : Nat) (ah : Nat) => ((901, .slice (some ⟨sd, ((i * 40) + 12), none⟩) ((ah * 40) - ((i * 40) + 12)) ((ah * 40) - ((i * 40) + 12))) : Nat × Value)
abbrev zZ := fun (b : Nat) (o : Nat) (n : Nat) (c : Nat) (s : Nat) (fb : Nat) (big : Bool) (ak : Nat) (aj : Nat) (au : Nat) (ah : Nat) (sd : Nat) (i : Nat) z5 (aY : Nat) => ((z_ b o n c s fb big ak aj au ah sd i z5 aY) ++ [(897, (aU big)), (901, .slice (some ⟨sd, ((i * 40) + 12), none⟩) ((ah * 40) - ((i * 40) + 12)) ((ah * 40) - ((i * 40) + 12)))] : Slots)
abbrev xq := fun (sd : Nat) (i : Nat) (ah : Nat) => ((908, .slice (some ⟨sd, ((i * 40) + 16), none⟩) ((ah * 40) - ((i * 40) + 16)) ((ah * 40) - ((i * 40) + 16))) : Nat × Value)
abbrev zY := fun (b : Nat) (o : Nat) (n : Nat) (c : Nat) (s : Nat) (fb : Nat) (big : Bool) (ak : Nat) (aj : Nat) (au : Nat) (ah : Nat) (sd : Nat) (i : Nat) z5 (aY : Nat) => ((zZ b o n c s fb big ak aj au ah sd i z5 aY) ++ [(904, (aU big)), (908, .slice (some ⟨sd, ((i * 40) + 16), none⟩) ((ah * 40) - ((i * 40) + 16)) ((ah * 40) - ((i * 40) + 16)))] : Slots)
abbrev xk := fun (sd : Nat) (i : Nat) (ah : Nat) => ((915, .slice (some ⟨sd, ((i * 40) + 20), none⟩) ((ah * 40) - ((i * 40) + 20)) ((ah * 40) - ((i * 40) + 20))) : Nat × Value)
abbrev zX := fun (b : Nat) (o : Nat) (n : Nat) (c : Nat) (s : Nat) (fb : Nat) (big : Bool) (ak : Nat) (aj : Nat) (au : Nat) (ah : Nat) (sd : Nat) (i : Nat) z5 (aY : Nat) => ((zY b o n c s fb big ak aj au ah sd i z5 aY) ++ [(911, (aU big)), (915, .slice (some ⟨sd, ((i * 40) + 20), none⟩) ((ah * 40) - ((i * 40) + 20)) ((ah * 40) - ((i * 40) + 20)))] : Slots)
abbrev xg := fun (sd : Nat) (i : Nat) (ah : Nat) => ((922, .slice (some ⟨sd, ((i * 40) + 24), none⟩) ((ah * 40) - ((i * 40) + 24)) ((ah * 40) - ((i * 40) + 24))) : Nat × Value)
abbrev zW := fun (b : Nat) (o : Nat) (n : Nat) (c : Nat) (s : Nat) (fb : Nat) (big : Bool) (ak : Nat) (aj : Nat) (au : Nat) (ah : Nat) (sd : Nat) (i : Nat) z5 (aY : Nat) => ((zX b o n c s fb big ak aj au ah sd i z5 aY) ++ [(918, (aU big)), (922, .slice (some ⟨sd, ((i * 40) + 24), none⟩) ((ah * 40) - ((i * 40) + 24)) ((ah * 40) - ((i * 40) + 24)))] : Slots)
abbrev tC := fun (sd : Nat) (i : Nat) (ah : Nat) => ((928, .slice (some ⟨sd, ((i * 40) + 28), none⟩) ((ah * 40) - ((i * 40) + 28)) ((ah * 40) - ((i * 40) + 28))) : Nat × Value)
abbrev zV := fun (b : Nat) (o : Nat) (n : Nat) (c : Nat) (s : Nat) (fb : Nat) (big : Bool) (ak : Nat) (aj : Nat) (au : Nat) (ah : Nat) (sd : Nat) (i : Nat) z5 (aY : Nat) => ((zW b o n c s fb big ak aj au ah sd i z5 aY) ++ [(924, (aU big)), (928, .slice (some ⟨sd, ((i * 40) + 28), none⟩) ((ah * 40) - ((i * 40) + 28)) ((ah * 40) - ((i * 40) + 28)))] : Slots)
abbrev qo := fun (sd : Nat) (i : Nat) (ah : Nat) => ((934, .slice (some ⟨sd, ((i * 40) + 32), none⟩) ((ah * 40) - ((i * 40) + 32)) ((ah * 40) - ((i * 40) + 32))) : Nat × Value)
abbrev w_ := fun (b : Nat) (o : Nat) (n : Nat) (c : Nat) (s : Nat) (fb : Nat) (big : Bool) (ak : Nat) (aj : Nat) (au : Nat) (ah : Nat) (sd : Nat) (i : Nat) z5 (aY : Nat) => ((zV b o n c s fb big ak aj au ah sd i z5 aY) ++ [(930, (aU big)), (934, .slice (some ⟨sd, ((i * 40) + 32), none⟩) ((ah * 40) - ((i * 40) + 32)) ((ah * 40) - ((i * 40) + 32)))] : Slots)
abbrev oz := fun (sd : Nat) (i : Nat) (ah : Nat) => ((941, .slice (some ⟨sd, ((i * 40) + 36), none⟩) ((ah * 40) - ((i * 40) + 36)) ((ah * 40) - ((i * 40) + 36))) : Nat × Value)
abbrev D9 := fun (b : Nat) (o : Nat) (n : Nat) (c : Nat) (s : Nat) (fb : Nat) (big : Bool) (ak : Nat) (aj : Nat) (au : Nat) (ah : Nat) (sd : Nat) (i : Nat) z5 (aY : Nat) (v : jG) => ((gy b o n c s fb big ak aj au ah sd i z5 aY) ++ [(884, aA z5), (904, (aU big)), (908, .slice (some ⟨sd, ((i * 40) + 16), none⟩) ((ah * 40) - ((i * 40) + 16)) ((ah * 40) - ((i * 40) + 16))), (911, (aU big)), (915, .slice (some ⟨sd, ((i * 40) + 20), none⟩) ((ah * 40) - ((i * 40) + 20)) ((ah * 40) - ((i * 40) + 20))), (918, (aU big)), (922, .slice (some ⟨sd, ((i * 40) + 24), none⟩) ((ah * 40) - ((i * 40) + 24)) ((ah * 40) - ((i * 40) + 24))), (924, (aU big)), (928, .slice (some ⟨sd, ((i * 40) + 28), none⟩) ((ah * 40) - ((i * 40) + 28)) ((ah * 40) - ((i * 40) + 28))), (930, (aU big)), (934, .slice (some ⟨sd, ((i * 40) + 32), none⟩) ((ah * 40) - ((i * 40) + 32)) ((ah * 40) - ((i * 40) + 32))), (937, (aU big)), (941, .slice (some ⟨sd, ((i * 40) + 36), none⟩) ((ah * 40) - ((i * 40) + 36)) ((ah * 40) - ((i * 40) + 36))), (890, aX v.ty), (896, aX v.flags)] : Slots)
abbrev D8 := fun (b : Nat) (o : Nat) (n : Nat) (c : Nat) (s : Nat) (fb : Nat) (big : Bool) (ak : Nat) (aj : Nat) (au : Nat) (ah : Nat) (sd : Nat) (i : Nat) z5 (aY : Nat) (v : jG) => ((gy b o n c s fb big ak aj au ah sd i z5 aY) ++ [(884, aA z5), (911, (aU big)), (915, .slice (some ⟨sd, ((i * 40) + 20), none⟩) ((ah * 40) - ((i * 40) + 20)) ((ah * 40) - ((i * 40) + 20))), (918, (aU big)), (922, .slice (some ⟨sd, ((i * 40) + 24), none⟩) ((ah * 40) - ((i * 40) + 24)) ((ah * 40) - ((i * 40) + 24))), (924, (aU big)), (928, .slice (some ⟨sd, ((i * 40) + 28), none⟩) ((ah * 40) - ((i * 40) + 28)) ((ah * 40) - ((i * 40) + 28))), (930, (aU big)), (934, .slice (some ⟨sd, ((i * 40) + 32), none⟩) ((ah * 40) - ((i * 40) + 32)) ((ah * 40) - ((i * 40) + 32))), (937, (aU big)), (941, .slice (some ⟨sd, ((i * 40) + 36), none⟩) ((ah * 40) - ((i * 40) + 36)) ((ah * 40) - ((i * 40) + 36))), (890, aX v.ty), (896, aX v.flags), (903, aI v.addr)] : Slots)
abbrev D7 := fun (b : Nat) (o : Nat) (n : Nat) (c : Nat) (s : Nat) (fb : Nat) (big : Bool) (ak : Nat) (aj : Nat) (au : Nat) (ah : Nat) (sd : Nat) (i : Nat) z5 (aY : Nat) (v : jG) => ((gy b o n c s fb big ak aj au ah sd i z5 aY) ++ [(884, aA z5), (918, (aU big)), (922, .slice (some ⟨sd, ((i * 40) + 24), none⟩) ((ah * 40) - ((i * 40) + 24)) ((ah * 40) - ((i * 40) + 24))), (924, (aU big)), (928, .slice (some ⟨sd, ((i * 40) + 28), none⟩) ((ah * 40) - ((i * 40) + 28)) ((ah * 40) - ((i * 40) + 28))), (930, (aU big)), (934, .slice (some ⟨sd, ((i * 40) + 32), none⟩) ((ah * 40) - ((i * 40) + 32)) ((ah * 40) - ((i * 40) + 32))), (937, (aU big)), (941, .slice (some ⟨sd, ((i * 40) + 36), none⟩) ((ah * 40) - ((i * 40) + 36)) ((ah * 40) - ((i * 40) + 36))), (890, aX v.ty), (896, aX v.flags), (903, aI v.addr), (910, aI v.off)] : Slots)
abbrev D6 := fun (b : Nat) (o : Nat) (n : Nat) (c : Nat) (s : Nat) (fb : Nat) (big : Bool) (ak : Nat) (aj : Nat) (au : Nat) (ah : Nat) (sd : Nat) (i : Nat) z5 (aY : Nat) (v : jG) => ((gy b o n c s fb big ak aj au ah sd i z5 aY) ++ [(884, aA z5), (937, (aU big)), (941, .slice (some ⟨sd, ((i * 40) + 36), none⟩) ((ah * 40) - ((i * 40) + 36)) ((ah * 40) - ((i * 40) + 36))), (890, aX v.ty), (896, aX v.flags), (903, aI v.addr), (910, aI v.off), (917, aI v.bP), (923, aX v.link), (929, aX v.info)] : Slots)
abbrev D5 := fun (b : Nat) (o : Nat) (n : Nat) (c : Nat) (s : Nat) (fb : Nat) (big : Bool) (ak : Nat) (aj : Nat) (au : Nat) (ah : Nat) (sd : Nat) (i : Nat) z5 (aY : Nat) (v : jG) => ((gy b o n c s fb big ak aj au ah sd i z5 aY) ++ [(884, aA z5), (890, aX v.ty), (896, aX v.flags), (903, aI v.addr), (910, aI v.off), (917, aI v.bP), (923, aX v.link), (929, aX v.info), (936, aI v.align)] : Slots)
abbrev Iw := fun (v : jG) => ((944, .agg #[.string ⟨#[]⟩, aX (v).ty, aX (v).flags, aI (v).addr, aI (v).off, bF 0, aX (v).link, aX (v).info, aI (v).align, aI (v).ent, aI (v).bP]) : Nat × Value)
abbrev vC := fun z5 (v : jG) => ((z5, .cells #[.string ⟨#[]⟩, aX (v).ty, aX (v).flags, aI (v).addr, aI (v).off, bF 0, aX (v).link, aX (v).info, aI (v).align, aI (v).ent, aI (v).bP, .nilIface, .pointer none, aF 0, aF 0] 153 (0, 0)) : Nat × Obj)
abbrev tu := fun (b : Nat) (o : Nat) (n : Nat) (c : Nat) (s : Nat) (fb : Nat) (big : Bool) (ak : Nat) (aj : Nat) (au : Nat) (ah : Nat) (sd : Nat) (i : Nat) z5 (aY : Nat) => ((gy b o n c s fb big ak aj au ah sd i z5 aY) ++ [(1059, aA z5), (1060, .iface 178 (.slice (some ⟨b, o, none⟩) n c))] : Slots)
abbrev Iy := fun z5 (v : jG) sb => ((z5, .cells #[.string ⟨#[]⟩, aX (v).ty, aX (v).flags, aI (v).addr, aI (v).off, bF 0, aX (v).link, aX (v).info, aI (v).align, aI (v).ent, aI (v).bP, .nilIface, aA sb, aF 0, aF 0] 153 (0, 0)) : Nat × Obj)
abbrev vw := fun z5 (v : jG) sb => ((z5, .cells #[.string ⟨#[]⟩, aX (v).ty, aX (v).flags, aI (v).addr, aI (v).off, aI (v).bP, aX (v).link, aX (v).info, aI (v).align, aI (v).ent, aI (v).bP, .iface 144 (aA sb), aA sb, aF 0, aF 0] 153 (0, 0)) : Nat × Obj)
theorem UC (l : List UInt8) (b o n c : Nat) (hl : n = l.length) (hnc : n ≤ c) (big : Bool) (abi aH aW aJ aG ak aj au ah : Nat) (dat : Int) (b1 : aW < 65536) (b2 : aJ < 65536) (b3 : aG ≤ 18446744073709551615) (b4 : ak < 4611686018427387904) (b5 : au < 4611686018427387904) (b6 : aj < 200) (b7 : ah < 200) (X : List UInt8) (qh : X.length = (ah * 40)) (i : Nat) (hi : i < ah) (v : jG) (hv : yj (X.drop (i * 40)) false big v.name v.ty v.flags v.addr v.off v.bP v.link v.info v.align v.ent) (v1 : v.name < 4294967296) (v2 : v.ty < 4294967296) (v3 : v.flags < 4294967296) (v4 : v.off < 4611686018427387904) (v5 : v.bP < 4611686018427387904) (v6 : v.addr ≤ 18446744073709551615) (v7 : v.align ≤ 18446744073709551615) (v8 : v.ent ≤ 18446744073709551615) (v9 : (qP (v.flags : Int) 2048 == 0) = true)
  {K0 : Act → World → Prop} {Q : Exit → Act → World → Prop} (a : Act) (W1 : World) (s fb pg aV aY sd : Nat) (cur nms : Array Value) (hcs : cur.size = ah) (hns : nms.size = ah) (Nu : Mm [fb, aV, aY, sd] W1 W1 [gI fb dat abi aH big aW aJ aG aV i ah pg aj, (aV, .cells cur 133 (0, 0)), (aY, .cells nms 36 (0, 0)), (sd, .cells (X.map Bv).toArray 5 (0, 0))]) (HF : Fr 1287 a (mF b o n c s fb big ak aj au ah aY i sd))
  (K : ∀ a w' pb sb cur' h_, cur'.size = ah → h_.size = ah → cur'.toList.take (i + 1) = cur.toList.take i ++ [aA pb] → h_.toList.take (i + 1) = nms.toList.take i ++ [aX v.name] → Fr 1287 a ((BL b o n c s fb big ak aj au ah) ++ [(41, aC aY (i + 1) ah), (42, aC sd (ah * 40) (ah * 40)), (43, ay (i + 1))]) → Mm [fb, aV, aY, sd] W1 w' [pI sb b o n c v, (pb, .cells #[.string ⟨#[]⟩, aX (v).ty, aX (v).flags, aI (v).addr, aI (v).off, aI (v).bP, aX (v).link, aX (v).info, aI (v).align, aI (v).ent, aI (v).bP, .iface 144 (aA sb), aA sb, aF 0, aF 0] 153 (0, 0)), BM fb dat abi aH big aW aJ aG aV i ah pg aj, (aV, .cells cur' 133 (0, 0)), (aY, .cells h_ 36 (0, 0)), (sd, .cells (X.map Bv).toArray 5 (0, 0))] → K0 a w') : (oP (spine Tryd.f78 44)).wp Tryd.prog (Exit.then K0 Q) a W1 := by
 obtain ⟨i0, hi0, hs0⟩ := yE
 have en : num big X ((i * 40) + 0) 4 = v.name := (g_ big X (i * 40) 0 4).symm.trans hv.name
 have SN : num big X ((i * 40) + 4) 4 = v.ty := (g_ big X (i * 40) 4 4).symm.trans hv.ty
 have Jw : num big X ((i * 40) + 8) 4 = v.flags := (g_ big X (i * 40) 8 4).symm.trans hv.flags
 have Nk : num big X ((i * 40) + 12) 4 = v.addr := (g_ big X (i * 40) 12 4).symm.trans hv.addr
 have P_ : num big X ((i * 40) + 16) 4 = v.off := (g_ big X (i * 40) 16 4).symm.trans hv.off
 have Qa : num big X ((i * 40) + 20) 4 = v.bP := (g_ big X (i * 40) 20 4).symm.trans hv.size
 have Nj : num big X ((i * 40) + 24) 4 = v.link := (g_ big X (i * 40) 24 4).symm.trans hv.link
 have Bz : num big X ((i * 40) + 28) 4 = v.info := (g_ big X (i * 40) 28 4).symm.trans hv.info
 have Jy : num big X ((i * 40) + 32) 4 = v.align := (g_ big X (i * 40) 32 4).symm.trans hv.align
 have Qb : num big X ((i * 40) + 36) 4 = v.ent := (g_ big X (i * 40) 36 4).symm.trans hv.ent
 obtain ⟨w, hw⟩ : ∃ w, W1 = w := ⟨_, rfl⟩
 have HM : Mm [fb, aV, aY, sd] W1 w [gI fb dat abi aH big aW aJ aG aV i ah pg aj, (aV, .cells cur 133 (0, 0)), (aY, .cells nms 36 (0, 0)), (sd, .cells (X.map Bv).toArray 5 (0, 0))] := hw ▸ Nu
 conv => arg 5; rw [hw]
 clear hw Nu
 refine wp_seq ?_
 refine wp_seq (wp_region_lit ?_)
 refine aP HF HM rfl 3 [] ((mF b o n c s fb big ak aj au ah aY i sd) ++ [(859, .bool (decide (((i : Nat) : Int) < ((ah : Nat) : Int))))]) [gI fb dat abi aH big aW aJ aG aV i ah pg aj, (aV, .cells cur 133 (0, 0)), (aY, .cells nms 36 (0, 0)), (sd, .cells (X.map Bv).toArray 5 (0, 0))] (by kernel_rfl) ?_
 clear HF HM; intro a w HF HM
 rw [show decide (((i : Nat) : Int) < ((ah : Nat) : Int)) = true from dV (by omega)] at HF
 refine aB ?_
 refine bC HF rfl ?_
 refine wp_skip ?_
 repeat (first | refine aK ?_ | refine aS ?_)
 replace HF := HF.sub (mF b o n c s fb big ak aj au ah aY i sd) (by kernel_rfl)
 refine wp_seq (wp_block ?_)
 refine wp_seq (wp_region_lit ?_)
 refine aP HF HM rfl 2 [] ((mF b o n c s fb big ak aj au ah aY i sd) ++ [(863, bF (IntKind.u64.wrap ((i : Nat) : Int)))]) [gI fb dat abi aH big aW aJ aG aV i ah pg aj, (aV, .cells cur 133 (0, 0)), (aY, .cells nms 36 (0, 0)), (sd, .cells (X.map Bv).toArray 5 (0, 0))] (by kernel_rfl) ?_
 clear HF HM; intro a w HF HM
 rw [show IntKind.u64.wrap ((i : Nat) : Int) = ((i : Nat) : Int) from IntWalk.u64_in _ (by omega)] at HF
 refine aP HF HM rfl 3 [] ((mF b o n c s fb big ak aj au ah aY i sd) ++ [(866, bF (IntKind.u64.wrap (((i : Nat) : Int) * 40)))]) [gI fb dat abi aH big aW aJ aG aV i ah pg aj, (aV, .cells cur 133 (0, 0)), (aY, .cells nms 36 (0, 0)), (sd, .cells (X.map Bv).toArray 5 (0, 0))] (by kernel_rfl) ?_
 clear HF HM; intro a w HF HM
 rw [show IntKind.u64.wrap (((i : Nat) : Int) * 40) = (((i * 40) : Nat) : Int) from (IntWalk.u64_in _ (by omega)).trans (by omega)] at HF
 refine aP HF HM rfl 1 [] ((mF b o n c s fb big ak aj au ah aY i sd) ++ [(44, aI (i * 40))]) [gI fb dat abi aH big aW aJ aG aV i ah pg aj, (aV, .cells cur 133 (0, 0)), (aY, .cells nms 36 (0, 0)), (sd, .cells (X.map Bv).toArray 5 (0, 0))] (by kernel_rfl) ?_
 clear HF HM; intro a w HF HM
 refine aB ?_
 obtain ⟨z5, uj⟩ : ∃ z, w.heap.size = z := ⟨_, rfl⟩
 refine bG HF HM uj [] ((mF b o n c s fb big ak aj au ah aY i sd) ++ [(44, aI (i * 40)), (45, aA z5)]) [lC z5, gI fb dat abi aH big aW aJ aG aV i ah pg aj, (aV, .cells cur 133 (0, 0)), (aY, .cells nms 36 (0, 0)), (sd, .cells (X.map Bv).toArray 5 (0, 0))] (by kernel_rfl) ?_
 clear HF HM uj; intro a w HF HM
 refine wp_seq ?_
 refine bG HF HM rfl [[3]] ((mF b o n c s fb big ak aj au ah aY i sd) ++ [(44, aI (i * 40)), (45, aA z5), (872, aO 1)]) [lC z5, gI fb dat abi aH big aW aJ aG aV i ah pg aj, (aV, .cells cur 133 (0, 0)), (aY, .cells nms 36 (0, 0)), (sd, .cells (X.map Bv).toArray 5 (0, 0))] (by kernel_rfl) ?_
 clear HF HM; intro a w HF HM
 refine wp_block ?_
 refine bG HF HM rfl [] ((mF b o n c s fb big ak aj au ah aY i sd) ++ [(44, aI (i * 40)), (45, aA z5), (872, aO 1), (873, .bool true)]) [lC z5, gI fb dat abi aH big aW aJ aG aV i ah pg aj, (aV, .cells cur 133 (0, 0)), (aY, .cells nms 36 (0, 0)), (sd, .cells (X.map Bv).toArray 5 (0, 0))] (by kernel_rfl) ?_
 clear HF HM; intro a w HF HM
 refine bC HF rfl ?_
 replace HF := HF.sub ((mF b o n c s fb big ak aj au ah aY i sd) ++ [(44, aI (i * 40)), (45, aA z5)]) (by kernel_rfl)
 refine wp_seq (wp_region_lit ?_)
 refine aP HF HM rfl 5 [] ((mF b o n c s fb big ak aj au ah aY i sd) ++ [(44, aI (i * 40)), (45, aA z5), (875, aC aY i ah), (876, (aU big)), (877, aC sd (ah * 40) (ah * 40)), (879, bF (IntKind.u64.wrap ((((i * 40) : Nat) : Int) + 0)))]) [lC z5, gI fb dat abi aH big aW aJ aG aV i ah pg aj, (aV, .cells cur 133 (0, 0)), (aY, .cells nms 36 (0, 0)), (sd, .cells (X.map Bv).toArray 5 (0, 0))] (by kernel_rfl) ?_
 clear HF HM; intro a w HF HM
 rw [show IntKind.u64.wrap ((((i * 40) : Nat) : Int) + 0) = ((((i * 40) + 0) : Nat) : Int) from (IntWalk.u64_in _ (by omega)).trans (by omega)] at HF
 refine bU HF (by kernel_rfl) (.slice (some ⟨sd, ((i * 40) + 0), none⟩) ((ah * 40) - ((i * 40) + 0)) ((ah * 40) - ((i * 40) + 0))) (by kernel_rfl) (f_ (t := 33) Tryd.underlying33 hi0 hs0 rfl ((i * 40) + 0) (kk := .u64) rfl rfl (by omega) (by omega) (by omega) _) ?_
 clear HF; intro a HF; replace HF := HF.sub ((mF b o n c s fb big ak aj au ah aY i sd) ++ [(44, aI (i * 40)), (45, aA z5), (875, aC aY i ah), (876, (aU big)), (877, aC sd (ah * 40) (ah * 40)), (879, aI ((i * 40) + 0)), (880, .slice (some ⟨sd, ((i * 40) + 0), none⟩) ((ah * 40) - ((i * 40) + 0)) ((ah * 40) - ((i * 40) + 0)))]) (by kernel_rfl)
 refine bf HF (by kernel_rfl) 87 #[(aU big), .slice (some ⟨sd, ((i * 40) + 0), none⟩) ((ah * 40) - ((i * 40) + 0)) ((ah * 40) - ((i * 40) + 0))] (by kernel_rfl) (fun w => by kernel_rfl) (Calls.mono (kK (HM.get (i := 4) rfl) (by unfold maxLen; omega) big ((i * 40) + 0) ((ah * 40) - ((i * 40) + 0)) (by omega) (by omega) ((v.name : Nat) : Int) (by rw [en])) ?_)
 rintro _ w1 ⟨rfl, kS, hq⟩
 replace HM : Mm [fb, aV, aY, sd] W1 w1 [lC z5, gI fb dat abi aH big aW aJ aG aV i ah pg aj, (aV, .cells cur 133 (0, 0)), (aY, .cells nms 36 (0, 0)), (sd, .cells (X.map Bv).toArray 5 (0, 0))] := by rw [hq]; exact HM.drewN _
 clear hq
 refine ⟨_, rfl, ?_⟩; clear HF; intro a HF; replace HF := HF.sub ((mF b o n c s fb big ak aj au ah aY i sd) ++ [(44, aI (i * 40)), (45, aA z5), (875, aC aY i ah), (876, (aU big)), (877, aC sd (ah * 40) (ah * 40)), (879, aI ((i * 40) + 0)), (880, .slice (some ⟨sd, ((i * 40) + 0), none⟩) ((ah * 40) - ((i * 40) + 0)) ((ah * 40) - ((i * 40) + 0))), (881, aX v.name)]) (by kernel_rfl)
 obtain ⟨z9, hz9⟩ : ∃ z, w1.heap.size = z := ⟨_, rfl⟩
 refine aP HF HM hz9 1 [] ((mF b o n c s fb big ak aj au ah aY i sd) ++ [(44, aI (i * 40)), (45, aA z5), (875, aC aY i ah), (882, aC z9 1 1)]) [(z9, .cells #[aX v.name] 36 (0, 0)), lC z5, gI fb dat abi aH big aW aJ aG aV i ah pg aj, (aV, .cells cur 133 (0, 0)), (aY, .cells nms 36 (0, 0)), (sd, .cells (X.map Bv).toArray 5 (0, 0))] (by kernel_rfl) ?_
 clear HF HM hz9; intro a w HF HM
 refine rX HF HM rfl _ _ 222 rfl rfl 36 (gV 0) 4 Tryd.underlying222 A_ 4 0 aY _ i ah nms _ _ rfl hns (by omega) (by unfold maxLen; omega) rfl rfl rfl rfl ?_
 intro a2 w2 h_ Hu htn bJ HF2; clear HF HM; have HM : Mm [fb, aV, aY, sd] W1 w2 [(z9, .cells #[aX v.name] 36 (0, 0)), lC z5, gI fb dat abi aH big aW aJ aG aV i ah pg aj, (aV, .cells cur 133 (0, 0)), (aY, .cells h_ 36 (0, 0)), (sd, .cells (X.map Bv).toArray 5 (0, 0))] := bJ; have HF := HF2; clear bJ HF2
 replace HF := HF.sub ((mF b o n c s fb big ak aj au ah aY i sd) ++ [(44, aI (i * 40)), (45, aA z5), (883, aC aY (i + 1) ah)]) (by kernel_rfl)
 refine aP HF HM rfl 1 [] (gy b o n c s fb big ak aj au ah sd i z5 aY) [(z9, .cells #[aX v.name] 36 (0, 0)), lC z5, gI fb dat abi aH big aW aJ aG aV i ah pg aj, (aV, .cells cur 133 (0, 0)), (aY, .cells h_ 36 (0, 0)), (sd, .cells (X.map Bv).toArray 5 (0, 0))] (by kernel_rfl) ?_
 clear HF HM; intro a w HF HM
 refine aB ?_
 refine wI HM (by kernel_rfl) [(sd, .cells (X.map Bv).toArray 5 (0, 0))] [(0, false), (1, false), (2, false), (3, false), (4, false), (5, false), (7, false), (8, false), (9, false), (10, false), (11, false), (13, false), (14, false), (15, false), (16, false), (17, false), (20, false), (21, false), (22, false), (23, false), (24, false), (27, false), (28, false), (29, false), (30, false), (31, false), (34, false), (35, false), (36, false), (37, false), (38, false), (40, false), (41, false), (42, false), (43, false), (44, false), (46, false), (47, false), (48, false), (49, false), (50, false), (53, false), (54, false), (55, false), (56, false), (57, false), (6, true), (12, true), (18, true), (19, false), (25, true), (26, false), (32, true), (33, false), (39, true), (45, true), (51, true), (52, false), (58, true), (59, false), (60, false), (61, false), (62, false), (63, true)] (by kernel_rfl) ?_
 clear HM; intro w3 HM
 refine bK HF (HM.told [5] rfl) 1 [] ((gy b o n c s fb big ak aj au ah sd i z5 aY) ++ [(884, aA z5)]) (by kernel_rfl) ?_
 clear HF; intro a HF
 refine bK HF (HM.told [5] rfl) 4 [] ((gy b o n c s fb big ak aj au ah sd i z5 aY) ++ [(884, aA z5), (885, (aU big)), (886, aC sd (ah * 40) (ah * 40)), (888, bF (IntKind.u64.wrap ((((i * 40) : Nat) : Int) + 4)))]) (by kernel_rfl) ?_
 clear HF; intro a HF
 rw [show IntKind.u64.wrap ((((i * 40) : Nat) : Int) + 4) = ((((i * 40) + 4) : Nat) : Int) from (IntWalk.u64_in _ (by omega)).trans (by omega)] at HF
 refine eu rfl HF (HM.told [5] rfl) rfl (.slice (some ⟨sd, ((i * 40) + 4), none⟩) ((ah * 40) - ((i * 40) + 4)) ((ah * 40) - ((i * 40) + 4))) (by kernel_rfl) (fun w hw => f_ (t := 33) Tryd.underlying33 hi0 hs0 rfl ((i * 40) + 4) (kk := .u64) rfl rfl (by omega) (by omega) (by omega) w) ?_
 clear HF; intro a HF; replace HF := HF.sub ((gy b o n c s fb big ak aj au ah sd i z5 aY) ++ [(884, aA z5), (885, (aU big)), (886, aC sd (ah * 40) (ah * 40)), (888, aI ((i * 40) + 4)), QJ sd i ah]) (by kernel_rfl)
 replace HF := HF.sub (BK b o n c s fb big ak aj au ah sd i z5 aY) (by kernel_rfl)
 refine bK HF (HM.told [5] rfl) 4 [] ((BK b o n c s fb big ak aj au ah sd i z5 aY) ++ [(891, (aU big)), (892, aC sd (ah * 40) (ah * 40)), (894, bF (IntKind.u64.wrap ((((i * 40) : Nat) : Int) + 8)))]) (by kernel_rfl) ?_
 clear HF; intro a HF
 rw [show IntKind.u64.wrap ((((i * 40) : Nat) : Int) + 8) = ((((i * 40) + 8) : Nat) : Int) from (IntWalk.u64_in _ (by omega)).trans (by omega)] at HF
 refine eu rfl HF (HM.told [5] rfl) rfl (.slice (some ⟨sd, ((i * 40) + 8), none⟩) ((ah * 40) - ((i * 40) + 8)) ((ah * 40) - ((i * 40) + 8))) (by kernel_rfl) (fun w hw => f_ (t := 33) Tryd.underlying33 hi0 hs0 rfl ((i * 40) + 8) (kk := .u64) rfl rfl (by omega) (by omega) (by omega) w) ?_
 clear HF; intro a HF; replace HF := HF.sub ((BK b o n c s fb big ak aj au ah sd i z5 aY) ++ [(891, (aU big)), (892, aC sd (ah * 40) (ah * 40)), (894, aI ((i * 40) + 8)), Fg sd i ah]) (by kernel_rfl)
 replace HF := HF.sub (z_ b o n c s fb big ak aj au ah sd i z5 aY) (by kernel_rfl)
 refine bK HF (HM.told [5] rfl) 4 [] ((z_ b o n c s fb big ak aj au ah sd i z5 aY) ++ [(897, (aU big)), (898, aC sd (ah * 40) (ah * 40)), (900, bF (IntKind.u64.wrap ((((i * 40) : Nat) : Int) + 12)))]) (by kernel_rfl) ?_
 clear HF; intro a HF
 rw [show IntKind.u64.wrap ((((i * 40) : Nat) : Int) + 12) = ((((i * 40) + 12) : Nat) : Int) from (IntWalk.u64_in _ (by omega)).trans (by omega)] at HF
 refine eu rfl HF (HM.told [5] rfl) rfl (.slice (some ⟨sd, ((i * 40) + 12), none⟩) ((ah * 40) - ((i * 40) + 12)) ((ah * 40) - ((i * 40) + 12))) (by kernel_rfl) (fun w hw => f_ (t := 33) Tryd.underlying33 hi0 hs0 rfl ((i * 40) + 12) (kk := .u64) rfl rfl (by omega) (by omega) (by omega) w) ?_
 clear HF; intro a HF; replace HF := HF.sub ((z_ b o n c s fb big ak aj au ah sd i z5 aY) ++ [(897, (aU big)), (898, aC sd (ah * 40) (ah * 40)), (900, aI ((i * 40) + 12)), xu sd i ah]) (by kernel_rfl)
 replace HF := HF.sub (zZ b o n c s fb big ak aj au ah sd i z5 aY) (by kernel_rfl)
 refine bK HF (HM.told [5] rfl) 4 [] ((zZ b o n c s fb big ak aj au ah sd i z5 aY) ++ [(904, (aU big)), (905, aC sd (ah * 40) (ah * 40)), (907, bF (IntKind.u64.wrap ((((i * 40) : Nat) : Int) + 16)))]) (by kernel_rfl) ?_
 clear HF; intro a HF
 rw [show IntKind.u64.wrap ((((i * 40) : Nat) : Int) + 16) = ((((i * 40) + 16) : Nat) : Int) from (IntWalk.u64_in _ (by omega)).trans (by omega)] at HF
 refine eu rfl HF (HM.told [5] rfl) rfl (.slice (some ⟨sd, ((i * 40) + 16), none⟩) ((ah * 40) - ((i * 40) + 16)) ((ah * 40) - ((i * 40) + 16))) (by kernel_rfl) (fun w hw => f_ (t := 33) Tryd.underlying33 hi0 hs0 rfl ((i * 40) + 16) (kk := .u64) rfl rfl (by omega) (by omega) (by omega) w) ?_
 clear HF; intro a HF; replace HF := HF.sub ((zZ b o n c s fb big ak aj au ah sd i z5 aY) ++ [(904, (aU big)), (905, aC sd (ah * 40) (ah * 40)), (907, aI ((i * 40) + 16)), xq sd i ah]) (by kernel_rfl)
 replace HF := HF.sub (zY b o n c s fb big ak aj au ah sd i z5 aY) (by kernel_rfl)
 refine bK HF (HM.told [5] rfl) 4 [] ((zY b o n c s fb big ak aj au ah sd i z5 aY) ++ [(911, (aU big)), (912, aC sd (ah * 40) (ah * 40)), (914, bF (IntKind.u64.wrap ((((i * 40) : Nat) : Int) + 20)))]) (by kernel_rfl) ?_
 clear HF; intro a HF
 rw [show IntKind.u64.wrap ((((i * 40) : Nat) : Int) + 20) = ((((i * 40) + 20) : Nat) : Int) from (IntWalk.u64_in _ (by omega)).trans (by omega)] at HF
 refine eu rfl HF (HM.told [5] rfl) rfl (.slice (some ⟨sd, ((i * 40) + 20), none⟩) ((ah * 40) - ((i * 40) + 20)) ((ah * 40) - ((i * 40) + 20))) (by kernel_rfl) (fun w hw => f_ (t := 33) Tryd.underlying33 hi0 hs0 rfl ((i * 40) + 20) (kk := .u64) rfl rfl (by omega) (by omega) (by omega) w) ?_
 clear HF; intro a HF; replace HF := HF.sub ((zY b o n c s fb big ak aj au ah sd i z5 aY) ++ [(911, (aU big)), (912, aC sd (ah * 40) (ah * 40)), (914, aI ((i * 40) + 20)), xk sd i ah]) (by kernel_rfl)
 replace HF := HF.sub (zX b o n c s fb big ak aj au ah sd i z5 aY) (by kernel_rfl)
 refine bK HF (HM.told [5] rfl) 4 [] ((zX b o n c s fb big ak aj au ah sd i z5 aY) ++ [(918, (aU big)), (919, aC sd (ah * 40) (ah * 40)), (921, bF (IntKind.u64.wrap ((((i * 40) : Nat) : Int) + 24)))]) (by kernel_rfl) ?_
 clear HF; intro a HF
 rw [show IntKind.u64.wrap ((((i * 40) : Nat) : Int) + 24) = ((((i * 40) + 24) : Nat) : Int) from (IntWalk.u64_in _ (by omega)).trans (by omega)] at HF
 refine eu rfl HF (HM.told [5] rfl) rfl (.slice (some ⟨sd, ((i * 40) + 24), none⟩) ((ah * 40) - ((i * 40) + 24)) ((ah * 40) - ((i * 40) + 24))) (by kernel_rfl) (fun w hw => f_ (t := 33) Tryd.underlying33 hi0 hs0 rfl ((i * 40) + 24) (kk := .u64) rfl rfl (by omega) (by omega) (by omega) w) ?_
 clear HF; intro a HF; replace HF := HF.sub ((zX b o n c s fb big ak aj au ah sd i z5 aY) ++ [(918, (aU big)), (919, aC sd (ah * 40) (ah * 40)), (921, aI ((i * 40) + 24)), xg sd i ah]) (by kernel_rfl)
 replace HF := HF.sub (zW b o n c s fb big ak aj au ah sd i z5 aY) (by kernel_rfl)
 refine bK HF (HM.told [5] rfl) 4 [] ((zW b o n c s fb big ak aj au ah sd i z5 aY) ++ [(924, (aU big)), (925, aC sd (ah * 40) (ah * 40)), (927, bF (IntKind.u64.wrap ((((i * 40) : Nat) : Int) + 28)))]) (by kernel_rfl) ?_
 clear HF; intro a HF
 rw [show IntKind.u64.wrap ((((i * 40) : Nat) : Int) + 28) = ((((i * 40) + 28) : Nat) : Int) from (IntWalk.u64_in _ (by omega)).trans (by omega)] at HF
 refine eu rfl HF (HM.told [5] rfl) rfl (.slice (some ⟨sd, ((i * 40) + 28), none⟩) ((ah * 40) - ((i * 40) + 28)) ((ah * 40) - ((i * 40) + 28))) (by kernel_rfl) (fun w hw => f_ (t := 33) Tryd.underlying33 hi0 hs0 rfl ((i * 40) + 28) (kk := .u64) rfl rfl (by omega) (by omega) (by omega) w) ?_
 clear HF; intro a HF; replace HF := HF.sub ((zW b o n c s fb big ak aj au ah sd i z5 aY) ++ [(924, (aU big)), (925, aC sd (ah * 40) (ah * 40)), (927, aI ((i * 40) + 28)), tC sd i ah]) (by kernel_rfl)
 replace HF := HF.sub (zV b o n c s fb big ak aj au ah sd i z5 aY) (by kernel_rfl)
 refine bK HF (HM.told [5] rfl) 4 [] ((zV b o n c s fb big ak aj au ah sd i z5 aY) ++ [(930, (aU big)), (931, aC sd (ah * 40) (ah * 40)), (933, bF (IntKind.u64.wrap ((((i * 40) : Nat) : Int) + 32)))]) (by kernel_rfl) ?_
 clear HF; intro a HF
 rw [show IntKind.u64.wrap ((((i * 40) : Nat) : Int) + 32) = ((((i * 40) + 32) : Nat) : Int) from (IntWalk.u64_in _ (by omega)).trans (by omega)] at HF
 refine eu rfl HF (HM.told [5] rfl) rfl (.slice (some ⟨sd, ((i * 40) + 32), none⟩) ((ah * 40) - ((i * 40) + 32)) ((ah * 40) - ((i * 40) + 32))) (by kernel_rfl) (fun w hw => f_ (t := 33) Tryd.underlying33 hi0 hs0 rfl ((i * 40) + 32) (kk := .u64) rfl rfl (by omega) (by omega) (by omega) w) ?_
 clear HF; intro a HF; replace HF := HF.sub ((zV b o n c s fb big ak aj au ah sd i z5 aY) ++ [(930, (aU big)), (931, aC sd (ah * 40) (ah * 40)), (933, aI ((i * 40) + 32)), qo sd i ah]) (by kernel_rfl)
 replace HF := HF.sub (w_ b o n c s fb big ak aj au ah sd i z5 aY) (by kernel_rfl)
 refine bK HF (HM.told [5] rfl) 4 [] ((w_ b o n c s fb big ak aj au ah sd i z5 aY) ++ [(937, (aU big)), (938, aC sd (ah * 40) (ah * 40)), (940, bF (IntKind.u64.wrap ((((i * 40) : Nat) : Int) + 36)))]) (by kernel_rfl) ?_
 clear HF; intro a HF
 rw [show IntKind.u64.wrap ((((i * 40) : Nat) : Int) + 36) = ((((i * 40) + 36) : Nat) : Int) from (IntWalk.u64_in _ (by omega)).trans (by omega)] at HF
 refine eu rfl HF (HM.told [5] rfl) rfl (.slice (some ⟨sd, ((i * 40) + 36), none⟩) ((ah * 40) - ((i * 40) + 36)) ((ah * 40) - ((i * 40) + 36))) (by kernel_rfl) (fun w hw => f_ (t := 33) Tryd.underlying33 hi0 hs0 rfl ((i * 40) + 36) (kk := .u64) rfl rfl (by omega) (by omega) (by omega) w) ?_
 clear HF; intro a HF; replace HF := HF.sub ((w_ b o n c s fb big ak aj au ah sd i z5 aY) ++ [(937, (aU big)), (938, aC sd (ah * 40) (ah * 40)), (940, aI ((i * 40) + 36)), oz sd i ah]) (by kernel_rfl)
 replace HF := HF.sub ((w_ b o n c s fb big ak aj au ah sd i z5 aY) ++ [(937, (aU big)), oz sd i ah]) (by kernel_rfl)
 refine bQ rfl ?_
 refine bf HF (by kernel_rfl) 87 #[(aU big), .slice (some ⟨sd, ((i * 40) + 4), none⟩) ((ah * 40) - ((i * 40) + 4)) ((ah * 40) - ((i * 40) + 4))] (by kernel_rfl) (fun w => by kernel_rfl) (Calls.mono (kK (HM.get (i := 5) rfl) (by unfold maxLen; omega) big ((i * 40) + 4) ((ah * 40) - ((i * 40) + 4)) (by omega) (by omega) ((v.ty : Nat) : Int) (by rw [SN])) ?_)
 rintro _ w4 ⟨rfl, kS, hq⟩
 replace HM : Mm [fb, aV, aY, sd] W1 w4 [(z9, .cells #[aX v.name] 36 (0, 0)), lC z5, gI fb dat abi aH big aW aJ aG aV i ah pg aj, (aV, .cells cur 133 (0, 0)), (aY, .cells h_ 36 (0, 0)), (sd, .cells (X.map Bv).toArray 5 (0, 0))] := by rw [hq]; exact HM.drewN _
 clear hq
 refine ⟨_, rfl, ?_⟩; clear HF; intro a HF; replace HF := HF.sub ((w_ b o n c s fb big ak aj au ah sd i z5 aY) ++ [(937, (aU big)), oz sd i ah, (890, aX v.ty)]) (by kernel_rfl)
 refine dD (HM.told [5] rfl) ?_
 replace HF := HF.sub ((gy b o n c s fb big ak aj au ah sd i z5 aY) ++ [(884, aA z5), (891, (aU big)), Fg sd i ah, (897, (aU big)), xu sd i ah, (904, (aU big)), xq sd i ah, (911, (aU big)), xk sd i ah, (918, (aU big)), xg sd i ah, (924, (aU big)), tC sd i ah, (930, (aU big)), qo sd i ah, (937, (aU big)), oz sd i ah, (890, aX v.ty)]) (by kernel_rfl)
 refine bQ rfl ?_
 refine bf HF (by kernel_rfl) 87 #[(aU big), .slice (some ⟨sd, ((i * 40) + 8), none⟩) ((ah * 40) - ((i * 40) + 8)) ((ah * 40) - ((i * 40) + 8))] (by kernel_rfl) (fun w => by kernel_rfl) (Calls.mono (kK (HM.get (i := 5) rfl) (by unfold maxLen; omega) big ((i * 40) + 8) ((ah * 40) - ((i * 40) + 8)) (by omega) (by omega) ((v.flags : Nat) : Int) (by rw [Jw])) ?_)
 rintro _ w5 ⟨rfl, kS, hq⟩
 replace HM : Mm [fb, aV, aY, sd] W1 w5 [(z9, .cells #[aX v.name] 36 (0, 0)), lC z5, gI fb dat abi aH big aW aJ aG aV i ah pg aj, (aV, .cells cur 133 (0, 0)), (aY, .cells h_ 36 (0, 0)), (sd, .cells (X.map Bv).toArray 5 (0, 0))] := by rw [hq]; exact HM.drewN _
 clear hq
 refine ⟨_, rfl, ?_⟩; clear HF; intro a HF; replace HF := HF.sub ((gy b o n c s fb big ak aj au ah sd i z5 aY) ++ [(884, aA z5), (891, (aU big)), Fg sd i ah, (897, (aU big)), xu sd i ah, (904, (aU big)), xq sd i ah, (911, (aU big)), xk sd i ah, (918, (aU big)), xg sd i ah, (924, (aU big)), tC sd i ah, (930, (aU big)), qo sd i ah, (937, (aU big)), oz sd i ah, (890, aX v.ty), (896, aX v.flags)]) (by kernel_rfl)
 refine dD (HM.told [5] rfl) ?_
 replace HF := HF.sub ((gy b o n c s fb big ak aj au ah sd i z5 aY) ++ [(884, aA z5), (897, (aU big)), xu sd i ah, (904, (aU big)), xq sd i ah, (911, (aU big)), xk sd i ah, (918, (aU big)), xg sd i ah, (924, (aU big)), tC sd i ah, (930, (aU big)), qo sd i ah, (937, (aU big)), oz sd i ah, (890, aX v.ty), (896, aX v.flags)]) (by kernel_rfl)
 refine bQ rfl ?_
 refine bf HF (by kernel_rfl) 87 #[(aU big), .slice (some ⟨sd, ((i * 40) + 12), none⟩) ((ah * 40) - ((i * 40) + 12)) ((ah * 40) - ((i * 40) + 12))] (by kernel_rfl) (fun w => by kernel_rfl) (Calls.mono (kK (HM.get (i := 5) rfl) (by unfold maxLen; omega) big ((i * 40) + 12) ((ah * 40) - ((i * 40) + 12)) (by omega) (by omega) ((v.addr : Nat) : Int) (by rw [Nk])) ?_)
 rintro _ w6 ⟨rfl, kS, hq⟩
 replace HM : Mm [fb, aV, aY, sd] W1 w6 [(z9, .cells #[aX v.name] 36 (0, 0)), lC z5, gI fb dat abi aH big aW aJ aG aV i ah pg aj, (aV, .cells cur 133 (0, 0)), (aY, .cells h_ 36 (0, 0)), (sd, .cells (X.map Bv).toArray 5 (0, 0))] := by rw [hq]; exact HM.drewN _
 clear hq
 refine ⟨_, rfl, ?_⟩; clear HF; intro a HF; replace HF := HF.sub ((gy b o n c s fb big ak aj au ah sd i z5 aY) ++ [(884, aA z5), (897, (aU big)), xu sd i ah, (904, (aU big)), xq sd i ah, (911, (aU big)), xk sd i ah, (918, (aU big)), xg sd i ah, (924, (aU big)), tC sd i ah, (930, (aU big)), qo sd i ah, (937, (aU big)), oz sd i ah, (890, aX v.ty), (896, aX v.flags), (902, aX v.addr)]) (by kernel_rfl)
 refine dD (HM.told [5] rfl) ?_
 replace HF := HF.sub ((D9 b o n c s fb big ak aj au ah sd i z5 aY v) ++ [(902, aX v.addr)]) (by kernel_rfl)
 refine bK HF (HM.told [5] rfl) 1 [] ((D9 b o n c s fb big ak aj au ah sd i z5 aY v) ++ [(903, bF (IntKind.u64.wrap ((v.addr : Nat) : Int)))]) (by kernel_rfl) ?_
 clear HF; intro a HF
 rw [show IntKind.u64.wrap ((v.addr : Nat) : Int) = ((v.addr : Nat) : Int) from IntWalk.u64_in _ (by omega)] at HF
 refine bQ rfl ?_
 refine bf HF (by kernel_rfl) 87 #[(aU big), .slice (some ⟨sd, ((i * 40) + 16), none⟩) ((ah * 40) - ((i * 40) + 16)) ((ah * 40) - ((i * 40) + 16))] (by kernel_rfl) (fun w => by kernel_rfl) (Calls.mono (kK (HM.get (i := 5) rfl) (by unfold maxLen; omega) big ((i * 40) + 16) ((ah * 40) - ((i * 40) + 16)) (by omega) (by omega) ((v.off : Nat) : Int) (by rw [P_])) ?_)
 rintro _ w7 ⟨rfl, kS, hq⟩
 replace HM : Mm [fb, aV, aY, sd] W1 w7 [(z9, .cells #[aX v.name] 36 (0, 0)), lC z5, gI fb dat abi aH big aW aJ aG aV i ah pg aj, (aV, .cells cur 133 (0, 0)), (aY, .cells h_ 36 (0, 0)), (sd, .cells (X.map Bv).toArray 5 (0, 0))] := by rw [hq]; exact HM.drewN _
 clear hq
 refine ⟨_, rfl, ?_⟩; clear HF; intro a HF; replace HF := HF.sub ((D9 b o n c s fb big ak aj au ah sd i z5 aY v) ++ [(903, aI v.addr), (909, aX v.off)]) (by kernel_rfl)
 refine dD (HM.told [5] rfl) ?_
 replace HF := HF.sub ((D8 b o n c s fb big ak aj au ah sd i z5 aY v) ++ [(909, aX v.off)]) (by kernel_rfl)
 refine bK HF (HM.told [5] rfl) 1 [] ((D8 b o n c s fb big ak aj au ah sd i z5 aY v) ++ [(910, bF (IntKind.u64.wrap ((v.off : Nat) : Int)))]) (by kernel_rfl) ?_
 clear HF; intro a HF
 rw [show IntKind.u64.wrap ((v.off : Nat) : Int) = ((v.off : Nat) : Int) from IntWalk.u64_in _ (by omega)] at HF
 refine bQ rfl ?_
 refine bf HF (by kernel_rfl) 87 #[(aU big), .slice (some ⟨sd, ((i * 40) + 20), none⟩) ((ah * 40) - ((i * 40) + 20)) ((ah * 40) - ((i * 40) + 20))] (by kernel_rfl) (fun w => by kernel_rfl) (Calls.mono (kK (HM.get (i := 5) rfl) (by unfold maxLen; omega) big ((i * 40) + 20) ((ah * 40) - ((i * 40) + 20)) (by omega) (by omega) ((v.bP : Nat) : Int) (by rw [Qa])) ?_)
 rintro _ w8 ⟨rfl, kS, hq⟩
 replace HM : Mm [fb, aV, aY, sd] W1 w8 [(z9, .cells #[aX v.name] 36 (0, 0)), lC z5, gI fb dat abi aH big aW aJ aG aV i ah pg aj, (aV, .cells cur 133 (0, 0)), (aY, .cells h_ 36 (0, 0)), (sd, .cells (X.map Bv).toArray 5 (0, 0))] := by rw [hq]; exact HM.drewN _
 clear hq
 refine ⟨_, rfl, ?_⟩; clear HF; intro a HF; replace HF := HF.sub ((D8 b o n c s fb big ak aj au ah sd i z5 aY v) ++ [(910, aI v.off), (916, aX v.bP)]) (by kernel_rfl)
 refine dD (HM.told [5] rfl) ?_
 replace HF := HF.sub ((D7 b o n c s fb big ak aj au ah sd i z5 aY v) ++ [(916, aX v.bP)]) (by kernel_rfl)
 refine bK HF (HM.told [5] rfl) 1 [] ((D7 b o n c s fb big ak aj au ah sd i z5 aY v) ++ [(917, bF (IntKind.u64.wrap ((v.bP : Nat) : Int)))]) (by kernel_rfl) ?_
 clear HF; intro a HF
 rw [show IntKind.u64.wrap ((v.bP : Nat) : Int) = ((v.bP : Nat) : Int) from IntWalk.u64_in _ (by omega)] at HF
 refine bQ rfl ?_
 refine bf HF (by kernel_rfl) 87 #[(aU big), .slice (some ⟨sd, ((i * 40) + 24), none⟩) ((ah * 40) - ((i * 40) + 24)) ((ah * 40) - ((i * 40) + 24))] (by kernel_rfl) (fun w => by kernel_rfl) (Calls.mono (kK (HM.get (i := 5) rfl) (by unfold maxLen; omega) big ((i * 40) + 24) ((ah * 40) - ((i * 40) + 24)) (by omega) (by omega) ((v.link : Nat) : Int) (by rw [Nj])) ?_)
 rintro _ w9 ⟨rfl, kS, hq⟩
 replace HM : Mm [fb, aV, aY, sd] W1 w9 [(z9, .cells #[aX v.name] 36 (0, 0)), lC z5, gI fb dat abi aH big aW aJ aG aV i ah pg aj, (aV, .cells cur 133 (0, 0)), (aY, .cells h_ 36 (0, 0)), (sd, .cells (X.map Bv).toArray 5 (0, 0))] := by rw [hq]; exact HM.drewN _
 clear hq
 refine ⟨_, rfl, ?_⟩; clear HF; intro a HF; replace HF := HF.sub ((D7 b o n c s fb big ak aj au ah sd i z5 aY v) ++ [(917, aI v.bP), (923, aX v.link)]) (by kernel_rfl)
 refine dD (HM.told [5] rfl) ?_
 replace HF := HF.sub ((gy b o n c s fb big ak aj au ah sd i z5 aY) ++ [(884, aA z5), (924, (aU big)), tC sd i ah, (930, (aU big)), qo sd i ah, (937, (aU big)), oz sd i ah, (890, aX v.ty), (896, aX v.flags), (903, aI v.addr), (910, aI v.off), (917, aI v.bP), (923, aX v.link)]) (by kernel_rfl)
 refine bQ rfl ?_
 refine bf HF (by kernel_rfl) 87 #[(aU big), .slice (some ⟨sd, ((i * 40) + 28), none⟩) ((ah * 40) - ((i * 40) + 28)) ((ah * 40) - ((i * 40) + 28))] (by kernel_rfl) (fun w => by kernel_rfl) (Calls.mono (kK (HM.get (i := 5) rfl) (by unfold maxLen; omega) big ((i * 40) + 28) ((ah * 40) - ((i * 40) + 28)) (by omega) (by omega) ((v.info : Nat) : Int) (by rw [Bz])) ?_)
 rintro _ w10 ⟨rfl, kS, hq⟩
 replace HM : Mm [fb, aV, aY, sd] W1 w10 [(z9, .cells #[aX v.name] 36 (0, 0)), lC z5, gI fb dat abi aH big aW aJ aG aV i ah pg aj, (aV, .cells cur 133 (0, 0)), (aY, .cells h_ 36 (0, 0)), (sd, .cells (X.map Bv).toArray 5 (0, 0))] := by rw [hq]; exact HM.drewN _
 clear hq
 refine ⟨_, rfl, ?_⟩; clear HF; intro a HF; replace HF := HF.sub ((gy b o n c s fb big ak aj au ah sd i z5 aY) ++ [(884, aA z5), (924, (aU big)), tC sd i ah, (930, (aU big)), qo sd i ah, (937, (aU big)), oz sd i ah, (890, aX v.ty), (896, aX v.flags), (903, aI v.addr), (910, aI v.off), (917, aI v.bP), (923, aX v.link), (929, aX v.info)]) (by kernel_rfl)
 refine dD (HM.told [5] rfl) ?_
 replace HF := HF.sub ((gy b o n c s fb big ak aj au ah sd i z5 aY) ++ [(884, aA z5), (930, (aU big)), qo sd i ah, (937, (aU big)), oz sd i ah, (890, aX v.ty), (896, aX v.flags), (903, aI v.addr), (910, aI v.off), (917, aI v.bP), (923, aX v.link), (929, aX v.info)]) (by kernel_rfl)
 refine bQ rfl ?_
 refine bf HF (by kernel_rfl) 87 #[(aU big), .slice (some ⟨sd, ((i * 40) + 32), none⟩) ((ah * 40) - ((i * 40) + 32)) ((ah * 40) - ((i * 40) + 32))] (by kernel_rfl) (fun w => by kernel_rfl) (Calls.mono (kK (HM.get (i := 5) rfl) (by unfold maxLen; omega) big ((i * 40) + 32) ((ah * 40) - ((i * 40) + 32)) (by omega) (by omega) ((v.align : Nat) : Int) (by rw [Jy])) ?_)
 rintro _ wQ ⟨rfl, kS, hq⟩
 replace HM : Mm [fb, aV, aY, sd] W1 wQ [(z9, .cells #[aX v.name] 36 (0, 0)), lC z5, gI fb dat abi aH big aW aJ aG aV i ah pg aj, (aV, .cells cur 133 (0, 0)), (aY, .cells h_ 36 (0, 0)), (sd, .cells (X.map Bv).toArray 5 (0, 0))] := by rw [hq]; exact HM.drewN _
 clear hq
 refine ⟨_, rfl, ?_⟩; clear HF; intro a HF; replace HF := HF.sub ((gy b o n c s fb big ak aj au ah sd i z5 aY) ++ [(884, aA z5), (930, (aU big)), qo sd i ah, (937, (aU big)), oz sd i ah, (890, aX v.ty), (896, aX v.flags), (903, aI v.addr), (910, aI v.off), (917, aI v.bP), (923, aX v.link), (929, aX v.info), (935, aX v.align)]) (by kernel_rfl)
 refine dD (HM.told [5] rfl) ?_
 replace HF := HF.sub ((D6 b o n c s fb big ak aj au ah sd i z5 aY v) ++ [(935, aX v.align)]) (by kernel_rfl)
 refine bK HF (HM.told [5] rfl) 1 [] ((D6 b o n c s fb big ak aj au ah sd i z5 aY v) ++ [(936, bF (IntKind.u64.wrap ((v.align : Nat) : Int)))]) (by kernel_rfl) ?_
 clear HF; intro a HF
 rw [show IntKind.u64.wrap ((v.align : Nat) : Int) = ((v.align : Nat) : Int) from IntWalk.u64_in _ (by omega)] at HF
 refine bQ rfl ?_
 refine bf HF (by kernel_rfl) 87 #[(aU big), .slice (some ⟨sd, ((i * 40) + 36), none⟩) ((ah * 40) - ((i * 40) + 36)) ((ah * 40) - ((i * 40) + 36))] (by kernel_rfl) (fun w => by kernel_rfl) (Calls.mono (kK (HM.get (i := 5) rfl) (by unfold maxLen; omega) big ((i * 40) + 36) ((ah * 40) - ((i * 40) + 36)) (by omega) (by omega) ((v.ent : Nat) : Int) (by rw [Qb])) ?_)
 rintro _ w12 ⟨rfl, kS, hq⟩
 replace HM : Mm [fb, aV, aY, sd] W1 w12 [(z9, .cells #[aX v.name] 36 (0, 0)), lC z5, gI fb dat abi aH big aW aJ aG aV i ah pg aj, (aV, .cells cur 133 (0, 0)), (aY, .cells h_ 36 (0, 0)), (sd, .cells (X.map Bv).toArray 5 (0, 0))] := by rw [hq]; exact HM.drewN _
 clear hq
 refine ⟨_, rfl, ?_⟩; clear HF; intro a HF; replace HF := HF.sub ((D6 b o n c s fb big ak aj au ah sd i z5 aY v) ++ [(936, aI v.align), (942, aX v.ent)]) (by kernel_rfl)
 refine dD (HM.told [5] rfl) ?_
 replace HF := HF.sub ((D5 b o n c s fb big ak aj au ah sd i z5 aY v) ++ [(942, aX v.ent)]) (by kernel_rfl)
 refine bK HF (HM.told [5] rfl) 1 [] ((D5 b o n c s fb big ak aj au ah sd i z5 aY v) ++ [(943, bF (IntKind.u64.wrap ((v.ent : Nat) : Int)))]) (by kernel_rfl) ?_
 clear HF; intro a HF
 rw [show IntKind.u64.wrap ((v.ent : Nat) : Int) = ((v.ent : Nat) : Int) from IntWalk.u64_in _ (by omega)] at HF
 refine bK HF (HM.told [5] rfl) 3 [] ((D5 b o n c s fb big ak aj au ah sd i z5 aY v) ++ [(943, aI v.ent), Iw v, (946, aA z5)]) (by kernel_rfl) ?_
 clear HF; intro a HF
 replace HF := HF.sub ((gy b o n c s fb big ak aj au ah sd i z5 aY) ++ [Iw v, (946, aA z5)]) (by kernel_rfl)
 refine bQ rfl ?_
 refine aP HF HM rfl 1 [[4, 4, 4, 4, 4, 4, 4, 4, 4, 4, 4]] (gy b o n c s fb big ak aj au ah sd i z5 aY) [(z9, .cells #[aX v.name] 36 (0, 0)), vC z5 v, gI fb dat abi aH big aW aJ aG aV i ah pg aj, (aV, .cells cur 133 (0, 0)), (aY, .cells h_ 36 (0, 0)), (sd, .cells (X.map Bv).toArray 5 (0, 0))] (by kernel_rfl) ?_
 clear HF HM; intro a w HF HM
 refine dD (HM.told [5] rfl) ?_
 refine jR ?_
 repeat (first | refine aK ?_ | refine aS ?_)
 refine wp_seq ?_
 refine wp_seq (wp_region_lit ?_)
 refine aP HF HM rfl 6 [[4]] ((gy b o n c s fb big ak aj au ah sd i z5 aY) ++ [(1022, aF (IntKind.i64.wrap ((v.off : Nat) : Int)))]) [(z9, .cells #[aX v.name] 36 (0, 0)), vC z5 v, gI fb dat abi aH big aW aJ aG aV i ah pg aj, (aV, .cells cur 133 (0, 0)), (aY, .cells h_ 36 (0, 0)), (sd, .cells (X.map Bv).toArray 5 (0, 0))] (by kernel_rfl) ?_
 clear HF HM; intro a w HF HM
 rw [show IntKind.i64.wrap ((v.off : Nat) : Int) = ((v.off : Nat) : Int) from IntWalk.i64_in _ (by omega)] at HF
 refine aP HF HM rfl 1 [] ((gy b o n c s fb big ak aj au ah sd i z5 aY) ++ [(1023, .bool (decide (((v.off : Nat) : Int) < 0)))]) [(z9, .cells #[aX v.name] 36 (0, 0)), vC z5 v, gI fb dat abi aH big aW aJ aG aV i ah pg aj, (aV, .cells cur 133 (0, 0)), (aY, .cells h_ 36 (0, 0)), (sd, .cells (X.map Bv).toArray 5 (0, 0))] (by kernel_rfl) ?_
 clear HF HM; intro a w HF HM
 rw [show decide (((v.off : Nat) : Int) < 0) = false from dI (by omega)] at HF
 refine aB ?_
 refine aZ HF rfl ?_
 refine wp_skip ?_
 repeat (first | refine aK ?_ | refine aS ?_)
 replace HF := HF.sub (gy b o n c s fb big ak aj au ah sd i z5 aY) (by kernel_rfl)
 refine wp_seq ?_
 refine wp_seq (wp_region_lit ?_)
 refine aP HF HM rfl 6 [[4]] ((gy b o n c s fb big ak aj au ah sd i z5 aY) ++ [(1043, aF (IntKind.i64.wrap ((v.bP : Nat) : Int)))]) [(z9, .cells #[aX v.name] 36 (0, 0)), vC z5 v, gI fb dat abi aH big aW aJ aG aV i ah pg aj, (aV, .cells cur 133 (0, 0)), (aY, .cells h_ 36 (0, 0)), (sd, .cells (X.map Bv).toArray 5 (0, 0))] (by kernel_rfl) ?_
 clear HF HM; intro a w HF HM
 rw [show IntKind.i64.wrap ((v.bP : Nat) : Int) = ((v.bP : Nat) : Int) from IntWalk.i64_in _ (by omega)] at HF
 refine aP HF HM rfl 1 [] ((gy b o n c s fb big ak aj au ah sd i z5 aY) ++ [(1044, .bool (decide (((v.bP : Nat) : Int) < 0)))]) [(z9, .cells #[aX v.name] 36 (0, 0)), vC z5 v, gI fb dat abi aH big aW aJ aG aV i ah pg aj, (aV, .cells cur 133 (0, 0)), (aY, .cells h_ 36 (0, 0)), (sd, .cells (X.map Bv).toArray 5 (0, 0))] (by kernel_rfl) ?_
 clear HF HM; intro a w HF HM
 rw [show decide (((v.bP : Nat) : Int) < 0) = false from dI (by omega)] at HF
 refine aB ?_
 refine aZ HF rfl ?_
 refine wp_skip ?_
 repeat (first | refine aK ?_ | refine aS ?_)
 replace HF := HF.sub (gy b o n c s fb big ak aj au ah sd i z5 aY) (by kernel_rfl)
 refine BF HM (by kernel_rfl) (fun w => w.cell? ⟨z5, 4, none⟩ = some (aI v.off) ∧ w.cell? ⟨z5, 10, none⟩ = some (aI v.bP)) [(0, false), (1, false), (2, false), (3, false), (4, false), (5, false), (6, false), (7, false), (8, false), (9, false), (10, false), (11, false), (12, false), (13, false), (14, true), (15, false), (16, false), (17, true)] (by kernel_rfl) ?_
 clear HM; intro CW HM
 refine kD (LS := []) (fun _ _ => kY _) HF ⟨HM.cellAt (i := 1) (k := 4) rfl rfl, HM.cellAt (i := 1) (k := 10) rfl rfl⟩ 6 [] ((tu b o n c s fb big ak aj au ah sd i z5 aY) ++ [(1064, .pointer (some ⟨z5, 4, none⟩))]) (by kernel_rfl) ?_
 clear HF; intro a HF
 refine sJ rfl HF ⟨HM.cellAt (i := 1) (k := 4) rfl rfl, HM.cellAt (i := 1) (k := 10) rfl rfl⟩ rfl (aI v.off) (by kernel_rfl) (fun w hw => dP rfl rfl (by kernel_rfl) hw.1) ?_
 clear HF; intro a HF; replace HF := HF.sub ((tu b o n c s fb big ak aj au ah sd i z5 aY) ++ [(1064, .pointer (some ⟨z5, 4, none⟩)), (1065, aI v.off)]) (by kernel_rfl)
 refine kD (LS := []) (fun _ _ => kY _) HF ⟨HM.cellAt (i := 1) (k := 4) rfl rfl, HM.cellAt (i := 1) (k := 10) rfl rfl⟩ 1 [] ((tu b o n c s fb big ak aj au ah sd i z5 aY) ++ [(1066, aF (IntKind.i64.wrap ((v.off : Nat) : Int)))]) (by kernel_rfl) ?_
 clear HF; intro a HF
 rw [show IntKind.i64.wrap ((v.off : Nat) : Int) = ((v.off : Nat) : Int) from IntWalk.i64_in _ (by omega)] at HF
 refine kD (LS := []) (fun _ _ => kY _) HF ⟨HM.cellAt (i := 1) (k := 4) rfl rfl, HM.cellAt (i := 1) (k := 10) rfl rfl⟩ 4 [] ((tu b o n c s fb big ak aj au ah sd i z5 aY) ++ [(1066, ay v.off), (1070, .pointer (some ⟨z5, 10, none⟩))]) (by kernel_rfl) ?_
 clear HF; intro a HF
 refine sJ rfl HF ⟨HM.cellAt (i := 1) (k := 4) rfl rfl, HM.cellAt (i := 1) (k := 10) rfl rfl⟩ rfl (aI v.bP) (by kernel_rfl) (fun w hw => dP rfl rfl (by kernel_rfl) hw.2) ?_
 clear HF; intro a HF; replace HF := HF.sub ((tu b o n c s fb big ak aj au ah sd i z5 aY) ++ [(1066, ay v.off), (1070, .pointer (some ⟨z5, 10, none⟩)), (1071, aI v.bP)]) (by kernel_rfl)
 refine kD (LS := []) (fun _ _ => kY _) HF ⟨HM.cellAt (i := 1) (k := 4) rfl rfl, HM.cellAt (i := 1) (k := 10) rfl rfl⟩ 1 [] ((tu b o n c s fb big ak aj au ah sd i z5 aY) ++ [(1066, ay v.off), (1072, aF (IntKind.i64.wrap ((v.bP : Nat) : Int)))]) (by kernel_rfl) ?_
 clear HF; intro a HF
 rw [show IntKind.i64.wrap ((v.bP : Nat) : Int) = ((v.bP : Nat) : Int) from IntWalk.i64_in _ (by omega)] at HF
 refine qC rfl ?_
 refine bf HF (by kernel_rfl) 92 #[.iface 178 (.slice (some ⟨b, o, none⟩) n c), ay v.off, ay v.bP] (by kernel_rfl) (fun w => by kernel_rfl) (Calls.mono (rD 178 (.slice (some ⟨b, o, none⟩) n c) ((v.off : Nat) : Int) ((v.bP : Nat) : Int) (by omega) (by omega) (by omega) CW) ?_)
 rintro _ EN ⟨sb, rfl, hb, hge, hgn⟩
 replace HM : Mm [fb, aV, aY, sd] W1 EN [pI sb b o n c v, (z9, .cells #[aX v.name] 36 (0, 0)), vC z5 v, gI fb dat abi aH big aW aJ aG aV i ah pg aj, (aV, .cells cur 133 (0, 0)), (aY, .cells h_ 36 (0, 0)), (sd, .cells (X.map Bv).toArray 5 (0, 0))] := HM.push hb hge hgn
 clear hb hge hgn
 refine ⟨_, rfl, ?_⟩; clear HF; intro a HF; replace HF := HF.sub ((tu b o n c s fb big ak aj au ah sd i z5 aY) ++ [(1066, ay v.off), (1072, ay v.bP), (1073, aA sb)]) (by kernel_rfl)
 refine sK ⟨HM.cellAt (i := 2) (k := 4) rfl rfl, HM.cellAt (i := 2) (k := 10) rfl rfl⟩ ?_
 refine kD (LS := []) (fun _ _ => kY _) HF ⟨HM.cellAt (i := 2) (k := 4) rfl rfl, HM.cellAt (i := 2) (k := 10) rfl rfl⟩ 2 [] ((gy b o n c s fb big ak aj au ah sd i z5 aY) ++ [(1073, aA sb), (1075, .pointer (some ⟨z5, 12, none⟩))]) (by kernel_rfl) ?_
 clear HF; intro a HF
 refine qC rfl ?_
 refine aP HF HM rfl 1 [[4]] (gy b o n c s fb big ak aj au ah sd i z5 aY) [pI sb b o n c v, (z9, .cells #[aX v.name] 36 (0, 0)), Iy z5 v sb, gI fb dat abi aH big aW aJ aG aV i ah pg aj, (aV, .cells cur 133 (0, 0)), (aY, .cells h_ 36 (0, 0)), (sd, .cells (X.map Bv).toArray 5 (0, 0))] (by kernel_rfl) ?_
 clear HF HM; intro a w HF HM
 refine sK ⟨HM.cellAt (i := 2) (k := 4) rfl rfl, HM.cellAt (i := 2) (k := 10) rfl rfl⟩ ?_
 refine BG (aK ?_)
 refine wp_seq ?_
 refine wp_seq (wp_region_lit ?_)
 refine aP HF HM rfl 7 [[4]] [(0, .iface 178 (.slice (some ⟨b, o, none⟩) n c)), (4, aA s), (8, aA fb), (9, (aU big)), (10, ay ak), (11, aF 32), (12, ay aj), (13, ay au), (14, aF 40), (15, ay ah), (16, ay (ah - 1)), (26, aF 40), (42, aC sd (ah * 40) (ah * 40)), (43, ay i), (44, aI (i * 40)), (45, aA z5), (41, aC aY (i + 1) ah), (1082, .bool (qP ((v.flags : Nat) : Int) 2048 == 0))] [pI sb b o n c v, (z9, .cells #[aX v.name] 36 (0, 0)), Iy z5 v sb, gI fb dat abi aH big aW aJ aG aV i ah pg aj, (aV, .cells cur 133 (0, 0)), (aY, .cells h_ 36 (0, 0)), (sd, .cells (X.map Bv).toArray 5 (0, 0))] (by kernel_rfl) ?_
 clear HF HM; intro a w HF HM
 rw [v9] at HF
 refine aB ?_
 refine bC HF rfl ?_
 replace HF := HF.sub (gy b o n c s fb big ak aj au ah sd i z5 aY) (by kernel_rfl)
 refine bG HF HM rfl [[4], [4]] (gy b o n c s fb big ak aj au ah sd i z5 aY) [pI sb b o n c v, (z9, .cells #[aX v.name] 36 (0, 0)), (z5, .cells #[.string ⟨#[]⟩, aX (v).ty, aX (v).flags, aI (v).addr, aI (v).off, bF 0, aX (v).link, aX (v).info, aI (v).align, aI (v).ent, aI (v).bP, .iface 144 (aA sb), aA sb, aF 0, aF 0] 153 (0, 0)), gI fb dat abi aH big aW aJ aG aV i ah pg aj, (aV, .cells cur 133 (0, 0)), (aY, .cells h_ 36 (0, 0)), (sd, .cells (X.map Bv).toArray 5 (0, 0))] (by kernel_rfl) ?_
 clear HF HM; intro a w HF HM
 refine pW HF HM rfl [[4], [4]] (gy b o n c s fb big ak aj au ah sd i z5 aY) [pI sb b o n c v, (z9, .cells #[aX v.name] 36 (0, 0)), vw z5 v sb, gI fb dat abi aH big aW aJ aG aV i ah pg aj, (aV, .cells cur 133 (0, 0)), (aY, .cells h_ 36 (0, 0)), (sd, .cells (X.map Bv).toArray 5 (0, 0))] (by kernel_rfl) ?_
 clear HF HM; intro a w HF HM
 repeat (first | refine aK ?_ | refine aS ?_)
 refine wp_region_lit ?_
 obtain ⟨z20, FC⟩ : ∃ z, w.heap.size = z := ⟨_, rfl⟩
 refine aP HF HM FC 7 [[3]] ((gy b o n c s fb big ak aj au ah sd i z5 aY) ++ [(1191, aA fb), (1195, aC aV i ah), (1197, aC z20 1 1)]) [(z20, .cells #[aA z5] 133 (0, 0)), pI sb b o n c v, (z9, .cells #[aX v.name] 36 (0, 0)), vw z5 v sb, gI fb dat abi aH big aW aJ aG aV i ah pg aj, (aV, .cells cur 133 (0, 0)), (aY, .cells h_ 36 (0, 0)), (sd, .cells (X.map Bv).toArray 5 (0, 0))] (by kernel_rfl) ?_
 clear HF HM FC; intro a w HF HM
 refine rX HF HM rfl _ _ 126 rfl rfl 133 (.pointer none) 8 Tryd.underlying126 Dj 5 0 aV _ i ah cur _ _ rfl hcs (by omega) (by unfold maxLen; omega) rfl rfl rfl rfl ?_
 intro a2 EH cur' hcs' htk bJ HF2; clear HF HM; have HM : Mm [fb, aV, aY, sd] W1 EH [(z20, .cells #[aA z5] 133 (0, 0)), pI sb b o n c v, (z9, .cells #[aX v.name] 36 (0, 0)), vw z5 v sb, gI fb dat abi aH big aW aJ aG aV i ah pg aj, (aV, .cells cur' 133 (0, 0)), (aY, .cells h_ 36 (0, 0)), (sd, .cells (X.map Bv).toArray 5 (0, 0))] := bJ; have HF := HF2; clear bJ HF2
 replace HF := HF.sub ((gy b o n c s fb big ak aj au ah sd i z5 aY) ++ [(1191, aA fb), (1198, aC aV (i + 1) ah)]) (by kernel_rfl)
 refine aP HF HM rfl 3 [[3]] (gy b o n c s fb big ak aj au ah sd i z5 aY) [(z20, .cells #[aA z5] 133 (0, 0)), pI sb b o n c v, (z9, .cells #[aX v.name] 36 (0, 0)), vw z5 v sb, BM fb dat abi aH big aW aJ aG aV i ah pg aj, (aV, .cells cur' 133 (0, 0)), (aY, .cells h_ 36 (0, 0)), (sd, .cells (X.map Bv).toArray 5 (0, 0))] (by kernel_rfl) ?_
 clear HF HM; intro a w HF HM
 refine wpList_nil ?_
 repeat (first | refine aK ?_ | refine aS ?_)
 refine wp_region_lit ?_
 refine aP HF HM rfl 2 [] ((gy b o n c s fb big ak aj au ah sd i z5 aY) ++ [(861, aF (IntKind.i64.wrap (((i : Nat) : Int) + 1)))]) [(z20, .cells #[aA z5] 133 (0, 0)), pI sb b o n c v, (z9, .cells #[aX v.name] 36 (0, 0)), vw z5 v sb, BM fb dat abi aH big aW aJ aG aV i ah pg aj, (aV, .cells cur' 133 (0, 0)), (aY, .cells h_ 36 (0, 0)), (sd, .cells (X.map Bv).toArray 5 (0, 0))] (by kernel_rfl) ?_
 clear HF HM; intro a w HF HM
 rw [show IntKind.i64.wrap (((i : Nat) : Int) + 1) = (((i + 1) : Nat) : Int) from (IntWalk.i64_in _ (by omega)).trans (by omega)] at HF
 refine aP HF HM rfl 1 [] ((BL b o n c s fb big ak aj au ah) ++ [(42, aC sd (ah * 40) (ah * 40)), (44, aI (i * 40)), (45, aA z5), (41, aC aY (i + 1) ah), (43, ay (i + 1))]) [(z20, .cells #[aA z5] 133 (0, 0)), pI sb b o n c v, (z9, .cells #[aX v.name] 36 (0, 0)), vw z5 v sb, BM fb dat abi aH big aW aJ aG aV i ah pg aj, (aV, .cells cur' 133 (0, 0)), (aY, .cells h_ 36 (0, 0)), (sd, .cells (X.map Bv).toArray 5 (0, 0))] (by kernel_rfl) ?_
 clear HF HM; intro a w HF HM
 refine wpList_nil ?_
 repeat (first | refine aK ?_ | refine aS ?_)
 replace HF := HF.sub ((BL b o n c s fb big ak aj au ah) ++ [(41, aC aY (i + 1) ah), (42, aC sd (ah * 40) (ah * 40)), (43, ay (i + 1))]) (by kernel_rfl)
 exact K a w z5 sb cur' h_ hcs' Hu htk htn HF (HM.sub (List.Sublist.cons _ (List.Sublist.cons_cons _ (List.Sublist.cons _ (List.Sublist.refl _)))))

abbrev gq := fun (fb : Nat) (dat : Int) (abi : Nat) (aH : Nat) (big : Bool) (aW : Nat) (aJ : Nat) (aG : Nat) (aV : Nat) (i : Nat) (ah : Nat) (pg : Nat) (aj : Nat) => ((fb, .cells #[aO 2, .int .u8 dat, aO 1, aT abi, aT aH, (aU big), bn aW, bn aJ, aI aG, aC aV i ah, aC pg aj aj, aQ, aQ, aQ] 131 (0, 0)) : Nat × Obj)
abbrev lN := fun (b : Nat) (o : Nat) (n : Nat) (c : Nat) (s : Nat) (fb : Nat) (big : Bool) (ak : Nat) (aj : Nat) (au : Nat) (ah : Nat) (aY : Nat) (i : Nat) (sd : Nat) => ([(0, .iface 178 (.slice (some ⟨b, o, none⟩) n c)), (4, aA s), (8, aA fb), (9, (aU big)), (10, ay ak), (11, aF 56), (12, ay aj), (13, ay au), (14, aF 64), (15, ay ah), (16, ay (ah - 1)), (26, aF 64), (41, aC aY i ah), (42, aC sd (ah * 64) (ah * 64)), (43, ay i)] : Slots)
abbrev BJ := fun (fb : Nat) (dat : Int) (abi : Nat) (aH : Nat) (big : Bool) (aW : Nat) (aJ : Nat) (aG : Nat) (aV : Nat) (i : Nat) (ah : Nat) (pg : Nat) (aj : Nat) => ((fb, .cells #[aO 2, .int .u8 dat, aO 1, aT abi, aT aH, (aU big), bn aW, bn aJ, aI aG, aC aV (i + 1) ah, aC pg aj aj, aQ, aQ, aQ] 131 (0, 0)) : Nat × Obj)
abbrev pG := fun sb (b : Nat) (o : Nat) (n : Nat) (c : Nat) (v : jG) => ((sb, .cells #[.iface 178 (.slice (some ⟨b, o, none⟩) n c), ay v.off, ay v.off, aF (((v.bP : Nat) : Int) + ((v.off : Nat) : Int)), ay v.bP] 246 (0, 0)) : Nat × Obj)
abbrev BI := fun (b : Nat) (o : Nat) (n : Nat) (c : Nat) (s : Nat) (fb : Nat) (big : Bool) (ak : Nat) (aj : Nat) (au : Nat) (ah : Nat) => ([(0, .iface 178 (.slice (some ⟨b, o, none⟩) n c)), (4, aA s), (8, aA fb), (9, (aU big)), (10, ay ak), (11, aF 56), (12, ay aj), (13, ay au), (14, aF 64), (15, ay ah), (16, ay (ah - 1)), (26, aF 64)] : Slots)
abbrev kX := fun z5 => ((z5, .cells #[.string ⟨#[]⟩, gV 0, gV 0, bF 0, bF 0, bF 0, gV 0, gV 0, bF 0, bF 0, bF 0, .nilIface, .pointer none, aF 0, aF 0] 153 (0, 0)) : Nat × Obj)
abbrev fD := fun (b : Nat) (o : Nat) (n : Nat) (c : Nat) (s : Nat) (fb : Nat) (big : Bool) (ak : Nat) (aj : Nat) (au : Nat) (ah : Nat) (sd : Nat) (i : Nat) z5 (aY : Nat) => ((BI b o n c s fb big ak aj au ah) ++ [(42, aC sd (ah * 64) (ah * 64)), (43, ay i), (44, aI (i * 64)), (45, aA z5), (41, aC aY (i + 1) ah)] : Slots)
abbrev QI := fun (sd : Nat) (i : Nat) (ah : Nat) => ((963, .slice (some ⟨sd, ((i * 64) + 4), none⟩) ((ah * 64) - ((i * 64) + 4)) ((ah * 64) - ((i * 64) + 4))) : Nat × Value)
abbrev BH := fun (b : Nat) (o : Nat) (n : Nat) (c : Nat) (s : Nat) (fb : Nat) (big : Bool) (ak : Nat) (aj : Nat) (au : Nat) (ah : Nat) (sd : Nat) (i : Nat) z5 (aY : Nat) => ((fD b o n c s fb big ak aj au ah sd i z5 aY) ++ [(958, aA z5), (959, (aU big)), (963, .slice (some ⟨sd, ((i * 64) + 4), none⟩) ((ah * 64) - ((i * 64) + 4)) ((ah * 64) - ((i * 64) + 4)))] : Slots)
abbrev Fe := fun (sd : Nat) (i : Nat) (ah : Nat) => ((969, .slice (some ⟨sd, ((i * 64) + 8), none⟩) ((ah * 64) - ((i * 64) + 8)) ((ah * 64) - ((i * 64) + 8))) : Nat × Value)
abbrev zU := fun (b : Nat) (o : Nat) (n : Nat) (c : Nat) (s : Nat) (fb : Nat) (big : Bool) (ak : Nat) (aj : Nat) (au : Nat) (ah : Nat) (sd : Nat) (i : Nat) z5 (aY : Nat) => ((BH b o n c s fb big ak aj au ah sd i z5 aY) ++ [(965, (aU big)), (969, .slice (some ⟨sd, ((i * 64) + 8), none⟩) ((ah * 64) - ((i * 64) + 8)) ((ah * 64) - ((i * 64) + 8)))] : Slots)
abbrev DZ := fun (sd : Nat) (i : Nat) (ah : Nat) => ((976, .slice (some ⟨sd, ((i * 64) + 24), none⟩) ((ah * 64) - ((i * 64) + 24)) ((ah * 64) - ((i * 64) + 24))) : Nat × Value)
abbrev zT := fun (b : Nat) (o : Nat) (n : Nat) (c : Nat) (s : Nat) (fb : Nat) (big : Bool) (ak : Nat) (aj : Nat) (au : Nat) (ah : Nat) (sd : Nat) (i : Nat) z5 (aY : Nat) => ((zU b o n c s fb big ak aj au ah sd i z5 aY) ++ [(972, (aU big)), (976, .slice (some ⟨sd, ((i * 64) + 24), none⟩) ((ah * 64) - ((i * 64) + 24)) ((ah * 64) - ((i * 64) + 24)))] : Slots)
abbrev wZ := fun (sd : Nat) (i : Nat) (ah : Nat) => ((982, .slice (some ⟨sd, ((i * 64) + 32), none⟩) ((ah * 64) - ((i * 64) + 32)) ((ah * 64) - ((i * 64) + 32))) : Nat × Value)
abbrev zS := fun (b : Nat) (o : Nat) (n : Nat) (c : Nat) (s : Nat) (fb : Nat) (big : Bool) (ak : Nat) (aj : Nat) (au : Nat) (ah : Nat) (sd : Nat) (i : Nat) z5 (aY : Nat) => ((zT b o n c s fb big ak aj au ah sd i z5 aY) ++ [(978, (aU big)), (982, .slice (some ⟨sd, ((i * 64) + 32), none⟩) ((ah * 64) - ((i * 64) + 32)) ((ah * 64) - ((i * 64) + 32)))] : Slots)
abbrev tq := fun (sd : Nat) (i : Nat) (ah : Nat) => ((988, .slice (some ⟨sd, ((i * 64) + 16), none⟩) ((ah * 64) - ((i * 64) + 16)) ((ah * 64) - ((i * 64) + 16))) : Nat × Value)
abbrev zQ := fun (b : Nat) (o : Nat) (n : Nat) (c : Nat) (s : Nat) (fb : Nat) (big : Bool) (ak : Nat) (aj : Nat) (au : Nat) (ah : Nat) (sd : Nat) (i : Nat) z5 (aY : Nat) => ((zS b o n c s fb big ak aj au ah sd i z5 aY) ++ [(984, (aU big)), (988, .slice (some ⟨sd, ((i * 64) + 16), none⟩) ((ah * 64) - ((i * 64) + 16)) ((ah * 64) - ((i * 64) + 16)))] : Slots)
abbrev qm := fun (sd : Nat) (i : Nat) (ah : Nat) => ((994, .slice (some ⟨sd, ((i * 64) + 40), none⟩) ((ah * 64) - ((i * 64) + 40)) ((ah * 64) - ((i * 64) + 40))) : Nat × Value)
abbrev zO := fun (b : Nat) (o : Nat) (n : Nat) (c : Nat) (s : Nat) (fb : Nat) (big : Bool) (ak : Nat) (aj : Nat) (au : Nat) (ah : Nat) (sd : Nat) (i : Nat) z5 (aY : Nat) => ((zQ b o n c s fb big ak aj au ah sd i z5 aY) ++ [(990, (aU big)), (994, .slice (some ⟨sd, ((i * 64) + 40), none⟩) ((ah * 64) - ((i * 64) + 40)) ((ah * 64) - ((i * 64) + 40)))] : Slots)
abbrev ou := fun (sd : Nat) (i : Nat) (ah : Nat) => ((1000, .slice (some ⟨sd, ((i * 64) + 44), none⟩) ((ah * 64) - ((i * 64) + 44)) ((ah * 64) - ((i * 64) + 44))) : Nat × Value)
abbrev zN := fun (b : Nat) (o : Nat) (n : Nat) (c : Nat) (s : Nat) (fb : Nat) (big : Bool) (ak : Nat) (aj : Nat) (au : Nat) (ah : Nat) (sd : Nat) (i : Nat) z5 (aY : Nat) => ((zO b o n c s fb big ak aj au ah sd i z5 aY) ++ [(996, (aU big)), (1000, .slice (some ⟨sd, ((i * 64) + 44), none⟩) ((ah * 64) - ((i * 64) + 44)) ((ah * 64) - ((i * 64) + 44)))] : Slots)
abbrev ni := fun (sd : Nat) (i : Nat) (ah : Nat) => ((1006, .slice (some ⟨sd, ((i * 64) + 48), none⟩) ((ah * 64) - ((i * 64) + 48)) ((ah * 64) - ((i * 64) + 48))) : Nat × Value)
abbrev wY := fun (b : Nat) (o : Nat) (n : Nat) (c : Nat) (s : Nat) (fb : Nat) (big : Bool) (ak : Nat) (aj : Nat) (au : Nat) (ah : Nat) (sd : Nat) (i : Nat) z5 (aY : Nat) => ((zN b o n c s fb big ak aj au ah sd i z5 aY) ++ [(1002, (aU big)), (1006, .slice (some ⟨sd, ((i * 64) + 48), none⟩) ((ah * 64) - ((i * 64) + 48)) ((ah * 64) - ((i * 64) + 48)))] : Slots)
abbrev kL := fun (sd : Nat) (i : Nat) (ah : Nat) => ((1012, .slice (some ⟨sd, ((i * 64) + 56), none⟩) ((ah * 64) - ((i * 64) + 56)) ((ah * 64) - ((i * 64) + 56))) : Nat × Value)
abbrev DY := fun (b : Nat) (o : Nat) (n : Nat) (c : Nat) (s : Nat) (fb : Nat) (big : Bool) (ak : Nat) (aj : Nat) (au : Nat) (ah : Nat) (sd : Nat) (i : Nat) z5 (aY : Nat) (v : jG) => ((fD b o n c s fb big ak aj au ah sd i z5 aY) ++ [(958, aA z5), (972, (aU big)), (976, .slice (some ⟨sd, ((i * 64) + 24), none⟩) ((ah * 64) - ((i * 64) + 24)) ((ah * 64) - ((i * 64) + 24))), (978, (aU big)), (982, .slice (some ⟨sd, ((i * 64) + 32), none⟩) ((ah * 64) - ((i * 64) + 32)) ((ah * 64) - ((i * 64) + 32))), (984, (aU big)), (988, .slice (some ⟨sd, ((i * 64) + 16), none⟩) ((ah * 64) - ((i * 64) + 16)) ((ah * 64) - ((i * 64) + 16))), (990, (aU big)), (994, .slice (some ⟨sd, ((i * 64) + 40), none⟩) ((ah * 64) - ((i * 64) + 40)) ((ah * 64) - ((i * 64) + 40))), (996, (aU big)), (1000, .slice (some ⟨sd, ((i * 64) + 44), none⟩) ((ah * 64) - ((i * 64) + 44)) ((ah * 64) - ((i * 64) + 44))), (1002, (aU big)), (1006, .slice (some ⟨sd, ((i * 64) + 48), none⟩) ((ah * 64) - ((i * 64) + 48)) ((ah * 64) - ((i * 64) + 48))), (1008, (aU big)), (1012, .slice (some ⟨sd, ((i * 64) + 56), none⟩) ((ah * 64) - ((i * 64) + 56)) ((ah * 64) - ((i * 64) + 56))), (964, aX v.ty)] : Slots)
abbrev Ir := fun (v : jG) => ((1014, .agg #[.string ⟨#[]⟩, aX (v).ty, aX (v).flags, aI (v).addr, aI (v).off, bF 0, aX (v).link, aX (v).info, aI (v).align, aI (v).ent, aI (v).bP]) : Nat × Value)
abbrev vk := fun z5 (v : jG) => ((z5, .cells #[.string ⟨#[]⟩, aX (v).ty, aX (v).flags, aI (v).addr, aI (v).off, bF 0, aX (v).link, aX (v).info, aI (v).align, aI (v).ent, aI (v).bP, .nilIface, .pointer none, aF 0, aF 0] 153 (0, 0)) : Nat × Obj)
abbrev sZ := fun (b : Nat) (o : Nat) (n : Nat) (c : Nat) (s : Nat) (fb : Nat) (big : Bool) (ak : Nat) (aj : Nat) (au : Nat) (ah : Nat) (sd : Nat) (i : Nat) z5 (aY : Nat) => ((fD b o n c s fb big ak aj au ah sd i z5 aY) ++ [(1059, aA z5), (1060, .iface 178 (.slice (some ⟨b, o, none⟩) n c))] : Slots)
abbrev Iu := fun z5 (v : jG) sb => ((z5, .cells #[.string ⟨#[]⟩, aX (v).ty, aX (v).flags, aI (v).addr, aI (v).off, bF 0, aX (v).link, aX (v).info, aI (v).align, aI (v).ent, aI (v).bP, .nilIface, aA sb, aF 0, aF 0] 153 (0, 0)) : Nat × Obj)
abbrev vg := fun z5 (v : jG) sb => ((z5, .cells #[.string ⟨#[]⟩, aX (v).ty, aX (v).flags, aI (v).addr, aI (v).off, aI (v).bP, aX (v).link, aX (v).info, aI (v).align, aI (v).ent, aI (v).bP, .iface 144 (aA sb), aA sb, aF 0, aF 0] 153 (0, 0)) : Nat × Obj)
theorem UA (l : List UInt8) (b o n c : Nat) (hl : n = l.length) (hnc : n ≤ c) (big : Bool) (abi aH aW aJ aG ak aj au ah : Nat) (dat : Int) (b1 : aW < 65536) (b2 : aJ < 65536) (b3 : aG ≤ 18446744073709551615) (b4 : ak < 4611686018427387904) (b5 : au < 4611686018427387904) (b6 : aj < 200) (b7 : ah < 200) (X : List UInt8) (qh : X.length = (ah * 64)) (i : Nat) (hi : i < ah) (v : jG) (hv : yj (X.drop (i * 64)) true big v.name v.ty v.flags v.addr v.off v.bP v.link v.info v.align v.ent) (v1 : v.name < 4294967296) (v2 : v.ty < 4294967296) (v3 : v.flags < 4294967296) (v4 : v.off < 4611686018427387904) (v5 : v.bP < 4611686018427387904) (v6 : v.addr ≤ 18446744073709551615) (v7 : v.align ≤ 18446744073709551615) (v8 : v.ent ≤ 18446744073709551615) (v9 : (qP (v.flags : Int) 2048 == 0) = true)
  {K0 : Act → World → Prop} {Q : Exit → Act → World → Prop} (a : Act) (W1 : World) (s fb pg aV aY sd : Nat) (cur nms : Array Value) (hcs : cur.size = ah) (hns : nms.size = ah) (Nu : Mm [fb, aV, aY, sd] W1 W1 [gq fb dat abi aH big aW aJ aG aV i ah pg aj, (aV, .cells cur 133 (0, 0)), (aY, .cells nms 36 (0, 0)), (sd, .cells (X.map Bv).toArray 5 (0, 0))]) (HF : Fr 1287 a (lN b o n c s fb big ak aj au ah aY i sd))
  (K : ∀ a w' pb sb cur' h_, cur'.size = ah → h_.size = ah → cur'.toList.take (i + 1) = cur.toList.take i ++ [aA pb] → h_.toList.take (i + 1) = nms.toList.take i ++ [aX v.name] → Fr 1287 a ((BI b o n c s fb big ak aj au ah) ++ [(41, aC aY (i + 1) ah), (42, aC sd (ah * 64) (ah * 64)), (43, ay (i + 1))]) → Mm [fb, aV, aY, sd] W1 w' [pG sb b o n c v, (pb, .cells #[.string ⟨#[]⟩, aX (v).ty, aX (v).flags, aI (v).addr, aI (v).off, aI (v).bP, aX (v).link, aX (v).info, aI (v).align, aI (v).ent, aI (v).bP, .iface 144 (aA sb), aA sb, aF 0, aF 0] 153 (0, 0)), BJ fb dat abi aH big aW aJ aG aV i ah pg aj, (aV, .cells cur' 133 (0, 0)), (aY, .cells h_ 36 (0, 0)), (sd, .cells (X.map Bv).toArray 5 (0, 0))] → K0 a w') : (oP (spine Tryd.f78 44)).wp Tryd.prog (Exit.then K0 Q) a W1 := by
 obtain ⟨i0, hi0, hs0⟩ := yE
 have en : num big X ((i * 64) + 0) 4 = v.name := (g_ big X (i * 64) 0 4).symm.trans hv.name
 have SN : num big X ((i * 64) + 4) 4 = v.ty := (g_ big X (i * 64) 4 4).symm.trans hv.ty
 have Jw : num big X ((i * 64) + 8) 8 = v.flags := (g_ big X (i * 64) 8 8).symm.trans hv.flags
 have P_ : num big X ((i * 64) + 24) 8 = v.off := (g_ big X (i * 64) 24 8).symm.trans hv.off
 have Qa : num big X ((i * 64) + 32) 8 = v.bP := (g_ big X (i * 64) 32 8).symm.trans hv.size
 have Nk : num big X ((i * 64) + 16) 8 = v.addr := (g_ big X (i * 64) 16 8).symm.trans hv.addr
 have Nj : num big X ((i * 64) + 40) 4 = v.link := (g_ big X (i * 64) 40 4).symm.trans hv.link
 have Bz : num big X ((i * 64) + 44) 4 = v.info := (g_ big X (i * 64) 44 4).symm.trans hv.info
 have Jy : num big X ((i * 64) + 48) 8 = v.align := (g_ big X (i * 64) 48 8).symm.trans hv.align
 have Qb : num big X ((i * 64) + 56) 8 = v.ent := (g_ big X (i * 64) 56 8).symm.trans hv.ent
 obtain ⟨w, hw⟩ : ∃ w, W1 = w := ⟨_, rfl⟩
 have HM : Mm [fb, aV, aY, sd] W1 w [gq fb dat abi aH big aW aJ aG aV i ah pg aj, (aV, .cells cur 133 (0, 0)), (aY, .cells nms 36 (0, 0)), (sd, .cells (X.map Bv).toArray 5 (0, 0))] := hw ▸ Nu
 conv => arg 5; rw [hw]
 clear hw Nu
 refine wp_seq ?_
 refine wp_seq (wp_region_lit ?_)
 refine aP HF HM rfl 3 [] ((lN b o n c s fb big ak aj au ah aY i sd) ++ [(859, .bool (decide (((i : Nat) : Int) < ((ah : Nat) : Int))))]) [gq fb dat abi aH big aW aJ aG aV i ah pg aj, (aV, .cells cur 133 (0, 0)), (aY, .cells nms 36 (0, 0)), (sd, .cells (X.map Bv).toArray 5 (0, 0))] (by kernel_rfl) ?_
 clear HF HM; intro a w HF HM
 rw [show decide (((i : Nat) : Int) < ((ah : Nat) : Int)) = true from dV (by omega)] at HF
 refine aB ?_
 refine bC HF rfl ?_
 refine wp_skip ?_
 repeat (first | refine aK ?_ | refine aS ?_)
 replace HF := HF.sub (lN b o n c s fb big ak aj au ah aY i sd) (by kernel_rfl)
 refine wp_seq (wp_block ?_)
 refine wp_seq (wp_region_lit ?_)
 refine aP HF HM rfl 2 [] ((lN b o n c s fb big ak aj au ah aY i sd) ++ [(863, bF (IntKind.u64.wrap ((i : Nat) : Int)))]) [gq fb dat abi aH big aW aJ aG aV i ah pg aj, (aV, .cells cur 133 (0, 0)), (aY, .cells nms 36 (0, 0)), (sd, .cells (X.map Bv).toArray 5 (0, 0))] (by kernel_rfl) ?_
 clear HF HM; intro a w HF HM
 rw [show IntKind.u64.wrap ((i : Nat) : Int) = ((i : Nat) : Int) from IntWalk.u64_in _ (by omega)] at HF
 refine aP HF HM rfl 3 [] ((lN b o n c s fb big ak aj au ah aY i sd) ++ [(866, bF (IntKind.u64.wrap (((i : Nat) : Int) * 64)))]) [gq fb dat abi aH big aW aJ aG aV i ah pg aj, (aV, .cells cur 133 (0, 0)), (aY, .cells nms 36 (0, 0)), (sd, .cells (X.map Bv).toArray 5 (0, 0))] (by kernel_rfl) ?_
 clear HF HM; intro a w HF HM
 rw [show IntKind.u64.wrap (((i : Nat) : Int) * 64) = (((i * 64) : Nat) : Int) from (IntWalk.u64_in _ (by omega)).trans (by omega)] at HF
 refine aP HF HM rfl 1 [] ((lN b o n c s fb big ak aj au ah aY i sd) ++ [(44, aI (i * 64))]) [gq fb dat abi aH big aW aJ aG aV i ah pg aj, (aV, .cells cur 133 (0, 0)), (aY, .cells nms 36 (0, 0)), (sd, .cells (X.map Bv).toArray 5 (0, 0))] (by kernel_rfl) ?_
 clear HF HM; intro a w HF HM
 refine aB ?_
 obtain ⟨z5, uj⟩ : ∃ z, w.heap.size = z := ⟨_, rfl⟩
 refine bG HF HM uj [] ((lN b o n c s fb big ak aj au ah aY i sd) ++ [(44, aI (i * 64)), (45, aA z5)]) [kX z5, gq fb dat abi aH big aW aJ aG aV i ah pg aj, (aV, .cells cur 133 (0, 0)), (aY, .cells nms 36 (0, 0)), (sd, .cells (X.map Bv).toArray 5 (0, 0))] (by kernel_rfl) ?_
 clear HF HM uj; intro a w HF HM
 refine wp_seq ?_
 refine bG HF HM rfl [[3]] ((lN b o n c s fb big ak aj au ah aY i sd) ++ [(44, aI (i * 64)), (45, aA z5), (872, aO 2)]) [kX z5, gq fb dat abi aH big aW aJ aG aV i ah pg aj, (aV, .cells cur 133 (0, 0)), (aY, .cells nms 36 (0, 0)), (sd, .cells (X.map Bv).toArray 5 (0, 0))] (by kernel_rfl) ?_
 clear HF HM; intro a w HF HM
 refine wp_block ?_
 refine bG HF HM rfl [] ((lN b o n c s fb big ak aj au ah aY i sd) ++ [(44, aI (i * 64)), (45, aA z5), (872, aO 2), (873, .bool false)]) [kX z5, gq fb dat abi aH big aW aJ aG aV i ah pg aj, (aV, .cells cur 133 (0, 0)), (aY, .cells nms 36 (0, 0)), (sd, .cells (X.map Bv).toArray 5 (0, 0))] (by kernel_rfl) ?_
 clear HF HM; intro a w HF HM
 refine aZ HF rfl ?_
 refine bG HF HM rfl [] ((lN b o n c s fb big ak aj au ah aY i sd) ++ [(44, aI (i * 64)), (45, aA z5), (872, aO 2), (947, .bool true)]) [kX z5, gq fb dat abi aH big aW aJ aG aV i ah pg aj, (aV, .cells cur 133 (0, 0)), (aY, .cells nms 36 (0, 0)), (sd, .cells (X.map Bv).toArray 5 (0, 0))] (by kernel_rfl) ?_
 clear HF HM; intro a w HF HM
 refine bC HF rfl ?_
 replace HF := HF.sub ((lN b o n c s fb big ak aj au ah aY i sd) ++ [(44, aI (i * 64)), (45, aA z5)]) (by kernel_rfl)
 refine wp_seq (wp_region_lit ?_)
 refine aP HF HM rfl 5 [] ((lN b o n c s fb big ak aj au ah aY i sd) ++ [(44, aI (i * 64)), (45, aA z5), (949, aC aY i ah), (950, (aU big)), (951, aC sd (ah * 64) (ah * 64)), (953, bF (IntKind.u64.wrap ((((i * 64) : Nat) : Int) + 0)))]) [kX z5, gq fb dat abi aH big aW aJ aG aV i ah pg aj, (aV, .cells cur 133 (0, 0)), (aY, .cells nms 36 (0, 0)), (sd, .cells (X.map Bv).toArray 5 (0, 0))] (by kernel_rfl) ?_
 clear HF HM; intro a w HF HM
 rw [show IntKind.u64.wrap ((((i * 64) : Nat) : Int) + 0) = ((((i * 64) + 0) : Nat) : Int) from (IntWalk.u64_in _ (by omega)).trans (by omega)] at HF
 refine bU HF (by kernel_rfl) (.slice (some ⟨sd, ((i * 64) + 0), none⟩) ((ah * 64) - ((i * 64) + 0)) ((ah * 64) - ((i * 64) + 0))) (by kernel_rfl) (f_ (t := 33) Tryd.underlying33 hi0 hs0 rfl ((i * 64) + 0) (kk := .u64) rfl rfl (by omega) (by omega) (by omega) _) ?_
 clear HF; intro a HF; replace HF := HF.sub ((lN b o n c s fb big ak aj au ah aY i sd) ++ [(44, aI (i * 64)), (45, aA z5), (949, aC aY i ah), (950, (aU big)), (951, aC sd (ah * 64) (ah * 64)), (953, aI ((i * 64) + 0)), (954, .slice (some ⟨sd, ((i * 64) + 0), none⟩) ((ah * 64) - ((i * 64) + 0)) ((ah * 64) - ((i * 64) + 0)))]) (by kernel_rfl)
 refine bf HF (by kernel_rfl) 87 #[(aU big), .slice (some ⟨sd, ((i * 64) + 0), none⟩) ((ah * 64) - ((i * 64) + 0)) ((ah * 64) - ((i * 64) + 0))] (by kernel_rfl) (fun w => by kernel_rfl) (Calls.mono (kK (HM.get (i := 4) rfl) (by unfold maxLen; omega) big ((i * 64) + 0) ((ah * 64) - ((i * 64) + 0)) (by omega) (by omega) ((v.name : Nat) : Int) (by rw [en])) ?_)
 rintro _ w1 ⟨rfl, kS, hq⟩
 replace HM : Mm [fb, aV, aY, sd] W1 w1 [kX z5, gq fb dat abi aH big aW aJ aG aV i ah pg aj, (aV, .cells cur 133 (0, 0)), (aY, .cells nms 36 (0, 0)), (sd, .cells (X.map Bv).toArray 5 (0, 0))] := by rw [hq]; exact HM.drewN _
 clear hq
 refine ⟨_, rfl, ?_⟩; clear HF; intro a HF; replace HF := HF.sub ((lN b o n c s fb big ak aj au ah aY i sd) ++ [(44, aI (i * 64)), (45, aA z5), (949, aC aY i ah), (950, (aU big)), (951, aC sd (ah * 64) (ah * 64)), (953, aI ((i * 64) + 0)), (954, .slice (some ⟨sd, ((i * 64) + 0), none⟩) ((ah * 64) - ((i * 64) + 0)) ((ah * 64) - ((i * 64) + 0))), (955, aX v.name)]) (by kernel_rfl)
 obtain ⟨z10, xO⟩ : ∃ z, w1.heap.size = z := ⟨_, rfl⟩
 refine aP HF HM xO 1 [] ((lN b o n c s fb big ak aj au ah aY i sd) ++ [(44, aI (i * 64)), (45, aA z5), (949, aC aY i ah), (956, aC z10 1 1)]) [(z10, .cells #[aX v.name] 36 (0, 0)), kX z5, gq fb dat abi aH big aW aJ aG aV i ah pg aj, (aV, .cells cur 133 (0, 0)), (aY, .cells nms 36 (0, 0)), (sd, .cells (X.map Bv).toArray 5 (0, 0))] (by kernel_rfl) ?_
 clear HF HM xO; intro a w HF HM
 refine rX HF HM rfl _ _ 222 rfl rfl 36 (gV 0) 4 Tryd.underlying222 A_ 4 0 aY _ i ah nms _ _ rfl hns (by omega) (by unfold maxLen; omega) rfl rfl rfl rfl ?_
 intro a2 w2 h_ Hu htn bJ HF2; clear HF HM; have HM : Mm [fb, aV, aY, sd] W1 w2 [(z10, .cells #[aX v.name] 36 (0, 0)), kX z5, gq fb dat abi aH big aW aJ aG aV i ah pg aj, (aV, .cells cur 133 (0, 0)), (aY, .cells h_ 36 (0, 0)), (sd, .cells (X.map Bv).toArray 5 (0, 0))] := bJ; have HF := HF2; clear bJ HF2
 replace HF := HF.sub ((lN b o n c s fb big ak aj au ah aY i sd) ++ [(44, aI (i * 64)), (45, aA z5), (957, aC aY (i + 1) ah)]) (by kernel_rfl)
 refine aP HF HM rfl 1 [] (fD b o n c s fb big ak aj au ah sd i z5 aY) [(z10, .cells #[aX v.name] 36 (0, 0)), kX z5, gq fb dat abi aH big aW aJ aG aV i ah pg aj, (aV, .cells cur 133 (0, 0)), (aY, .cells h_ 36 (0, 0)), (sd, .cells (X.map Bv).toArray 5 (0, 0))] (by kernel_rfl) ?_
 clear HF HM; intro a w HF HM
 refine aB ?_
 refine wI HM (by kernel_rfl) [(sd, .cells (X.map Bv).toArray 5 (0, 0))] [(0, false), (1, false), (2, false), (3, false), (4, false), (5, false), (7, false), (8, false), (9, false), (10, false), (11, false), (14, false), (15, false), (16, false), (17, false), (18, false), (20, false), (21, false), (22, false), (23, false), (24, false), (26, false), (27, false), (28, false), (29, false), (30, false), (32, false), (33, false), (34, false), (35, false), (36, false), (38, false), (39, false), (40, false), (41, false), (42, false), (44, false), (45, false), (46, false), (47, false), (48, false), (50, false), (51, false), (52, false), (53, false), (54, false), (6, true), (12, true), (13, false), (19, true), (25, true), (31, true), (37, true), (43, true), (49, true), (55, true), (56, false), (57, false), (58, false), (59, true)] (by kernel_rfl) ?_
 clear HM; intro w3 HM
 refine bK HF (HM.told [5] rfl) 1 [] ((fD b o n c s fb big ak aj au ah sd i z5 aY) ++ [(958, aA z5)]) (by kernel_rfl) ?_
 clear HF; intro a HF
 refine bK HF (HM.told [5] rfl) 4 [] ((fD b o n c s fb big ak aj au ah sd i z5 aY) ++ [(958, aA z5), (959, (aU big)), (960, aC sd (ah * 64) (ah * 64)), (962, bF (IntKind.u64.wrap ((((i * 64) : Nat) : Int) + 4)))]) (by kernel_rfl) ?_
 clear HF; intro a HF
 rw [show IntKind.u64.wrap ((((i * 64) : Nat) : Int) + 4) = ((((i * 64) + 4) : Nat) : Int) from (IntWalk.u64_in _ (by omega)).trans (by omega)] at HF
 refine eu rfl HF (HM.told [5] rfl) rfl (.slice (some ⟨sd, ((i * 64) + 4), none⟩) ((ah * 64) - ((i * 64) + 4)) ((ah * 64) - ((i * 64) + 4))) (by kernel_rfl) (fun w hw => f_ (t := 33) Tryd.underlying33 hi0 hs0 rfl ((i * 64) + 4) (kk := .u64) rfl rfl (by omega) (by omega) (by omega) w) ?_
 clear HF; intro a HF; replace HF := HF.sub ((fD b o n c s fb big ak aj au ah sd i z5 aY) ++ [(958, aA z5), (959, (aU big)), (960, aC sd (ah * 64) (ah * 64)), (962, aI ((i * 64) + 4)), QI sd i ah]) (by kernel_rfl)
 replace HF := HF.sub (BH b o n c s fb big ak aj au ah sd i z5 aY) (by kernel_rfl)
 refine bK HF (HM.told [5] rfl) 4 [] ((BH b o n c s fb big ak aj au ah sd i z5 aY) ++ [(965, (aU big)), (966, aC sd (ah * 64) (ah * 64)), (968, bF (IntKind.u64.wrap ((((i * 64) : Nat) : Int) + 8)))]) (by kernel_rfl) ?_
 clear HF; intro a HF
 rw [show IntKind.u64.wrap ((((i * 64) : Nat) : Int) + 8) = ((((i * 64) + 8) : Nat) : Int) from (IntWalk.u64_in _ (by omega)).trans (by omega)] at HF
 refine eu rfl HF (HM.told [5] rfl) rfl (.slice (some ⟨sd, ((i * 64) + 8), none⟩) ((ah * 64) - ((i * 64) + 8)) ((ah * 64) - ((i * 64) + 8))) (by kernel_rfl) (fun w hw => f_ (t := 33) Tryd.underlying33 hi0 hs0 rfl ((i * 64) + 8) (kk := .u64) rfl rfl (by omega) (by omega) (by omega) w) ?_
 clear HF; intro a HF; replace HF := HF.sub ((BH b o n c s fb big ak aj au ah sd i z5 aY) ++ [(965, (aU big)), (966, aC sd (ah * 64) (ah * 64)), (968, aI ((i * 64) + 8)), Fe sd i ah]) (by kernel_rfl)
 replace HF := HF.sub (zU b o n c s fb big ak aj au ah sd i z5 aY) (by kernel_rfl)
 refine bK HF (HM.told [5] rfl) 4 [] ((zU b o n c s fb big ak aj au ah sd i z5 aY) ++ [(972, (aU big)), (973, aC sd (ah * 64) (ah * 64)), (975, bF (IntKind.u64.wrap ((((i * 64) : Nat) : Int) + 24)))]) (by kernel_rfl) ?_
 clear HF; intro a HF
 rw [show IntKind.u64.wrap ((((i * 64) : Nat) : Int) + 24) = ((((i * 64) + 24) : Nat) : Int) from (IntWalk.u64_in _ (by omega)).trans (by omega)] at HF
 refine eu rfl HF (HM.told [5] rfl) rfl (.slice (some ⟨sd, ((i * 64) + 24), none⟩) ((ah * 64) - ((i * 64) + 24)) ((ah * 64) - ((i * 64) + 24))) (by kernel_rfl) (fun w hw => f_ (t := 33) Tryd.underlying33 hi0 hs0 rfl ((i * 64) + 24) (kk := .u64) rfl rfl (by omega) (by omega) (by omega) w) ?_
 clear HF; intro a HF; replace HF := HF.sub ((zU b o n c s fb big ak aj au ah sd i z5 aY) ++ [(972, (aU big)), (973, aC sd (ah * 64) (ah * 64)), (975, aI ((i * 64) + 24)), DZ sd i ah]) (by kernel_rfl)
 replace HF := HF.sub (zT b o n c s fb big ak aj au ah sd i z5 aY) (by kernel_rfl)
 refine bK HF (HM.told [5] rfl) 4 [] ((zT b o n c s fb big ak aj au ah sd i z5 aY) ++ [(978, (aU big)), (979, aC sd (ah * 64) (ah * 64)), (981, bF (IntKind.u64.wrap ((((i * 64) : Nat) : Int) + 32)))]) (by kernel_rfl) ?_
 clear HF; intro a HF
 rw [show IntKind.u64.wrap ((((i * 64) : Nat) : Int) + 32) = ((((i * 64) + 32) : Nat) : Int) from (IntWalk.u64_in _ (by omega)).trans (by omega)] at HF
 refine eu rfl HF (HM.told [5] rfl) rfl (.slice (some ⟨sd, ((i * 64) + 32), none⟩) ((ah * 64) - ((i * 64) + 32)) ((ah * 64) - ((i * 64) + 32))) (by kernel_rfl) (fun w hw => f_ (t := 33) Tryd.underlying33 hi0 hs0 rfl ((i * 64) + 32) (kk := .u64) rfl rfl (by omega) (by omega) (by omega) w) ?_
 clear HF; intro a HF; replace HF := HF.sub ((zT b o n c s fb big ak aj au ah sd i z5 aY) ++ [(978, (aU big)), (979, aC sd (ah * 64) (ah * 64)), (981, aI ((i * 64) + 32)), wZ sd i ah]) (by kernel_rfl)
 replace HF := HF.sub (zS b o n c s fb big ak aj au ah sd i z5 aY) (by kernel_rfl)
 refine bK HF (HM.told [5] rfl) 4 [] ((zS b o n c s fb big ak aj au ah sd i z5 aY) ++ [(984, (aU big)), (985, aC sd (ah * 64) (ah * 64)), (987, bF (IntKind.u64.wrap ((((i * 64) : Nat) : Int) + 16)))]) (by kernel_rfl) ?_
 clear HF; intro a HF
 rw [show IntKind.u64.wrap ((((i * 64) : Nat) : Int) + 16) = ((((i * 64) + 16) : Nat) : Int) from (IntWalk.u64_in _ (by omega)).trans (by omega)] at HF
 refine eu rfl HF (HM.told [5] rfl) rfl (.slice (some ⟨sd, ((i * 64) + 16), none⟩) ((ah * 64) - ((i * 64) + 16)) ((ah * 64) - ((i * 64) + 16))) (by kernel_rfl) (fun w hw => f_ (t := 33) Tryd.underlying33 hi0 hs0 rfl ((i * 64) + 16) (kk := .u64) rfl rfl (by omega) (by omega) (by omega) w) ?_
 clear HF; intro a HF; replace HF := HF.sub ((zS b o n c s fb big ak aj au ah sd i z5 aY) ++ [(984, (aU big)), (985, aC sd (ah * 64) (ah * 64)), (987, aI ((i * 64) + 16)), tq sd i ah]) (by kernel_rfl)
 replace HF := HF.sub (zQ b o n c s fb big ak aj au ah sd i z5 aY) (by kernel_rfl)
 refine bK HF (HM.told [5] rfl) 4 [] ((zQ b o n c s fb big ak aj au ah sd i z5 aY) ++ [(990, (aU big)), (991, aC sd (ah * 64) (ah * 64)), (993, bF (IntKind.u64.wrap ((((i * 64) : Nat) : Int) + 40)))]) (by kernel_rfl) ?_
 clear HF; intro a HF
 rw [show IntKind.u64.wrap ((((i * 64) : Nat) : Int) + 40) = ((((i * 64) + 40) : Nat) : Int) from (IntWalk.u64_in _ (by omega)).trans (by omega)] at HF
 refine eu rfl HF (HM.told [5] rfl) rfl (.slice (some ⟨sd, ((i * 64) + 40), none⟩) ((ah * 64) - ((i * 64) + 40)) ((ah * 64) - ((i * 64) + 40))) (by kernel_rfl) (fun w hw => f_ (t := 33) Tryd.underlying33 hi0 hs0 rfl ((i * 64) + 40) (kk := .u64) rfl rfl (by omega) (by omega) (by omega) w) ?_
 clear HF; intro a HF; replace HF := HF.sub ((zQ b o n c s fb big ak aj au ah sd i z5 aY) ++ [(990, (aU big)), (991, aC sd (ah * 64) (ah * 64)), (993, aI ((i * 64) + 40)), qm sd i ah]) (by kernel_rfl)
 replace HF := HF.sub (zO b o n c s fb big ak aj au ah sd i z5 aY) (by kernel_rfl)
 refine bK HF (HM.told [5] rfl) 4 [] ((zO b o n c s fb big ak aj au ah sd i z5 aY) ++ [(996, (aU big)), (997, aC sd (ah * 64) (ah * 64)), (999, bF (IntKind.u64.wrap ((((i * 64) : Nat) : Int) + 44)))]) (by kernel_rfl) ?_
 clear HF; intro a HF
 rw [show IntKind.u64.wrap ((((i * 64) : Nat) : Int) + 44) = ((((i * 64) + 44) : Nat) : Int) from (IntWalk.u64_in _ (by omega)).trans (by omega)] at HF
 refine eu rfl HF (HM.told [5] rfl) rfl (.slice (some ⟨sd, ((i * 64) + 44), none⟩) ((ah * 64) - ((i * 64) + 44)) ((ah * 64) - ((i * 64) + 44))) (by kernel_rfl) (fun w hw => f_ (t := 33) Tryd.underlying33 hi0 hs0 rfl ((i * 64) + 44) (kk := .u64) rfl rfl (by omega) (by omega) (by omega) w) ?_
 clear HF; intro a HF; replace HF := HF.sub ((zO b o n c s fb big ak aj au ah sd i z5 aY) ++ [(996, (aU big)), (997, aC sd (ah * 64) (ah * 64)), (999, aI ((i * 64) + 44)), ou sd i ah]) (by kernel_rfl)
 replace HF := HF.sub (zN b o n c s fb big ak aj au ah sd i z5 aY) (by kernel_rfl)
 refine bK HF (HM.told [5] rfl) 4 [] ((zN b o n c s fb big ak aj au ah sd i z5 aY) ++ [(1002, (aU big)), (1003, aC sd (ah * 64) (ah * 64)), (1005, bF (IntKind.u64.wrap ((((i * 64) : Nat) : Int) + 48)))]) (by kernel_rfl) ?_
 clear HF; intro a HF
 rw [show IntKind.u64.wrap ((((i * 64) : Nat) : Int) + 48) = ((((i * 64) + 48) : Nat) : Int) from (IntWalk.u64_in _ (by omega)).trans (by omega)] at HF
 refine eu rfl HF (HM.told [5] rfl) rfl (.slice (some ⟨sd, ((i * 64) + 48), none⟩) ((ah * 64) - ((i * 64) + 48)) ((ah * 64) - ((i * 64) + 48))) (by kernel_rfl) (fun w hw => f_ (t := 33) Tryd.underlying33 hi0 hs0 rfl ((i * 64) + 48) (kk := .u64) rfl rfl (by omega) (by omega) (by omega) w) ?_
 clear HF; intro a HF; replace HF := HF.sub ((zN b o n c s fb big ak aj au ah sd i z5 aY) ++ [(1002, (aU big)), (1003, aC sd (ah * 64) (ah * 64)), (1005, aI ((i * 64) + 48)), ni sd i ah]) (by kernel_rfl)
 replace HF := HF.sub (wY b o n c s fb big ak aj au ah sd i z5 aY) (by kernel_rfl)
 refine bK HF (HM.told [5] rfl) 4 [] ((wY b o n c s fb big ak aj au ah sd i z5 aY) ++ [(1008, (aU big)), (1009, aC sd (ah * 64) (ah * 64)), (1011, bF (IntKind.u64.wrap ((((i * 64) : Nat) : Int) + 56)))]) (by kernel_rfl) ?_
 clear HF; intro a HF
 rw [show IntKind.u64.wrap ((((i * 64) : Nat) : Int) + 56) = ((((i * 64) + 56) : Nat) : Int) from (IntWalk.u64_in _ (by omega)).trans (by omega)] at HF
 refine eu rfl HF (HM.told [5] rfl) rfl (.slice (some ⟨sd, ((i * 64) + 56), none⟩) ((ah * 64) - ((i * 64) + 56)) ((ah * 64) - ((i * 64) + 56))) (by kernel_rfl) (fun w hw => f_ (t := 33) Tryd.underlying33 hi0 hs0 rfl ((i * 64) + 56) (kk := .u64) rfl rfl (by omega) (by omega) (by omega) w) ?_
 clear HF; intro a HF; replace HF := HF.sub ((wY b o n c s fb big ak aj au ah sd i z5 aY) ++ [(1008, (aU big)), (1009, aC sd (ah * 64) (ah * 64)), (1011, aI ((i * 64) + 56)), kL sd i ah]) (by kernel_rfl)
 replace HF := HF.sub ((wY b o n c s fb big ak aj au ah sd i z5 aY) ++ [(1008, (aU big)), kL sd i ah]) (by kernel_rfl)
 refine bQ rfl ?_
 refine bf HF (by kernel_rfl) 87 #[(aU big), .slice (some ⟨sd, ((i * 64) + 4), none⟩) ((ah * 64) - ((i * 64) + 4)) ((ah * 64) - ((i * 64) + 4))] (by kernel_rfl) (fun w => by kernel_rfl) (Calls.mono (kK (HM.get (i := 5) rfl) (by unfold maxLen; omega) big ((i * 64) + 4) ((ah * 64) - ((i * 64) + 4)) (by omega) (by omega) ((v.ty : Nat) : Int) (by rw [SN])) ?_)
 rintro _ w4 ⟨rfl, kS, hq⟩
 replace HM : Mm [fb, aV, aY, sd] W1 w4 [(z10, .cells #[aX v.name] 36 (0, 0)), kX z5, gq fb dat abi aH big aW aJ aG aV i ah pg aj, (aV, .cells cur 133 (0, 0)), (aY, .cells h_ 36 (0, 0)), (sd, .cells (X.map Bv).toArray 5 (0, 0))] := by rw [hq]; exact HM.drewN _
 clear hq
 refine ⟨_, rfl, ?_⟩; clear HF; intro a HF; replace HF := HF.sub ((wY b o n c s fb big ak aj au ah sd i z5 aY) ++ [(1008, (aU big)), kL sd i ah, (964, aX v.ty)]) (by kernel_rfl)
 refine dD (HM.told [5] rfl) ?_
 replace HF := HF.sub ((fD b o n c s fb big ak aj au ah sd i z5 aY) ++ [(958, aA z5), (965, (aU big)), Fe sd i ah, (972, (aU big)), DZ sd i ah, (978, (aU big)), wZ sd i ah, (984, (aU big)), tq sd i ah, (990, (aU big)), qm sd i ah, (996, (aU big)), ou sd i ah, (1002, (aU big)), ni sd i ah, (1008, (aU big)), kL sd i ah, (964, aX v.ty)]) (by kernel_rfl)
 refine bQ rfl ?_
 refine bf HF (by kernel_rfl) 88 #[(aU big), .slice (some ⟨sd, ((i * 64) + 8), none⟩) ((ah * 64) - ((i * 64) + 8)) ((ah * 64) - ((i * 64) + 8))] (by kernel_rfl) (fun w => by kernel_rfl) (Calls.mono (qJ (HM.get (i := 5) rfl) (by unfold maxLen; omega) big ((i * 64) + 8) ((ah * 64) - ((i * 64) + 8)) (by omega) (by omega) ((v.flags : Nat) : Int) (by rw [Jw])) ?_)
 rintro _ w5 ⟨rfl, kS, hq⟩
 replace HM : Mm [fb, aV, aY, sd] W1 w5 [(z10, .cells #[aX v.name] 36 (0, 0)), kX z5, gq fb dat abi aH big aW aJ aG aV i ah pg aj, (aV, .cells cur 133 (0, 0)), (aY, .cells h_ 36 (0, 0)), (sd, .cells (X.map Bv).toArray 5 (0, 0))] := by rw [hq]; exact HM.drewN _
 clear hq
 refine ⟨_, rfl, ?_⟩; clear HF; intro a HF; replace HF := HF.sub ((fD b o n c s fb big ak aj au ah sd i z5 aY) ++ [(958, aA z5), (965, (aU big)), Fe sd i ah, (972, (aU big)), DZ sd i ah, (978, (aU big)), wZ sd i ah, (984, (aU big)), tq sd i ah, (990, (aU big)), qm sd i ah, (996, (aU big)), ou sd i ah, (1002, (aU big)), ni sd i ah, (1008, (aU big)), kL sd i ah, (964, aX v.ty), (970, aI v.flags)]) (by kernel_rfl)
 refine dD (HM.told [5] rfl) ?_
 replace HF := HF.sub ((DY b o n c s fb big ak aj au ah sd i z5 aY v) ++ [(970, aI v.flags)]) (by kernel_rfl)
 refine bK HF (HM.told [5] rfl) 1 [] ((DY b o n c s fb big ak aj au ah sd i z5 aY v) ++ [(971, gV (IntKind.u32.wrap ((v.flags : Nat) : Int)))]) (by kernel_rfl) ?_
 clear HF; intro a HF
 rw [show IntKind.u32.wrap ((v.flags : Nat) : Int) = ((v.flags : Nat) : Int) from IntWalk.u32_in _ (by omega)] at HF
 refine bQ rfl ?_
 refine bf HF (by kernel_rfl) 88 #[(aU big), .slice (some ⟨sd, ((i * 64) + 24), none⟩) ((ah * 64) - ((i * 64) + 24)) ((ah * 64) - ((i * 64) + 24))] (by kernel_rfl) (fun w => by kernel_rfl) (Calls.mono (qJ (HM.get (i := 5) rfl) (by unfold maxLen; omega) big ((i * 64) + 24) ((ah * 64) - ((i * 64) + 24)) (by omega) (by omega) ((v.off : Nat) : Int) (by rw [P_])) ?_)
 rintro _ w6 ⟨rfl, kS, hq⟩
 replace HM : Mm [fb, aV, aY, sd] W1 w6 [(z10, .cells #[aX v.name] 36 (0, 0)), kX z5, gq fb dat abi aH big aW aJ aG aV i ah pg aj, (aV, .cells cur 133 (0, 0)), (aY, .cells h_ 36 (0, 0)), (sd, .cells (X.map Bv).toArray 5 (0, 0))] := by rw [hq]; exact HM.drewN _
 clear hq
 refine ⟨_, rfl, ?_⟩; clear HF; intro a HF; replace HF := HF.sub ((DY b o n c s fb big ak aj au ah sd i z5 aY v) ++ [(971, aX v.flags), (977, aI v.off)]) (by kernel_rfl)
 refine dD (HM.told [5] rfl) ?_
 replace HF := HF.sub ((fD b o n c s fb big ak aj au ah sd i z5 aY) ++ [(958, aA z5), (978, (aU big)), wZ sd i ah, (984, (aU big)), tq sd i ah, (990, (aU big)), qm sd i ah, (996, (aU big)), ou sd i ah, (1002, (aU big)), ni sd i ah, (1008, (aU big)), kL sd i ah, (964, aX v.ty), (971, aX v.flags), (977, aI v.off)]) (by kernel_rfl)
 refine bQ rfl ?_
 refine bf HF (by kernel_rfl) 88 #[(aU big), .slice (some ⟨sd, ((i * 64) + 32), none⟩) ((ah * 64) - ((i * 64) + 32)) ((ah * 64) - ((i * 64) + 32))] (by kernel_rfl) (fun w => by kernel_rfl) (Calls.mono (qJ (HM.get (i := 5) rfl) (by unfold maxLen; omega) big ((i * 64) + 32) ((ah * 64) - ((i * 64) + 32)) (by omega) (by omega) ((v.bP : Nat) : Int) (by rw [Qa])) ?_)
 rintro _ w7 ⟨rfl, kS, hq⟩
 replace HM : Mm [fb, aV, aY, sd] W1 w7 [(z10, .cells #[aX v.name] 36 (0, 0)), kX z5, gq fb dat abi aH big aW aJ aG aV i ah pg aj, (aV, .cells cur 133 (0, 0)), (aY, .cells h_ 36 (0, 0)), (sd, .cells (X.map Bv).toArray 5 (0, 0))] := by rw [hq]; exact HM.drewN _
 clear hq
 refine ⟨_, rfl, ?_⟩; clear HF; intro a HF; replace HF := HF.sub ((fD b o n c s fb big ak aj au ah sd i z5 aY) ++ [(958, aA z5), (978, (aU big)), wZ sd i ah, (984, (aU big)), tq sd i ah, (990, (aU big)), qm sd i ah, (996, (aU big)), ou sd i ah, (1002, (aU big)), ni sd i ah, (1008, (aU big)), kL sd i ah, (964, aX v.ty), (971, aX v.flags), (977, aI v.off), (983, aI v.bP)]) (by kernel_rfl)
 refine dD (HM.told [5] rfl) ?_
 replace HF := HF.sub ((fD b o n c s fb big ak aj au ah sd i z5 aY) ++ [(958, aA z5), (984, (aU big)), tq sd i ah, (990, (aU big)), qm sd i ah, (996, (aU big)), ou sd i ah, (1002, (aU big)), ni sd i ah, (1008, (aU big)), kL sd i ah, (964, aX v.ty), (971, aX v.flags), (977, aI v.off), (983, aI v.bP)]) (by kernel_rfl)
 refine bQ rfl ?_
 refine bf HF (by kernel_rfl) 88 #[(aU big), .slice (some ⟨sd, ((i * 64) + 16), none⟩) ((ah * 64) - ((i * 64) + 16)) ((ah * 64) - ((i * 64) + 16))] (by kernel_rfl) (fun w => by kernel_rfl) (Calls.mono (qJ (HM.get (i := 5) rfl) (by unfold maxLen; omega) big ((i * 64) + 16) ((ah * 64) - ((i * 64) + 16)) (by omega) (by omega) ((v.addr : Nat) : Int) (by rw [Nk])) ?_)
 rintro _ w8 ⟨rfl, kS, hq⟩
 replace HM : Mm [fb, aV, aY, sd] W1 w8 [(z10, .cells #[aX v.name] 36 (0, 0)), kX z5, gq fb dat abi aH big aW aJ aG aV i ah pg aj, (aV, .cells cur 133 (0, 0)), (aY, .cells h_ 36 (0, 0)), (sd, .cells (X.map Bv).toArray 5 (0, 0))] := by rw [hq]; exact HM.drewN _
 clear hq
 refine ⟨_, rfl, ?_⟩; clear HF; intro a HF; replace HF := HF.sub ((fD b o n c s fb big ak aj au ah sd i z5 aY) ++ [(958, aA z5), (984, (aU big)), tq sd i ah, (990, (aU big)), qm sd i ah, (996, (aU big)), ou sd i ah, (1002, (aU big)), ni sd i ah, (1008, (aU big)), kL sd i ah, (964, aX v.ty), (971, aX v.flags), (977, aI v.off), (983, aI v.bP), (989, aI v.addr)]) (by kernel_rfl)
 refine dD (HM.told [5] rfl) ?_
 replace HF := HF.sub ((fD b o n c s fb big ak aj au ah sd i z5 aY) ++ [(958, aA z5), (990, (aU big)), qm sd i ah, (996, (aU big)), ou sd i ah, (1002, (aU big)), ni sd i ah, (1008, (aU big)), kL sd i ah, (964, aX v.ty), (971, aX v.flags), (977, aI v.off), (983, aI v.bP), (989, aI v.addr)]) (by kernel_rfl)
 refine bQ rfl ?_
 refine bf HF (by kernel_rfl) 87 #[(aU big), .slice (some ⟨sd, ((i * 64) + 40), none⟩) ((ah * 64) - ((i * 64) + 40)) ((ah * 64) - ((i * 64) + 40))] (by kernel_rfl) (fun w => by kernel_rfl) (Calls.mono (kK (HM.get (i := 5) rfl) (by unfold maxLen; omega) big ((i * 64) + 40) ((ah * 64) - ((i * 64) + 40)) (by omega) (by omega) ((v.link : Nat) : Int) (by rw [Nj])) ?_)
 rintro _ w9 ⟨rfl, kS, hq⟩
 replace HM : Mm [fb, aV, aY, sd] W1 w9 [(z10, .cells #[aX v.name] 36 (0, 0)), kX z5, gq fb dat abi aH big aW aJ aG aV i ah pg aj, (aV, .cells cur 133 (0, 0)), (aY, .cells h_ 36 (0, 0)), (sd, .cells (X.map Bv).toArray 5 (0, 0))] := by rw [hq]; exact HM.drewN _
 clear hq
 refine ⟨_, rfl, ?_⟩; clear HF; intro a HF; replace HF := HF.sub ((fD b o n c s fb big ak aj au ah sd i z5 aY) ++ [(958, aA z5), (990, (aU big)), qm sd i ah, (996, (aU big)), ou sd i ah, (1002, (aU big)), ni sd i ah, (1008, (aU big)), kL sd i ah, (964, aX v.ty), (971, aX v.flags), (977, aI v.off), (983, aI v.bP), (989, aI v.addr), (995, aX v.link)]) (by kernel_rfl)
 refine dD (HM.told [5] rfl) ?_
 replace HF := HF.sub ((fD b o n c s fb big ak aj au ah sd i z5 aY) ++ [(958, aA z5), (996, (aU big)), ou sd i ah, (1002, (aU big)), ni sd i ah, (1008, (aU big)), kL sd i ah, (964, aX v.ty), (971, aX v.flags), (977, aI v.off), (983, aI v.bP), (989, aI v.addr), (995, aX v.link)]) (by kernel_rfl)
 refine bQ rfl ?_
 refine bf HF (by kernel_rfl) 87 #[(aU big), .slice (some ⟨sd, ((i * 64) + 44), none⟩) ((ah * 64) - ((i * 64) + 44)) ((ah * 64) - ((i * 64) + 44))] (by kernel_rfl) (fun w => by kernel_rfl) (Calls.mono (kK (HM.get (i := 5) rfl) (by unfold maxLen; omega) big ((i * 64) + 44) ((ah * 64) - ((i * 64) + 44)) (by omega) (by omega) ((v.info : Nat) : Int) (by rw [Bz])) ?_)
 rintro _ w10 ⟨rfl, kS, hq⟩
 replace HM : Mm [fb, aV, aY, sd] W1 w10 [(z10, .cells #[aX v.name] 36 (0, 0)), kX z5, gq fb dat abi aH big aW aJ aG aV i ah pg aj, (aV, .cells cur 133 (0, 0)), (aY, .cells h_ 36 (0, 0)), (sd, .cells (X.map Bv).toArray 5 (0, 0))] := by rw [hq]; exact HM.drewN _
 clear hq
 refine ⟨_, rfl, ?_⟩; clear HF; intro a HF; replace HF := HF.sub ((fD b o n c s fb big ak aj au ah sd i z5 aY) ++ [(958, aA z5), (996, (aU big)), ou sd i ah, (1002, (aU big)), ni sd i ah, (1008, (aU big)), kL sd i ah, (964, aX v.ty), (971, aX v.flags), (977, aI v.off), (983, aI v.bP), (989, aI v.addr), (995, aX v.link), (1001, aX v.info)]) (by kernel_rfl)
 refine dD (HM.told [5] rfl) ?_
 replace HF := HF.sub ((fD b o n c s fb big ak aj au ah sd i z5 aY) ++ [(958, aA z5), (1002, (aU big)), ni sd i ah, (1008, (aU big)), kL sd i ah, (964, aX v.ty), (971, aX v.flags), (977, aI v.off), (983, aI v.bP), (989, aI v.addr), (995, aX v.link), (1001, aX v.info)]) (by kernel_rfl)
 refine bQ rfl ?_
 refine bf HF (by kernel_rfl) 88 #[(aU big), .slice (some ⟨sd, ((i * 64) + 48), none⟩) ((ah * 64) - ((i * 64) + 48)) ((ah * 64) - ((i * 64) + 48))] (by kernel_rfl) (fun w => by kernel_rfl) (Calls.mono (qJ (HM.get (i := 5) rfl) (by unfold maxLen; omega) big ((i * 64) + 48) ((ah * 64) - ((i * 64) + 48)) (by omega) (by omega) ((v.align : Nat) : Int) (by rw [Jy])) ?_)
 rintro _ wQ ⟨rfl, kS, hq⟩
 replace HM : Mm [fb, aV, aY, sd] W1 wQ [(z10, .cells #[aX v.name] 36 (0, 0)), kX z5, gq fb dat abi aH big aW aJ aG aV i ah pg aj, (aV, .cells cur 133 (0, 0)), (aY, .cells h_ 36 (0, 0)), (sd, .cells (X.map Bv).toArray 5 (0, 0))] := by rw [hq]; exact HM.drewN _
 clear hq
 refine ⟨_, rfl, ?_⟩; clear HF; intro a HF; replace HF := HF.sub ((fD b o n c s fb big ak aj au ah sd i z5 aY) ++ [(958, aA z5), (1002, (aU big)), ni sd i ah, (1008, (aU big)), kL sd i ah, (964, aX v.ty), (971, aX v.flags), (977, aI v.off), (983, aI v.bP), (989, aI v.addr), (995, aX v.link), (1001, aX v.info), (1007, aI v.align)]) (by kernel_rfl)
 refine dD (HM.told [5] rfl) ?_
 replace HF := HF.sub ((fD b o n c s fb big ak aj au ah sd i z5 aY) ++ [(958, aA z5), (1008, (aU big)), kL sd i ah, (964, aX v.ty), (971, aX v.flags), (977, aI v.off), (983, aI v.bP), (989, aI v.addr), (995, aX v.link), (1001, aX v.info), (1007, aI v.align)]) (by kernel_rfl)
 refine bQ rfl ?_
 refine bf HF (by kernel_rfl) 88 #[(aU big), .slice (some ⟨sd, ((i * 64) + 56), none⟩) ((ah * 64) - ((i * 64) + 56)) ((ah * 64) - ((i * 64) + 56))] (by kernel_rfl) (fun w => by kernel_rfl) (Calls.mono (qJ (HM.get (i := 5) rfl) (by unfold maxLen; omega) big ((i * 64) + 56) ((ah * 64) - ((i * 64) + 56)) (by omega) (by omega) ((v.ent : Nat) : Int) (by rw [Qb])) ?_)
 rintro _ w12 ⟨rfl, kS, hq⟩
 replace HM : Mm [fb, aV, aY, sd] W1 w12 [(z10, .cells #[aX v.name] 36 (0, 0)), kX z5, gq fb dat abi aH big aW aJ aG aV i ah pg aj, (aV, .cells cur 133 (0, 0)), (aY, .cells h_ 36 (0, 0)), (sd, .cells (X.map Bv).toArray 5 (0, 0))] := by rw [hq]; exact HM.drewN _
 clear hq
 refine ⟨_, rfl, ?_⟩; clear HF; intro a HF; replace HF := HF.sub ((fD b o n c s fb big ak aj au ah sd i z5 aY) ++ [(958, aA z5), (1008, (aU big)), kL sd i ah, (964, aX v.ty), (971, aX v.flags), (977, aI v.off), (983, aI v.bP), (989, aI v.addr), (995, aX v.link), (1001, aX v.info), (1007, aI v.align), (1013, aI v.ent)]) (by kernel_rfl)
 refine dD (HM.told [5] rfl) ?_
 replace HF := HF.sub ((fD b o n c s fb big ak aj au ah sd i z5 aY) ++ [(958, aA z5), (964, aX v.ty), (971, aX v.flags), (977, aI v.off), (983, aI v.bP), (989, aI v.addr), (995, aX v.link), (1001, aX v.info), (1007, aI v.align), (1013, aI v.ent)]) (by kernel_rfl)
 refine bK HF (HM.told [5] rfl) 3 [] ((fD b o n c s fb big ak aj au ah sd i z5 aY) ++ [(958, aA z5), (964, aX v.ty), (971, aX v.flags), (977, aI v.off), (983, aI v.bP), (989, aI v.addr), (995, aX v.link), (1001, aX v.info), (1007, aI v.align), (1013, aI v.ent), Ir v, (1016, aA z5)]) (by kernel_rfl) ?_
 clear HF; intro a HF
 replace HF := HF.sub ((fD b o n c s fb big ak aj au ah sd i z5 aY) ++ [Ir v, (1016, aA z5)]) (by kernel_rfl)
 refine bQ rfl ?_
 refine aP HF HM rfl 1 [[4, 4, 4, 4, 4, 4, 4, 4, 4, 4, 4]] (fD b o n c s fb big ak aj au ah sd i z5 aY) [(z10, .cells #[aX v.name] 36 (0, 0)), vk z5 v, gq fb dat abi aH big aW aJ aG aV i ah pg aj, (aV, .cells cur 133 (0, 0)), (aY, .cells h_ 36 (0, 0)), (sd, .cells (X.map Bv).toArray 5 (0, 0))] (by kernel_rfl) ?_
 clear HF HM; intro a w HF HM
 refine dD (HM.told [5] rfl) ?_
 refine jR ?_
 repeat (first | refine aK ?_ | refine aS ?_)
 refine wp_seq ?_
 refine wp_seq (wp_region_lit ?_)
 refine aP HF HM rfl 6 [[4]] ((fD b o n c s fb big ak aj au ah sd i z5 aY) ++ [(1022, aF (IntKind.i64.wrap ((v.off : Nat) : Int)))]) [(z10, .cells #[aX v.name] 36 (0, 0)), vk z5 v, gq fb dat abi aH big aW aJ aG aV i ah pg aj, (aV, .cells cur 133 (0, 0)), (aY, .cells h_ 36 (0, 0)), (sd, .cells (X.map Bv).toArray 5 (0, 0))] (by kernel_rfl) ?_
 clear HF HM; intro a w HF HM
 rw [show IntKind.i64.wrap ((v.off : Nat) : Int) = ((v.off : Nat) : Int) from IntWalk.i64_in _ (by omega)] at HF
 refine aP HF HM rfl 1 [] ((fD b o n c s fb big ak aj au ah sd i z5 aY) ++ [(1023, .bool (decide (((v.off : Nat) : Int) < 0)))]) [(z10, .cells #[aX v.name] 36 (0, 0)), vk z5 v, gq fb dat abi aH big aW aJ aG aV i ah pg aj, (aV, .cells cur 133 (0, 0)), (aY, .cells h_ 36 (0, 0)), (sd, .cells (X.map Bv).toArray 5 (0, 0))] (by kernel_rfl) ?_
 clear HF HM; intro a w HF HM
 rw [show decide (((v.off : Nat) : Int) < 0) = false from dI (by omega)] at HF
 refine aB ?_
 refine aZ HF rfl ?_
 refine wp_skip ?_
 repeat (first | refine aK ?_ | refine aS ?_)
 replace HF := HF.sub (fD b o n c s fb big ak aj au ah sd i z5 aY) (by kernel_rfl)
 refine wp_seq ?_
 refine wp_seq (wp_region_lit ?_)
 refine aP HF HM rfl 6 [[4]] ((fD b o n c s fb big ak aj au ah sd i z5 aY) ++ [(1043, aF (IntKind.i64.wrap ((v.bP : Nat) : Int)))]) [(z10, .cells #[aX v.name] 36 (0, 0)), vk z5 v, gq fb dat abi aH big aW aJ aG aV i ah pg aj, (aV, .cells cur 133 (0, 0)), (aY, .cells h_ 36 (0, 0)), (sd, .cells (X.map Bv).toArray 5 (0, 0))] (by kernel_rfl) ?_
 clear HF HM; intro a w HF HM
 rw [show IntKind.i64.wrap ((v.bP : Nat) : Int) = ((v.bP : Nat) : Int) from IntWalk.i64_in _ (by omega)] at HF
 refine aP HF HM rfl 1 [] ((fD b o n c s fb big ak aj au ah sd i z5 aY) ++ [(1044, .bool (decide (((v.bP : Nat) : Int) < 0)))]) [(z10, .cells #[aX v.name] 36 (0, 0)), vk z5 v, gq fb dat abi aH big aW aJ aG aV i ah pg aj, (aV, .cells cur 133 (0, 0)), (aY, .cells h_ 36 (0, 0)), (sd, .cells (X.map Bv).toArray 5 (0, 0))] (by kernel_rfl) ?_
 clear HF HM; intro a w HF HM
 rw [show decide (((v.bP : Nat) : Int) < 0) = false from dI (by omega)] at HF
 refine aB ?_
 refine aZ HF rfl ?_
 refine wp_skip ?_
 repeat (first | refine aK ?_ | refine aS ?_)
 replace HF := HF.sub (fD b o n c s fb big ak aj au ah sd i z5 aY) (by kernel_rfl)
 refine BF HM (by kernel_rfl) (fun w => w.cell? ⟨z5, 4, none⟩ = some (aI v.off) ∧ w.cell? ⟨z5, 10, none⟩ = some (aI v.bP)) [(0, false), (1, false), (2, false), (3, false), (4, false), (5, false), (6, false), (7, false), (8, false), (9, false), (10, false), (11, false), (12, false), (13, false), (14, true), (15, false), (16, false), (17, true)] (by kernel_rfl) ?_
 clear HM; intro CW HM
 refine kD (LS := []) (fun _ _ => kY _) HF ⟨HM.cellAt (i := 1) (k := 4) rfl rfl, HM.cellAt (i := 1) (k := 10) rfl rfl⟩ 6 [] ((sZ b o n c s fb big ak aj au ah sd i z5 aY) ++ [(1064, .pointer (some ⟨z5, 4, none⟩))]) (by kernel_rfl) ?_
 clear HF; intro a HF
 refine sJ rfl HF ⟨HM.cellAt (i := 1) (k := 4) rfl rfl, HM.cellAt (i := 1) (k := 10) rfl rfl⟩ rfl (aI v.off) (by kernel_rfl) (fun w hw => dP rfl rfl (by kernel_rfl) hw.1) ?_
 clear HF; intro a HF; replace HF := HF.sub ((sZ b o n c s fb big ak aj au ah sd i z5 aY) ++ [(1064, .pointer (some ⟨z5, 4, none⟩)), (1065, aI v.off)]) (by kernel_rfl)
 refine kD (LS := []) (fun _ _ => kY _) HF ⟨HM.cellAt (i := 1) (k := 4) rfl rfl, HM.cellAt (i := 1) (k := 10) rfl rfl⟩ 1 [] ((sZ b o n c s fb big ak aj au ah sd i z5 aY) ++ [(1066, aF (IntKind.i64.wrap ((v.off : Nat) : Int)))]) (by kernel_rfl) ?_
 clear HF; intro a HF
 rw [show IntKind.i64.wrap ((v.off : Nat) : Int) = ((v.off : Nat) : Int) from IntWalk.i64_in _ (by omega)] at HF
 refine kD (LS := []) (fun _ _ => kY _) HF ⟨HM.cellAt (i := 1) (k := 4) rfl rfl, HM.cellAt (i := 1) (k := 10) rfl rfl⟩ 4 [] ((sZ b o n c s fb big ak aj au ah sd i z5 aY) ++ [(1066, ay v.off), (1070, .pointer (some ⟨z5, 10, none⟩))]) (by kernel_rfl) ?_
 clear HF; intro a HF
 refine sJ rfl HF ⟨HM.cellAt (i := 1) (k := 4) rfl rfl, HM.cellAt (i := 1) (k := 10) rfl rfl⟩ rfl (aI v.bP) (by kernel_rfl) (fun w hw => dP rfl rfl (by kernel_rfl) hw.2) ?_
 clear HF; intro a HF; replace HF := HF.sub ((sZ b o n c s fb big ak aj au ah sd i z5 aY) ++ [(1066, ay v.off), (1070, .pointer (some ⟨z5, 10, none⟩)), (1071, aI v.bP)]) (by kernel_rfl)
 refine kD (LS := []) (fun _ _ => kY _) HF ⟨HM.cellAt (i := 1) (k := 4) rfl rfl, HM.cellAt (i := 1) (k := 10) rfl rfl⟩ 1 [] ((sZ b o n c s fb big ak aj au ah sd i z5 aY) ++ [(1066, ay v.off), (1072, aF (IntKind.i64.wrap ((v.bP : Nat) : Int)))]) (by kernel_rfl) ?_
 clear HF; intro a HF
 rw [show IntKind.i64.wrap ((v.bP : Nat) : Int) = ((v.bP : Nat) : Int) from IntWalk.i64_in _ (by omega)] at HF
 refine qC rfl ?_
 refine bf HF (by kernel_rfl) 92 #[.iface 178 (.slice (some ⟨b, o, none⟩) n c), ay v.off, ay v.bP] (by kernel_rfl) (fun w => by kernel_rfl) (Calls.mono (rD 178 (.slice (some ⟨b, o, none⟩) n c) ((v.off : Nat) : Int) ((v.bP : Nat) : Int) (by omega) (by omega) (by omega) CW) ?_)
 rintro _ EN ⟨sb, rfl, hb, hge, hgn⟩
 replace HM : Mm [fb, aV, aY, sd] W1 EN [pG sb b o n c v, (z10, .cells #[aX v.name] 36 (0, 0)), vk z5 v, gq fb dat abi aH big aW aJ aG aV i ah pg aj, (aV, .cells cur 133 (0, 0)), (aY, .cells h_ 36 (0, 0)), (sd, .cells (X.map Bv).toArray 5 (0, 0))] := HM.push hb hge hgn
 clear hb hge hgn
 refine ⟨_, rfl, ?_⟩; clear HF; intro a HF; replace HF := HF.sub ((sZ b o n c s fb big ak aj au ah sd i z5 aY) ++ [(1066, ay v.off), (1072, ay v.bP), (1073, aA sb)]) (by kernel_rfl)
 refine sK ⟨HM.cellAt (i := 2) (k := 4) rfl rfl, HM.cellAt (i := 2) (k := 10) rfl rfl⟩ ?_
 refine kD (LS := []) (fun _ _ => kY _) HF ⟨HM.cellAt (i := 2) (k := 4) rfl rfl, HM.cellAt (i := 2) (k := 10) rfl rfl⟩ 2 [] ((fD b o n c s fb big ak aj au ah sd i z5 aY) ++ [(1073, aA sb), (1075, .pointer (some ⟨z5, 12, none⟩))]) (by kernel_rfl) ?_
 clear HF; intro a HF
 refine qC rfl ?_
 refine aP HF HM rfl 1 [[4]] (fD b o n c s fb big ak aj au ah sd i z5 aY) [pG sb b o n c v, (z10, .cells #[aX v.name] 36 (0, 0)), Iu z5 v sb, gq fb dat abi aH big aW aJ aG aV i ah pg aj, (aV, .cells cur 133 (0, 0)), (aY, .cells h_ 36 (0, 0)), (sd, .cells (X.map Bv).toArray 5 (0, 0))] (by kernel_rfl) ?_
 clear HF HM; intro a w HF HM
 refine sK ⟨HM.cellAt (i := 2) (k := 4) rfl rfl, HM.cellAt (i := 2) (k := 10) rfl rfl⟩ ?_
 refine BG (aK ?_)
 refine wp_seq ?_
 refine wp_seq (wp_region_lit ?_)
 refine aP HF HM rfl 7 [[4]] [(0, .iface 178 (.slice (some ⟨b, o, none⟩) n c)), (4, aA s), (8, aA fb), (9, (aU big)), (10, ay ak), (11, aF 56), (12, ay aj), (13, ay au), (14, aF 64), (15, ay ah), (16, ay (ah - 1)), (26, aF 64), (42, aC sd (ah * 64) (ah * 64)), (43, ay i), (44, aI (i * 64)), (45, aA z5), (41, aC aY (i + 1) ah), (1082, .bool (qP ((v.flags : Nat) : Int) 2048 == 0))] [pG sb b o n c v, (z10, .cells #[aX v.name] 36 (0, 0)), Iu z5 v sb, gq fb dat abi aH big aW aJ aG aV i ah pg aj, (aV, .cells cur 133 (0, 0)), (aY, .cells h_ 36 (0, 0)), (sd, .cells (X.map Bv).toArray 5 (0, 0))] (by kernel_rfl) ?_
 clear HF HM; intro a w HF HM
 rw [v9] at HF
 refine aB ?_
 refine bC HF rfl ?_
 replace HF := HF.sub (fD b o n c s fb big ak aj au ah sd i z5 aY) (by kernel_rfl)
 refine bG HF HM rfl [[4], [4]] (fD b o n c s fb big ak aj au ah sd i z5 aY) [pG sb b o n c v, (z10, .cells #[aX v.name] 36 (0, 0)), (z5, .cells #[.string ⟨#[]⟩, aX (v).ty, aX (v).flags, aI (v).addr, aI (v).off, bF 0, aX (v).link, aX (v).info, aI (v).align, aI (v).ent, aI (v).bP, .iface 144 (aA sb), aA sb, aF 0, aF 0] 153 (0, 0)), gq fb dat abi aH big aW aJ aG aV i ah pg aj, (aV, .cells cur 133 (0, 0)), (aY, .cells h_ 36 (0, 0)), (sd, .cells (X.map Bv).toArray 5 (0, 0))] (by kernel_rfl) ?_
 clear HF HM; intro a w HF HM
 refine pW HF HM rfl [[4], [4]] (fD b o n c s fb big ak aj au ah sd i z5 aY) [pG sb b o n c v, (z10, .cells #[aX v.name] 36 (0, 0)), vg z5 v sb, gq fb dat abi aH big aW aJ aG aV i ah pg aj, (aV, .cells cur 133 (0, 0)), (aY, .cells h_ 36 (0, 0)), (sd, .cells (X.map Bv).toArray 5 (0, 0))] (by kernel_rfl) ?_
 clear HF HM; intro a w HF HM
 repeat (first | refine aK ?_ | refine aS ?_)
 refine wp_region_lit ?_
 obtain ⟨z21, hz21⟩ : ∃ z, w.heap.size = z := ⟨_, rfl⟩
 refine aP HF HM hz21 7 [[3]] ((fD b o n c s fb big ak aj au ah sd i z5 aY) ++ [(1191, aA fb), (1195, aC aV i ah), (1197, aC z21 1 1)]) [(z21, .cells #[aA z5] 133 (0, 0)), pG sb b o n c v, (z10, .cells #[aX v.name] 36 (0, 0)), vg z5 v sb, gq fb dat abi aH big aW aJ aG aV i ah pg aj, (aV, .cells cur 133 (0, 0)), (aY, .cells h_ 36 (0, 0)), (sd, .cells (X.map Bv).toArray 5 (0, 0))] (by kernel_rfl) ?_
 clear HF HM hz21; intro a w HF HM
 refine rX HF HM rfl _ _ 126 rfl rfl 133 (.pointer none) 8 Tryd.underlying126 Dj 5 0 aV _ i ah cur _ _ rfl hcs (by omega) (by unfold maxLen; omega) rfl rfl rfl rfl ?_
 intro a2 EH cur' hcs' htk bJ HF2; clear HF HM; have HM : Mm [fb, aV, aY, sd] W1 EH [(z21, .cells #[aA z5] 133 (0, 0)), pG sb b o n c v, (z10, .cells #[aX v.name] 36 (0, 0)), vg z5 v sb, gq fb dat abi aH big aW aJ aG aV i ah pg aj, (aV, .cells cur' 133 (0, 0)), (aY, .cells h_ 36 (0, 0)), (sd, .cells (X.map Bv).toArray 5 (0, 0))] := bJ; have HF := HF2; clear bJ HF2
 replace HF := HF.sub ((fD b o n c s fb big ak aj au ah sd i z5 aY) ++ [(1191, aA fb), (1198, aC aV (i + 1) ah)]) (by kernel_rfl)
 refine aP HF HM rfl 3 [[3]] (fD b o n c s fb big ak aj au ah sd i z5 aY) [(z21, .cells #[aA z5] 133 (0, 0)), pG sb b o n c v, (z10, .cells #[aX v.name] 36 (0, 0)), vg z5 v sb, BJ fb dat abi aH big aW aJ aG aV i ah pg aj, (aV, .cells cur' 133 (0, 0)), (aY, .cells h_ 36 (0, 0)), (sd, .cells (X.map Bv).toArray 5 (0, 0))] (by kernel_rfl) ?_
 clear HF HM; intro a w HF HM
 refine wpList_nil ?_
 repeat (first | refine aK ?_ | refine aS ?_)
 refine wp_region_lit ?_
 refine aP HF HM rfl 2 [] ((fD b o n c s fb big ak aj au ah sd i z5 aY) ++ [(861, aF (IntKind.i64.wrap (((i : Nat) : Int) + 1)))]) [(z21, .cells #[aA z5] 133 (0, 0)), pG sb b o n c v, (z10, .cells #[aX v.name] 36 (0, 0)), vg z5 v sb, BJ fb dat abi aH big aW aJ aG aV i ah pg aj, (aV, .cells cur' 133 (0, 0)), (aY, .cells h_ 36 (0, 0)), (sd, .cells (X.map Bv).toArray 5 (0, 0))] (by kernel_rfl) ?_
 clear HF HM; intro a w HF HM
 rw [show IntKind.i64.wrap (((i : Nat) : Int) + 1) = (((i + 1) : Nat) : Int) from (IntWalk.i64_in _ (by omega)).trans (by omega)] at HF
 refine aP HF HM rfl 1 [] ((BI b o n c s fb big ak aj au ah) ++ [(42, aC sd (ah * 64) (ah * 64)), (44, aI (i * 64)), (45, aA z5), (41, aC aY (i + 1) ah), (43, ay (i + 1))]) [(z21, .cells #[aA z5] 133 (0, 0)), pG sb b o n c v, (z10, .cells #[aX v.name] 36 (0, 0)), vg z5 v sb, BJ fb dat abi aH big aW aJ aG aV i ah pg aj, (aV, .cells cur' 133 (0, 0)), (aY, .cells h_ 36 (0, 0)), (sd, .cells (X.map Bv).toArray 5 (0, 0))] (by kernel_rfl) ?_
 clear HF HM; intro a w HF HM
 refine wpList_nil ?_
 repeat (first | refine aK ?_ | refine aS ?_)
 replace HF := HF.sub ((BI b o n c s fb big ak aj au ah) ++ [(41, aC aY (i + 1) ah), (42, aC sd (ah * 64) (ah * 64)), (43, ay (i + 1))]) (by kernel_rfl)
 exact K a w z5 sb cur' h_ hcs' Hu htk htn HF (HM.sub (List.Sublist.cons _ (List.Sublist.cons_cons _ (List.Sublist.cons _ (List.Sublist.refl _)))))

end Go.Proofs.YtdgehpocmfjbiaaDoor
