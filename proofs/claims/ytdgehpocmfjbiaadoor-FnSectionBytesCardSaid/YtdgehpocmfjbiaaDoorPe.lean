/- elf.NewFile: one round of the loop over the sections. -/
import Derived.Test.YtdgehpocmfjbiaaDoorPd
set_option linter.unusedVariables false
set_option linter.unusedSimpArgs false
namespace Go.Proofs.YtdgehpocmfjbiaaDoor
open Go.RowKit

structure SecV where
  name : Nat
  ty : Nat
  flags : Nat
  addr : Nat
  off : Nat
  fsz : Nat
  link : Nat
  info : Nat
  align : Nat
  ent : Nat
theorem Mm.restart {G : List Nat} {w0 w : World} {L : List (Nat × Obj)} (h : Mm G w0 w L) : Mm (L.map (·.1)) w w L := ⟨Keep.refl _ _, fun p hp => ⟨(h.2.1 p hp).1, .inr (List.mem_map_of_mem hp)⟩, h.2.2⟩

abbrev nf_S_t_B0 := fun (fb : Nat) (dat : Int) (abi : Nat) (abiv : Nat) (big : Bool) (tyN : Nat) (machN : Nat) (entryN : Nat) (sg_ : Nat) (i : Nat) (shnumN : Nat) (pg : Nat) (phnumN : Nat) => ((fb, .cells #[iB_ 1, .int .u8 dat, iB_ 1, u8_ abi, u8_ abiv, (boV big), u2_ tyN, u2_ machN, u6_ entryN, sl_ sg_ i shnumN, sl_ pg phnumN phnumN, nl_, nl_, nl_] 131 (0, 0)) : Nat × Obj)
abbrev nf_S_t_S1 := fun (b : Nat) (o : Nat) (n : Nat) (c : Nat) (s : Nat) (fb : Nat) (big : Bool) (phoffN : Nat) (phnumN : Nat) (shoffN : Nat) (shnumN : Nat) (nm_ : Nat) (i : Nat) (sd : Nat) => ([(0, .iface 178 (.slice (some ⟨b, o, none⟩) n c)), (4, pt_ s), (8, pt_ fb), (9, (boV big)), (10, i6_ phoffN), (11, iI_ 32), (12, i6_ phnumN), (13, i6_ shoffN), (14, iI_ 40), (15, i6_ shnumN), (16, i6_ (shnumN - 1)), (26, iI_ 40), (41, sl_ nm_ i shnumN), (42, sl_ sd (shnumN * 40) (shnumN * 40)), (43, i6_ i)] : Slots)
abbrev nf_S_t_B2 := fun (fb : Nat) (dat : Int) (abi : Nat) (abiv : Nat) (big : Bool) (tyN : Nat) (machN : Nat) (entryN : Nat) (sg_ : Nat) (i : Nat) (shnumN : Nat) (pg : Nat) (phnumN : Nat) => ((fb, .cells #[iB_ 1, .int .u8 dat, iB_ 1, u8_ abi, u8_ abiv, (boV big), u2_ tyN, u2_ machN, u6_ entryN, sl_ sg_ (i + 1) shnumN, sl_ pg phnumN phnumN, nl_, nl_, nl_] 131 (0, 0)) : Nat × Obj)
abbrev nf_S_t_B3 := fun sb (b : Nat) (o : Nat) (n : Nat) (c : Nat) (v : SecV) => ((sb, .cells #[.iface 178 (.slice (some ⟨b, o, none⟩) n c), i6_ v.off, i6_ v.off, iI_ (((v.fsz : Nat) : Int) + ((v.off : Nat) : Int)), i6_ v.fsz] 246 (0, 0)) : Nat × Obj)
abbrev nf_S_t_S4 := fun (b : Nat) (o : Nat) (n : Nat) (c : Nat) (s : Nat) (fb : Nat) (big : Bool) (phoffN : Nat) (phnumN : Nat) (shoffN : Nat) (shnumN : Nat) => ([(0, .iface 178 (.slice (some ⟨b, o, none⟩) n c)), (4, pt_ s), (8, pt_ fb), (9, (boV big)), (10, i6_ phoffN), (11, iI_ 32), (12, i6_ phnumN), (13, i6_ shoffN), (14, iI_ 40), (15, i6_ shnumN), (16, i6_ (shnumN - 1)), (26, iI_ 40)] : Slots)
abbrev nf_S_t_B5 := fun z5 => ((z5, .cells #[.string ⟨#[]⟩, iT_ 0, iT_ 0, iL_ 0, iL_ 0, iL_ 0, iT_ 0, iT_ 0, iL_ 0, iL_ 0, iL_ 0, .nilIface, .pointer none, iI_ 0, iI_ 0] 153 (0, 0)) : Nat × Obj)
abbrev nf_S_t_S6 := fun (b : Nat) (o : Nat) (n : Nat) (c : Nat) (s : Nat) (fb : Nat) (big : Bool) (phoffN : Nat) (phnumN : Nat) (shoffN : Nat) (shnumN : Nat) (sd : Nat) (i : Nat) z5 (nm_ : Nat) => ((nf_S_t_S4 b o n c s fb big phoffN phnumN shoffN shnumN) ++ [(42, sl_ sd (shnumN * 40) (shnumN * 40)), (43, i6_ i), (44, u6_ (i * 40)), (45, pt_ z5), (41, sl_ nm_ (i + 1) shnumN)] : Slots)
abbrev nf_S_t_P7 := fun (sd : Nat) (i : Nat) (shnumN : Nat) => ((889, .slice (some ⟨sd, ((i * 40) + 4), none⟩) ((shnumN * 40) - ((i * 40) + 4)) ((shnumN * 40) - ((i * 40) + 4))) : Nat × Value)
abbrev nf_S_t_S8 := fun (b : Nat) (o : Nat) (n : Nat) (c : Nat) (s : Nat) (fb : Nat) (big : Bool) (phoffN : Nat) (phnumN : Nat) (shoffN : Nat) (shnumN : Nat) (sd : Nat) (i : Nat) z5 (nm_ : Nat) => ((nf_S_t_S6 b o n c s fb big phoffN phnumN shoffN shnumN sd i z5 nm_) ++ [(884, pt_ z5), (885, (boV big)), (889, .slice (some ⟨sd, ((i * 40) + 4), none⟩) ((shnumN * 40) - ((i * 40) + 4)) ((shnumN * 40) - ((i * 40) + 4)))] : Slots)
abbrev nf_S_t_P9 := fun (sd : Nat) (i : Nat) (shnumN : Nat) => ((895, .slice (some ⟨sd, ((i * 40) + 8), none⟩) ((shnumN * 40) - ((i * 40) + 8)) ((shnumN * 40) - ((i * 40) + 8))) : Nat × Value)
abbrev nf_S_t_S10 := fun (b : Nat) (o : Nat) (n : Nat) (c : Nat) (s : Nat) (fb : Nat) (big : Bool) (phoffN : Nat) (phnumN : Nat) (shoffN : Nat) (shnumN : Nat) (sd : Nat) (i : Nat) z5 (nm_ : Nat) => ((nf_S_t_S8 b o n c s fb big phoffN phnumN shoffN shnumN sd i z5 nm_) ++ [(891, (boV big)), (895, .slice (some ⟨sd, ((i * 40) + 8), none⟩) ((shnumN * 40) - ((i * 40) + 8)) ((shnumN * 40) - ((i * 40) + 8)))] : Slots)
abbrev nf_S_t_P11 := fun (sd : Nat) (i : Nat) (shnumN : Nat) => ((901, .slice (some ⟨sd, ((i * 40) + 12), none⟩) ((shnumN * 40) - ((i * 40) + 12)) ((shnumN * 40) - ((i * 40) + 12))) : Nat × Value)
abbrev nf_S_t_S12 := fun (b : Nat) (o : Nat) (n : Nat) (c : Nat) (s : Nat) (fb : Nat) (big : Bool) (phoffN : Nat) (phnumN : Nat) (shoffN : Nat) (shnumN : Nat) (sd : Nat) (i : Nat) z5 (nm_ : Nat) => ((nf_S_t_S10 b o n c s fb big phoffN phnumN shoffN shnumN sd i z5 nm_) ++ [(897, (boV big)), (901, .slice (some ⟨sd, ((i * 40) + 12), none⟩) ((shnumN * 40) - ((i * 40) + 12)) ((shnumN * 40) - ((i * 40) + 12)))] : Slots)
abbrev nf_S_t_P13 := fun (sd : Nat) (i : Nat) (shnumN : Nat) => ((908, .slice (some ⟨sd, ((i * 40) + 16), none⟩) ((shnumN * 40) - ((i * 40) + 16)) ((shnumN * 40) - ((i * 40) + 16))) : Nat × Value)
abbrev nf_S_t_S14 := fun (b : Nat) (o : Nat) (n : Nat) (c : Nat) (s : Nat) (fb : Nat) (big : Bool) (phoffN : Nat) (phnumN : Nat) (shoffN : Nat) (shnumN : Nat) (sd : Nat) (i : Nat) z5 (nm_ : Nat) => ((nf_S_t_S12 b o n c s fb big phoffN phnumN shoffN shnumN sd i z5 nm_) ++ [(904, (boV big)), (908, .slice (some ⟨sd, ((i * 40) + 16), none⟩) ((shnumN * 40) - ((i * 40) + 16)) ((shnumN * 40) - ((i * 40) + 16)))] : Slots)
abbrev nf_S_t_P15 := fun (sd : Nat) (i : Nat) (shnumN : Nat) => ((915, .slice (some ⟨sd, ((i * 40) + 20), none⟩) ((shnumN * 40) - ((i * 40) + 20)) ((shnumN * 40) - ((i * 40) + 20))) : Nat × Value)
abbrev nf_S_t_S16 := fun (b : Nat) (o : Nat) (n : Nat) (c : Nat) (s : Nat) (fb : Nat) (big : Bool) (phoffN : Nat) (phnumN : Nat) (shoffN : Nat) (shnumN : Nat) (sd : Nat) (i : Nat) z5 (nm_ : Nat) => ((nf_S_t_S14 b o n c s fb big phoffN phnumN shoffN shnumN sd i z5 nm_) ++ [(911, (boV big)), (915, .slice (some ⟨sd, ((i * 40) + 20), none⟩) ((shnumN * 40) - ((i * 40) + 20)) ((shnumN * 40) - ((i * 40) + 20)))] : Slots)
abbrev nf_S_t_P17 := fun (sd : Nat) (i : Nat) (shnumN : Nat) => ((922, .slice (some ⟨sd, ((i * 40) + 24), none⟩) ((shnumN * 40) - ((i * 40) + 24)) ((shnumN * 40) - ((i * 40) + 24))) : Nat × Value)
abbrev nf_S_t_S18 := fun (b : Nat) (o : Nat) (n : Nat) (c : Nat) (s : Nat) (fb : Nat) (big : Bool) (phoffN : Nat) (phnumN : Nat) (shoffN : Nat) (shnumN : Nat) (sd : Nat) (i : Nat) z5 (nm_ : Nat) => ((nf_S_t_S16 b o n c s fb big phoffN phnumN shoffN shnumN sd i z5 nm_) ++ [(918, (boV big)), (922, .slice (some ⟨sd, ((i * 40) + 24), none⟩) ((shnumN * 40) - ((i * 40) + 24)) ((shnumN * 40) - ((i * 40) + 24)))] : Slots)
abbrev nf_S_t_P19 := fun (sd : Nat) (i : Nat) (shnumN : Nat) => ((928, .slice (some ⟨sd, ((i * 40) + 28), none⟩) ((shnumN * 40) - ((i * 40) + 28)) ((shnumN * 40) - ((i * 40) + 28))) : Nat × Value)
abbrev nf_S_t_S20 := fun (b : Nat) (o : Nat) (n : Nat) (c : Nat) (s : Nat) (fb : Nat) (big : Bool) (phoffN : Nat) (phnumN : Nat) (shoffN : Nat) (shnumN : Nat) (sd : Nat) (i : Nat) z5 (nm_ : Nat) => ((nf_S_t_S18 b o n c s fb big phoffN phnumN shoffN shnumN sd i z5 nm_) ++ [(924, (boV big)), (928, .slice (some ⟨sd, ((i * 40) + 28), none⟩) ((shnumN * 40) - ((i * 40) + 28)) ((shnumN * 40) - ((i * 40) + 28)))] : Slots)
abbrev nf_S_t_P21 := fun (sd : Nat) (i : Nat) (shnumN : Nat) => ((934, .slice (some ⟨sd, ((i * 40) + 32), none⟩) ((shnumN * 40) - ((i * 40) + 32)) ((shnumN * 40) - ((i * 40) + 32))) : Nat × Value)
abbrev nf_S_t_S22 := fun (b : Nat) (o : Nat) (n : Nat) (c : Nat) (s : Nat) (fb : Nat) (big : Bool) (phoffN : Nat) (phnumN : Nat) (shoffN : Nat) (shnumN : Nat) (sd : Nat) (i : Nat) z5 (nm_ : Nat) => ((nf_S_t_S20 b o n c s fb big phoffN phnumN shoffN shnumN sd i z5 nm_) ++ [(930, (boV big)), (934, .slice (some ⟨sd, ((i * 40) + 32), none⟩) ((shnumN * 40) - ((i * 40) + 32)) ((shnumN * 40) - ((i * 40) + 32)))] : Slots)
abbrev nf_S_t_P23 := fun (sd : Nat) (i : Nat) (shnumN : Nat) => ((941, .slice (some ⟨sd, ((i * 40) + 36), none⟩) ((shnumN * 40) - ((i * 40) + 36)) ((shnumN * 40) - ((i * 40) + 36))) : Nat × Value)
abbrev nf_S_t_S24 := fun (b : Nat) (o : Nat) (n : Nat) (c : Nat) (s : Nat) (fb : Nat) (big : Bool) (phoffN : Nat) (phnumN : Nat) (shoffN : Nat) (shnumN : Nat) (sd : Nat) (i : Nat) z5 (nm_ : Nat) (v : SecV) => ((nf_S_t_S6 b o n c s fb big phoffN phnumN shoffN shnumN sd i z5 nm_) ++ [(884, pt_ z5), (904, (boV big)), (908, .slice (some ⟨sd, ((i * 40) + 16), none⟩) ((shnumN * 40) - ((i * 40) + 16)) ((shnumN * 40) - ((i * 40) + 16))), (911, (boV big)), (915, .slice (some ⟨sd, ((i * 40) + 20), none⟩) ((shnumN * 40) - ((i * 40) + 20)) ((shnumN * 40) - ((i * 40) + 20))), (918, (boV big)), (922, .slice (some ⟨sd, ((i * 40) + 24), none⟩) ((shnumN * 40) - ((i * 40) + 24)) ((shnumN * 40) - ((i * 40) + 24))), (924, (boV big)), (928, .slice (some ⟨sd, ((i * 40) + 28), none⟩) ((shnumN * 40) - ((i * 40) + 28)) ((shnumN * 40) - ((i * 40) + 28))), (930, (boV big)), (934, .slice (some ⟨sd, ((i * 40) + 32), none⟩) ((shnumN * 40) - ((i * 40) + 32)) ((shnumN * 40) - ((i * 40) + 32))), (937, (boV big)), (941, .slice (some ⟨sd, ((i * 40) + 36), none⟩) ((shnumN * 40) - ((i * 40) + 36)) ((shnumN * 40) - ((i * 40) + 36))), (890, u3_ v.ty), (896, u3_ v.flags)] : Slots)
abbrev nf_S_t_S25 := fun (b : Nat) (o : Nat) (n : Nat) (c : Nat) (s : Nat) (fb : Nat) (big : Bool) (phoffN : Nat) (phnumN : Nat) (shoffN : Nat) (shnumN : Nat) (sd : Nat) (i : Nat) z5 (nm_ : Nat) (v : SecV) => ((nf_S_t_S6 b o n c s fb big phoffN phnumN shoffN shnumN sd i z5 nm_) ++ [(884, pt_ z5), (911, (boV big)), (915, .slice (some ⟨sd, ((i * 40) + 20), none⟩) ((shnumN * 40) - ((i * 40) + 20)) ((shnumN * 40) - ((i * 40) + 20))), (918, (boV big)), (922, .slice (some ⟨sd, ((i * 40) + 24), none⟩) ((shnumN * 40) - ((i * 40) + 24)) ((shnumN * 40) - ((i * 40) + 24))), (924, (boV big)), (928, .slice (some ⟨sd, ((i * 40) + 28), none⟩) ((shnumN * 40) - ((i * 40) + 28)) ((shnumN * 40) - ((i * 40) + 28))), (930, (boV big)), (934, .slice (some ⟨sd, ((i * 40) + 32), none⟩) ((shnumN * 40) - ((i * 40) + 32)) ((shnumN * 40) - ((i * 40) + 32))), (937, (boV big)), (941, .slice (some ⟨sd, ((i * 40) + 36), none⟩) ((shnumN * 40) - ((i * 40) + 36)) ((shnumN * 40) - ((i * 40) + 36))), (890, u3_ v.ty), (896, u3_ v.flags), (903, u6_ v.addr)] : Slots)
abbrev nf_S_t_S26 := fun (b : Nat) (o : Nat) (n : Nat) (c : Nat) (s : Nat) (fb : Nat) (big : Bool) (phoffN : Nat) (phnumN : Nat) (shoffN : Nat) (shnumN : Nat) (sd : Nat) (i : Nat) z5 (nm_ : Nat) (v : SecV) => ((nf_S_t_S6 b o n c s fb big phoffN phnumN shoffN shnumN sd i z5 nm_) ++ [(884, pt_ z5), (918, (boV big)), (922, .slice (some ⟨sd, ((i * 40) + 24), none⟩) ((shnumN * 40) - ((i * 40) + 24)) ((shnumN * 40) - ((i * 40) + 24))), (924, (boV big)), (928, .slice (some ⟨sd, ((i * 40) + 28), none⟩) ((shnumN * 40) - ((i * 40) + 28)) ((shnumN * 40) - ((i * 40) + 28))), (930, (boV big)), (934, .slice (some ⟨sd, ((i * 40) + 32), none⟩) ((shnumN * 40) - ((i * 40) + 32)) ((shnumN * 40) - ((i * 40) + 32))), (937, (boV big)), (941, .slice (some ⟨sd, ((i * 40) + 36), none⟩) ((shnumN * 40) - ((i * 40) + 36)) ((shnumN * 40) - ((i * 40) + 36))), (890, u3_ v.ty), (896, u3_ v.flags), (903, u6_ v.addr), (910, u6_ v.off)] : Slots)
abbrev nf_S_t_S27 := fun (b : Nat) (o : Nat) (n : Nat) (c : Nat) (s : Nat) (fb : Nat) (big : Bool) (phoffN : Nat) (phnumN : Nat) (shoffN : Nat) (shnumN : Nat) (sd : Nat) (i : Nat) z5 (nm_ : Nat) (v : SecV) => ((nf_S_t_S6 b o n c s fb big phoffN phnumN shoffN shnumN sd i z5 nm_) ++ [(884, pt_ z5), (937, (boV big)), (941, .slice (some ⟨sd, ((i * 40) + 36), none⟩) ((shnumN * 40) - ((i * 40) + 36)) ((shnumN * 40) - ((i * 40) + 36))), (890, u3_ v.ty), (896, u3_ v.flags), (903, u6_ v.addr), (910, u6_ v.off), (917, u6_ v.fsz), (923, u3_ v.link), (929, u3_ v.info)] : Slots)
abbrev nf_S_t_S28 := fun (b : Nat) (o : Nat) (n : Nat) (c : Nat) (s : Nat) (fb : Nat) (big : Bool) (phoffN : Nat) (phnumN : Nat) (shoffN : Nat) (shnumN : Nat) (sd : Nat) (i : Nat) z5 (nm_ : Nat) (v : SecV) => ((nf_S_t_S6 b o n c s fb big phoffN phnumN shoffN shnumN sd i z5 nm_) ++ [(884, pt_ z5), (890, u3_ v.ty), (896, u3_ v.flags), (903, u6_ v.addr), (910, u6_ v.off), (917, u6_ v.fsz), (923, u3_ v.link), (929, u3_ v.info), (936, u6_ v.align)] : Slots)
abbrev nf_S_t_P29 := fun (v : SecV) => ((944, .agg #[.string ⟨#[]⟩, u3_ (v).ty, u3_ (v).flags, u6_ (v).addr, u6_ (v).off, iL_ 0, u3_ (v).link, u3_ (v).info, u6_ (v).align, u6_ (v).ent, u6_ (v).fsz]) : Nat × Value)
abbrev nf_S_t_B30 := fun z5 (v : SecV) => ((z5, .cells #[.string ⟨#[]⟩, u3_ (v).ty, u3_ (v).flags, u6_ (v).addr, u6_ (v).off, iL_ 0, u3_ (v).link, u3_ (v).info, u6_ (v).align, u6_ (v).ent, u6_ (v).fsz, .nilIface, .pointer none, iI_ 0, iI_ 0] 153 (0, 0)) : Nat × Obj)
abbrev nf_S_t_S31 := fun (b : Nat) (o : Nat) (n : Nat) (c : Nat) (s : Nat) (fb : Nat) (big : Bool) (phoffN : Nat) (phnumN : Nat) (shoffN : Nat) (shnumN : Nat) (sd : Nat) (i : Nat) z5 (nm_ : Nat) => ((nf_S_t_S6 b o n c s fb big phoffN phnumN shoffN shnumN sd i z5 nm_) ++ [(1059, pt_ z5), (1060, .iface 178 (.slice (some ⟨b, o, none⟩) n c))] : Slots)
abbrev nf_S_t_B32 := fun z5 (v : SecV) sb => ((z5, .cells #[.string ⟨#[]⟩, u3_ (v).ty, u3_ (v).flags, u6_ (v).addr, u6_ (v).off, iL_ 0, u3_ (v).link, u3_ (v).info, u6_ (v).align, u6_ (v).ent, u6_ (v).fsz, .nilIface, pt_ sb, iI_ 0, iI_ 0] 153 (0, 0)) : Nat × Obj)
abbrev nf_S_t_B33 := fun z5 (v : SecV) sb => ((z5, .cells #[.string ⟨#[]⟩, u3_ (v).ty, u3_ (v).flags, u6_ (v).addr, u6_ (v).off, u6_ (v).fsz, u3_ (v).link, u3_ (v).info, u6_ (v).align, u6_ (v).ent, u6_ (v).fsz, .iface 144 (pt_ sb), pt_ sb, iI_ 0, iI_ 0] 153 (0, 0)) : Nat × Obj)
set_option maxRecDepth 100000 in
set_option maxHeartbeats 1000000 in
theorem nf_S_t (l : List UInt8) (b o n c : Nat) (hl : n = l.length) (hnc : n ≤ c) (big : Bool) (abi abiv tyN machN entryN phoffN phnumN shoffN shnumN : Nat) (dat : Int) (b1 : tyN < 65536) (b2 : machN < 65536) (b3 : entryN ≤ 18446744073709551615) (b4 : phoffN < 4611686018427387904) (b5 : shoffN < 4611686018427387904) (b6 : phnumN < 200) (b7 : shnumN < 200) (X : List UInt8) (hXl : X.length = (shnumN * 40)) (i : Nat) (hi : i < shnumN) (v : SecV) (hv : SecOk (X.drop (i * 40)) false big v.name v.ty v.flags v.addr v.off v.fsz v.link v.info v.align v.ent) (v1 : v.name < 4294967296) (v2 : v.ty < 4294967296) (v3 : v.flags < 4294967296) (v4 : v.off < 4611686018427387904) (v5 : v.fsz < 4611686018427387904) (v6 : v.addr ≤ 18446744073709551615) (v7 : v.align ≤ 18446744073709551615) (v8 : v.ent ≤ 18446744073709551615) (v9 : (and32 (v.flags : Int) 2048 == 0) = true)
    {K0 : Act → World → Prop} {Q : Exit → Act → World → Prop} (a : Act) (W1 : World) (s fb pg sg_ nm_ sd : Nat) (cur nms : Array Value) (hcs : cur.size = shnumN) (hns : nms.size = shnumN) (HM0 : Mm [fb, sg_, nm_, sd] W1 W1 [nf_S_t_B0 fb dat abi abiv big tyN machN entryN sg_ i shnumN pg phnumN, (sg_, .cells cur 133 (0, 0)), (nm_, .cells nms 36 (0, 0)), (sd, .cells (X.map Bv).toArray 5 (0, 0))]) (HF : Fr 1287 a (nf_S_t_S1 b o n c s fb big phoffN phnumN shoffN shnumN nm_ i sd))
    (K : ∀ a w' pb sb cur' nms', cur'.size = shnumN → nms'.size = shnumN → cur'.toList.take (i + 1) = cur.toList.take i ++ [pt_ pb] → nms'.toList.take (i + 1) = nms.toList.take i ++ [u3_ v.name] → Fr 1287 a ((nf_S_t_S4 b o n c s fb big phoffN phnumN shoffN shnumN) ++ [(41, sl_ nm_ (i + 1) shnumN), (42, sl_ sd (shnumN * 40) (shnumN * 40)), (43, i6_ (i + 1))]) → Mm [fb, sg_, nm_, sd] W1 w' [nf_S_t_B3 sb b o n c v, (pb, .cells #[.string ⟨#[]⟩, u3_ (v).ty, u3_ (v).flags, u6_ (v).addr, u6_ (v).off, u6_ (v).fsz, u3_ (v).link, u3_ (v).info, u6_ (v).align, u6_ (v).ent, u6_ (v).fsz, .iface 144 (pt_ sb), pt_ sb, iI_ 0, iI_ 0] 153 (0, 0)), nf_S_t_B2 fb dat abi abiv big tyN machN entryN sg_ i shnumN pg phnumN, (sg_, .cells cur' 133 (0, 0)), (nm_, .cells nms' 36 (0, 0)), (sd, .cells (X.map Bv).toArray 5 (0, 0))] → K0 a w') : (lpOf (spine Tryd.f78 44)).wp Tryd.prog (Exit.then K0 Q) a W1 := by
  obtain ⟨i0, hi0, hs0⟩ := size_u8
  have en : num big X ((i * 40) + 0) 4 = v.name := (num_drop big X (i * 40) 0 4).symm.trans hv.name
  have e_ty : num big X ((i * 40) + 4) 4 = v.ty := (num_drop big X (i * 40) 4 4).symm.trans hv.ty
  have e_flags : num big X ((i * 40) + 8) 4 = v.flags := (num_drop big X (i * 40) 8 4).symm.trans hv.flags
  have e_addr : num big X ((i * 40) + 12) 4 = v.addr := (num_drop big X (i * 40) 12 4).symm.trans hv.addr
  have e_off : num big X ((i * 40) + 16) 4 = v.off := (num_drop big X (i * 40) 16 4).symm.trans hv.off
  have e_fsz : num big X ((i * 40) + 20) 4 = v.fsz := (num_drop big X (i * 40) 20 4).symm.trans hv.size
  have e_link : num big X ((i * 40) + 24) 4 = v.link := (num_drop big X (i * 40) 24 4).symm.trans hv.link
  have e_info : num big X ((i * 40) + 28) 4 = v.info := (num_drop big X (i * 40) 28 4).symm.trans hv.info
  have e_align : num big X ((i * 40) + 32) 4 = v.align := (num_drop big X (i * 40) 32 4).symm.trans hv.align
  have e_ent : num big X ((i * 40) + 36) 4 = v.ent := (num_drop big X (i * 40) 36 4).symm.trans hv.ent
  obtain ⟨w, hw⟩ : ∃ w, W1 = w := ⟨_, rfl⟩
  have HM : Mm [fb, sg_, nm_, sd] W1 w [nf_S_t_B0 fb dat abi abiv big tyN machN entryN sg_ i shnumN pg phnumN, (sg_, .cells cur 133 (0, 0)), (nm_, .cells nms 36 (0, 0)), (sd, .cells (X.map Bv).toArray 5 (0, 0))] := hw ▸ HM0
  conv => arg 5; rw [hw]
  clear hw HM0
  refine wp_seq ?_
  refine wp_seq (wp_region_lit ?_)
  refine wp_sym HF HM rfl 3 [] ((nf_S_t_S1 b o n c s fb big phoffN phnumN shoffN shnumN nm_ i sd) ++ [(859, .bool (decide (((i : Nat) : Int) < ((shnumN : Nat) : Int))))]) [nf_S_t_B0 fb dat abi abiv big tyN machN entryN sg_ i shnumN pg phnumN, (sg_, .cells cur 133 (0, 0)), (nm_, .cells nms 36 (0, 0)), (sd, .cells (X.map Bv).toArray 5 (0, 0))] (by kernel_rfl) ?_
  clear HF HM; intro a w HF HM
  rw [show decide (((i : Nat) : Int) < ((shnumN : Nat) : Int)) = true from dec_t (by omega)] at HF
  refine nil_then ?_
  refine wp_condT HF rfl ?_
  refine wp_skip ?_
  repeat (first | refine then_norm ?_ | refine inb_norm ?_)
  replace HF := HF.sub (nf_S_t_S1 b o n c s fb big phoffN phnumN shoffN shnumN nm_ i sd) (by kernel_rfl)
  refine wp_seq (wp_block ?_)
  refine wp_seq (wp_region_lit ?_)
  refine wp_sym HF HM rfl 2 [] ((nf_S_t_S1 b o n c s fb big phoffN phnumN shoffN shnumN nm_ i sd) ++ [(863, iL_ (IntKind.u64.wrap ((i : Nat) : Int)))]) [nf_S_t_B0 fb dat abi abiv big tyN machN entryN sg_ i shnumN pg phnumN, (sg_, .cells cur 133 (0, 0)), (nm_, .cells nms 36 (0, 0)), (sd, .cells (X.map Bv).toArray 5 (0, 0))] (by kernel_rfl) ?_
  clear HF HM; intro a w HF HM
  rw [show IntKind.u64.wrap ((i : Nat) : Int) = ((i : Nat) : Int) from IntWalk.u64_in _ (by omega)] at HF
  refine wp_sym HF HM rfl 3 [] ((nf_S_t_S1 b o n c s fb big phoffN phnumN shoffN shnumN nm_ i sd) ++ [(866, iL_ (IntKind.u64.wrap (((i : Nat) : Int) * 40)))]) [nf_S_t_B0 fb dat abi abiv big tyN machN entryN sg_ i shnumN pg phnumN, (sg_, .cells cur 133 (0, 0)), (nm_, .cells nms 36 (0, 0)), (sd, .cells (X.map Bv).toArray 5 (0, 0))] (by kernel_rfl) ?_
  clear HF HM; intro a w HF HM
  rw [show IntKind.u64.wrap (((i : Nat) : Int) * 40) = (((i * 40) : Nat) : Int) from (IntWalk.u64_in _ (by omega)).trans (by omega)] at HF
  refine wp_sym HF HM rfl 1 [] ((nf_S_t_S1 b o n c s fb big phoffN phnumN shoffN shnumN nm_ i sd) ++ [(44, u6_ (i * 40))]) [nf_S_t_B0 fb dat abi abiv big tyN machN entryN sg_ i shnumN pg phnumN, (sg_, .cells cur 133 (0, 0)), (nm_, .cells nms 36 (0, 0)), (sd, .cells (X.map Bv).toArray 5 (0, 0))] (by kernel_rfl) ?_
  clear HF HM; intro a w HF HM
  refine nil_then ?_
  obtain ⟨z5, hz5⟩ : ∃ z, w.heap.size = z := ⟨_, rfl⟩
  refine reg_sym HF HM hz5 [] ((nf_S_t_S1 b o n c s fb big phoffN phnumN shoffN shnumN nm_ i sd) ++ [(44, u6_ (i * 40)), (45, pt_ z5)]) [nf_S_t_B5 z5, nf_S_t_B0 fb dat abi abiv big tyN machN entryN sg_ i shnumN pg phnumN, (sg_, .cells cur 133 (0, 0)), (nm_, .cells nms 36 (0, 0)), (sd, .cells (X.map Bv).toArray 5 (0, 0))] (by kernel_rfl) ?_
  clear HF HM hz5; intro a w HF HM
  refine wp_seq ?_
  refine reg_sym HF HM rfl [[3]] ((nf_S_t_S1 b o n c s fb big phoffN phnumN shoffN shnumN nm_ i sd) ++ [(44, u6_ (i * 40)), (45, pt_ z5), (872, iB_ 1)]) [nf_S_t_B5 z5, nf_S_t_B0 fb dat abi abiv big tyN machN entryN sg_ i shnumN pg phnumN, (sg_, .cells cur 133 (0, 0)), (nm_, .cells nms 36 (0, 0)), (sd, .cells (X.map Bv).toArray 5 (0, 0))] (by kernel_rfl) ?_
  clear HF HM; intro a w HF HM
  refine wp_block ?_
  refine reg_sym HF HM rfl [] ((nf_S_t_S1 b o n c s fb big phoffN phnumN shoffN shnumN nm_ i sd) ++ [(44, u6_ (i * 40)), (45, pt_ z5), (872, iB_ 1), (873, .bool true)]) [nf_S_t_B5 z5, nf_S_t_B0 fb dat abi abiv big tyN machN entryN sg_ i shnumN pg phnumN, (sg_, .cells cur 133 (0, 0)), (nm_, .cells nms 36 (0, 0)), (sd, .cells (X.map Bv).toArray 5 (0, 0))] (by kernel_rfl) ?_
  clear HF HM; intro a w HF HM
  refine wp_condT HF rfl ?_
  replace HF := HF.sub ((nf_S_t_S1 b o n c s fb big phoffN phnumN shoffN shnumN nm_ i sd) ++ [(44, u6_ (i * 40)), (45, pt_ z5)]) (by kernel_rfl)
  refine wp_seq (wp_region_lit ?_)
  refine wp_sym HF HM rfl 5 [] ((nf_S_t_S1 b o n c s fb big phoffN phnumN shoffN shnumN nm_ i sd) ++ [(44, u6_ (i * 40)), (45, pt_ z5), (875, sl_ nm_ i shnumN), (876, (boV big)), (877, sl_ sd (shnumN * 40) (shnumN * 40)), (879, iL_ (IntKind.u64.wrap ((((i * 40) : Nat) : Int) + 0)))]) [nf_S_t_B5 z5, nf_S_t_B0 fb dat abi abiv big tyN machN entryN sg_ i shnumN pg phnumN, (sg_, .cells cur 133 (0, 0)), (nm_, .cells nms 36 (0, 0)), (sd, .cells (X.map Bv).toArray 5 (0, 0))] (by kernel_rfl) ?_
  clear HF HM; intro a w HF HM
  rw [show IntKind.u64.wrap ((((i * 40) : Nat) : Int) + 0) = ((((i * 40) + 0) : Nat) : Int) from (IntWalk.u64_in _ (by omega)).trans (by omega)] at HF
  refine wp_run HF (by kernel_rfl) (.slice (some ⟨sd, ((i * 40) + 0), none⟩) ((shnumN * 40) - ((i * 40) + 0)) ((shnumN * 40) - ((i * 40) + 0))) (by kernel_rfl) (run_open0 (t := 33) Tryd.underlying33 hi0 hs0 rfl ((i * 40) + 0) (kk := .u64) rfl rfl (by omega) (by omega) (by omega) _) ?_
  clear HF; intro a HF; replace HF := HF.sub ((nf_S_t_S1 b o n c s fb big phoffN phnumN shoffN shnumN nm_ i sd) ++ [(44, u6_ (i * 40)), (45, pt_ z5), (875, sl_ nm_ i shnumN), (876, (boV big)), (877, sl_ sd (shnumN * 40) (shnumN * 40)), (879, u6_ ((i * 40) + 0)), (880, .slice (some ⟨sd, ((i * 40) + 0), none⟩) ((shnumN * 40) - ((i * 40) + 0)) ((shnumN * 40) - ((i * 40) + 0)))]) (by kernel_rfl)
  refine wp_call HF (by kernel_rfl) 87 #[(boV big), .slice (some ⟨sd, ((i * 40) + 0), none⟩) ((shnumN * 40) - ((i * 40) + 0)) ((shnumN * 40) - ((i * 40) + 0))] (by kernel_rfl) (fun w => by kernel_rfl) (Calls.mono (u32_at (HM.get (i := 4) rfl) (by unfold maxLen; omega) big ((i * 40) + 0) ((shnumN * 40) - ((i * 40) + 0)) (by omega) (by omega) ((v.name : Nat) : Int) (by rw [en])) ?_)
  rintro _ w1 ⟨rfl, dk_, hq⟩
  replace HM : Mm [fb, sg_, nm_, sd] W1 w1 [nf_S_t_B5 z5, nf_S_t_B0 fb dat abi abiv big tyN machN entryN sg_ i shnumN pg phnumN, (sg_, .cells cur 133 (0, 0)), (nm_, .cells nms 36 (0, 0)), (sd, .cells (X.map Bv).toArray 5 (0, 0))] := by rw [hq]; exact HM.drewN _
  clear hq
  refine ⟨_, rfl, ?_⟩; clear HF; intro a HF; replace HF := HF.sub ((nf_S_t_S1 b o n c s fb big phoffN phnumN shoffN shnumN nm_ i sd) ++ [(44, u6_ (i * 40)), (45, pt_ z5), (875, sl_ nm_ i shnumN), (876, (boV big)), (877, sl_ sd (shnumN * 40) (shnumN * 40)), (879, u6_ ((i * 40) + 0)), (880, .slice (some ⟨sd, ((i * 40) + 0), none⟩) ((shnumN * 40) - ((i * 40) + 0)) ((shnumN * 40) - ((i * 40) + 0))), (881, u3_ v.name)]) (by kernel_rfl)
  obtain ⟨z9, hz9⟩ : ∃ z, w1.heap.size = z := ⟨_, rfl⟩
  refine wp_sym HF HM hz9 1 [] ((nf_S_t_S1 b o n c s fb big phoffN phnumN shoffN shnumN nm_ i sd) ++ [(44, u6_ (i * 40)), (45, pt_ z5), (875, sl_ nm_ i shnumN), (882, sl_ z9 1 1)]) [(z9, .cells #[u3_ v.name] 36 (0, 0)), nf_S_t_B5 z5, nf_S_t_B0 fb dat abi abiv big tyN machN entryN sg_ i shnumN pg phnumN, (sg_, .cells cur 133 (0, 0)), (nm_, .cells nms 36 (0, 0)), (sd, .cells (X.map Bv).toArray 5 (0, 0))] (by kernel_rfl) ?_
  clear HF HM hz9; intro a w HF HM
  refine wp_append_in HF HM rfl _ _ 222 rfl rfl 36 (iT_ 0) 4 Tryd.underlying222 info_u32 4 0 nm_ _ i shnumN nms _ _ rfl hns (by omega) (by unfold maxLen; omega) rfl rfl rfl rfl ?_
  intro a2 w2 nms' hns' htn HM2 HF2; clear HF HM; have HM : Mm [fb, sg_, nm_, sd] W1 w2 [(z9, .cells #[u3_ v.name] 36 (0, 0)), nf_S_t_B5 z5, nf_S_t_B0 fb dat abi abiv big tyN machN entryN sg_ i shnumN pg phnumN, (sg_, .cells cur 133 (0, 0)), (nm_, .cells nms' 36 (0, 0)), (sd, .cells (X.map Bv).toArray 5 (0, 0))] := HM2; have HF := HF2; clear HM2 HF2
  replace HF := HF.sub ((nf_S_t_S1 b o n c s fb big phoffN phnumN shoffN shnumN nm_ i sd) ++ [(44, u6_ (i * 40)), (45, pt_ z5), (883, sl_ nm_ (i + 1) shnumN)]) (by kernel_rfl)
  refine wp_sym HF HM rfl 1 [] (nf_S_t_S6 b o n c s fb big phoffN phnumN shoffN shnumN sd i z5 nm_) [(z9, .cells #[u3_ v.name] 36 (0, 0)), nf_S_t_B5 z5, nf_S_t_B0 fb dat abi abiv big tyN machN entryN sg_ i shnumN pg phnumN, (sg_, .cells cur 133 (0, 0)), (nm_, .cells nms' 36 (0, 0)), (sd, .cells (X.map Bv).toArray 5 (0, 0))] (by kernel_rfl) ?_
  clear HF HM; intro a w HF HM
  refine nil_then ?_
  refine reg_plan1 HM (by kernel_rfl) [(sd, .cells (X.map Bv).toArray 5 (0, 0))] [(0, false), (1, false), (2, false), (3, false), (4, false), (5, false), (7, false), (8, false), (9, false), (10, false), (11, false), (13, false), (14, false), (15, false), (16, false), (17, false), (20, false), (21, false), (22, false), (23, false), (24, false), (27, false), (28, false), (29, false), (30, false), (31, false), (34, false), (35, false), (36, false), (37, false), (38, false), (40, false), (41, false), (42, false), (43, false), (44, false), (46, false), (47, false), (48, false), (49, false), (50, false), (53, false), (54, false), (55, false), (56, false), (57, false), (6, true), (12, true), (18, true), (19, false), (25, true), (26, false), (32, true), (33, false), (39, true), (45, true), (51, true), (52, false), (58, true), (59, false), (60, false), (61, false), (62, false), (63, true)] (by kernel_rfl) ?_
  clear HM; intro w3 HM
  refine plan_sym HF (HM.told [5] rfl) 1 [] ((nf_S_t_S6 b o n c s fb big phoffN phnumN shoffN shnumN sd i z5 nm_) ++ [(884, pt_ z5)]) (by kernel_rfl) ?_
  clear HF; intro a HF
  refine plan_sym HF (HM.told [5] rfl) 4 [] ((nf_S_t_S6 b o n c s fb big phoffN phnumN shoffN shnumN sd i z5 nm_) ++ [(884, pt_ z5), (885, (boV big)), (886, sl_ sd (shnumN * 40) (shnumN * 40)), (888, iL_ (IntKind.u64.wrap ((((i * 40) : Nat) : Int) + 4)))]) (by kernel_rfl) ?_
  clear HF; intro a HF
  rw [show IntKind.u64.wrap ((((i * 40) : Nat) : Int) + 4) = ((((i * 40) + 4) : Nat) : Int) from (IntWalk.u64_in _ (by omega)).trans (by omega)] at HF
  refine plan_run rfl HF (HM.told [5] rfl) rfl (.slice (some ⟨sd, ((i * 40) + 4), none⟩) ((shnumN * 40) - ((i * 40) + 4)) ((shnumN * 40) - ((i * 40) + 4))) (by kernel_rfl) (fun w hw => run_open0 (t := 33) Tryd.underlying33 hi0 hs0 rfl ((i * 40) + 4) (kk := .u64) rfl rfl (by omega) (by omega) (by omega) w) ?_
  clear HF; intro a HF; replace HF := HF.sub ((nf_S_t_S6 b o n c s fb big phoffN phnumN shoffN shnumN sd i z5 nm_) ++ [(884, pt_ z5), (885, (boV big)), (886, sl_ sd (shnumN * 40) (shnumN * 40)), (888, u6_ ((i * 40) + 4)), nf_S_t_P7 sd i shnumN]) (by kernel_rfl)
  replace HF := HF.sub (nf_S_t_S8 b o n c s fb big phoffN phnumN shoffN shnumN sd i z5 nm_) (by kernel_rfl)
  refine plan_sym HF (HM.told [5] rfl) 4 [] ((nf_S_t_S8 b o n c s fb big phoffN phnumN shoffN shnumN sd i z5 nm_) ++ [(891, (boV big)), (892, sl_ sd (shnumN * 40) (shnumN * 40)), (894, iL_ (IntKind.u64.wrap ((((i * 40) : Nat) : Int) + 8)))]) (by kernel_rfl) ?_
  clear HF; intro a HF
  rw [show IntKind.u64.wrap ((((i * 40) : Nat) : Int) + 8) = ((((i * 40) + 8) : Nat) : Int) from (IntWalk.u64_in _ (by omega)).trans (by omega)] at HF
  refine plan_run rfl HF (HM.told [5] rfl) rfl (.slice (some ⟨sd, ((i * 40) + 8), none⟩) ((shnumN * 40) - ((i * 40) + 8)) ((shnumN * 40) - ((i * 40) + 8))) (by kernel_rfl) (fun w hw => run_open0 (t := 33) Tryd.underlying33 hi0 hs0 rfl ((i * 40) + 8) (kk := .u64) rfl rfl (by omega) (by omega) (by omega) w) ?_
  clear HF; intro a HF; replace HF := HF.sub ((nf_S_t_S8 b o n c s fb big phoffN phnumN shoffN shnumN sd i z5 nm_) ++ [(891, (boV big)), (892, sl_ sd (shnumN * 40) (shnumN * 40)), (894, u6_ ((i * 40) + 8)), nf_S_t_P9 sd i shnumN]) (by kernel_rfl)
  replace HF := HF.sub (nf_S_t_S10 b o n c s fb big phoffN phnumN shoffN shnumN sd i z5 nm_) (by kernel_rfl)
  refine plan_sym HF (HM.told [5] rfl) 4 [] ((nf_S_t_S10 b o n c s fb big phoffN phnumN shoffN shnumN sd i z5 nm_) ++ [(897, (boV big)), (898, sl_ sd (shnumN * 40) (shnumN * 40)), (900, iL_ (IntKind.u64.wrap ((((i * 40) : Nat) : Int) + 12)))]) (by kernel_rfl) ?_
  clear HF; intro a HF
  rw [show IntKind.u64.wrap ((((i * 40) : Nat) : Int) + 12) = ((((i * 40) + 12) : Nat) : Int) from (IntWalk.u64_in _ (by omega)).trans (by omega)] at HF
  refine plan_run rfl HF (HM.told [5] rfl) rfl (.slice (some ⟨sd, ((i * 40) + 12), none⟩) ((shnumN * 40) - ((i * 40) + 12)) ((shnumN * 40) - ((i * 40) + 12))) (by kernel_rfl) (fun w hw => run_open0 (t := 33) Tryd.underlying33 hi0 hs0 rfl ((i * 40) + 12) (kk := .u64) rfl rfl (by omega) (by omega) (by omega) w) ?_
  clear HF; intro a HF; replace HF := HF.sub ((nf_S_t_S10 b o n c s fb big phoffN phnumN shoffN shnumN sd i z5 nm_) ++ [(897, (boV big)), (898, sl_ sd (shnumN * 40) (shnumN * 40)), (900, u6_ ((i * 40) + 12)), nf_S_t_P11 sd i shnumN]) (by kernel_rfl)
  replace HF := HF.sub (nf_S_t_S12 b o n c s fb big phoffN phnumN shoffN shnumN sd i z5 nm_) (by kernel_rfl)
  refine plan_sym HF (HM.told [5] rfl) 4 [] ((nf_S_t_S12 b o n c s fb big phoffN phnumN shoffN shnumN sd i z5 nm_) ++ [(904, (boV big)), (905, sl_ sd (shnumN * 40) (shnumN * 40)), (907, iL_ (IntKind.u64.wrap ((((i * 40) : Nat) : Int) + 16)))]) (by kernel_rfl) ?_
  clear HF; intro a HF
  rw [show IntKind.u64.wrap ((((i * 40) : Nat) : Int) + 16) = ((((i * 40) + 16) : Nat) : Int) from (IntWalk.u64_in _ (by omega)).trans (by omega)] at HF
  refine plan_run rfl HF (HM.told [5] rfl) rfl (.slice (some ⟨sd, ((i * 40) + 16), none⟩) ((shnumN * 40) - ((i * 40) + 16)) ((shnumN * 40) - ((i * 40) + 16))) (by kernel_rfl) (fun w hw => run_open0 (t := 33) Tryd.underlying33 hi0 hs0 rfl ((i * 40) + 16) (kk := .u64) rfl rfl (by omega) (by omega) (by omega) w) ?_
  clear HF; intro a HF; replace HF := HF.sub ((nf_S_t_S12 b o n c s fb big phoffN phnumN shoffN shnumN sd i z5 nm_) ++ [(904, (boV big)), (905, sl_ sd (shnumN * 40) (shnumN * 40)), (907, u6_ ((i * 40) + 16)), nf_S_t_P13 sd i shnumN]) (by kernel_rfl)
  replace HF := HF.sub (nf_S_t_S14 b o n c s fb big phoffN phnumN shoffN shnumN sd i z5 nm_) (by kernel_rfl)
  refine plan_sym HF (HM.told [5] rfl) 4 [] ((nf_S_t_S14 b o n c s fb big phoffN phnumN shoffN shnumN sd i z5 nm_) ++ [(911, (boV big)), (912, sl_ sd (shnumN * 40) (shnumN * 40)), (914, iL_ (IntKind.u64.wrap ((((i * 40) : Nat) : Int) + 20)))]) (by kernel_rfl) ?_
  clear HF; intro a HF
  rw [show IntKind.u64.wrap ((((i * 40) : Nat) : Int) + 20) = ((((i * 40) + 20) : Nat) : Int) from (IntWalk.u64_in _ (by omega)).trans (by omega)] at HF
  refine plan_run rfl HF (HM.told [5] rfl) rfl (.slice (some ⟨sd, ((i * 40) + 20), none⟩) ((shnumN * 40) - ((i * 40) + 20)) ((shnumN * 40) - ((i * 40) + 20))) (by kernel_rfl) (fun w hw => run_open0 (t := 33) Tryd.underlying33 hi0 hs0 rfl ((i * 40) + 20) (kk := .u64) rfl rfl (by omega) (by omega) (by omega) w) ?_
  clear HF; intro a HF; replace HF := HF.sub ((nf_S_t_S14 b o n c s fb big phoffN phnumN shoffN shnumN sd i z5 nm_) ++ [(911, (boV big)), (912, sl_ sd (shnumN * 40) (shnumN * 40)), (914, u6_ ((i * 40) + 20)), nf_S_t_P15 sd i shnumN]) (by kernel_rfl)
  replace HF := HF.sub (nf_S_t_S16 b o n c s fb big phoffN phnumN shoffN shnumN sd i z5 nm_) (by kernel_rfl)
  refine plan_sym HF (HM.told [5] rfl) 4 [] ((nf_S_t_S16 b o n c s fb big phoffN phnumN shoffN shnumN sd i z5 nm_) ++ [(918, (boV big)), (919, sl_ sd (shnumN * 40) (shnumN * 40)), (921, iL_ (IntKind.u64.wrap ((((i * 40) : Nat) : Int) + 24)))]) (by kernel_rfl) ?_
  clear HF; intro a HF
  rw [show IntKind.u64.wrap ((((i * 40) : Nat) : Int) + 24) = ((((i * 40) + 24) : Nat) : Int) from (IntWalk.u64_in _ (by omega)).trans (by omega)] at HF
  refine plan_run rfl HF (HM.told [5] rfl) rfl (.slice (some ⟨sd, ((i * 40) + 24), none⟩) ((shnumN * 40) - ((i * 40) + 24)) ((shnumN * 40) - ((i * 40) + 24))) (by kernel_rfl) (fun w hw => run_open0 (t := 33) Tryd.underlying33 hi0 hs0 rfl ((i * 40) + 24) (kk := .u64) rfl rfl (by omega) (by omega) (by omega) w) ?_
  clear HF; intro a HF; replace HF := HF.sub ((nf_S_t_S16 b o n c s fb big phoffN phnumN shoffN shnumN sd i z5 nm_) ++ [(918, (boV big)), (919, sl_ sd (shnumN * 40) (shnumN * 40)), (921, u6_ ((i * 40) + 24)), nf_S_t_P17 sd i shnumN]) (by kernel_rfl)
  replace HF := HF.sub (nf_S_t_S18 b o n c s fb big phoffN phnumN shoffN shnumN sd i z5 nm_) (by kernel_rfl)
  refine plan_sym HF (HM.told [5] rfl) 4 [] ((nf_S_t_S18 b o n c s fb big phoffN phnumN shoffN shnumN sd i z5 nm_) ++ [(924, (boV big)), (925, sl_ sd (shnumN * 40) (shnumN * 40)), (927, iL_ (IntKind.u64.wrap ((((i * 40) : Nat) : Int) + 28)))]) (by kernel_rfl) ?_
  clear HF; intro a HF
  rw [show IntKind.u64.wrap ((((i * 40) : Nat) : Int) + 28) = ((((i * 40) + 28) : Nat) : Int) from (IntWalk.u64_in _ (by omega)).trans (by omega)] at HF
  refine plan_run rfl HF (HM.told [5] rfl) rfl (.slice (some ⟨sd, ((i * 40) + 28), none⟩) ((shnumN * 40) - ((i * 40) + 28)) ((shnumN * 40) - ((i * 40) + 28))) (by kernel_rfl) (fun w hw => run_open0 (t := 33) Tryd.underlying33 hi0 hs0 rfl ((i * 40) + 28) (kk := .u64) rfl rfl (by omega) (by omega) (by omega) w) ?_
  clear HF; intro a HF; replace HF := HF.sub ((nf_S_t_S18 b o n c s fb big phoffN phnumN shoffN shnumN sd i z5 nm_) ++ [(924, (boV big)), (925, sl_ sd (shnumN * 40) (shnumN * 40)), (927, u6_ ((i * 40) + 28)), nf_S_t_P19 sd i shnumN]) (by kernel_rfl)
  replace HF := HF.sub (nf_S_t_S20 b o n c s fb big phoffN phnumN shoffN shnumN sd i z5 nm_) (by kernel_rfl)
  refine plan_sym HF (HM.told [5] rfl) 4 [] ((nf_S_t_S20 b o n c s fb big phoffN phnumN shoffN shnumN sd i z5 nm_) ++ [(930, (boV big)), (931, sl_ sd (shnumN * 40) (shnumN * 40)), (933, iL_ (IntKind.u64.wrap ((((i * 40) : Nat) : Int) + 32)))]) (by kernel_rfl) ?_
  clear HF; intro a HF
  rw [show IntKind.u64.wrap ((((i * 40) : Nat) : Int) + 32) = ((((i * 40) + 32) : Nat) : Int) from (IntWalk.u64_in _ (by omega)).trans (by omega)] at HF
  refine plan_run rfl HF (HM.told [5] rfl) rfl (.slice (some ⟨sd, ((i * 40) + 32), none⟩) ((shnumN * 40) - ((i * 40) + 32)) ((shnumN * 40) - ((i * 40) + 32))) (by kernel_rfl) (fun w hw => run_open0 (t := 33) Tryd.underlying33 hi0 hs0 rfl ((i * 40) + 32) (kk := .u64) rfl rfl (by omega) (by omega) (by omega) w) ?_
  clear HF; intro a HF; replace HF := HF.sub ((nf_S_t_S20 b o n c s fb big phoffN phnumN shoffN shnumN sd i z5 nm_) ++ [(930, (boV big)), (931, sl_ sd (shnumN * 40) (shnumN * 40)), (933, u6_ ((i * 40) + 32)), nf_S_t_P21 sd i shnumN]) (by kernel_rfl)
  replace HF := HF.sub (nf_S_t_S22 b o n c s fb big phoffN phnumN shoffN shnumN sd i z5 nm_) (by kernel_rfl)
  refine plan_sym HF (HM.told [5] rfl) 4 [] ((nf_S_t_S22 b o n c s fb big phoffN phnumN shoffN shnumN sd i z5 nm_) ++ [(937, (boV big)), (938, sl_ sd (shnumN * 40) (shnumN * 40)), (940, iL_ (IntKind.u64.wrap ((((i * 40) : Nat) : Int) + 36)))]) (by kernel_rfl) ?_
  clear HF; intro a HF
  rw [show IntKind.u64.wrap ((((i * 40) : Nat) : Int) + 36) = ((((i * 40) + 36) : Nat) : Int) from (IntWalk.u64_in _ (by omega)).trans (by omega)] at HF
  refine plan_run rfl HF (HM.told [5] rfl) rfl (.slice (some ⟨sd, ((i * 40) + 36), none⟩) ((shnumN * 40) - ((i * 40) + 36)) ((shnumN * 40) - ((i * 40) + 36))) (by kernel_rfl) (fun w hw => run_open0 (t := 33) Tryd.underlying33 hi0 hs0 rfl ((i * 40) + 36) (kk := .u64) rfl rfl (by omega) (by omega) (by omega) w) ?_
  clear HF; intro a HF; replace HF := HF.sub ((nf_S_t_S22 b o n c s fb big phoffN phnumN shoffN shnumN sd i z5 nm_) ++ [(937, (boV big)), (938, sl_ sd (shnumN * 40) (shnumN * 40)), (940, u6_ ((i * 40) + 36)), nf_S_t_P23 sd i shnumN]) (by kernel_rfl)
  replace HF := HF.sub ((nf_S_t_S22 b o n c s fb big phoffN phnumN shoffN shnumN sd i z5 nm_) ++ [(937, (boV big)), nf_S_t_P23 sd i shnumN]) (by kernel_rfl)
  refine plan_force rfl ?_
  refine wp_call HF (by kernel_rfl) 87 #[(boV big), .slice (some ⟨sd, ((i * 40) + 4), none⟩) ((shnumN * 40) - ((i * 40) + 4)) ((shnumN * 40) - ((i * 40) + 4))] (by kernel_rfl) (fun w => by kernel_rfl) (Calls.mono (u32_at (HM.get (i := 5) rfl) (by unfold maxLen; omega) big ((i * 40) + 4) ((shnumN * 40) - ((i * 40) + 4)) (by omega) (by omega) ((v.ty : Nat) : Int) (by rw [e_ty])) ?_)
  rintro _ w4 ⟨rfl, dk_, hq⟩
  replace HM : Mm [fb, sg_, nm_, sd] W1 w4 [(z9, .cells #[u3_ v.name] 36 (0, 0)), nf_S_t_B5 z5, nf_S_t_B0 fb dat abi abiv big tyN machN entryN sg_ i shnumN pg phnumN, (sg_, .cells cur 133 (0, 0)), (nm_, .cells nms' 36 (0, 0)), (sd, .cells (X.map Bv).toArray 5 (0, 0))] := by rw [hq]; exact HM.drewN _
  clear hq
  refine ⟨_, rfl, ?_⟩; clear HF; intro a HF; replace HF := HF.sub ((nf_S_t_S22 b o n c s fb big phoffN phnumN shoffN shnumN sd i z5 nm_) ++ [(937, (boV big)), nf_S_t_P23 sd i shnumN, (890, u3_ v.ty)]) (by kernel_rfl)
  refine only_end (HM.told [5] rfl) ?_
  replace HF := HF.sub ((nf_S_t_S6 b o n c s fb big phoffN phnumN shoffN shnumN sd i z5 nm_) ++ [(884, pt_ z5), (891, (boV big)), nf_S_t_P9 sd i shnumN, (897, (boV big)), nf_S_t_P11 sd i shnumN, (904, (boV big)), nf_S_t_P13 sd i shnumN, (911, (boV big)), nf_S_t_P15 sd i shnumN, (918, (boV big)), nf_S_t_P17 sd i shnumN, (924, (boV big)), nf_S_t_P19 sd i shnumN, (930, (boV big)), nf_S_t_P21 sd i shnumN, (937, (boV big)), nf_S_t_P23 sd i shnumN, (890, u3_ v.ty)]) (by kernel_rfl)
  refine plan_force rfl ?_
  refine wp_call HF (by kernel_rfl) 87 #[(boV big), .slice (some ⟨sd, ((i * 40) + 8), none⟩) ((shnumN * 40) - ((i * 40) + 8)) ((shnumN * 40) - ((i * 40) + 8))] (by kernel_rfl) (fun w => by kernel_rfl) (Calls.mono (u32_at (HM.get (i := 5) rfl) (by unfold maxLen; omega) big ((i * 40) + 8) ((shnumN * 40) - ((i * 40) + 8)) (by omega) (by omega) ((v.flags : Nat) : Int) (by rw [e_flags])) ?_)
  rintro _ w5 ⟨rfl, dk_, hq⟩
  replace HM : Mm [fb, sg_, nm_, sd] W1 w5 [(z9, .cells #[u3_ v.name] 36 (0, 0)), nf_S_t_B5 z5, nf_S_t_B0 fb dat abi abiv big tyN machN entryN sg_ i shnumN pg phnumN, (sg_, .cells cur 133 (0, 0)), (nm_, .cells nms' 36 (0, 0)), (sd, .cells (X.map Bv).toArray 5 (0, 0))] := by rw [hq]; exact HM.drewN _
  clear hq
  refine ⟨_, rfl, ?_⟩; clear HF; intro a HF; replace HF := HF.sub ((nf_S_t_S6 b o n c s fb big phoffN phnumN shoffN shnumN sd i z5 nm_) ++ [(884, pt_ z5), (891, (boV big)), nf_S_t_P9 sd i shnumN, (897, (boV big)), nf_S_t_P11 sd i shnumN, (904, (boV big)), nf_S_t_P13 sd i shnumN, (911, (boV big)), nf_S_t_P15 sd i shnumN, (918, (boV big)), nf_S_t_P17 sd i shnumN, (924, (boV big)), nf_S_t_P19 sd i shnumN, (930, (boV big)), nf_S_t_P21 sd i shnumN, (937, (boV big)), nf_S_t_P23 sd i shnumN, (890, u3_ v.ty), (896, u3_ v.flags)]) (by kernel_rfl)
  refine only_end (HM.told [5] rfl) ?_
  replace HF := HF.sub ((nf_S_t_S6 b o n c s fb big phoffN phnumN shoffN shnumN sd i z5 nm_) ++ [(884, pt_ z5), (897, (boV big)), nf_S_t_P11 sd i shnumN, (904, (boV big)), nf_S_t_P13 sd i shnumN, (911, (boV big)), nf_S_t_P15 sd i shnumN, (918, (boV big)), nf_S_t_P17 sd i shnumN, (924, (boV big)), nf_S_t_P19 sd i shnumN, (930, (boV big)), nf_S_t_P21 sd i shnumN, (937, (boV big)), nf_S_t_P23 sd i shnumN, (890, u3_ v.ty), (896, u3_ v.flags)]) (by kernel_rfl)
  refine plan_force rfl ?_
  refine wp_call HF (by kernel_rfl) 87 #[(boV big), .slice (some ⟨sd, ((i * 40) + 12), none⟩) ((shnumN * 40) - ((i * 40) + 12)) ((shnumN * 40) - ((i * 40) + 12))] (by kernel_rfl) (fun w => by kernel_rfl) (Calls.mono (u32_at (HM.get (i := 5) rfl) (by unfold maxLen; omega) big ((i * 40) + 12) ((shnumN * 40) - ((i * 40) + 12)) (by omega) (by omega) ((v.addr : Nat) : Int) (by rw [e_addr])) ?_)
  rintro _ w6 ⟨rfl, dk_, hq⟩
  replace HM : Mm [fb, sg_, nm_, sd] W1 w6 [(z9, .cells #[u3_ v.name] 36 (0, 0)), nf_S_t_B5 z5, nf_S_t_B0 fb dat abi abiv big tyN machN entryN sg_ i shnumN pg phnumN, (sg_, .cells cur 133 (0, 0)), (nm_, .cells nms' 36 (0, 0)), (sd, .cells (X.map Bv).toArray 5 (0, 0))] := by rw [hq]; exact HM.drewN _
  clear hq
  refine ⟨_, rfl, ?_⟩; clear HF; intro a HF; replace HF := HF.sub ((nf_S_t_S6 b o n c s fb big phoffN phnumN shoffN shnumN sd i z5 nm_) ++ [(884, pt_ z5), (897, (boV big)), nf_S_t_P11 sd i shnumN, (904, (boV big)), nf_S_t_P13 sd i shnumN, (911, (boV big)), nf_S_t_P15 sd i shnumN, (918, (boV big)), nf_S_t_P17 sd i shnumN, (924, (boV big)), nf_S_t_P19 sd i shnumN, (930, (boV big)), nf_S_t_P21 sd i shnumN, (937, (boV big)), nf_S_t_P23 sd i shnumN, (890, u3_ v.ty), (896, u3_ v.flags), (902, u3_ v.addr)]) (by kernel_rfl)
  refine only_end (HM.told [5] rfl) ?_
  replace HF := HF.sub ((nf_S_t_S24 b o n c s fb big phoffN phnumN shoffN shnumN sd i z5 nm_ v) ++ [(902, u3_ v.addr)]) (by kernel_rfl)
  refine plan_sym HF (HM.told [5] rfl) 1 [] ((nf_S_t_S24 b o n c s fb big phoffN phnumN shoffN shnumN sd i z5 nm_ v) ++ [(903, iL_ (IntKind.u64.wrap ((v.addr : Nat) : Int)))]) (by kernel_rfl) ?_
  clear HF; intro a HF
  rw [show IntKind.u64.wrap ((v.addr : Nat) : Int) = ((v.addr : Nat) : Int) from IntWalk.u64_in _ (by omega)] at HF
  refine plan_force rfl ?_
  refine wp_call HF (by kernel_rfl) 87 #[(boV big), .slice (some ⟨sd, ((i * 40) + 16), none⟩) ((shnumN * 40) - ((i * 40) + 16)) ((shnumN * 40) - ((i * 40) + 16))] (by kernel_rfl) (fun w => by kernel_rfl) (Calls.mono (u32_at (HM.get (i := 5) rfl) (by unfold maxLen; omega) big ((i * 40) + 16) ((shnumN * 40) - ((i * 40) + 16)) (by omega) (by omega) ((v.off : Nat) : Int) (by rw [e_off])) ?_)
  rintro _ w7 ⟨rfl, dk_, hq⟩
  replace HM : Mm [fb, sg_, nm_, sd] W1 w7 [(z9, .cells #[u3_ v.name] 36 (0, 0)), nf_S_t_B5 z5, nf_S_t_B0 fb dat abi abiv big tyN machN entryN sg_ i shnumN pg phnumN, (sg_, .cells cur 133 (0, 0)), (nm_, .cells nms' 36 (0, 0)), (sd, .cells (X.map Bv).toArray 5 (0, 0))] := by rw [hq]; exact HM.drewN _
  clear hq
  refine ⟨_, rfl, ?_⟩; clear HF; intro a HF; replace HF := HF.sub ((nf_S_t_S24 b o n c s fb big phoffN phnumN shoffN shnumN sd i z5 nm_ v) ++ [(903, u6_ v.addr), (909, u3_ v.off)]) (by kernel_rfl)
  refine only_end (HM.told [5] rfl) ?_
  replace HF := HF.sub ((nf_S_t_S25 b o n c s fb big phoffN phnumN shoffN shnumN sd i z5 nm_ v) ++ [(909, u3_ v.off)]) (by kernel_rfl)
  refine plan_sym HF (HM.told [5] rfl) 1 [] ((nf_S_t_S25 b o n c s fb big phoffN phnumN shoffN shnumN sd i z5 nm_ v) ++ [(910, iL_ (IntKind.u64.wrap ((v.off : Nat) : Int)))]) (by kernel_rfl) ?_
  clear HF; intro a HF
  rw [show IntKind.u64.wrap ((v.off : Nat) : Int) = ((v.off : Nat) : Int) from IntWalk.u64_in _ (by omega)] at HF
  refine plan_force rfl ?_
  refine wp_call HF (by kernel_rfl) 87 #[(boV big), .slice (some ⟨sd, ((i * 40) + 20), none⟩) ((shnumN * 40) - ((i * 40) + 20)) ((shnumN * 40) - ((i * 40) + 20))] (by kernel_rfl) (fun w => by kernel_rfl) (Calls.mono (u32_at (HM.get (i := 5) rfl) (by unfold maxLen; omega) big ((i * 40) + 20) ((shnumN * 40) - ((i * 40) + 20)) (by omega) (by omega) ((v.fsz : Nat) : Int) (by rw [e_fsz])) ?_)
  rintro _ w8 ⟨rfl, dk_, hq⟩
  replace HM : Mm [fb, sg_, nm_, sd] W1 w8 [(z9, .cells #[u3_ v.name] 36 (0, 0)), nf_S_t_B5 z5, nf_S_t_B0 fb dat abi abiv big tyN machN entryN sg_ i shnumN pg phnumN, (sg_, .cells cur 133 (0, 0)), (nm_, .cells nms' 36 (0, 0)), (sd, .cells (X.map Bv).toArray 5 (0, 0))] := by rw [hq]; exact HM.drewN _
  clear hq
  refine ⟨_, rfl, ?_⟩; clear HF; intro a HF; replace HF := HF.sub ((nf_S_t_S25 b o n c s fb big phoffN phnumN shoffN shnumN sd i z5 nm_ v) ++ [(910, u6_ v.off), (916, u3_ v.fsz)]) (by kernel_rfl)
  refine only_end (HM.told [5] rfl) ?_
  replace HF := HF.sub ((nf_S_t_S26 b o n c s fb big phoffN phnumN shoffN shnumN sd i z5 nm_ v) ++ [(916, u3_ v.fsz)]) (by kernel_rfl)
  refine plan_sym HF (HM.told [5] rfl) 1 [] ((nf_S_t_S26 b o n c s fb big phoffN phnumN shoffN shnumN sd i z5 nm_ v) ++ [(917, iL_ (IntKind.u64.wrap ((v.fsz : Nat) : Int)))]) (by kernel_rfl) ?_
  clear HF; intro a HF
  rw [show IntKind.u64.wrap ((v.fsz : Nat) : Int) = ((v.fsz : Nat) : Int) from IntWalk.u64_in _ (by omega)] at HF
  refine plan_force rfl ?_
  refine wp_call HF (by kernel_rfl) 87 #[(boV big), .slice (some ⟨sd, ((i * 40) + 24), none⟩) ((shnumN * 40) - ((i * 40) + 24)) ((shnumN * 40) - ((i * 40) + 24))] (by kernel_rfl) (fun w => by kernel_rfl) (Calls.mono (u32_at (HM.get (i := 5) rfl) (by unfold maxLen; omega) big ((i * 40) + 24) ((shnumN * 40) - ((i * 40) + 24)) (by omega) (by omega) ((v.link : Nat) : Int) (by rw [e_link])) ?_)
  rintro _ w9 ⟨rfl, dk_, hq⟩
  replace HM : Mm [fb, sg_, nm_, sd] W1 w9 [(z9, .cells #[u3_ v.name] 36 (0, 0)), nf_S_t_B5 z5, nf_S_t_B0 fb dat abi abiv big tyN machN entryN sg_ i shnumN pg phnumN, (sg_, .cells cur 133 (0, 0)), (nm_, .cells nms' 36 (0, 0)), (sd, .cells (X.map Bv).toArray 5 (0, 0))] := by rw [hq]; exact HM.drewN _
  clear hq
  refine ⟨_, rfl, ?_⟩; clear HF; intro a HF; replace HF := HF.sub ((nf_S_t_S26 b o n c s fb big phoffN phnumN shoffN shnumN sd i z5 nm_ v) ++ [(917, u6_ v.fsz), (923, u3_ v.link)]) (by kernel_rfl)
  refine only_end (HM.told [5] rfl) ?_
  replace HF := HF.sub ((nf_S_t_S6 b o n c s fb big phoffN phnumN shoffN shnumN sd i z5 nm_) ++ [(884, pt_ z5), (924, (boV big)), nf_S_t_P19 sd i shnumN, (930, (boV big)), nf_S_t_P21 sd i shnumN, (937, (boV big)), nf_S_t_P23 sd i shnumN, (890, u3_ v.ty), (896, u3_ v.flags), (903, u6_ v.addr), (910, u6_ v.off), (917, u6_ v.fsz), (923, u3_ v.link)]) (by kernel_rfl)
  refine plan_force rfl ?_
  refine wp_call HF (by kernel_rfl) 87 #[(boV big), .slice (some ⟨sd, ((i * 40) + 28), none⟩) ((shnumN * 40) - ((i * 40) + 28)) ((shnumN * 40) - ((i * 40) + 28))] (by kernel_rfl) (fun w => by kernel_rfl) (Calls.mono (u32_at (HM.get (i := 5) rfl) (by unfold maxLen; omega) big ((i * 40) + 28) ((shnumN * 40) - ((i * 40) + 28)) (by omega) (by omega) ((v.info : Nat) : Int) (by rw [e_info])) ?_)
  rintro _ w10 ⟨rfl, dk_, hq⟩
  replace HM : Mm [fb, sg_, nm_, sd] W1 w10 [(z9, .cells #[u3_ v.name] 36 (0, 0)), nf_S_t_B5 z5, nf_S_t_B0 fb dat abi abiv big tyN machN entryN sg_ i shnumN pg phnumN, (sg_, .cells cur 133 (0, 0)), (nm_, .cells nms' 36 (0, 0)), (sd, .cells (X.map Bv).toArray 5 (0, 0))] := by rw [hq]; exact HM.drewN _
  clear hq
  refine ⟨_, rfl, ?_⟩; clear HF; intro a HF; replace HF := HF.sub ((nf_S_t_S6 b o n c s fb big phoffN phnumN shoffN shnumN sd i z5 nm_) ++ [(884, pt_ z5), (924, (boV big)), nf_S_t_P19 sd i shnumN, (930, (boV big)), nf_S_t_P21 sd i shnumN, (937, (boV big)), nf_S_t_P23 sd i shnumN, (890, u3_ v.ty), (896, u3_ v.flags), (903, u6_ v.addr), (910, u6_ v.off), (917, u6_ v.fsz), (923, u3_ v.link), (929, u3_ v.info)]) (by kernel_rfl)
  refine only_end (HM.told [5] rfl) ?_
  replace HF := HF.sub ((nf_S_t_S6 b o n c s fb big phoffN phnumN shoffN shnumN sd i z5 nm_) ++ [(884, pt_ z5), (930, (boV big)), nf_S_t_P21 sd i shnumN, (937, (boV big)), nf_S_t_P23 sd i shnumN, (890, u3_ v.ty), (896, u3_ v.flags), (903, u6_ v.addr), (910, u6_ v.off), (917, u6_ v.fsz), (923, u3_ v.link), (929, u3_ v.info)]) (by kernel_rfl)
  refine plan_force rfl ?_
  refine wp_call HF (by kernel_rfl) 87 #[(boV big), .slice (some ⟨sd, ((i * 40) + 32), none⟩) ((shnumN * 40) - ((i * 40) + 32)) ((shnumN * 40) - ((i * 40) + 32))] (by kernel_rfl) (fun w => by kernel_rfl) (Calls.mono (u32_at (HM.get (i := 5) rfl) (by unfold maxLen; omega) big ((i * 40) + 32) ((shnumN * 40) - ((i * 40) + 32)) (by omega) (by omega) ((v.align : Nat) : Int) (by rw [e_align])) ?_)
  rintro _ w11 ⟨rfl, dk_, hq⟩
  replace HM : Mm [fb, sg_, nm_, sd] W1 w11 [(z9, .cells #[u3_ v.name] 36 (0, 0)), nf_S_t_B5 z5, nf_S_t_B0 fb dat abi abiv big tyN machN entryN sg_ i shnumN pg phnumN, (sg_, .cells cur 133 (0, 0)), (nm_, .cells nms' 36 (0, 0)), (sd, .cells (X.map Bv).toArray 5 (0, 0))] := by rw [hq]; exact HM.drewN _
  clear hq
  refine ⟨_, rfl, ?_⟩; clear HF; intro a HF; replace HF := HF.sub ((nf_S_t_S6 b o n c s fb big phoffN phnumN shoffN shnumN sd i z5 nm_) ++ [(884, pt_ z5), (930, (boV big)), nf_S_t_P21 sd i shnumN, (937, (boV big)), nf_S_t_P23 sd i shnumN, (890, u3_ v.ty), (896, u3_ v.flags), (903, u6_ v.addr), (910, u6_ v.off), (917, u6_ v.fsz), (923, u3_ v.link), (929, u3_ v.info), (935, u3_ v.align)]) (by kernel_rfl)
  refine only_end (HM.told [5] rfl) ?_
  replace HF := HF.sub ((nf_S_t_S27 b o n c s fb big phoffN phnumN shoffN shnumN sd i z5 nm_ v) ++ [(935, u3_ v.align)]) (by kernel_rfl)
  refine plan_sym HF (HM.told [5] rfl) 1 [] ((nf_S_t_S27 b o n c s fb big phoffN phnumN shoffN shnumN sd i z5 nm_ v) ++ [(936, iL_ (IntKind.u64.wrap ((v.align : Nat) : Int)))]) (by kernel_rfl) ?_
  clear HF; intro a HF
  rw [show IntKind.u64.wrap ((v.align : Nat) : Int) = ((v.align : Nat) : Int) from IntWalk.u64_in _ (by omega)] at HF
  refine plan_force rfl ?_
  refine wp_call HF (by kernel_rfl) 87 #[(boV big), .slice (some ⟨sd, ((i * 40) + 36), none⟩) ((shnumN * 40) - ((i * 40) + 36)) ((shnumN * 40) - ((i * 40) + 36))] (by kernel_rfl) (fun w => by kernel_rfl) (Calls.mono (u32_at (HM.get (i := 5) rfl) (by unfold maxLen; omega) big ((i * 40) + 36) ((shnumN * 40) - ((i * 40) + 36)) (by omega) (by omega) ((v.ent : Nat) : Int) (by rw [e_ent])) ?_)
  rintro _ w12 ⟨rfl, dk_, hq⟩
  replace HM : Mm [fb, sg_, nm_, sd] W1 w12 [(z9, .cells #[u3_ v.name] 36 (0, 0)), nf_S_t_B5 z5, nf_S_t_B0 fb dat abi abiv big tyN machN entryN sg_ i shnumN pg phnumN, (sg_, .cells cur 133 (0, 0)), (nm_, .cells nms' 36 (0, 0)), (sd, .cells (X.map Bv).toArray 5 (0, 0))] := by rw [hq]; exact HM.drewN _
  clear hq
  refine ⟨_, rfl, ?_⟩; clear HF; intro a HF; replace HF := HF.sub ((nf_S_t_S27 b o n c s fb big phoffN phnumN shoffN shnumN sd i z5 nm_ v) ++ [(936, u6_ v.align), (942, u3_ v.ent)]) (by kernel_rfl)
  refine only_end (HM.told [5] rfl) ?_
  replace HF := HF.sub ((nf_S_t_S28 b o n c s fb big phoffN phnumN shoffN shnumN sd i z5 nm_ v) ++ [(942, u3_ v.ent)]) (by kernel_rfl)
  refine plan_sym HF (HM.told [5] rfl) 1 [] ((nf_S_t_S28 b o n c s fb big phoffN phnumN shoffN shnumN sd i z5 nm_ v) ++ [(943, iL_ (IntKind.u64.wrap ((v.ent : Nat) : Int)))]) (by kernel_rfl) ?_
  clear HF; intro a HF
  rw [show IntKind.u64.wrap ((v.ent : Nat) : Int) = ((v.ent : Nat) : Int) from IntWalk.u64_in _ (by omega)] at HF
  refine plan_sym HF (HM.told [5] rfl) 3 [] ((nf_S_t_S28 b o n c s fb big phoffN phnumN shoffN shnumN sd i z5 nm_ v) ++ [(943, u6_ v.ent), nf_S_t_P29 v, (946, pt_ z5)]) (by kernel_rfl) ?_
  clear HF; intro a HF
  replace HF := HF.sub ((nf_S_t_S6 b o n c s fb big phoffN phnumN shoffN shnumN sd i z5 nm_) ++ [nf_S_t_P29 v, (946, pt_ z5)]) (by kernel_rfl)
  refine plan_force rfl ?_
  refine wp_sym HF HM rfl 1 [[4, 4, 4, 4, 4, 4, 4, 4, 4, 4, 4]] (nf_S_t_S6 b o n c s fb big phoffN phnumN shoffN shnumN sd i z5 nm_) [(z9, .cells #[u3_ v.name] 36 (0, 0)), nf_S_t_B30 z5 v, nf_S_t_B0 fb dat abi abiv big tyN machN entryN sg_ i shnumN pg phnumN, (sg_, .cells cur 133 (0, 0)), (nm_, .cells nms' 36 (0, 0)), (sd, .cells (X.map Bv).toArray 5 (0, 0))] (by kernel_rfl) ?_
  clear HF HM; intro a w HF HM
  refine only_end (HM.told [5] rfl) ?_
  refine plan_end ?_
  repeat (first | refine then_norm ?_ | refine inb_norm ?_)
  refine wp_seq ?_
  refine wp_seq (wp_region_lit ?_)
  refine wp_sym HF HM rfl 6 [[4]] ((nf_S_t_S6 b o n c s fb big phoffN phnumN shoffN shnumN sd i z5 nm_) ++ [(1022, iI_ (IntKind.i64.wrap ((v.off : Nat) : Int)))]) [(z9, .cells #[u3_ v.name] 36 (0, 0)), nf_S_t_B30 z5 v, nf_S_t_B0 fb dat abi abiv big tyN machN entryN sg_ i shnumN pg phnumN, (sg_, .cells cur 133 (0, 0)), (nm_, .cells nms' 36 (0, 0)), (sd, .cells (X.map Bv).toArray 5 (0, 0))] (by kernel_rfl) ?_
  clear HF HM; intro a w HF HM
  rw [show IntKind.i64.wrap ((v.off : Nat) : Int) = ((v.off : Nat) : Int) from IntWalk.i64_in _ (by omega)] at HF
  refine wp_sym HF HM rfl 1 [] ((nf_S_t_S6 b o n c s fb big phoffN phnumN shoffN shnumN sd i z5 nm_) ++ [(1023, .bool (decide (((v.off : Nat) : Int) < 0)))]) [(z9, .cells #[u3_ v.name] 36 (0, 0)), nf_S_t_B30 z5 v, nf_S_t_B0 fb dat abi abiv big tyN machN entryN sg_ i shnumN pg phnumN, (sg_, .cells cur 133 (0, 0)), (nm_, .cells nms' 36 (0, 0)), (sd, .cells (X.map Bv).toArray 5 (0, 0))] (by kernel_rfl) ?_
  clear HF HM; intro a w HF HM
  rw [show decide (((v.off : Nat) : Int) < 0) = false from dec_f (by omega)] at HF
  refine nil_then ?_
  refine wp_condF HF rfl ?_
  refine wp_skip ?_
  repeat (first | refine then_norm ?_ | refine inb_norm ?_)
  replace HF := HF.sub (nf_S_t_S6 b o n c s fb big phoffN phnumN shoffN shnumN sd i z5 nm_) (by kernel_rfl)
  refine wp_seq ?_
  refine wp_seq (wp_region_lit ?_)
  refine wp_sym HF HM rfl 6 [[4]] ((nf_S_t_S6 b o n c s fb big phoffN phnumN shoffN shnumN sd i z5 nm_) ++ [(1043, iI_ (IntKind.i64.wrap ((v.fsz : Nat) : Int)))]) [(z9, .cells #[u3_ v.name] 36 (0, 0)), nf_S_t_B30 z5 v, nf_S_t_B0 fb dat abi abiv big tyN machN entryN sg_ i shnumN pg phnumN, (sg_, .cells cur 133 (0, 0)), (nm_, .cells nms' 36 (0, 0)), (sd, .cells (X.map Bv).toArray 5 (0, 0))] (by kernel_rfl) ?_
  clear HF HM; intro a w HF HM
  rw [show IntKind.i64.wrap ((v.fsz : Nat) : Int) = ((v.fsz : Nat) : Int) from IntWalk.i64_in _ (by omega)] at HF
  refine wp_sym HF HM rfl 1 [] ((nf_S_t_S6 b o n c s fb big phoffN phnumN shoffN shnumN sd i z5 nm_) ++ [(1044, .bool (decide (((v.fsz : Nat) : Int) < 0)))]) [(z9, .cells #[u3_ v.name] 36 (0, 0)), nf_S_t_B30 z5 v, nf_S_t_B0 fb dat abi abiv big tyN machN entryN sg_ i shnumN pg phnumN, (sg_, .cells cur 133 (0, 0)), (nm_, .cells nms' 36 (0, 0)), (sd, .cells (X.map Bv).toArray 5 (0, 0))] (by kernel_rfl) ?_
  clear HF HM; intro a w HF HM
  rw [show decide (((v.fsz : Nat) : Int) < 0) = false from dec_f (by omega)] at HF
  refine nil_then ?_
  refine wp_condF HF rfl ?_
  refine wp_skip ?_
  repeat (first | refine then_norm ?_ | refine inb_norm ?_)
  replace HF := HF.sub (nf_S_t_S6 b o n c s fb big phoffN phnumN shoffN shnumN sd i z5 nm_) (by kernel_rfl)
  refine reg_planS HM (by kernel_rfl) (fun w => w.cell? ⟨z5, 4, none⟩ = some (u6_ v.off) ∧ w.cell? ⟨z5, 10, none⟩ = some (u6_ v.fsz)) [(0, false), (1, false), (2, false), (3, false), (4, false), (5, false), (6, false), (7, false), (8, false), (9, false), (10, false), (11, false), (12, false), (13, false), (14, true), (15, false), (16, false), (17, true)] (by kernel_rfl) ?_
  clear HM; intro w13 HM
  refine plan_symS (LS := []) (fun _ _ => told_nil _) HF ⟨HM.cellAt (i := 1) (k := 4) rfl rfl, HM.cellAt (i := 1) (k := 10) rfl rfl⟩ 6 [] ((nf_S_t_S31 b o n c s fb big phoffN phnumN shoffN shnumN sd i z5 nm_) ++ [(1064, .pointer (some ⟨z5, 4, none⟩))]) (by kernel_rfl) ?_
  clear HF; intro a HF
  refine plan_runS rfl HF ⟨HM.cellAt (i := 1) (k := 4) rfl rfl, HM.cellAt (i := 1) (k := 10) rfl rfl⟩ rfl (u6_ v.off) (by kernel_rfl) (fun w hw => run_load_one rfl rfl (by kernel_rfl) hw.1) ?_
  clear HF; intro a HF; replace HF := HF.sub ((nf_S_t_S31 b o n c s fb big phoffN phnumN shoffN shnumN sd i z5 nm_) ++ [(1064, .pointer (some ⟨z5, 4, none⟩)), (1065, u6_ v.off)]) (by kernel_rfl)
  refine plan_symS (LS := []) (fun _ _ => told_nil _) HF ⟨HM.cellAt (i := 1) (k := 4) rfl rfl, HM.cellAt (i := 1) (k := 10) rfl rfl⟩ 1 [] ((nf_S_t_S31 b o n c s fb big phoffN phnumN shoffN shnumN sd i z5 nm_) ++ [(1066, iI_ (IntKind.i64.wrap ((v.off : Nat) : Int)))]) (by kernel_rfl) ?_
  clear HF; intro a HF
  rw [show IntKind.i64.wrap ((v.off : Nat) : Int) = ((v.off : Nat) : Int) from IntWalk.i64_in _ (by omega)] at HF
  refine plan_symS (LS := []) (fun _ _ => told_nil _) HF ⟨HM.cellAt (i := 1) (k := 4) rfl rfl, HM.cellAt (i := 1) (k := 10) rfl rfl⟩ 4 [] ((nf_S_t_S31 b o n c s fb big phoffN phnumN shoffN shnumN sd i z5 nm_) ++ [(1066, i6_ v.off), (1070, .pointer (some ⟨z5, 10, none⟩))]) (by kernel_rfl) ?_
  clear HF; intro a HF
  refine plan_runS rfl HF ⟨HM.cellAt (i := 1) (k := 4) rfl rfl, HM.cellAt (i := 1) (k := 10) rfl rfl⟩ rfl (u6_ v.fsz) (by kernel_rfl) (fun w hw => run_load_one rfl rfl (by kernel_rfl) hw.2) ?_
  clear HF; intro a HF; replace HF := HF.sub ((nf_S_t_S31 b o n c s fb big phoffN phnumN shoffN shnumN sd i z5 nm_) ++ [(1066, i6_ v.off), (1070, .pointer (some ⟨z5, 10, none⟩)), (1071, u6_ v.fsz)]) (by kernel_rfl)
  refine plan_symS (LS := []) (fun _ _ => told_nil _) HF ⟨HM.cellAt (i := 1) (k := 4) rfl rfl, HM.cellAt (i := 1) (k := 10) rfl rfl⟩ 1 [] ((nf_S_t_S31 b o n c s fb big phoffN phnumN shoffN shnumN sd i z5 nm_) ++ [(1066, i6_ v.off), (1072, iI_ (IntKind.i64.wrap ((v.fsz : Nat) : Int)))]) (by kernel_rfl) ?_
  clear HF; intro a HF
  rw [show IntKind.i64.wrap ((v.fsz : Nat) : Int) = ((v.fsz : Nat) : Int) from IntWalk.i64_in _ (by omega)] at HF
  refine plan_forceS rfl ?_
  refine wp_call HF (by kernel_rfl) 92 #[.iface 178 (.slice (some ⟨b, o, none⟩) n c), i6_ v.off, i6_ v.fsz] (by kernel_rfl) (fun w => by kernel_rfl) (Calls.mono (newSR_any 178 (.slice (some ⟨b, o, none⟩) n c) ((v.off : Nat) : Int) ((v.fsz : Nat) : Int) (by omega) (by omega) (by omega) w13) ?_)
  rintro _ w14 ⟨sb, rfl, hb, hge, hgn⟩
  replace HM : Mm [fb, sg_, nm_, sd] W1 w14 [nf_S_t_B3 sb b o n c v, (z9, .cells #[u3_ v.name] 36 (0, 0)), nf_S_t_B30 z5 v, nf_S_t_B0 fb dat abi abiv big tyN machN entryN sg_ i shnumN pg phnumN, (sg_, .cells cur 133 (0, 0)), (nm_, .cells nms' 36 (0, 0)), (sd, .cells (X.map Bv).toArray 5 (0, 0))] := HM.push hb hge hgn
  clear hb hge hgn
  refine ⟨_, rfl, ?_⟩; clear HF; intro a HF; replace HF := HF.sub ((nf_S_t_S31 b o n c s fb big phoffN phnumN shoffN shnumN sd i z5 nm_) ++ [(1066, i6_ v.off), (1072, i6_ v.fsz), (1073, pt_ sb)]) (by kernel_rfl)
  refine only_endS ⟨HM.cellAt (i := 2) (k := 4) rfl rfl, HM.cellAt (i := 2) (k := 10) rfl rfl⟩ ?_
  refine plan_symS (LS := []) (fun _ _ => told_nil _) HF ⟨HM.cellAt (i := 2) (k := 4) rfl rfl, HM.cellAt (i := 2) (k := 10) rfl rfl⟩ 2 [] ((nf_S_t_S6 b o n c s fb big phoffN phnumN shoffN shnumN sd i z5 nm_) ++ [(1073, pt_ sb), (1075, .pointer (some ⟨z5, 12, none⟩))]) (by kernel_rfl) ?_
  clear HF; intro a HF
  refine plan_forceS rfl ?_
  refine wp_sym HF HM rfl 1 [[4]] (nf_S_t_S6 b o n c s fb big phoffN phnumN shoffN shnumN sd i z5 nm_) [nf_S_t_B3 sb b o n c v, (z9, .cells #[u3_ v.name] 36 (0, 0)), nf_S_t_B32 z5 v sb, nf_S_t_B0 fb dat abi abiv big tyN machN entryN sg_ i shnumN pg phnumN, (sg_, .cells cur 133 (0, 0)), (nm_, .cells nms' 36 (0, 0)), (sd, .cells (X.map Bv).toArray 5 (0, 0))] (by kernel_rfl) ?_
  clear HF HM; intro a w HF HM
  refine only_endS ⟨HM.cellAt (i := 2) (k := 4) rfl rfl, HM.cellAt (i := 2) (k := 10) rfl rfl⟩ ?_
  refine plan_endS (then_norm ?_)
  refine wp_seq ?_
  refine wp_seq (wp_region_lit ?_)
  refine wp_sym HF HM rfl 7 [[4]] [(0, .iface 178 (.slice (some ⟨b, o, none⟩) n c)), (4, pt_ s), (8, pt_ fb), (9, (boV big)), (10, i6_ phoffN), (11, iI_ 32), (12, i6_ phnumN), (13, i6_ shoffN), (14, iI_ 40), (15, i6_ shnumN), (16, i6_ (shnumN - 1)), (26, iI_ 40), (42, sl_ sd (shnumN * 40) (shnumN * 40)), (43, i6_ i), (44, u6_ (i * 40)), (45, pt_ z5), (41, sl_ nm_ (i + 1) shnumN), (1082, .bool (and32 ((v.flags : Nat) : Int) 2048 == 0))] [nf_S_t_B3 sb b o n c v, (z9, .cells #[u3_ v.name] 36 (0, 0)), nf_S_t_B32 z5 v sb, nf_S_t_B0 fb dat abi abiv big tyN machN entryN sg_ i shnumN pg phnumN, (sg_, .cells cur 133 (0, 0)), (nm_, .cells nms' 36 (0, 0)), (sd, .cells (X.map Bv).toArray 5 (0, 0))] (by kernel_rfl) ?_
  clear HF HM; intro a w HF HM
  rw [v9] at HF
  refine nil_then ?_
  refine wp_condT HF rfl ?_
  replace HF := HF.sub (nf_S_t_S6 b o n c s fb big phoffN phnumN shoffN shnumN sd i z5 nm_) (by kernel_rfl)
  refine reg_sym HF HM rfl [[4], [4]] (nf_S_t_S6 b o n c s fb big phoffN phnumN shoffN shnumN sd i z5 nm_) [nf_S_t_B3 sb b o n c v, (z9, .cells #[u3_ v.name] 36 (0, 0)), (z5, .cells #[.string ⟨#[]⟩, u3_ (v).ty, u3_ (v).flags, u6_ (v).addr, u6_ (v).off, iL_ 0, u3_ (v).link, u3_ (v).info, u6_ (v).align, u6_ (v).ent, u6_ (v).fsz, .iface 144 (pt_ sb), pt_ sb, iI_ 0, iI_ 0] 153 (0, 0)), nf_S_t_B0 fb dat abi abiv big tyN machN entryN sg_ i shnumN pg phnumN, (sg_, .cells cur 133 (0, 0)), (nm_, .cells nms' 36 (0, 0)), (sd, .cells (X.map Bv).toArray 5 (0, 0))] (by kernel_rfl) ?_
  clear HF HM; intro a w HF HM
  refine reg_sym1 HF HM rfl [[4], [4]] (nf_S_t_S6 b o n c s fb big phoffN phnumN shoffN shnumN sd i z5 nm_) [nf_S_t_B3 sb b o n c v, (z9, .cells #[u3_ v.name] 36 (0, 0)), nf_S_t_B33 z5 v sb, nf_S_t_B0 fb dat abi abiv big tyN machN entryN sg_ i shnumN pg phnumN, (sg_, .cells cur 133 (0, 0)), (nm_, .cells nms' 36 (0, 0)), (sd, .cells (X.map Bv).toArray 5 (0, 0))] (by kernel_rfl) ?_
  clear HF HM; intro a w HF HM
  repeat (first | refine then_norm ?_ | refine inb_norm ?_)
  refine wp_region_lit ?_
  obtain ⟨z20, hz20⟩ : ∃ z, w.heap.size = z := ⟨_, rfl⟩
  refine wp_sym HF HM hz20 7 [[3]] ((nf_S_t_S6 b o n c s fb big phoffN phnumN shoffN shnumN sd i z5 nm_) ++ [(1191, pt_ fb), (1195, sl_ sg_ i shnumN), (1197, sl_ z20 1 1)]) [(z20, .cells #[pt_ z5] 133 (0, 0)), nf_S_t_B3 sb b o n c v, (z9, .cells #[u3_ v.name] 36 (0, 0)), nf_S_t_B33 z5 v sb, nf_S_t_B0 fb dat abi abiv big tyN machN entryN sg_ i shnumN pg phnumN, (sg_, .cells cur 133 (0, 0)), (nm_, .cells nms' 36 (0, 0)), (sd, .cells (X.map Bv).toArray 5 (0, 0))] (by kernel_rfl) ?_
  clear HF HM hz20; intro a w HF HM
  refine wp_append_in HF HM rfl _ _ 126 rfl rfl 133 (.pointer none) 8 Tryd.underlying126 info_ss 5 0 sg_ _ i shnumN cur _ _ rfl hcs (by omega) (by unfold maxLen; omega) rfl rfl rfl rfl ?_
  intro a2 w15 cur' hcs' htk HM2 HF2; clear HF HM; have HM : Mm [fb, sg_, nm_, sd] W1 w15 [(z20, .cells #[pt_ z5] 133 (0, 0)), nf_S_t_B3 sb b o n c v, (z9, .cells #[u3_ v.name] 36 (0, 0)), nf_S_t_B33 z5 v sb, nf_S_t_B0 fb dat abi abiv big tyN machN entryN sg_ i shnumN pg phnumN, (sg_, .cells cur' 133 (0, 0)), (nm_, .cells nms' 36 (0, 0)), (sd, .cells (X.map Bv).toArray 5 (0, 0))] := HM2; have HF := HF2; clear HM2 HF2
  replace HF := HF.sub ((nf_S_t_S6 b o n c s fb big phoffN phnumN shoffN shnumN sd i z5 nm_) ++ [(1191, pt_ fb), (1198, sl_ sg_ (i + 1) shnumN)]) (by kernel_rfl)
  refine wp_sym HF HM rfl 3 [[3]] (nf_S_t_S6 b o n c s fb big phoffN phnumN shoffN shnumN sd i z5 nm_) [(z20, .cells #[pt_ z5] 133 (0, 0)), nf_S_t_B3 sb b o n c v, (z9, .cells #[u3_ v.name] 36 (0, 0)), nf_S_t_B33 z5 v sb, nf_S_t_B2 fb dat abi abiv big tyN machN entryN sg_ i shnumN pg phnumN, (sg_, .cells cur' 133 (0, 0)), (nm_, .cells nms' 36 (0, 0)), (sd, .cells (X.map Bv).toArray 5 (0, 0))] (by kernel_rfl) ?_
  clear HF HM; intro a w HF HM
  refine wpList_nil ?_
  repeat (first | refine then_norm ?_ | refine inb_norm ?_)
  refine wp_region_lit ?_
  refine wp_sym HF HM rfl 2 [] ((nf_S_t_S6 b o n c s fb big phoffN phnumN shoffN shnumN sd i z5 nm_) ++ [(861, iI_ (IntKind.i64.wrap (((i : Nat) : Int) + 1)))]) [(z20, .cells #[pt_ z5] 133 (0, 0)), nf_S_t_B3 sb b o n c v, (z9, .cells #[u3_ v.name] 36 (0, 0)), nf_S_t_B33 z5 v sb, nf_S_t_B2 fb dat abi abiv big tyN machN entryN sg_ i shnumN pg phnumN, (sg_, .cells cur' 133 (0, 0)), (nm_, .cells nms' 36 (0, 0)), (sd, .cells (X.map Bv).toArray 5 (0, 0))] (by kernel_rfl) ?_
  clear HF HM; intro a w HF HM
  rw [show IntKind.i64.wrap (((i : Nat) : Int) + 1) = (((i + 1) : Nat) : Int) from (IntWalk.i64_in _ (by omega)).trans (by omega)] at HF
  refine wp_sym HF HM rfl 1 [] ((nf_S_t_S4 b o n c s fb big phoffN phnumN shoffN shnumN) ++ [(42, sl_ sd (shnumN * 40) (shnumN * 40)), (44, u6_ (i * 40)), (45, pt_ z5), (41, sl_ nm_ (i + 1) shnumN), (43, i6_ (i + 1))]) [(z20, .cells #[pt_ z5] 133 (0, 0)), nf_S_t_B3 sb b o n c v, (z9, .cells #[u3_ v.name] 36 (0, 0)), nf_S_t_B33 z5 v sb, nf_S_t_B2 fb dat abi abiv big tyN machN entryN sg_ i shnumN pg phnumN, (sg_, .cells cur' 133 (0, 0)), (nm_, .cells nms' 36 (0, 0)), (sd, .cells (X.map Bv).toArray 5 (0, 0))] (by kernel_rfl) ?_
  clear HF HM; intro a w HF HM
  refine wpList_nil ?_
  repeat (first | refine then_norm ?_ | refine inb_norm ?_)
  replace HF := HF.sub ((nf_S_t_S4 b o n c s fb big phoffN phnumN shoffN shnumN) ++ [(41, sl_ nm_ (i + 1) shnumN), (42, sl_ sd (shnumN * 40) (shnumN * 40)), (43, i6_ (i + 1))]) (by kernel_rfl)
  exact K a w z5 sb cur' nms' hcs' hns' htk htn HF (HM.sub (List.Sublist.cons _ (List.Sublist.cons_cons _ (List.Sublist.cons _ (List.Sublist.refl _)))))

abbrev nf_S_w_B0 := fun (fb : Nat) (dat : Int) (abi : Nat) (abiv : Nat) (big : Bool) (tyN : Nat) (machN : Nat) (entryN : Nat) (sg_ : Nat) (i : Nat) (shnumN : Nat) (pg : Nat) (phnumN : Nat) => ((fb, .cells #[iB_ 2, .int .u8 dat, iB_ 1, u8_ abi, u8_ abiv, (boV big), u2_ tyN, u2_ machN, u6_ entryN, sl_ sg_ i shnumN, sl_ pg phnumN phnumN, nl_, nl_, nl_] 131 (0, 0)) : Nat × Obj)
abbrev nf_S_w_S1 := fun (b : Nat) (o : Nat) (n : Nat) (c : Nat) (s : Nat) (fb : Nat) (big : Bool) (phoffN : Nat) (phnumN : Nat) (shoffN : Nat) (shnumN : Nat) (nm_ : Nat) (i : Nat) (sd : Nat) => ([(0, .iface 178 (.slice (some ⟨b, o, none⟩) n c)), (4, pt_ s), (8, pt_ fb), (9, (boV big)), (10, i6_ phoffN), (11, iI_ 56), (12, i6_ phnumN), (13, i6_ shoffN), (14, iI_ 64), (15, i6_ shnumN), (16, i6_ (shnumN - 1)), (26, iI_ 64), (41, sl_ nm_ i shnumN), (42, sl_ sd (shnumN * 64) (shnumN * 64)), (43, i6_ i)] : Slots)
abbrev nf_S_w_B2 := fun (fb : Nat) (dat : Int) (abi : Nat) (abiv : Nat) (big : Bool) (tyN : Nat) (machN : Nat) (entryN : Nat) (sg_ : Nat) (i : Nat) (shnumN : Nat) (pg : Nat) (phnumN : Nat) => ((fb, .cells #[iB_ 2, .int .u8 dat, iB_ 1, u8_ abi, u8_ abiv, (boV big), u2_ tyN, u2_ machN, u6_ entryN, sl_ sg_ (i + 1) shnumN, sl_ pg phnumN phnumN, nl_, nl_, nl_] 131 (0, 0)) : Nat × Obj)
abbrev nf_S_w_B3 := fun sb (b : Nat) (o : Nat) (n : Nat) (c : Nat) (v : SecV) => ((sb, .cells #[.iface 178 (.slice (some ⟨b, o, none⟩) n c), i6_ v.off, i6_ v.off, iI_ (((v.fsz : Nat) : Int) + ((v.off : Nat) : Int)), i6_ v.fsz] 246 (0, 0)) : Nat × Obj)
abbrev nf_S_w_S4 := fun (b : Nat) (o : Nat) (n : Nat) (c : Nat) (s : Nat) (fb : Nat) (big : Bool) (phoffN : Nat) (phnumN : Nat) (shoffN : Nat) (shnumN : Nat) => ([(0, .iface 178 (.slice (some ⟨b, o, none⟩) n c)), (4, pt_ s), (8, pt_ fb), (9, (boV big)), (10, i6_ phoffN), (11, iI_ 56), (12, i6_ phnumN), (13, i6_ shoffN), (14, iI_ 64), (15, i6_ shnumN), (16, i6_ (shnumN - 1)), (26, iI_ 64)] : Slots)
abbrev nf_S_w_B5 := fun z5 => ((z5, .cells #[.string ⟨#[]⟩, iT_ 0, iT_ 0, iL_ 0, iL_ 0, iL_ 0, iT_ 0, iT_ 0, iL_ 0, iL_ 0, iL_ 0, .nilIface, .pointer none, iI_ 0, iI_ 0] 153 (0, 0)) : Nat × Obj)
abbrev nf_S_w_S6 := fun (b : Nat) (o : Nat) (n : Nat) (c : Nat) (s : Nat) (fb : Nat) (big : Bool) (phoffN : Nat) (phnumN : Nat) (shoffN : Nat) (shnumN : Nat) (sd : Nat) (i : Nat) z5 (nm_ : Nat) => ((nf_S_w_S4 b o n c s fb big phoffN phnumN shoffN shnumN) ++ [(42, sl_ sd (shnumN * 64) (shnumN * 64)), (43, i6_ i), (44, u6_ (i * 64)), (45, pt_ z5), (41, sl_ nm_ (i + 1) shnumN)] : Slots)
abbrev nf_S_w_P7 := fun (sd : Nat) (i : Nat) (shnumN : Nat) => ((963, .slice (some ⟨sd, ((i * 64) + 4), none⟩) ((shnumN * 64) - ((i * 64) + 4)) ((shnumN * 64) - ((i * 64) + 4))) : Nat × Value)
abbrev nf_S_w_S8 := fun (b : Nat) (o : Nat) (n : Nat) (c : Nat) (s : Nat) (fb : Nat) (big : Bool) (phoffN : Nat) (phnumN : Nat) (shoffN : Nat) (shnumN : Nat) (sd : Nat) (i : Nat) z5 (nm_ : Nat) => ((nf_S_w_S6 b o n c s fb big phoffN phnumN shoffN shnumN sd i z5 nm_) ++ [(958, pt_ z5), (959, (boV big)), (963, .slice (some ⟨sd, ((i * 64) + 4), none⟩) ((shnumN * 64) - ((i * 64) + 4)) ((shnumN * 64) - ((i * 64) + 4)))] : Slots)
abbrev nf_S_w_P9 := fun (sd : Nat) (i : Nat) (shnumN : Nat) => ((969, .slice (some ⟨sd, ((i * 64) + 8), none⟩) ((shnumN * 64) - ((i * 64) + 8)) ((shnumN * 64) - ((i * 64) + 8))) : Nat × Value)
abbrev nf_S_w_S10 := fun (b : Nat) (o : Nat) (n : Nat) (c : Nat) (s : Nat) (fb : Nat) (big : Bool) (phoffN : Nat) (phnumN : Nat) (shoffN : Nat) (shnumN : Nat) (sd : Nat) (i : Nat) z5 (nm_ : Nat) => ((nf_S_w_S8 b o n c s fb big phoffN phnumN shoffN shnumN sd i z5 nm_) ++ [(965, (boV big)), (969, .slice (some ⟨sd, ((i * 64) + 8), none⟩) ((shnumN * 64) - ((i * 64) + 8)) ((shnumN * 64) - ((i * 64) + 8)))] : Slots)
abbrev nf_S_w_P11 := fun (sd : Nat) (i : Nat) (shnumN : Nat) => ((976, .slice (some ⟨sd, ((i * 64) + 24), none⟩) ((shnumN * 64) - ((i * 64) + 24)) ((shnumN * 64) - ((i * 64) + 24))) : Nat × Value)
abbrev nf_S_w_S12 := fun (b : Nat) (o : Nat) (n : Nat) (c : Nat) (s : Nat) (fb : Nat) (big : Bool) (phoffN : Nat) (phnumN : Nat) (shoffN : Nat) (shnumN : Nat) (sd : Nat) (i : Nat) z5 (nm_ : Nat) => ((nf_S_w_S10 b o n c s fb big phoffN phnumN shoffN shnumN sd i z5 nm_) ++ [(972, (boV big)), (976, .slice (some ⟨sd, ((i * 64) + 24), none⟩) ((shnumN * 64) - ((i * 64) + 24)) ((shnumN * 64) - ((i * 64) + 24)))] : Slots)
abbrev nf_S_w_P13 := fun (sd : Nat) (i : Nat) (shnumN : Nat) => ((982, .slice (some ⟨sd, ((i * 64) + 32), none⟩) ((shnumN * 64) - ((i * 64) + 32)) ((shnumN * 64) - ((i * 64) + 32))) : Nat × Value)
abbrev nf_S_w_S14 := fun (b : Nat) (o : Nat) (n : Nat) (c : Nat) (s : Nat) (fb : Nat) (big : Bool) (phoffN : Nat) (phnumN : Nat) (shoffN : Nat) (shnumN : Nat) (sd : Nat) (i : Nat) z5 (nm_ : Nat) => ((nf_S_w_S12 b o n c s fb big phoffN phnumN shoffN shnumN sd i z5 nm_) ++ [(978, (boV big)), (982, .slice (some ⟨sd, ((i * 64) + 32), none⟩) ((shnumN * 64) - ((i * 64) + 32)) ((shnumN * 64) - ((i * 64) + 32)))] : Slots)
abbrev nf_S_w_P15 := fun (sd : Nat) (i : Nat) (shnumN : Nat) => ((988, .slice (some ⟨sd, ((i * 64) + 16), none⟩) ((shnumN * 64) - ((i * 64) + 16)) ((shnumN * 64) - ((i * 64) + 16))) : Nat × Value)
abbrev nf_S_w_S16 := fun (b : Nat) (o : Nat) (n : Nat) (c : Nat) (s : Nat) (fb : Nat) (big : Bool) (phoffN : Nat) (phnumN : Nat) (shoffN : Nat) (shnumN : Nat) (sd : Nat) (i : Nat) z5 (nm_ : Nat) => ((nf_S_w_S14 b o n c s fb big phoffN phnumN shoffN shnumN sd i z5 nm_) ++ [(984, (boV big)), (988, .slice (some ⟨sd, ((i * 64) + 16), none⟩) ((shnumN * 64) - ((i * 64) + 16)) ((shnumN * 64) - ((i * 64) + 16)))] : Slots)
abbrev nf_S_w_P17 := fun (sd : Nat) (i : Nat) (shnumN : Nat) => ((994, .slice (some ⟨sd, ((i * 64) + 40), none⟩) ((shnumN * 64) - ((i * 64) + 40)) ((shnumN * 64) - ((i * 64) + 40))) : Nat × Value)
abbrev nf_S_w_S18 := fun (b : Nat) (o : Nat) (n : Nat) (c : Nat) (s : Nat) (fb : Nat) (big : Bool) (phoffN : Nat) (phnumN : Nat) (shoffN : Nat) (shnumN : Nat) (sd : Nat) (i : Nat) z5 (nm_ : Nat) => ((nf_S_w_S16 b o n c s fb big phoffN phnumN shoffN shnumN sd i z5 nm_) ++ [(990, (boV big)), (994, .slice (some ⟨sd, ((i * 64) + 40), none⟩) ((shnumN * 64) - ((i * 64) + 40)) ((shnumN * 64) - ((i * 64) + 40)))] : Slots)
abbrev nf_S_w_P19 := fun (sd : Nat) (i : Nat) (shnumN : Nat) => ((1000, .slice (some ⟨sd, ((i * 64) + 44), none⟩) ((shnumN * 64) - ((i * 64) + 44)) ((shnumN * 64) - ((i * 64) + 44))) : Nat × Value)
abbrev nf_S_w_S20 := fun (b : Nat) (o : Nat) (n : Nat) (c : Nat) (s : Nat) (fb : Nat) (big : Bool) (phoffN : Nat) (phnumN : Nat) (shoffN : Nat) (shnumN : Nat) (sd : Nat) (i : Nat) z5 (nm_ : Nat) => ((nf_S_w_S18 b o n c s fb big phoffN phnumN shoffN shnumN sd i z5 nm_) ++ [(996, (boV big)), (1000, .slice (some ⟨sd, ((i * 64) + 44), none⟩) ((shnumN * 64) - ((i * 64) + 44)) ((shnumN * 64) - ((i * 64) + 44)))] : Slots)
abbrev nf_S_w_P21 := fun (sd : Nat) (i : Nat) (shnumN : Nat) => ((1006, .slice (some ⟨sd, ((i * 64) + 48), none⟩) ((shnumN * 64) - ((i * 64) + 48)) ((shnumN * 64) - ((i * 64) + 48))) : Nat × Value)
abbrev nf_S_w_S22 := fun (b : Nat) (o : Nat) (n : Nat) (c : Nat) (s : Nat) (fb : Nat) (big : Bool) (phoffN : Nat) (phnumN : Nat) (shoffN : Nat) (shnumN : Nat) (sd : Nat) (i : Nat) z5 (nm_ : Nat) => ((nf_S_w_S20 b o n c s fb big phoffN phnumN shoffN shnumN sd i z5 nm_) ++ [(1002, (boV big)), (1006, .slice (some ⟨sd, ((i * 64) + 48), none⟩) ((shnumN * 64) - ((i * 64) + 48)) ((shnumN * 64) - ((i * 64) + 48)))] : Slots)
abbrev nf_S_w_P23 := fun (sd : Nat) (i : Nat) (shnumN : Nat) => ((1012, .slice (some ⟨sd, ((i * 64) + 56), none⟩) ((shnumN * 64) - ((i * 64) + 56)) ((shnumN * 64) - ((i * 64) + 56))) : Nat × Value)
abbrev nf_S_w_S24 := fun (b : Nat) (o : Nat) (n : Nat) (c : Nat) (s : Nat) (fb : Nat) (big : Bool) (phoffN : Nat) (phnumN : Nat) (shoffN : Nat) (shnumN : Nat) (sd : Nat) (i : Nat) z5 (nm_ : Nat) (v : SecV) => ((nf_S_w_S6 b o n c s fb big phoffN phnumN shoffN shnumN sd i z5 nm_) ++ [(958, pt_ z5), (972, (boV big)), (976, .slice (some ⟨sd, ((i * 64) + 24), none⟩) ((shnumN * 64) - ((i * 64) + 24)) ((shnumN * 64) - ((i * 64) + 24))), (978, (boV big)), (982, .slice (some ⟨sd, ((i * 64) + 32), none⟩) ((shnumN * 64) - ((i * 64) + 32)) ((shnumN * 64) - ((i * 64) + 32))), (984, (boV big)), (988, .slice (some ⟨sd, ((i * 64) + 16), none⟩) ((shnumN * 64) - ((i * 64) + 16)) ((shnumN * 64) - ((i * 64) + 16))), (990, (boV big)), (994, .slice (some ⟨sd, ((i * 64) + 40), none⟩) ((shnumN * 64) - ((i * 64) + 40)) ((shnumN * 64) - ((i * 64) + 40))), (996, (boV big)), (1000, .slice (some ⟨sd, ((i * 64) + 44), none⟩) ((shnumN * 64) - ((i * 64) + 44)) ((shnumN * 64) - ((i * 64) + 44))), (1002, (boV big)), (1006, .slice (some ⟨sd, ((i * 64) + 48), none⟩) ((shnumN * 64) - ((i * 64) + 48)) ((shnumN * 64) - ((i * 64) + 48))), (1008, (boV big)), (1012, .slice (some ⟨sd, ((i * 64) + 56), none⟩) ((shnumN * 64) - ((i * 64) + 56)) ((shnumN * 64) - ((i * 64) + 56))), (964, u3_ v.ty)] : Slots)
abbrev nf_S_w_P25 := fun (v : SecV) => ((1014, .agg #[.string ⟨#[]⟩, u3_ (v).ty, u3_ (v).flags, u6_ (v).addr, u6_ (v).off, iL_ 0, u3_ (v).link, u3_ (v).info, u6_ (v).align, u6_ (v).ent, u6_ (v).fsz]) : Nat × Value)
abbrev nf_S_w_B26 := fun z5 (v : SecV) => ((z5, .cells #[.string ⟨#[]⟩, u3_ (v).ty, u3_ (v).flags, u6_ (v).addr, u6_ (v).off, iL_ 0, u3_ (v).link, u3_ (v).info, u6_ (v).align, u6_ (v).ent, u6_ (v).fsz, .nilIface, .pointer none, iI_ 0, iI_ 0] 153 (0, 0)) : Nat × Obj)
abbrev nf_S_w_S27 := fun (b : Nat) (o : Nat) (n : Nat) (c : Nat) (s : Nat) (fb : Nat) (big : Bool) (phoffN : Nat) (phnumN : Nat) (shoffN : Nat) (shnumN : Nat) (sd : Nat) (i : Nat) z5 (nm_ : Nat) => ((nf_S_w_S6 b o n c s fb big phoffN phnumN shoffN shnumN sd i z5 nm_) ++ [(1059, pt_ z5), (1060, .iface 178 (.slice (some ⟨b, o, none⟩) n c))] : Slots)
abbrev nf_S_w_B28 := fun z5 (v : SecV) sb => ((z5, .cells #[.string ⟨#[]⟩, u3_ (v).ty, u3_ (v).flags, u6_ (v).addr, u6_ (v).off, iL_ 0, u3_ (v).link, u3_ (v).info, u6_ (v).align, u6_ (v).ent, u6_ (v).fsz, .nilIface, pt_ sb, iI_ 0, iI_ 0] 153 (0, 0)) : Nat × Obj)
abbrev nf_S_w_B29 := fun z5 (v : SecV) sb => ((z5, .cells #[.string ⟨#[]⟩, u3_ (v).ty, u3_ (v).flags, u6_ (v).addr, u6_ (v).off, u6_ (v).fsz, u3_ (v).link, u3_ (v).info, u6_ (v).align, u6_ (v).ent, u6_ (v).fsz, .iface 144 (pt_ sb), pt_ sb, iI_ 0, iI_ 0] 153 (0, 0)) : Nat × Obj)
set_option maxRecDepth 100000 in
set_option maxHeartbeats 1000000 in
theorem nf_S_w (l : List UInt8) (b o n c : Nat) (hl : n = l.length) (hnc : n ≤ c) (big : Bool) (abi abiv tyN machN entryN phoffN phnumN shoffN shnumN : Nat) (dat : Int) (b1 : tyN < 65536) (b2 : machN < 65536) (b3 : entryN ≤ 18446744073709551615) (b4 : phoffN < 4611686018427387904) (b5 : shoffN < 4611686018427387904) (b6 : phnumN < 200) (b7 : shnumN < 200) (X : List UInt8) (hXl : X.length = (shnumN * 64)) (i : Nat) (hi : i < shnumN) (v : SecV) (hv : SecOk (X.drop (i * 64)) true big v.name v.ty v.flags v.addr v.off v.fsz v.link v.info v.align v.ent) (v1 : v.name < 4294967296) (v2 : v.ty < 4294967296) (v3 : v.flags < 4294967296) (v4 : v.off < 4611686018427387904) (v5 : v.fsz < 4611686018427387904) (v6 : v.addr ≤ 18446744073709551615) (v7 : v.align ≤ 18446744073709551615) (v8 : v.ent ≤ 18446744073709551615) (v9 : (and32 (v.flags : Int) 2048 == 0) = true)
    {K0 : Act → World → Prop} {Q : Exit → Act → World → Prop} (a : Act) (W1 : World) (s fb pg sg_ nm_ sd : Nat) (cur nms : Array Value) (hcs : cur.size = shnumN) (hns : nms.size = shnumN) (HM0 : Mm [fb, sg_, nm_, sd] W1 W1 [nf_S_w_B0 fb dat abi abiv big tyN machN entryN sg_ i shnumN pg phnumN, (sg_, .cells cur 133 (0, 0)), (nm_, .cells nms 36 (0, 0)), (sd, .cells (X.map Bv).toArray 5 (0, 0))]) (HF : Fr 1287 a (nf_S_w_S1 b o n c s fb big phoffN phnumN shoffN shnumN nm_ i sd))
    (K : ∀ a w' pb sb cur' nms', cur'.size = shnumN → nms'.size = shnumN → cur'.toList.take (i + 1) = cur.toList.take i ++ [pt_ pb] → nms'.toList.take (i + 1) = nms.toList.take i ++ [u3_ v.name] → Fr 1287 a ((nf_S_w_S4 b o n c s fb big phoffN phnumN shoffN shnumN) ++ [(41, sl_ nm_ (i + 1) shnumN), (42, sl_ sd (shnumN * 64) (shnumN * 64)), (43, i6_ (i + 1))]) → Mm [fb, sg_, nm_, sd] W1 w' [nf_S_w_B3 sb b o n c v, (pb, .cells #[.string ⟨#[]⟩, u3_ (v).ty, u3_ (v).flags, u6_ (v).addr, u6_ (v).off, u6_ (v).fsz, u3_ (v).link, u3_ (v).info, u6_ (v).align, u6_ (v).ent, u6_ (v).fsz, .iface 144 (pt_ sb), pt_ sb, iI_ 0, iI_ 0] 153 (0, 0)), nf_S_w_B2 fb dat abi abiv big tyN machN entryN sg_ i shnumN pg phnumN, (sg_, .cells cur' 133 (0, 0)), (nm_, .cells nms' 36 (0, 0)), (sd, .cells (X.map Bv).toArray 5 (0, 0))] → K0 a w') : (lpOf (spine Tryd.f78 44)).wp Tryd.prog (Exit.then K0 Q) a W1 := by
  obtain ⟨i0, hi0, hs0⟩ := size_u8
  have en : num big X ((i * 64) + 0) 4 = v.name := (num_drop big X (i * 64) 0 4).symm.trans hv.name
  have e_ty : num big X ((i * 64) + 4) 4 = v.ty := (num_drop big X (i * 64) 4 4).symm.trans hv.ty
  have e_flags : num big X ((i * 64) + 8) 8 = v.flags := (num_drop big X (i * 64) 8 8).symm.trans hv.flags
  have e_off : num big X ((i * 64) + 24) 8 = v.off := (num_drop big X (i * 64) 24 8).symm.trans hv.off
  have e_fsz : num big X ((i * 64) + 32) 8 = v.fsz := (num_drop big X (i * 64) 32 8).symm.trans hv.size
  have e_addr : num big X ((i * 64) + 16) 8 = v.addr := (num_drop big X (i * 64) 16 8).symm.trans hv.addr
  have e_link : num big X ((i * 64) + 40) 4 = v.link := (num_drop big X (i * 64) 40 4).symm.trans hv.link
  have e_info : num big X ((i * 64) + 44) 4 = v.info := (num_drop big X (i * 64) 44 4).symm.trans hv.info
  have e_align : num big X ((i * 64) + 48) 8 = v.align := (num_drop big X (i * 64) 48 8).symm.trans hv.align
  have e_ent : num big X ((i * 64) + 56) 8 = v.ent := (num_drop big X (i * 64) 56 8).symm.trans hv.ent
  obtain ⟨w, hw⟩ : ∃ w, W1 = w := ⟨_, rfl⟩
  have HM : Mm [fb, sg_, nm_, sd] W1 w [nf_S_w_B0 fb dat abi abiv big tyN machN entryN sg_ i shnumN pg phnumN, (sg_, .cells cur 133 (0, 0)), (nm_, .cells nms 36 (0, 0)), (sd, .cells (X.map Bv).toArray 5 (0, 0))] := hw ▸ HM0
  conv => arg 5; rw [hw]
  clear hw HM0
  refine wp_seq ?_
  refine wp_seq (wp_region_lit ?_)
  refine wp_sym HF HM rfl 3 [] ((nf_S_w_S1 b o n c s fb big phoffN phnumN shoffN shnumN nm_ i sd) ++ [(859, .bool (decide (((i : Nat) : Int) < ((shnumN : Nat) : Int))))]) [nf_S_w_B0 fb dat abi abiv big tyN machN entryN sg_ i shnumN pg phnumN, (sg_, .cells cur 133 (0, 0)), (nm_, .cells nms 36 (0, 0)), (sd, .cells (X.map Bv).toArray 5 (0, 0))] (by kernel_rfl) ?_
  clear HF HM; intro a w HF HM
  rw [show decide (((i : Nat) : Int) < ((shnumN : Nat) : Int)) = true from dec_t (by omega)] at HF
  refine nil_then ?_
  refine wp_condT HF rfl ?_
  refine wp_skip ?_
  repeat (first | refine then_norm ?_ | refine inb_norm ?_)
  replace HF := HF.sub (nf_S_w_S1 b o n c s fb big phoffN phnumN shoffN shnumN nm_ i sd) (by kernel_rfl)
  refine wp_seq (wp_block ?_)
  refine wp_seq (wp_region_lit ?_)
  refine wp_sym HF HM rfl 2 [] ((nf_S_w_S1 b o n c s fb big phoffN phnumN shoffN shnumN nm_ i sd) ++ [(863, iL_ (IntKind.u64.wrap ((i : Nat) : Int)))]) [nf_S_w_B0 fb dat abi abiv big tyN machN entryN sg_ i shnumN pg phnumN, (sg_, .cells cur 133 (0, 0)), (nm_, .cells nms 36 (0, 0)), (sd, .cells (X.map Bv).toArray 5 (0, 0))] (by kernel_rfl) ?_
  clear HF HM; intro a w HF HM
  rw [show IntKind.u64.wrap ((i : Nat) : Int) = ((i : Nat) : Int) from IntWalk.u64_in _ (by omega)] at HF
  refine wp_sym HF HM rfl 3 [] ((nf_S_w_S1 b o n c s fb big phoffN phnumN shoffN shnumN nm_ i sd) ++ [(866, iL_ (IntKind.u64.wrap (((i : Nat) : Int) * 64)))]) [nf_S_w_B0 fb dat abi abiv big tyN machN entryN sg_ i shnumN pg phnumN, (sg_, .cells cur 133 (0, 0)), (nm_, .cells nms 36 (0, 0)), (sd, .cells (X.map Bv).toArray 5 (0, 0))] (by kernel_rfl) ?_
  clear HF HM; intro a w HF HM
  rw [show IntKind.u64.wrap (((i : Nat) : Int) * 64) = (((i * 64) : Nat) : Int) from (IntWalk.u64_in _ (by omega)).trans (by omega)] at HF
  refine wp_sym HF HM rfl 1 [] ((nf_S_w_S1 b o n c s fb big phoffN phnumN shoffN shnumN nm_ i sd) ++ [(44, u6_ (i * 64))]) [nf_S_w_B0 fb dat abi abiv big tyN machN entryN sg_ i shnumN pg phnumN, (sg_, .cells cur 133 (0, 0)), (nm_, .cells nms 36 (0, 0)), (sd, .cells (X.map Bv).toArray 5 (0, 0))] (by kernel_rfl) ?_
  clear HF HM; intro a w HF HM
  refine nil_then ?_
  obtain ⟨z5, hz5⟩ : ∃ z, w.heap.size = z := ⟨_, rfl⟩
  refine reg_sym HF HM hz5 [] ((nf_S_w_S1 b o n c s fb big phoffN phnumN shoffN shnumN nm_ i sd) ++ [(44, u6_ (i * 64)), (45, pt_ z5)]) [nf_S_w_B5 z5, nf_S_w_B0 fb dat abi abiv big tyN machN entryN sg_ i shnumN pg phnumN, (sg_, .cells cur 133 (0, 0)), (nm_, .cells nms 36 (0, 0)), (sd, .cells (X.map Bv).toArray 5 (0, 0))] (by kernel_rfl) ?_
  clear HF HM hz5; intro a w HF HM
  refine wp_seq ?_
  refine reg_sym HF HM rfl [[3]] ((nf_S_w_S1 b o n c s fb big phoffN phnumN shoffN shnumN nm_ i sd) ++ [(44, u6_ (i * 64)), (45, pt_ z5), (872, iB_ 2)]) [nf_S_w_B5 z5, nf_S_w_B0 fb dat abi abiv big tyN machN entryN sg_ i shnumN pg phnumN, (sg_, .cells cur 133 (0, 0)), (nm_, .cells nms 36 (0, 0)), (sd, .cells (X.map Bv).toArray 5 (0, 0))] (by kernel_rfl) ?_
  clear HF HM; intro a w HF HM
  refine wp_block ?_
  refine reg_sym HF HM rfl [] ((nf_S_w_S1 b o n c s fb big phoffN phnumN shoffN shnumN nm_ i sd) ++ [(44, u6_ (i * 64)), (45, pt_ z5), (872, iB_ 2), (873, .bool false)]) [nf_S_w_B5 z5, nf_S_w_B0 fb dat abi abiv big tyN machN entryN sg_ i shnumN pg phnumN, (sg_, .cells cur 133 (0, 0)), (nm_, .cells nms 36 (0, 0)), (sd, .cells (X.map Bv).toArray 5 (0, 0))] (by kernel_rfl) ?_
  clear HF HM; intro a w HF HM
  refine wp_condF HF rfl ?_
  refine reg_sym HF HM rfl [] ((nf_S_w_S1 b o n c s fb big phoffN phnumN shoffN shnumN nm_ i sd) ++ [(44, u6_ (i * 64)), (45, pt_ z5), (872, iB_ 2), (947, .bool true)]) [nf_S_w_B5 z5, nf_S_w_B0 fb dat abi abiv big tyN machN entryN sg_ i shnumN pg phnumN, (sg_, .cells cur 133 (0, 0)), (nm_, .cells nms 36 (0, 0)), (sd, .cells (X.map Bv).toArray 5 (0, 0))] (by kernel_rfl) ?_
  clear HF HM; intro a w HF HM
  refine wp_condT HF rfl ?_
  replace HF := HF.sub ((nf_S_w_S1 b o n c s fb big phoffN phnumN shoffN shnumN nm_ i sd) ++ [(44, u6_ (i * 64)), (45, pt_ z5)]) (by kernel_rfl)
  refine wp_seq (wp_region_lit ?_)
  refine wp_sym HF HM rfl 5 [] ((nf_S_w_S1 b o n c s fb big phoffN phnumN shoffN shnumN nm_ i sd) ++ [(44, u6_ (i * 64)), (45, pt_ z5), (949, sl_ nm_ i shnumN), (950, (boV big)), (951, sl_ sd (shnumN * 64) (shnumN * 64)), (953, iL_ (IntKind.u64.wrap ((((i * 64) : Nat) : Int) + 0)))]) [nf_S_w_B5 z5, nf_S_w_B0 fb dat abi abiv big tyN machN entryN sg_ i shnumN pg phnumN, (sg_, .cells cur 133 (0, 0)), (nm_, .cells nms 36 (0, 0)), (sd, .cells (X.map Bv).toArray 5 (0, 0))] (by kernel_rfl) ?_
  clear HF HM; intro a w HF HM
  rw [show IntKind.u64.wrap ((((i * 64) : Nat) : Int) + 0) = ((((i * 64) + 0) : Nat) : Int) from (IntWalk.u64_in _ (by omega)).trans (by omega)] at HF
  refine wp_run HF (by kernel_rfl) (.slice (some ⟨sd, ((i * 64) + 0), none⟩) ((shnumN * 64) - ((i * 64) + 0)) ((shnumN * 64) - ((i * 64) + 0))) (by kernel_rfl) (run_open0 (t := 33) Tryd.underlying33 hi0 hs0 rfl ((i * 64) + 0) (kk := .u64) rfl rfl (by omega) (by omega) (by omega) _) ?_
  clear HF; intro a HF; replace HF := HF.sub ((nf_S_w_S1 b o n c s fb big phoffN phnumN shoffN shnumN nm_ i sd) ++ [(44, u6_ (i * 64)), (45, pt_ z5), (949, sl_ nm_ i shnumN), (950, (boV big)), (951, sl_ sd (shnumN * 64) (shnumN * 64)), (953, u6_ ((i * 64) + 0)), (954, .slice (some ⟨sd, ((i * 64) + 0), none⟩) ((shnumN * 64) - ((i * 64) + 0)) ((shnumN * 64) - ((i * 64) + 0)))]) (by kernel_rfl)
  refine wp_call HF (by kernel_rfl) 87 #[(boV big), .slice (some ⟨sd, ((i * 64) + 0), none⟩) ((shnumN * 64) - ((i * 64) + 0)) ((shnumN * 64) - ((i * 64) + 0))] (by kernel_rfl) (fun w => by kernel_rfl) (Calls.mono (u32_at (HM.get (i := 4) rfl) (by unfold maxLen; omega) big ((i * 64) + 0) ((shnumN * 64) - ((i * 64) + 0)) (by omega) (by omega) ((v.name : Nat) : Int) (by rw [en])) ?_)
  rintro _ w1 ⟨rfl, dk_, hq⟩
  replace HM : Mm [fb, sg_, nm_, sd] W1 w1 [nf_S_w_B5 z5, nf_S_w_B0 fb dat abi abiv big tyN machN entryN sg_ i shnumN pg phnumN, (sg_, .cells cur 133 (0, 0)), (nm_, .cells nms 36 (0, 0)), (sd, .cells (X.map Bv).toArray 5 (0, 0))] := by rw [hq]; exact HM.drewN _
  clear hq
  refine ⟨_, rfl, ?_⟩; clear HF; intro a HF; replace HF := HF.sub ((nf_S_w_S1 b o n c s fb big phoffN phnumN shoffN shnumN nm_ i sd) ++ [(44, u6_ (i * 64)), (45, pt_ z5), (949, sl_ nm_ i shnumN), (950, (boV big)), (951, sl_ sd (shnumN * 64) (shnumN * 64)), (953, u6_ ((i * 64) + 0)), (954, .slice (some ⟨sd, ((i * 64) + 0), none⟩) ((shnumN * 64) - ((i * 64) + 0)) ((shnumN * 64) - ((i * 64) + 0))), (955, u3_ v.name)]) (by kernel_rfl)
  obtain ⟨z10, hz10⟩ : ∃ z, w1.heap.size = z := ⟨_, rfl⟩
  refine wp_sym HF HM hz10 1 [] ((nf_S_w_S1 b o n c s fb big phoffN phnumN shoffN shnumN nm_ i sd) ++ [(44, u6_ (i * 64)), (45, pt_ z5), (949, sl_ nm_ i shnumN), (956, sl_ z10 1 1)]) [(z10, .cells #[u3_ v.name] 36 (0, 0)), nf_S_w_B5 z5, nf_S_w_B0 fb dat abi abiv big tyN machN entryN sg_ i shnumN pg phnumN, (sg_, .cells cur 133 (0, 0)), (nm_, .cells nms 36 (0, 0)), (sd, .cells (X.map Bv).toArray 5 (0, 0))] (by kernel_rfl) ?_
  clear HF HM hz10; intro a w HF HM
  refine wp_append_in HF HM rfl _ _ 222 rfl rfl 36 (iT_ 0) 4 Tryd.underlying222 info_u32 4 0 nm_ _ i shnumN nms _ _ rfl hns (by omega) (by unfold maxLen; omega) rfl rfl rfl rfl ?_
  intro a2 w2 nms' hns' htn HM2 HF2; clear HF HM; have HM : Mm [fb, sg_, nm_, sd] W1 w2 [(z10, .cells #[u3_ v.name] 36 (0, 0)), nf_S_w_B5 z5, nf_S_w_B0 fb dat abi abiv big tyN machN entryN sg_ i shnumN pg phnumN, (sg_, .cells cur 133 (0, 0)), (nm_, .cells nms' 36 (0, 0)), (sd, .cells (X.map Bv).toArray 5 (0, 0))] := HM2; have HF := HF2; clear HM2 HF2
  replace HF := HF.sub ((nf_S_w_S1 b o n c s fb big phoffN phnumN shoffN shnumN nm_ i sd) ++ [(44, u6_ (i * 64)), (45, pt_ z5), (957, sl_ nm_ (i + 1) shnumN)]) (by kernel_rfl)
  refine wp_sym HF HM rfl 1 [] (nf_S_w_S6 b o n c s fb big phoffN phnumN shoffN shnumN sd i z5 nm_) [(z10, .cells #[u3_ v.name] 36 (0, 0)), nf_S_w_B5 z5, nf_S_w_B0 fb dat abi abiv big tyN machN entryN sg_ i shnumN pg phnumN, (sg_, .cells cur 133 (0, 0)), (nm_, .cells nms' 36 (0, 0)), (sd, .cells (X.map Bv).toArray 5 (0, 0))] (by kernel_rfl) ?_
  clear HF HM; intro a w HF HM
  refine nil_then ?_
  refine reg_plan1 HM (by kernel_rfl) [(sd, .cells (X.map Bv).toArray 5 (0, 0))] [(0, false), (1, false), (2, false), (3, false), (4, false), (5, false), (7, false), (8, false), (9, false), (10, false), (11, false), (14, false), (15, false), (16, false), (17, false), (18, false), (20, false), (21, false), (22, false), (23, false), (24, false), (26, false), (27, false), (28, false), (29, false), (30, false), (32, false), (33, false), (34, false), (35, false), (36, false), (38, false), (39, false), (40, false), (41, false), (42, false), (44, false), (45, false), (46, false), (47, false), (48, false), (50, false), (51, false), (52, false), (53, false), (54, false), (6, true), (12, true), (13, false), (19, true), (25, true), (31, true), (37, true), (43, true), (49, true), (55, true), (56, false), (57, false), (58, false), (59, true)] (by kernel_rfl) ?_
  clear HM; intro w3 HM
  refine plan_sym HF (HM.told [5] rfl) 1 [] ((nf_S_w_S6 b o n c s fb big phoffN phnumN shoffN shnumN sd i z5 nm_) ++ [(958, pt_ z5)]) (by kernel_rfl) ?_
  clear HF; intro a HF
  refine plan_sym HF (HM.told [5] rfl) 4 [] ((nf_S_w_S6 b o n c s fb big phoffN phnumN shoffN shnumN sd i z5 nm_) ++ [(958, pt_ z5), (959, (boV big)), (960, sl_ sd (shnumN * 64) (shnumN * 64)), (962, iL_ (IntKind.u64.wrap ((((i * 64) : Nat) : Int) + 4)))]) (by kernel_rfl) ?_
  clear HF; intro a HF
  rw [show IntKind.u64.wrap ((((i * 64) : Nat) : Int) + 4) = ((((i * 64) + 4) : Nat) : Int) from (IntWalk.u64_in _ (by omega)).trans (by omega)] at HF
  refine plan_run rfl HF (HM.told [5] rfl) rfl (.slice (some ⟨sd, ((i * 64) + 4), none⟩) ((shnumN * 64) - ((i * 64) + 4)) ((shnumN * 64) - ((i * 64) + 4))) (by kernel_rfl) (fun w hw => run_open0 (t := 33) Tryd.underlying33 hi0 hs0 rfl ((i * 64) + 4) (kk := .u64) rfl rfl (by omega) (by omega) (by omega) w) ?_
  clear HF; intro a HF; replace HF := HF.sub ((nf_S_w_S6 b o n c s fb big phoffN phnumN shoffN shnumN sd i z5 nm_) ++ [(958, pt_ z5), (959, (boV big)), (960, sl_ sd (shnumN * 64) (shnumN * 64)), (962, u6_ ((i * 64) + 4)), nf_S_w_P7 sd i shnumN]) (by kernel_rfl)
  replace HF := HF.sub (nf_S_w_S8 b o n c s fb big phoffN phnumN shoffN shnumN sd i z5 nm_) (by kernel_rfl)
  refine plan_sym HF (HM.told [5] rfl) 4 [] ((nf_S_w_S8 b o n c s fb big phoffN phnumN shoffN shnumN sd i z5 nm_) ++ [(965, (boV big)), (966, sl_ sd (shnumN * 64) (shnumN * 64)), (968, iL_ (IntKind.u64.wrap ((((i * 64) : Nat) : Int) + 8)))]) (by kernel_rfl) ?_
  clear HF; intro a HF
  rw [show IntKind.u64.wrap ((((i * 64) : Nat) : Int) + 8) = ((((i * 64) + 8) : Nat) : Int) from (IntWalk.u64_in _ (by omega)).trans (by omega)] at HF
  refine plan_run rfl HF (HM.told [5] rfl) rfl (.slice (some ⟨sd, ((i * 64) + 8), none⟩) ((shnumN * 64) - ((i * 64) + 8)) ((shnumN * 64) - ((i * 64) + 8))) (by kernel_rfl) (fun w hw => run_open0 (t := 33) Tryd.underlying33 hi0 hs0 rfl ((i * 64) + 8) (kk := .u64) rfl rfl (by omega) (by omega) (by omega) w) ?_
  clear HF; intro a HF; replace HF := HF.sub ((nf_S_w_S8 b o n c s fb big phoffN phnumN shoffN shnumN sd i z5 nm_) ++ [(965, (boV big)), (966, sl_ sd (shnumN * 64) (shnumN * 64)), (968, u6_ ((i * 64) + 8)), nf_S_w_P9 sd i shnumN]) (by kernel_rfl)
  replace HF := HF.sub (nf_S_w_S10 b o n c s fb big phoffN phnumN shoffN shnumN sd i z5 nm_) (by kernel_rfl)
  refine plan_sym HF (HM.told [5] rfl) 4 [] ((nf_S_w_S10 b o n c s fb big phoffN phnumN shoffN shnumN sd i z5 nm_) ++ [(972, (boV big)), (973, sl_ sd (shnumN * 64) (shnumN * 64)), (975, iL_ (IntKind.u64.wrap ((((i * 64) : Nat) : Int) + 24)))]) (by kernel_rfl) ?_
  clear HF; intro a HF
  rw [show IntKind.u64.wrap ((((i * 64) : Nat) : Int) + 24) = ((((i * 64) + 24) : Nat) : Int) from (IntWalk.u64_in _ (by omega)).trans (by omega)] at HF
  refine plan_run rfl HF (HM.told [5] rfl) rfl (.slice (some ⟨sd, ((i * 64) + 24), none⟩) ((shnumN * 64) - ((i * 64) + 24)) ((shnumN * 64) - ((i * 64) + 24))) (by kernel_rfl) (fun w hw => run_open0 (t := 33) Tryd.underlying33 hi0 hs0 rfl ((i * 64) + 24) (kk := .u64) rfl rfl (by omega) (by omega) (by omega) w) ?_
  clear HF; intro a HF; replace HF := HF.sub ((nf_S_w_S10 b o n c s fb big phoffN phnumN shoffN shnumN sd i z5 nm_) ++ [(972, (boV big)), (973, sl_ sd (shnumN * 64) (shnumN * 64)), (975, u6_ ((i * 64) + 24)), nf_S_w_P11 sd i shnumN]) (by kernel_rfl)
  replace HF := HF.sub (nf_S_w_S12 b o n c s fb big phoffN phnumN shoffN shnumN sd i z5 nm_) (by kernel_rfl)
  refine plan_sym HF (HM.told [5] rfl) 4 [] ((nf_S_w_S12 b o n c s fb big phoffN phnumN shoffN shnumN sd i z5 nm_) ++ [(978, (boV big)), (979, sl_ sd (shnumN * 64) (shnumN * 64)), (981, iL_ (IntKind.u64.wrap ((((i * 64) : Nat) : Int) + 32)))]) (by kernel_rfl) ?_
  clear HF; intro a HF
  rw [show IntKind.u64.wrap ((((i * 64) : Nat) : Int) + 32) = ((((i * 64) + 32) : Nat) : Int) from (IntWalk.u64_in _ (by omega)).trans (by omega)] at HF
  refine plan_run rfl HF (HM.told [5] rfl) rfl (.slice (some ⟨sd, ((i * 64) + 32), none⟩) ((shnumN * 64) - ((i * 64) + 32)) ((shnumN * 64) - ((i * 64) + 32))) (by kernel_rfl) (fun w hw => run_open0 (t := 33) Tryd.underlying33 hi0 hs0 rfl ((i * 64) + 32) (kk := .u64) rfl rfl (by omega) (by omega) (by omega) w) ?_
  clear HF; intro a HF; replace HF := HF.sub ((nf_S_w_S12 b o n c s fb big phoffN phnumN shoffN shnumN sd i z5 nm_) ++ [(978, (boV big)), (979, sl_ sd (shnumN * 64) (shnumN * 64)), (981, u6_ ((i * 64) + 32)), nf_S_w_P13 sd i shnumN]) (by kernel_rfl)
  replace HF := HF.sub (nf_S_w_S14 b o n c s fb big phoffN phnumN shoffN shnumN sd i z5 nm_) (by kernel_rfl)
  refine plan_sym HF (HM.told [5] rfl) 4 [] ((nf_S_w_S14 b o n c s fb big phoffN phnumN shoffN shnumN sd i z5 nm_) ++ [(984, (boV big)), (985, sl_ sd (shnumN * 64) (shnumN * 64)), (987, iL_ (IntKind.u64.wrap ((((i * 64) : Nat) : Int) + 16)))]) (by kernel_rfl) ?_
  clear HF; intro a HF
  rw [show IntKind.u64.wrap ((((i * 64) : Nat) : Int) + 16) = ((((i * 64) + 16) : Nat) : Int) from (IntWalk.u64_in _ (by omega)).trans (by omega)] at HF
  refine plan_run rfl HF (HM.told [5] rfl) rfl (.slice (some ⟨sd, ((i * 64) + 16), none⟩) ((shnumN * 64) - ((i * 64) + 16)) ((shnumN * 64) - ((i * 64) + 16))) (by kernel_rfl) (fun w hw => run_open0 (t := 33) Tryd.underlying33 hi0 hs0 rfl ((i * 64) + 16) (kk := .u64) rfl rfl (by omega) (by omega) (by omega) w) ?_
  clear HF; intro a HF; replace HF := HF.sub ((nf_S_w_S14 b o n c s fb big phoffN phnumN shoffN shnumN sd i z5 nm_) ++ [(984, (boV big)), (985, sl_ sd (shnumN * 64) (shnumN * 64)), (987, u6_ ((i * 64) + 16)), nf_S_w_P15 sd i shnumN]) (by kernel_rfl)
  replace HF := HF.sub (nf_S_w_S16 b o n c s fb big phoffN phnumN shoffN shnumN sd i z5 nm_) (by kernel_rfl)
  refine plan_sym HF (HM.told [5] rfl) 4 [] ((nf_S_w_S16 b o n c s fb big phoffN phnumN shoffN shnumN sd i z5 nm_) ++ [(990, (boV big)), (991, sl_ sd (shnumN * 64) (shnumN * 64)), (993, iL_ (IntKind.u64.wrap ((((i * 64) : Nat) : Int) + 40)))]) (by kernel_rfl) ?_
  clear HF; intro a HF
  rw [show IntKind.u64.wrap ((((i * 64) : Nat) : Int) + 40) = ((((i * 64) + 40) : Nat) : Int) from (IntWalk.u64_in _ (by omega)).trans (by omega)] at HF
  refine plan_run rfl HF (HM.told [5] rfl) rfl (.slice (some ⟨sd, ((i * 64) + 40), none⟩) ((shnumN * 64) - ((i * 64) + 40)) ((shnumN * 64) - ((i * 64) + 40))) (by kernel_rfl) (fun w hw => run_open0 (t := 33) Tryd.underlying33 hi0 hs0 rfl ((i * 64) + 40) (kk := .u64) rfl rfl (by omega) (by omega) (by omega) w) ?_
  clear HF; intro a HF; replace HF := HF.sub ((nf_S_w_S16 b o n c s fb big phoffN phnumN shoffN shnumN sd i z5 nm_) ++ [(990, (boV big)), (991, sl_ sd (shnumN * 64) (shnumN * 64)), (993, u6_ ((i * 64) + 40)), nf_S_w_P17 sd i shnumN]) (by kernel_rfl)
  replace HF := HF.sub (nf_S_w_S18 b o n c s fb big phoffN phnumN shoffN shnumN sd i z5 nm_) (by kernel_rfl)
  refine plan_sym HF (HM.told [5] rfl) 4 [] ((nf_S_w_S18 b o n c s fb big phoffN phnumN shoffN shnumN sd i z5 nm_) ++ [(996, (boV big)), (997, sl_ sd (shnumN * 64) (shnumN * 64)), (999, iL_ (IntKind.u64.wrap ((((i * 64) : Nat) : Int) + 44)))]) (by kernel_rfl) ?_
  clear HF; intro a HF
  rw [show IntKind.u64.wrap ((((i * 64) : Nat) : Int) + 44) = ((((i * 64) + 44) : Nat) : Int) from (IntWalk.u64_in _ (by omega)).trans (by omega)] at HF
  refine plan_run rfl HF (HM.told [5] rfl) rfl (.slice (some ⟨sd, ((i * 64) + 44), none⟩) ((shnumN * 64) - ((i * 64) + 44)) ((shnumN * 64) - ((i * 64) + 44))) (by kernel_rfl) (fun w hw => run_open0 (t := 33) Tryd.underlying33 hi0 hs0 rfl ((i * 64) + 44) (kk := .u64) rfl rfl (by omega) (by omega) (by omega) w) ?_
  clear HF; intro a HF; replace HF := HF.sub ((nf_S_w_S18 b o n c s fb big phoffN phnumN shoffN shnumN sd i z5 nm_) ++ [(996, (boV big)), (997, sl_ sd (shnumN * 64) (shnumN * 64)), (999, u6_ ((i * 64) + 44)), nf_S_w_P19 sd i shnumN]) (by kernel_rfl)
  replace HF := HF.sub (nf_S_w_S20 b o n c s fb big phoffN phnumN shoffN shnumN sd i z5 nm_) (by kernel_rfl)
  refine plan_sym HF (HM.told [5] rfl) 4 [] ((nf_S_w_S20 b o n c s fb big phoffN phnumN shoffN shnumN sd i z5 nm_) ++ [(1002, (boV big)), (1003, sl_ sd (shnumN * 64) (shnumN * 64)), (1005, iL_ (IntKind.u64.wrap ((((i * 64) : Nat) : Int) + 48)))]) (by kernel_rfl) ?_
  clear HF; intro a HF
  rw [show IntKind.u64.wrap ((((i * 64) : Nat) : Int) + 48) = ((((i * 64) + 48) : Nat) : Int) from (IntWalk.u64_in _ (by omega)).trans (by omega)] at HF
  refine plan_run rfl HF (HM.told [5] rfl) rfl (.slice (some ⟨sd, ((i * 64) + 48), none⟩) ((shnumN * 64) - ((i * 64) + 48)) ((shnumN * 64) - ((i * 64) + 48))) (by kernel_rfl) (fun w hw => run_open0 (t := 33) Tryd.underlying33 hi0 hs0 rfl ((i * 64) + 48) (kk := .u64) rfl rfl (by omega) (by omega) (by omega) w) ?_
  clear HF; intro a HF; replace HF := HF.sub ((nf_S_w_S20 b o n c s fb big phoffN phnumN shoffN shnumN sd i z5 nm_) ++ [(1002, (boV big)), (1003, sl_ sd (shnumN * 64) (shnumN * 64)), (1005, u6_ ((i * 64) + 48)), nf_S_w_P21 sd i shnumN]) (by kernel_rfl)
  replace HF := HF.sub (nf_S_w_S22 b o n c s fb big phoffN phnumN shoffN shnumN sd i z5 nm_) (by kernel_rfl)
  refine plan_sym HF (HM.told [5] rfl) 4 [] ((nf_S_w_S22 b o n c s fb big phoffN phnumN shoffN shnumN sd i z5 nm_) ++ [(1008, (boV big)), (1009, sl_ sd (shnumN * 64) (shnumN * 64)), (1011, iL_ (IntKind.u64.wrap ((((i * 64) : Nat) : Int) + 56)))]) (by kernel_rfl) ?_
  clear HF; intro a HF
  rw [show IntKind.u64.wrap ((((i * 64) : Nat) : Int) + 56) = ((((i * 64) + 56) : Nat) : Int) from (IntWalk.u64_in _ (by omega)).trans (by omega)] at HF
  refine plan_run rfl HF (HM.told [5] rfl) rfl (.slice (some ⟨sd, ((i * 64) + 56), none⟩) ((shnumN * 64) - ((i * 64) + 56)) ((shnumN * 64) - ((i * 64) + 56))) (by kernel_rfl) (fun w hw => run_open0 (t := 33) Tryd.underlying33 hi0 hs0 rfl ((i * 64) + 56) (kk := .u64) rfl rfl (by omega) (by omega) (by omega) w) ?_
  clear HF; intro a HF; replace HF := HF.sub ((nf_S_w_S22 b o n c s fb big phoffN phnumN shoffN shnumN sd i z5 nm_) ++ [(1008, (boV big)), (1009, sl_ sd (shnumN * 64) (shnumN * 64)), (1011, u6_ ((i * 64) + 56)), nf_S_w_P23 sd i shnumN]) (by kernel_rfl)
  replace HF := HF.sub ((nf_S_w_S22 b o n c s fb big phoffN phnumN shoffN shnumN sd i z5 nm_) ++ [(1008, (boV big)), nf_S_w_P23 sd i shnumN]) (by kernel_rfl)
  refine plan_force rfl ?_
  refine wp_call HF (by kernel_rfl) 87 #[(boV big), .slice (some ⟨sd, ((i * 64) + 4), none⟩) ((shnumN * 64) - ((i * 64) + 4)) ((shnumN * 64) - ((i * 64) + 4))] (by kernel_rfl) (fun w => by kernel_rfl) (Calls.mono (u32_at (HM.get (i := 5) rfl) (by unfold maxLen; omega) big ((i * 64) + 4) ((shnumN * 64) - ((i * 64) + 4)) (by omega) (by omega) ((v.ty : Nat) : Int) (by rw [e_ty])) ?_)
  rintro _ w4 ⟨rfl, dk_, hq⟩
  replace HM : Mm [fb, sg_, nm_, sd] W1 w4 [(z10, .cells #[u3_ v.name] 36 (0, 0)), nf_S_w_B5 z5, nf_S_w_B0 fb dat abi abiv big tyN machN entryN sg_ i shnumN pg phnumN, (sg_, .cells cur 133 (0, 0)), (nm_, .cells nms' 36 (0, 0)), (sd, .cells (X.map Bv).toArray 5 (0, 0))] := by rw [hq]; exact HM.drewN _
  clear hq
  refine ⟨_, rfl, ?_⟩; clear HF; intro a HF; replace HF := HF.sub ((nf_S_w_S22 b o n c s fb big phoffN phnumN shoffN shnumN sd i z5 nm_) ++ [(1008, (boV big)), nf_S_w_P23 sd i shnumN, (964, u3_ v.ty)]) (by kernel_rfl)
  refine only_end (HM.told [5] rfl) ?_
  replace HF := HF.sub ((nf_S_w_S6 b o n c s fb big phoffN phnumN shoffN shnumN sd i z5 nm_) ++ [(958, pt_ z5), (965, (boV big)), nf_S_w_P9 sd i shnumN, (972, (boV big)), nf_S_w_P11 sd i shnumN, (978, (boV big)), nf_S_w_P13 sd i shnumN, (984, (boV big)), nf_S_w_P15 sd i shnumN, (990, (boV big)), nf_S_w_P17 sd i shnumN, (996, (boV big)), nf_S_w_P19 sd i shnumN, (1002, (boV big)), nf_S_w_P21 sd i shnumN, (1008, (boV big)), nf_S_w_P23 sd i shnumN, (964, u3_ v.ty)]) (by kernel_rfl)
  refine plan_force rfl ?_
  refine wp_call HF (by kernel_rfl) 88 #[(boV big), .slice (some ⟨sd, ((i * 64) + 8), none⟩) ((shnumN * 64) - ((i * 64) + 8)) ((shnumN * 64) - ((i * 64) + 8))] (by kernel_rfl) (fun w => by kernel_rfl) (Calls.mono (u64_at (HM.get (i := 5) rfl) (by unfold maxLen; omega) big ((i * 64) + 8) ((shnumN * 64) - ((i * 64) + 8)) (by omega) (by omega) ((v.flags : Nat) : Int) (by rw [e_flags])) ?_)
  rintro _ w5 ⟨rfl, dk_, hq⟩
  replace HM : Mm [fb, sg_, nm_, sd] W1 w5 [(z10, .cells #[u3_ v.name] 36 (0, 0)), nf_S_w_B5 z5, nf_S_w_B0 fb dat abi abiv big tyN machN entryN sg_ i shnumN pg phnumN, (sg_, .cells cur 133 (0, 0)), (nm_, .cells nms' 36 (0, 0)), (sd, .cells (X.map Bv).toArray 5 (0, 0))] := by rw [hq]; exact HM.drewN _
  clear hq
  refine ⟨_, rfl, ?_⟩; clear HF; intro a HF; replace HF := HF.sub ((nf_S_w_S6 b o n c s fb big phoffN phnumN shoffN shnumN sd i z5 nm_) ++ [(958, pt_ z5), (965, (boV big)), nf_S_w_P9 sd i shnumN, (972, (boV big)), nf_S_w_P11 sd i shnumN, (978, (boV big)), nf_S_w_P13 sd i shnumN, (984, (boV big)), nf_S_w_P15 sd i shnumN, (990, (boV big)), nf_S_w_P17 sd i shnumN, (996, (boV big)), nf_S_w_P19 sd i shnumN, (1002, (boV big)), nf_S_w_P21 sd i shnumN, (1008, (boV big)), nf_S_w_P23 sd i shnumN, (964, u3_ v.ty), (970, u6_ v.flags)]) (by kernel_rfl)
  refine only_end (HM.told [5] rfl) ?_
  replace HF := HF.sub ((nf_S_w_S24 b o n c s fb big phoffN phnumN shoffN shnumN sd i z5 nm_ v) ++ [(970, u6_ v.flags)]) (by kernel_rfl)
  refine plan_sym HF (HM.told [5] rfl) 1 [] ((nf_S_w_S24 b o n c s fb big phoffN phnumN shoffN shnumN sd i z5 nm_ v) ++ [(971, iT_ (IntKind.u32.wrap ((v.flags : Nat) : Int)))]) (by kernel_rfl) ?_
  clear HF; intro a HF
  rw [show IntKind.u32.wrap ((v.flags : Nat) : Int) = ((v.flags : Nat) : Int) from IntWalk.u32_in _ (by omega)] at HF
  refine plan_force rfl ?_
  refine wp_call HF (by kernel_rfl) 88 #[(boV big), .slice (some ⟨sd, ((i * 64) + 24), none⟩) ((shnumN * 64) - ((i * 64) + 24)) ((shnumN * 64) - ((i * 64) + 24))] (by kernel_rfl) (fun w => by kernel_rfl) (Calls.mono (u64_at (HM.get (i := 5) rfl) (by unfold maxLen; omega) big ((i * 64) + 24) ((shnumN * 64) - ((i * 64) + 24)) (by omega) (by omega) ((v.off : Nat) : Int) (by rw [e_off])) ?_)
  rintro _ w6 ⟨rfl, dk_, hq⟩
  replace HM : Mm [fb, sg_, nm_, sd] W1 w6 [(z10, .cells #[u3_ v.name] 36 (0, 0)), nf_S_w_B5 z5, nf_S_w_B0 fb dat abi abiv big tyN machN entryN sg_ i shnumN pg phnumN, (sg_, .cells cur 133 (0, 0)), (nm_, .cells nms' 36 (0, 0)), (sd, .cells (X.map Bv).toArray 5 (0, 0))] := by rw [hq]; exact HM.drewN _
  clear hq
  refine ⟨_, rfl, ?_⟩; clear HF; intro a HF; replace HF := HF.sub ((nf_S_w_S24 b o n c s fb big phoffN phnumN shoffN shnumN sd i z5 nm_ v) ++ [(971, u3_ v.flags), (977, u6_ v.off)]) (by kernel_rfl)
  refine only_end (HM.told [5] rfl) ?_
  replace HF := HF.sub ((nf_S_w_S6 b o n c s fb big phoffN phnumN shoffN shnumN sd i z5 nm_) ++ [(958, pt_ z5), (978, (boV big)), nf_S_w_P13 sd i shnumN, (984, (boV big)), nf_S_w_P15 sd i shnumN, (990, (boV big)), nf_S_w_P17 sd i shnumN, (996, (boV big)), nf_S_w_P19 sd i shnumN, (1002, (boV big)), nf_S_w_P21 sd i shnumN, (1008, (boV big)), nf_S_w_P23 sd i shnumN, (964, u3_ v.ty), (971, u3_ v.flags), (977, u6_ v.off)]) (by kernel_rfl)
  refine plan_force rfl ?_
  refine wp_call HF (by kernel_rfl) 88 #[(boV big), .slice (some ⟨sd, ((i * 64) + 32), none⟩) ((shnumN * 64) - ((i * 64) + 32)) ((shnumN * 64) - ((i * 64) + 32))] (by kernel_rfl) (fun w => by kernel_rfl) (Calls.mono (u64_at (HM.get (i := 5) rfl) (by unfold maxLen; omega) big ((i * 64) + 32) ((shnumN * 64) - ((i * 64) + 32)) (by omega) (by omega) ((v.fsz : Nat) : Int) (by rw [e_fsz])) ?_)
  rintro _ w7 ⟨rfl, dk_, hq⟩
  replace HM : Mm [fb, sg_, nm_, sd] W1 w7 [(z10, .cells #[u3_ v.name] 36 (0, 0)), nf_S_w_B5 z5, nf_S_w_B0 fb dat abi abiv big tyN machN entryN sg_ i shnumN pg phnumN, (sg_, .cells cur 133 (0, 0)), (nm_, .cells nms' 36 (0, 0)), (sd, .cells (X.map Bv).toArray 5 (0, 0))] := by rw [hq]; exact HM.drewN _
  clear hq
  refine ⟨_, rfl, ?_⟩; clear HF; intro a HF; replace HF := HF.sub ((nf_S_w_S6 b o n c s fb big phoffN phnumN shoffN shnumN sd i z5 nm_) ++ [(958, pt_ z5), (978, (boV big)), nf_S_w_P13 sd i shnumN, (984, (boV big)), nf_S_w_P15 sd i shnumN, (990, (boV big)), nf_S_w_P17 sd i shnumN, (996, (boV big)), nf_S_w_P19 sd i shnumN, (1002, (boV big)), nf_S_w_P21 sd i shnumN, (1008, (boV big)), nf_S_w_P23 sd i shnumN, (964, u3_ v.ty), (971, u3_ v.flags), (977, u6_ v.off), (983, u6_ v.fsz)]) (by kernel_rfl)
  refine only_end (HM.told [5] rfl) ?_
  replace HF := HF.sub ((nf_S_w_S6 b o n c s fb big phoffN phnumN shoffN shnumN sd i z5 nm_) ++ [(958, pt_ z5), (984, (boV big)), nf_S_w_P15 sd i shnumN, (990, (boV big)), nf_S_w_P17 sd i shnumN, (996, (boV big)), nf_S_w_P19 sd i shnumN, (1002, (boV big)), nf_S_w_P21 sd i shnumN, (1008, (boV big)), nf_S_w_P23 sd i shnumN, (964, u3_ v.ty), (971, u3_ v.flags), (977, u6_ v.off), (983, u6_ v.fsz)]) (by kernel_rfl)
  refine plan_force rfl ?_
  refine wp_call HF (by kernel_rfl) 88 #[(boV big), .slice (some ⟨sd, ((i * 64) + 16), none⟩) ((shnumN * 64) - ((i * 64) + 16)) ((shnumN * 64) - ((i * 64) + 16))] (by kernel_rfl) (fun w => by kernel_rfl) (Calls.mono (u64_at (HM.get (i := 5) rfl) (by unfold maxLen; omega) big ((i * 64) + 16) ((shnumN * 64) - ((i * 64) + 16)) (by omega) (by omega) ((v.addr : Nat) : Int) (by rw [e_addr])) ?_)
  rintro _ w8 ⟨rfl, dk_, hq⟩
  replace HM : Mm [fb, sg_, nm_, sd] W1 w8 [(z10, .cells #[u3_ v.name] 36 (0, 0)), nf_S_w_B5 z5, nf_S_w_B0 fb dat abi abiv big tyN machN entryN sg_ i shnumN pg phnumN, (sg_, .cells cur 133 (0, 0)), (nm_, .cells nms' 36 (0, 0)), (sd, .cells (X.map Bv).toArray 5 (0, 0))] := by rw [hq]; exact HM.drewN _
  clear hq
  refine ⟨_, rfl, ?_⟩; clear HF; intro a HF; replace HF := HF.sub ((nf_S_w_S6 b o n c s fb big phoffN phnumN shoffN shnumN sd i z5 nm_) ++ [(958, pt_ z5), (984, (boV big)), nf_S_w_P15 sd i shnumN, (990, (boV big)), nf_S_w_P17 sd i shnumN, (996, (boV big)), nf_S_w_P19 sd i shnumN, (1002, (boV big)), nf_S_w_P21 sd i shnumN, (1008, (boV big)), nf_S_w_P23 sd i shnumN, (964, u3_ v.ty), (971, u3_ v.flags), (977, u6_ v.off), (983, u6_ v.fsz), (989, u6_ v.addr)]) (by kernel_rfl)
  refine only_end (HM.told [5] rfl) ?_
  replace HF := HF.sub ((nf_S_w_S6 b o n c s fb big phoffN phnumN shoffN shnumN sd i z5 nm_) ++ [(958, pt_ z5), (990, (boV big)), nf_S_w_P17 sd i shnumN, (996, (boV big)), nf_S_w_P19 sd i shnumN, (1002, (boV big)), nf_S_w_P21 sd i shnumN, (1008, (boV big)), nf_S_w_P23 sd i shnumN, (964, u3_ v.ty), (971, u3_ v.flags), (977, u6_ v.off), (983, u6_ v.fsz), (989, u6_ v.addr)]) (by kernel_rfl)
  refine plan_force rfl ?_
  refine wp_call HF (by kernel_rfl) 87 #[(boV big), .slice (some ⟨sd, ((i * 64) + 40), none⟩) ((shnumN * 64) - ((i * 64) + 40)) ((shnumN * 64) - ((i * 64) + 40))] (by kernel_rfl) (fun w => by kernel_rfl) (Calls.mono (u32_at (HM.get (i := 5) rfl) (by unfold maxLen; omega) big ((i * 64) + 40) ((shnumN * 64) - ((i * 64) + 40)) (by omega) (by omega) ((v.link : Nat) : Int) (by rw [e_link])) ?_)
  rintro _ w9 ⟨rfl, dk_, hq⟩
  replace HM : Mm [fb, sg_, nm_, sd] W1 w9 [(z10, .cells #[u3_ v.name] 36 (0, 0)), nf_S_w_B5 z5, nf_S_w_B0 fb dat abi abiv big tyN machN entryN sg_ i shnumN pg phnumN, (sg_, .cells cur 133 (0, 0)), (nm_, .cells nms' 36 (0, 0)), (sd, .cells (X.map Bv).toArray 5 (0, 0))] := by rw [hq]; exact HM.drewN _
  clear hq
  refine ⟨_, rfl, ?_⟩; clear HF; intro a HF; replace HF := HF.sub ((nf_S_w_S6 b o n c s fb big phoffN phnumN shoffN shnumN sd i z5 nm_) ++ [(958, pt_ z5), (990, (boV big)), nf_S_w_P17 sd i shnumN, (996, (boV big)), nf_S_w_P19 sd i shnumN, (1002, (boV big)), nf_S_w_P21 sd i shnumN, (1008, (boV big)), nf_S_w_P23 sd i shnumN, (964, u3_ v.ty), (971, u3_ v.flags), (977, u6_ v.off), (983, u6_ v.fsz), (989, u6_ v.addr), (995, u3_ v.link)]) (by kernel_rfl)
  refine only_end (HM.told [5] rfl) ?_
  replace HF := HF.sub ((nf_S_w_S6 b o n c s fb big phoffN phnumN shoffN shnumN sd i z5 nm_) ++ [(958, pt_ z5), (996, (boV big)), nf_S_w_P19 sd i shnumN, (1002, (boV big)), nf_S_w_P21 sd i shnumN, (1008, (boV big)), nf_S_w_P23 sd i shnumN, (964, u3_ v.ty), (971, u3_ v.flags), (977, u6_ v.off), (983, u6_ v.fsz), (989, u6_ v.addr), (995, u3_ v.link)]) (by kernel_rfl)
  refine plan_force rfl ?_
  refine wp_call HF (by kernel_rfl) 87 #[(boV big), .slice (some ⟨sd, ((i * 64) + 44), none⟩) ((shnumN * 64) - ((i * 64) + 44)) ((shnumN * 64) - ((i * 64) + 44))] (by kernel_rfl) (fun w => by kernel_rfl) (Calls.mono (u32_at (HM.get (i := 5) rfl) (by unfold maxLen; omega) big ((i * 64) + 44) ((shnumN * 64) - ((i * 64) + 44)) (by omega) (by omega) ((v.info : Nat) : Int) (by rw [e_info])) ?_)
  rintro _ w10 ⟨rfl, dk_, hq⟩
  replace HM : Mm [fb, sg_, nm_, sd] W1 w10 [(z10, .cells #[u3_ v.name] 36 (0, 0)), nf_S_w_B5 z5, nf_S_w_B0 fb dat abi abiv big tyN machN entryN sg_ i shnumN pg phnumN, (sg_, .cells cur 133 (0, 0)), (nm_, .cells nms' 36 (0, 0)), (sd, .cells (X.map Bv).toArray 5 (0, 0))] := by rw [hq]; exact HM.drewN _
  clear hq
  refine ⟨_, rfl, ?_⟩; clear HF; intro a HF; replace HF := HF.sub ((nf_S_w_S6 b o n c s fb big phoffN phnumN shoffN shnumN sd i z5 nm_) ++ [(958, pt_ z5), (996, (boV big)), nf_S_w_P19 sd i shnumN, (1002, (boV big)), nf_S_w_P21 sd i shnumN, (1008, (boV big)), nf_S_w_P23 sd i shnumN, (964, u3_ v.ty), (971, u3_ v.flags), (977, u6_ v.off), (983, u6_ v.fsz), (989, u6_ v.addr), (995, u3_ v.link), (1001, u3_ v.info)]) (by kernel_rfl)
  refine only_end (HM.told [5] rfl) ?_
  replace HF := HF.sub ((nf_S_w_S6 b o n c s fb big phoffN phnumN shoffN shnumN sd i z5 nm_) ++ [(958, pt_ z5), (1002, (boV big)), nf_S_w_P21 sd i shnumN, (1008, (boV big)), nf_S_w_P23 sd i shnumN, (964, u3_ v.ty), (971, u3_ v.flags), (977, u6_ v.off), (983, u6_ v.fsz), (989, u6_ v.addr), (995, u3_ v.link), (1001, u3_ v.info)]) (by kernel_rfl)
  refine plan_force rfl ?_
  refine wp_call HF (by kernel_rfl) 88 #[(boV big), .slice (some ⟨sd, ((i * 64) + 48), none⟩) ((shnumN * 64) - ((i * 64) + 48)) ((shnumN * 64) - ((i * 64) + 48))] (by kernel_rfl) (fun w => by kernel_rfl) (Calls.mono (u64_at (HM.get (i := 5) rfl) (by unfold maxLen; omega) big ((i * 64) + 48) ((shnumN * 64) - ((i * 64) + 48)) (by omega) (by omega) ((v.align : Nat) : Int) (by rw [e_align])) ?_)
  rintro _ w11 ⟨rfl, dk_, hq⟩
  replace HM : Mm [fb, sg_, nm_, sd] W1 w11 [(z10, .cells #[u3_ v.name] 36 (0, 0)), nf_S_w_B5 z5, nf_S_w_B0 fb dat abi abiv big tyN machN entryN sg_ i shnumN pg phnumN, (sg_, .cells cur 133 (0, 0)), (nm_, .cells nms' 36 (0, 0)), (sd, .cells (X.map Bv).toArray 5 (0, 0))] := by rw [hq]; exact HM.drewN _
  clear hq
  refine ⟨_, rfl, ?_⟩; clear HF; intro a HF; replace HF := HF.sub ((nf_S_w_S6 b o n c s fb big phoffN phnumN shoffN shnumN sd i z5 nm_) ++ [(958, pt_ z5), (1002, (boV big)), nf_S_w_P21 sd i shnumN, (1008, (boV big)), nf_S_w_P23 sd i shnumN, (964, u3_ v.ty), (971, u3_ v.flags), (977, u6_ v.off), (983, u6_ v.fsz), (989, u6_ v.addr), (995, u3_ v.link), (1001, u3_ v.info), (1007, u6_ v.align)]) (by kernel_rfl)
  refine only_end (HM.told [5] rfl) ?_
  replace HF := HF.sub ((nf_S_w_S6 b o n c s fb big phoffN phnumN shoffN shnumN sd i z5 nm_) ++ [(958, pt_ z5), (1008, (boV big)), nf_S_w_P23 sd i shnumN, (964, u3_ v.ty), (971, u3_ v.flags), (977, u6_ v.off), (983, u6_ v.fsz), (989, u6_ v.addr), (995, u3_ v.link), (1001, u3_ v.info), (1007, u6_ v.align)]) (by kernel_rfl)
  refine plan_force rfl ?_
  refine wp_call HF (by kernel_rfl) 88 #[(boV big), .slice (some ⟨sd, ((i * 64) + 56), none⟩) ((shnumN * 64) - ((i * 64) + 56)) ((shnumN * 64) - ((i * 64) + 56))] (by kernel_rfl) (fun w => by kernel_rfl) (Calls.mono (u64_at (HM.get (i := 5) rfl) (by unfold maxLen; omega) big ((i * 64) + 56) ((shnumN * 64) - ((i * 64) + 56)) (by omega) (by omega) ((v.ent : Nat) : Int) (by rw [e_ent])) ?_)
  rintro _ w12 ⟨rfl, dk_, hq⟩
  replace HM : Mm [fb, sg_, nm_, sd] W1 w12 [(z10, .cells #[u3_ v.name] 36 (0, 0)), nf_S_w_B5 z5, nf_S_w_B0 fb dat abi abiv big tyN machN entryN sg_ i shnumN pg phnumN, (sg_, .cells cur 133 (0, 0)), (nm_, .cells nms' 36 (0, 0)), (sd, .cells (X.map Bv).toArray 5 (0, 0))] := by rw [hq]; exact HM.drewN _
  clear hq
  refine ⟨_, rfl, ?_⟩; clear HF; intro a HF; replace HF := HF.sub ((nf_S_w_S6 b o n c s fb big phoffN phnumN shoffN shnumN sd i z5 nm_) ++ [(958, pt_ z5), (1008, (boV big)), nf_S_w_P23 sd i shnumN, (964, u3_ v.ty), (971, u3_ v.flags), (977, u6_ v.off), (983, u6_ v.fsz), (989, u6_ v.addr), (995, u3_ v.link), (1001, u3_ v.info), (1007, u6_ v.align), (1013, u6_ v.ent)]) (by kernel_rfl)
  refine only_end (HM.told [5] rfl) ?_
  replace HF := HF.sub ((nf_S_w_S6 b o n c s fb big phoffN phnumN shoffN shnumN sd i z5 nm_) ++ [(958, pt_ z5), (964, u3_ v.ty), (971, u3_ v.flags), (977, u6_ v.off), (983, u6_ v.fsz), (989, u6_ v.addr), (995, u3_ v.link), (1001, u3_ v.info), (1007, u6_ v.align), (1013, u6_ v.ent)]) (by kernel_rfl)
  refine plan_sym HF (HM.told [5] rfl) 3 [] ((nf_S_w_S6 b o n c s fb big phoffN phnumN shoffN shnumN sd i z5 nm_) ++ [(958, pt_ z5), (964, u3_ v.ty), (971, u3_ v.flags), (977, u6_ v.off), (983, u6_ v.fsz), (989, u6_ v.addr), (995, u3_ v.link), (1001, u3_ v.info), (1007, u6_ v.align), (1013, u6_ v.ent), nf_S_w_P25 v, (1016, pt_ z5)]) (by kernel_rfl) ?_
  clear HF; intro a HF
  replace HF := HF.sub ((nf_S_w_S6 b o n c s fb big phoffN phnumN shoffN shnumN sd i z5 nm_) ++ [nf_S_w_P25 v, (1016, pt_ z5)]) (by kernel_rfl)
  refine plan_force rfl ?_
  refine wp_sym HF HM rfl 1 [[4, 4, 4, 4, 4, 4, 4, 4, 4, 4, 4]] (nf_S_w_S6 b o n c s fb big phoffN phnumN shoffN shnumN sd i z5 nm_) [(z10, .cells #[u3_ v.name] 36 (0, 0)), nf_S_w_B26 z5 v, nf_S_w_B0 fb dat abi abiv big tyN machN entryN sg_ i shnumN pg phnumN, (sg_, .cells cur 133 (0, 0)), (nm_, .cells nms' 36 (0, 0)), (sd, .cells (X.map Bv).toArray 5 (0, 0))] (by kernel_rfl) ?_
  clear HF HM; intro a w HF HM
  refine only_end (HM.told [5] rfl) ?_
  refine plan_end ?_
  repeat (first | refine then_norm ?_ | refine inb_norm ?_)
  refine wp_seq ?_
  refine wp_seq (wp_region_lit ?_)
  refine wp_sym HF HM rfl 6 [[4]] ((nf_S_w_S6 b o n c s fb big phoffN phnumN shoffN shnumN sd i z5 nm_) ++ [(1022, iI_ (IntKind.i64.wrap ((v.off : Nat) : Int)))]) [(z10, .cells #[u3_ v.name] 36 (0, 0)), nf_S_w_B26 z5 v, nf_S_w_B0 fb dat abi abiv big tyN machN entryN sg_ i shnumN pg phnumN, (sg_, .cells cur 133 (0, 0)), (nm_, .cells nms' 36 (0, 0)), (sd, .cells (X.map Bv).toArray 5 (0, 0))] (by kernel_rfl) ?_
  clear HF HM; intro a w HF HM
  rw [show IntKind.i64.wrap ((v.off : Nat) : Int) = ((v.off : Nat) : Int) from IntWalk.i64_in _ (by omega)] at HF
  refine wp_sym HF HM rfl 1 [] ((nf_S_w_S6 b o n c s fb big phoffN phnumN shoffN shnumN sd i z5 nm_) ++ [(1023, .bool (decide (((v.off : Nat) : Int) < 0)))]) [(z10, .cells #[u3_ v.name] 36 (0, 0)), nf_S_w_B26 z5 v, nf_S_w_B0 fb dat abi abiv big tyN machN entryN sg_ i shnumN pg phnumN, (sg_, .cells cur 133 (0, 0)), (nm_, .cells nms' 36 (0, 0)), (sd, .cells (X.map Bv).toArray 5 (0, 0))] (by kernel_rfl) ?_
  clear HF HM; intro a w HF HM
  rw [show decide (((v.off : Nat) : Int) < 0) = false from dec_f (by omega)] at HF
  refine nil_then ?_
  refine wp_condF HF rfl ?_
  refine wp_skip ?_
  repeat (first | refine then_norm ?_ | refine inb_norm ?_)
  replace HF := HF.sub (nf_S_w_S6 b o n c s fb big phoffN phnumN shoffN shnumN sd i z5 nm_) (by kernel_rfl)
  refine wp_seq ?_
  refine wp_seq (wp_region_lit ?_)
  refine wp_sym HF HM rfl 6 [[4]] ((nf_S_w_S6 b o n c s fb big phoffN phnumN shoffN shnumN sd i z5 nm_) ++ [(1043, iI_ (IntKind.i64.wrap ((v.fsz : Nat) : Int)))]) [(z10, .cells #[u3_ v.name] 36 (0, 0)), nf_S_w_B26 z5 v, nf_S_w_B0 fb dat abi abiv big tyN machN entryN sg_ i shnumN pg phnumN, (sg_, .cells cur 133 (0, 0)), (nm_, .cells nms' 36 (0, 0)), (sd, .cells (X.map Bv).toArray 5 (0, 0))] (by kernel_rfl) ?_
  clear HF HM; intro a w HF HM
  rw [show IntKind.i64.wrap ((v.fsz : Nat) : Int) = ((v.fsz : Nat) : Int) from IntWalk.i64_in _ (by omega)] at HF
  refine wp_sym HF HM rfl 1 [] ((nf_S_w_S6 b o n c s fb big phoffN phnumN shoffN shnumN sd i z5 nm_) ++ [(1044, .bool (decide (((v.fsz : Nat) : Int) < 0)))]) [(z10, .cells #[u3_ v.name] 36 (0, 0)), nf_S_w_B26 z5 v, nf_S_w_B0 fb dat abi abiv big tyN machN entryN sg_ i shnumN pg phnumN, (sg_, .cells cur 133 (0, 0)), (nm_, .cells nms' 36 (0, 0)), (sd, .cells (X.map Bv).toArray 5 (0, 0))] (by kernel_rfl) ?_
  clear HF HM; intro a w HF HM
  rw [show decide (((v.fsz : Nat) : Int) < 0) = false from dec_f (by omega)] at HF
  refine nil_then ?_
  refine wp_condF HF rfl ?_
  refine wp_skip ?_
  repeat (first | refine then_norm ?_ | refine inb_norm ?_)
  replace HF := HF.sub (nf_S_w_S6 b o n c s fb big phoffN phnumN shoffN shnumN sd i z5 nm_) (by kernel_rfl)
  refine reg_planS HM (by kernel_rfl) (fun w => w.cell? ⟨z5, 4, none⟩ = some (u6_ v.off) ∧ w.cell? ⟨z5, 10, none⟩ = some (u6_ v.fsz)) [(0, false), (1, false), (2, false), (3, false), (4, false), (5, false), (6, false), (7, false), (8, false), (9, false), (10, false), (11, false), (12, false), (13, false), (14, true), (15, false), (16, false), (17, true)] (by kernel_rfl) ?_
  clear HM; intro w13 HM
  refine plan_symS (LS := []) (fun _ _ => told_nil _) HF ⟨HM.cellAt (i := 1) (k := 4) rfl rfl, HM.cellAt (i := 1) (k := 10) rfl rfl⟩ 6 [] ((nf_S_w_S27 b o n c s fb big phoffN phnumN shoffN shnumN sd i z5 nm_) ++ [(1064, .pointer (some ⟨z5, 4, none⟩))]) (by kernel_rfl) ?_
  clear HF; intro a HF
  refine plan_runS rfl HF ⟨HM.cellAt (i := 1) (k := 4) rfl rfl, HM.cellAt (i := 1) (k := 10) rfl rfl⟩ rfl (u6_ v.off) (by kernel_rfl) (fun w hw => run_load_one rfl rfl (by kernel_rfl) hw.1) ?_
  clear HF; intro a HF; replace HF := HF.sub ((nf_S_w_S27 b o n c s fb big phoffN phnumN shoffN shnumN sd i z5 nm_) ++ [(1064, .pointer (some ⟨z5, 4, none⟩)), (1065, u6_ v.off)]) (by kernel_rfl)
  refine plan_symS (LS := []) (fun _ _ => told_nil _) HF ⟨HM.cellAt (i := 1) (k := 4) rfl rfl, HM.cellAt (i := 1) (k := 10) rfl rfl⟩ 1 [] ((nf_S_w_S27 b o n c s fb big phoffN phnumN shoffN shnumN sd i z5 nm_) ++ [(1066, iI_ (IntKind.i64.wrap ((v.off : Nat) : Int)))]) (by kernel_rfl) ?_
  clear HF; intro a HF
  rw [show IntKind.i64.wrap ((v.off : Nat) : Int) = ((v.off : Nat) : Int) from IntWalk.i64_in _ (by omega)] at HF
  refine plan_symS (LS := []) (fun _ _ => told_nil _) HF ⟨HM.cellAt (i := 1) (k := 4) rfl rfl, HM.cellAt (i := 1) (k := 10) rfl rfl⟩ 4 [] ((nf_S_w_S27 b o n c s fb big phoffN phnumN shoffN shnumN sd i z5 nm_) ++ [(1066, i6_ v.off), (1070, .pointer (some ⟨z5, 10, none⟩))]) (by kernel_rfl) ?_
  clear HF; intro a HF
  refine plan_runS rfl HF ⟨HM.cellAt (i := 1) (k := 4) rfl rfl, HM.cellAt (i := 1) (k := 10) rfl rfl⟩ rfl (u6_ v.fsz) (by kernel_rfl) (fun w hw => run_load_one rfl rfl (by kernel_rfl) hw.2) ?_
  clear HF; intro a HF; replace HF := HF.sub ((nf_S_w_S27 b o n c s fb big phoffN phnumN shoffN shnumN sd i z5 nm_) ++ [(1066, i6_ v.off), (1070, .pointer (some ⟨z5, 10, none⟩)), (1071, u6_ v.fsz)]) (by kernel_rfl)
  refine plan_symS (LS := []) (fun _ _ => told_nil _) HF ⟨HM.cellAt (i := 1) (k := 4) rfl rfl, HM.cellAt (i := 1) (k := 10) rfl rfl⟩ 1 [] ((nf_S_w_S27 b o n c s fb big phoffN phnumN shoffN shnumN sd i z5 nm_) ++ [(1066, i6_ v.off), (1072, iI_ (IntKind.i64.wrap ((v.fsz : Nat) : Int)))]) (by kernel_rfl) ?_
  clear HF; intro a HF
  rw [show IntKind.i64.wrap ((v.fsz : Nat) : Int) = ((v.fsz : Nat) : Int) from IntWalk.i64_in _ (by omega)] at HF
  refine plan_forceS rfl ?_
  refine wp_call HF (by kernel_rfl) 92 #[.iface 178 (.slice (some ⟨b, o, none⟩) n c), i6_ v.off, i6_ v.fsz] (by kernel_rfl) (fun w => by kernel_rfl) (Calls.mono (newSR_any 178 (.slice (some ⟨b, o, none⟩) n c) ((v.off : Nat) : Int) ((v.fsz : Nat) : Int) (by omega) (by omega) (by omega) w13) ?_)
  rintro _ w14 ⟨sb, rfl, hb, hge, hgn⟩
  replace HM : Mm [fb, sg_, nm_, sd] W1 w14 [nf_S_w_B3 sb b o n c v, (z10, .cells #[u3_ v.name] 36 (0, 0)), nf_S_w_B26 z5 v, nf_S_w_B0 fb dat abi abiv big tyN machN entryN sg_ i shnumN pg phnumN, (sg_, .cells cur 133 (0, 0)), (nm_, .cells nms' 36 (0, 0)), (sd, .cells (X.map Bv).toArray 5 (0, 0))] := HM.push hb hge hgn
  clear hb hge hgn
  refine ⟨_, rfl, ?_⟩; clear HF; intro a HF; replace HF := HF.sub ((nf_S_w_S27 b o n c s fb big phoffN phnumN shoffN shnumN sd i z5 nm_) ++ [(1066, i6_ v.off), (1072, i6_ v.fsz), (1073, pt_ sb)]) (by kernel_rfl)
  refine only_endS ⟨HM.cellAt (i := 2) (k := 4) rfl rfl, HM.cellAt (i := 2) (k := 10) rfl rfl⟩ ?_
  refine plan_symS (LS := []) (fun _ _ => told_nil _) HF ⟨HM.cellAt (i := 2) (k := 4) rfl rfl, HM.cellAt (i := 2) (k := 10) rfl rfl⟩ 2 [] ((nf_S_w_S6 b o n c s fb big phoffN phnumN shoffN shnumN sd i z5 nm_) ++ [(1073, pt_ sb), (1075, .pointer (some ⟨z5, 12, none⟩))]) (by kernel_rfl) ?_
  clear HF; intro a HF
  refine plan_forceS rfl ?_
  refine wp_sym HF HM rfl 1 [[4]] (nf_S_w_S6 b o n c s fb big phoffN phnumN shoffN shnumN sd i z5 nm_) [nf_S_w_B3 sb b o n c v, (z10, .cells #[u3_ v.name] 36 (0, 0)), nf_S_w_B28 z5 v sb, nf_S_w_B0 fb dat abi abiv big tyN machN entryN sg_ i shnumN pg phnumN, (sg_, .cells cur 133 (0, 0)), (nm_, .cells nms' 36 (0, 0)), (sd, .cells (X.map Bv).toArray 5 (0, 0))] (by kernel_rfl) ?_
  clear HF HM; intro a w HF HM
  refine only_endS ⟨HM.cellAt (i := 2) (k := 4) rfl rfl, HM.cellAt (i := 2) (k := 10) rfl rfl⟩ ?_
  refine plan_endS (then_norm ?_)
  refine wp_seq ?_
  refine wp_seq (wp_region_lit ?_)
  refine wp_sym HF HM rfl 7 [[4]] [(0, .iface 178 (.slice (some ⟨b, o, none⟩) n c)), (4, pt_ s), (8, pt_ fb), (9, (boV big)), (10, i6_ phoffN), (11, iI_ 56), (12, i6_ phnumN), (13, i6_ shoffN), (14, iI_ 64), (15, i6_ shnumN), (16, i6_ (shnumN - 1)), (26, iI_ 64), (42, sl_ sd (shnumN * 64) (shnumN * 64)), (43, i6_ i), (44, u6_ (i * 64)), (45, pt_ z5), (41, sl_ nm_ (i + 1) shnumN), (1082, .bool (and32 ((v.flags : Nat) : Int) 2048 == 0))] [nf_S_w_B3 sb b o n c v, (z10, .cells #[u3_ v.name] 36 (0, 0)), nf_S_w_B28 z5 v sb, nf_S_w_B0 fb dat abi abiv big tyN machN entryN sg_ i shnumN pg phnumN, (sg_, .cells cur 133 (0, 0)), (nm_, .cells nms' 36 (0, 0)), (sd, .cells (X.map Bv).toArray 5 (0, 0))] (by kernel_rfl) ?_
  clear HF HM; intro a w HF HM
  rw [v9] at HF
  refine nil_then ?_
  refine wp_condT HF rfl ?_
  replace HF := HF.sub (nf_S_w_S6 b o n c s fb big phoffN phnumN shoffN shnumN sd i z5 nm_) (by kernel_rfl)
  refine reg_sym HF HM rfl [[4], [4]] (nf_S_w_S6 b o n c s fb big phoffN phnumN shoffN shnumN sd i z5 nm_) [nf_S_w_B3 sb b o n c v, (z10, .cells #[u3_ v.name] 36 (0, 0)), (z5, .cells #[.string ⟨#[]⟩, u3_ (v).ty, u3_ (v).flags, u6_ (v).addr, u6_ (v).off, iL_ 0, u3_ (v).link, u3_ (v).info, u6_ (v).align, u6_ (v).ent, u6_ (v).fsz, .iface 144 (pt_ sb), pt_ sb, iI_ 0, iI_ 0] 153 (0, 0)), nf_S_w_B0 fb dat abi abiv big tyN machN entryN sg_ i shnumN pg phnumN, (sg_, .cells cur 133 (0, 0)), (nm_, .cells nms' 36 (0, 0)), (sd, .cells (X.map Bv).toArray 5 (0, 0))] (by kernel_rfl) ?_
  clear HF HM; intro a w HF HM
  refine reg_sym1 HF HM rfl [[4], [4]] (nf_S_w_S6 b o n c s fb big phoffN phnumN shoffN shnumN sd i z5 nm_) [nf_S_w_B3 sb b o n c v, (z10, .cells #[u3_ v.name] 36 (0, 0)), nf_S_w_B29 z5 v sb, nf_S_w_B0 fb dat abi abiv big tyN machN entryN sg_ i shnumN pg phnumN, (sg_, .cells cur 133 (0, 0)), (nm_, .cells nms' 36 (0, 0)), (sd, .cells (X.map Bv).toArray 5 (0, 0))] (by kernel_rfl) ?_
  clear HF HM; intro a w HF HM
  repeat (first | refine then_norm ?_ | refine inb_norm ?_)
  refine wp_region_lit ?_
  obtain ⟨z21, hz21⟩ : ∃ z, w.heap.size = z := ⟨_, rfl⟩
  refine wp_sym HF HM hz21 7 [[3]] ((nf_S_w_S6 b o n c s fb big phoffN phnumN shoffN shnumN sd i z5 nm_) ++ [(1191, pt_ fb), (1195, sl_ sg_ i shnumN), (1197, sl_ z21 1 1)]) [(z21, .cells #[pt_ z5] 133 (0, 0)), nf_S_w_B3 sb b o n c v, (z10, .cells #[u3_ v.name] 36 (0, 0)), nf_S_w_B29 z5 v sb, nf_S_w_B0 fb dat abi abiv big tyN machN entryN sg_ i shnumN pg phnumN, (sg_, .cells cur 133 (0, 0)), (nm_, .cells nms' 36 (0, 0)), (sd, .cells (X.map Bv).toArray 5 (0, 0))] (by kernel_rfl) ?_
  clear HF HM hz21; intro a w HF HM
  refine wp_append_in HF HM rfl _ _ 126 rfl rfl 133 (.pointer none) 8 Tryd.underlying126 info_ss 5 0 sg_ _ i shnumN cur _ _ rfl hcs (by omega) (by unfold maxLen; omega) rfl rfl rfl rfl ?_
  intro a2 w15 cur' hcs' htk HM2 HF2; clear HF HM; have HM : Mm [fb, sg_, nm_, sd] W1 w15 [(z21, .cells #[pt_ z5] 133 (0, 0)), nf_S_w_B3 sb b o n c v, (z10, .cells #[u3_ v.name] 36 (0, 0)), nf_S_w_B29 z5 v sb, nf_S_w_B0 fb dat abi abiv big tyN machN entryN sg_ i shnumN pg phnumN, (sg_, .cells cur' 133 (0, 0)), (nm_, .cells nms' 36 (0, 0)), (sd, .cells (X.map Bv).toArray 5 (0, 0))] := HM2; have HF := HF2; clear HM2 HF2
  replace HF := HF.sub ((nf_S_w_S6 b o n c s fb big phoffN phnumN shoffN shnumN sd i z5 nm_) ++ [(1191, pt_ fb), (1198, sl_ sg_ (i + 1) shnumN)]) (by kernel_rfl)
  refine wp_sym HF HM rfl 3 [[3]] (nf_S_w_S6 b o n c s fb big phoffN phnumN shoffN shnumN sd i z5 nm_) [(z21, .cells #[pt_ z5] 133 (0, 0)), nf_S_w_B3 sb b o n c v, (z10, .cells #[u3_ v.name] 36 (0, 0)), nf_S_w_B29 z5 v sb, nf_S_w_B2 fb dat abi abiv big tyN machN entryN sg_ i shnumN pg phnumN, (sg_, .cells cur' 133 (0, 0)), (nm_, .cells nms' 36 (0, 0)), (sd, .cells (X.map Bv).toArray 5 (0, 0))] (by kernel_rfl) ?_
  clear HF HM; intro a w HF HM
  refine wpList_nil ?_
  repeat (first | refine then_norm ?_ | refine inb_norm ?_)
  refine wp_region_lit ?_
  refine wp_sym HF HM rfl 2 [] ((nf_S_w_S6 b o n c s fb big phoffN phnumN shoffN shnumN sd i z5 nm_) ++ [(861, iI_ (IntKind.i64.wrap (((i : Nat) : Int) + 1)))]) [(z21, .cells #[pt_ z5] 133 (0, 0)), nf_S_w_B3 sb b o n c v, (z10, .cells #[u3_ v.name] 36 (0, 0)), nf_S_w_B29 z5 v sb, nf_S_w_B2 fb dat abi abiv big tyN machN entryN sg_ i shnumN pg phnumN, (sg_, .cells cur' 133 (0, 0)), (nm_, .cells nms' 36 (0, 0)), (sd, .cells (X.map Bv).toArray 5 (0, 0))] (by kernel_rfl) ?_
  clear HF HM; intro a w HF HM
  rw [show IntKind.i64.wrap (((i : Nat) : Int) + 1) = (((i + 1) : Nat) : Int) from (IntWalk.i64_in _ (by omega)).trans (by omega)] at HF
  refine wp_sym HF HM rfl 1 [] ((nf_S_w_S4 b o n c s fb big phoffN phnumN shoffN shnumN) ++ [(42, sl_ sd (shnumN * 64) (shnumN * 64)), (44, u6_ (i * 64)), (45, pt_ z5), (41, sl_ nm_ (i + 1) shnumN), (43, i6_ (i + 1))]) [(z21, .cells #[pt_ z5] 133 (0, 0)), nf_S_w_B3 sb b o n c v, (z10, .cells #[u3_ v.name] 36 (0, 0)), nf_S_w_B29 z5 v sb, nf_S_w_B2 fb dat abi abiv big tyN machN entryN sg_ i shnumN pg phnumN, (sg_, .cells cur' 133 (0, 0)), (nm_, .cells nms' 36 (0, 0)), (sd, .cells (X.map Bv).toArray 5 (0, 0))] (by kernel_rfl) ?_
  clear HF HM; intro a w HF HM
  refine wpList_nil ?_
  repeat (first | refine then_norm ?_ | refine inb_norm ?_)
  replace HF := HF.sub ((nf_S_w_S4 b o n c s fb big phoffN phnumN shoffN shnumN) ++ [(41, sl_ nm_ (i + 1) shnumN), (42, sl_ sd (shnumN * 64) (shnumN * 64)), (43, i6_ (i + 1))]) (by kernel_rfl)
  exact K a w z5 sb cur' nms' hcs' hns' htk htn HF (HM.sub (List.Sublist.cons _ (List.Sublist.cons_cons _ (List.Sublist.cons _ (List.Sublist.refl _)))))

end Go.Proofs.YtdgehpocmfjbiaaDoor
