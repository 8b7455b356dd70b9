/- Numbers laid behind each other are read again at their places: the headers of a file, of segments and of sections. -/
import Derived.Test.YtlgigipjgahecaaImg
namespace Go.Proofs.Ytlgigipjgahecaa
open Go.RowKit
set_option linter.unusedVariables false

/-- the number of k bytes at a place of l -/
def num (big : Bool) (l : List UInt8) (off k : Nat) : Nat := numB big ((l.drop off).take k)
theorem num_drop (big : Bool) (l : List UInt8) (a off k : Nat) : num big (l.drop a) off k = num big l (a + off) k := by unfold num; rw [List.drop_drop]
theorem num_lt (big : Bool) (l : List UInt8) (off k : Nat) : num big l off k < 256 ^ k := by
  have h := numB_lt big ((l.drop off).take k)
  exact Nat.lt_of_lt_of_le h (Nat.pow_le_pow_right (by omega) (by simp; omega))

def fieldsB (big : Bool) (fs : List (Nat × Nat)) : List UInt8 := fs.flatMap fun f => fixedB f.1 f.2 big
def offB (fs : List (Nat × Nat)) (j : Nat) : Nat := ((fs.take j).map (·.2)).sum
theorem fieldsB_length (big : Bool) : ∀ fs : List (Nat × Nat), (fieldsB big fs).length = (fs.map (·.2)).sum
  | [] => rfl
  | f :: fs => by
    have := fieldsB_length big fs
    simp only [fieldsB] at this
    simp [fieldsB, fixedB_length, this]
theorem field_at (big : Bool) (fs : List (Nat × Nat)) (r : List UInt8) (j v k off : Nat) (h : fs[j]? = some (v, k)) (hv : v < 256 ^ k) (ho : off = offB fs j) : num big (fieldsB big fs ++ r) off k = v := by
  obtain ⟨hj, e⟩ := List.getElem?_eq_some_iff.1 h
  have e2 : fs = fs.take j ++ (fs[j] :: fs.drop (j + 1)) := by rw [← List.drop_eq_getElem_cons hj, List.take_append_drop]
  have e3 : fieldsB big fs ++ r = fieldsB big (fs.take j) ++ (fixedB v k big ++ (fieldsB big (fs.drop (j + 1)) ++ r)) := by
    have : fieldsB big fs = fieldsB big (fs.take j ++ (fs[j] :: fs.drop (j + 1))) := by rw [← e2]
    rw [this, e]
    simp [fieldsB]
  unfold num
  rw [e3, ho, mid_take _ _ _ _ _ (by rw [fieldsB_length]; rfl) (fixedB_length _ _ _), numB_fixed _ _ _ hv]
theorem field_behind (big : Bool) (p : List UInt8) (n : Nat) (hp : p.length = n) (fs : List (Nat × Nat)) (r : List UInt8) (j v k off : Nat) (h : fs[j]? = some (v, k)) (hv : v < 256 ^ k) (ho : off = n + offB fs j) : num big (p ++ (fieldsB big fs ++ r)) off k = v := by
  have := field_at big fs r j v k (offB fs j) h hv rfl
  rw [← this, ho]
  unfold num
  rw [← List.drop_drop, List.drop_left' hp]

def aSz (wide : Bool) : Nat := if wide then 8 else 4
theorem aSz_eq (wide : Bool) : szOf wide 0 = aSz wide := rfl

def segF (wide : Bool) (ty flags vaddr paddr memsz align n offset : Nat) : List (Nat × Nat) :=
  if wide then [(ty, 4), (flags, 4), (offset, 8), (vaddr, 8), (paddr, 8), (n, 8), (memsz, 8), (align, 8)] else [(ty, 4), (offset, 4), (vaddr, 4), (paddr, 4), (n, 4), (memsz, 4), (flags, 4), (align, 4)]
theorem segB_fields (wide big : Bool) (ty flags vaddr paddr memsz align n offset : Nat) : segB wide big ty flags vaddr paddr memsz align n offset = fieldsB big (segF wide ty flags vaddr paddr memsz align n offset) := by
  cases wide <;> simp [segB, segF, fieldsB, szOf]
def secF (wide : Bool) (name ty flags addr offset size link info align ent : Nat) : List (Nat × Nat) :=
  [(name, 4), (ty, 4), (flags, aSz wide), (addr, aSz wide), (offset, aSz wide), (size, aSz wide), (link, 4), (info, 4), (align, aSz wide), (ent, aSz wide)]
theorem secB_fields (wide big : Bool) (name ty flags addr offset size link info align ent : Nat) : secB wide big name ty flags addr offset size link info align ent = fieldsB big (secF wide name ty flags addr offset size link info align ent) := by
  cases wide <;> simp [secB, secF, fieldsB, szOf, aSz]
def headF (wide : Bool) (ty machine entry n at_ m from_ : Nat) : List (Nat × Nat) :=
  [(ty, 2), (machine, 2), (1, 4), (entry, aSz wide), (at_, aSz wide), (from_, aSz wide), (0, 4), (hSize wide, 2), (pSize wide, 2), (n, 2), (sSize wide, 2), (m, 2), (m - 1, 2)]
def identB (wide big : Bool) (abi abiv : Nat) : List UInt8 := [127, 69, 76, 70, if wide then 2 else 1, if big then 2 else 1, 1, UInt8.ofNat abi, UInt8.ofNat abiv, 0, 0, 0, 0, 0, 0, 0]
theorem headB_fields (wide big : Bool) (abi abiv ty machine entry n at_ m from_ : Nat) : headB wide big abi abiv ty machine entry n at_ m from_ = identB wide big abi abiv ++ fieldsB big (headF wide ty machine entry n at_ m from_) := by
  cases wide <;> simp [headB, headF, identB, fieldsB, szOf, aSz]

/-- what the head of a file tells -/
structure HeadOk (l : List UInt8) (wide big : Bool) (abi abiv tyN machN entryN phoffN phnumN shoffN shnumN : Nat) : Prop where
  len : hSize wide ≤ l.length
  id : ∃ r, l = identB wide big abi abiv ++ r
  ty : num big l 16 2 = tyN
  machine : num big l 18 2 = machN
  ver : num big l 20 4 = 1
  entry : num big l 24 (aSz wide) = entryN
  phoff : num big l (24 + aSz wide) (aSz wide) = phoffN
  shoff : num big l (24 + 2 * aSz wide) (aSz wide) = shoffN
  phent : num big l (30 + 3 * aSz wide) 2 = pSize wide
  phnum : num big l (32 + 3 * aSz wide) 2 = phnumN
  shent : num big l (34 + 3 * aSz wide) 2 = sSize wide
  shnum : num big l (36 + 3 * aSz wide) 2 = shnumN
  shstr : num big l (38 + 3 * aSz wide) 2 = shnumN - 1
theorem head_ok (wide big : Bool) (abi abiv ty machine entry n at_ m from_ : Nat) (r : List UInt8) (h1 : ty < 65536) (h2 : machine < 65536) (h3 : entry < 256 ^ aSz wide) (h4 : at_ < 256 ^ aSz wide) (h5 : from_ < 256 ^ aSz wide) (h6 : n < 65536) (h7 : m < 65536) :
    HeadOk (headB wide big abi abiv ty machine entry n at_ m from_ ++ r) wide big abi abiv ty machine entry at_ n from_ m := by
  rw [headB_fields, List.append_assoc]
  have k := fun j v s off h hv ho => field_behind big (identB wide big abi abiv) 16 rfl (headF wide ty machine entry n at_ m from_) r j v s off h hv ho
  have p2 : (256 : Nat) ^ 2 = 65536 := rfl
  have p4 : (256 : Nat) ^ 4 = 4294967296 := rfl
  refine ⟨?_, ⟨_, rfl⟩, ?_, ?_, ?_, ?_, ?_, ?_, ?_, ?_, ?_, ?_, ?_⟩
  · rw [List.length_append, List.length_append, fieldsB_length]
    cases wide <;> simp [identB, headF, hSize, aSz] <;> omega
  · exact k 0 _ _ _ rfl (by omega) rfl
  · exact k 1 _ _ _ rfl (by omega) rfl
  · exact k 2 _ _ _ rfl (by omega) rfl
  · exact k 3 _ _ _ rfl h3 rfl
  · exact k 4 _ _ _ rfl h4 (by cases wide <;> rfl)
  · exact k 5 _ _ _ rfl h5 (by cases wide <;> rfl)
  · exact k 8 _ _ _ rfl (by cases wide <;> decide) (by cases wide <;> rfl)
  · exact k 9 _ _ _ rfl (by omega) (by cases wide <;> rfl)
  · exact k 10 _ _ _ rfl (by cases wide <;> decide) (by cases wide <;> rfl)
  · exact k 11 _ _ _ rfl (by omega) (by cases wide <;> rfl)
  · exact k 12 _ _ _ rfl (by omega) (by cases wide <;> rfl)

/-- what the row of a segment tells -/
structure SegOk (l : List UInt8) (wide big : Bool) (ty flags vaddr paddr memsz align n offset : Nat) : Prop where
  ty : num big l 0 4 = ty
  flags : num big l (if wide then 4 else 24) 4 = flags
  off : num big l (aSz wide) (aSz wide) = offset
  vaddr : num big l (2 * aSz wide) (aSz wide) = vaddr
  paddr : num big l (3 * aSz wide) (aSz wide) = paddr
  filesz : num big l (4 * aSz wide) (aSz wide) = n
  memsz : num big l (5 * aSz wide) (aSz wide) = memsz
  align : num big l (if wide then 48 else 28) (aSz wide) = align
theorem seg_ok (wide big : Bool) (ty flags vaddr paddr memsz align n offset : Nat) (r : List UInt8) (h1 : ty < 4294967296) (h2 : flags < 4294967296) (h3 : vaddr < 256 ^ aSz wide) (h4 : paddr < 256 ^ aSz wide) (h5 : memsz < 256 ^ aSz wide) (h6 : align < 256 ^ aSz wide) (h7 : n < 256 ^ aSz wide) (h8 : offset < 256 ^ aSz wide) :
    SegOk (segB wide big ty flags vaddr paddr memsz align n offset ++ r) wide big ty flags vaddr paddr memsz align n offset := by
  rw [segB_fields]
  have k := fun j v s off h hv ho => field_at big (segF wide ty flags vaddr paddr memsz align n offset) r j v s off h hv ho
  have p4 : (256 : Nat) ^ 4 = 4294967296 := rfl
  cases wide
  · exact ⟨k 0 _ _ _ rfl (by omega) rfl, k 6 _ _ _ rfl (by omega) rfl, k 1 _ _ _ rfl h8 rfl, k 2 _ _ _ rfl h3 rfl, k 3 _ _ _ rfl h4 rfl, k 4 _ _ _ rfl h7 rfl, k 5 _ _ _ rfl h5 rfl, k 7 _ _ _ rfl h6 rfl⟩
  · exact ⟨k 0 _ _ _ rfl (by omega) rfl, k 1 _ _ _ rfl (by omega) rfl, k 2 _ _ _ rfl h8 rfl, k 3 _ _ _ rfl h3 rfl, k 4 _ _ _ rfl h4 rfl, k 5 _ _ _ rfl h7 rfl, k 6 _ _ _ rfl h5 rfl, k 7 _ _ _ rfl h6 rfl⟩

/-- what the row of a section tells -/
structure SecOk (l : List UInt8) (wide big : Bool) (name ty flags addr offset size link info align ent : Nat) : Prop where
  name : num big l 0 4 = name
  ty : num big l 4 4 = ty
  flags : num big l 8 (aSz wide) = flags
  addr : num big l (8 + aSz wide) (aSz wide) = addr
  off : num big l (8 + 2 * aSz wide) (aSz wide) = offset
  size : num big l (8 + 3 * aSz wide) (aSz wide) = size
  link : num big l (8 + 4 * aSz wide) 4 = link
  info : num big l (12 + 4 * aSz wide) 4 = info
  align : num big l (16 + 4 * aSz wide) (aSz wide) = align
  ent : num big l (16 + 5 * aSz wide) (aSz wide) = ent
theorem sec_ok (wide big : Bool) (name ty flags addr offset size link info align ent : Nat) (r : List UInt8) (h0 : name < 4294967296) (h1 : ty < 4294967296) (h2 : flags < 4294967296) (h3 : addr < 256 ^ aSz wide) (h4 : offset < 256 ^ aSz wide) (h5 : size < 256 ^ aSz wide) (h6 : link < 4294967296) (h7 : info < 4294967296) (h8 : align < 256 ^ aSz wide) (h9 : ent < 256 ^ aSz wide) :
    SecOk (secB wide big name ty flags addr offset size link info align ent ++ r) wide big name ty flags addr offset size link info align ent := by
  rw [secB_fields]
  have k := fun j v s off h hv ho => field_at big (secF wide name ty flags addr offset size link info align ent) r j v s off h hv ho
  have p4 : (256 : Nat) ^ 4 = 4294967296 := rfl
  have h2' : flags < 256 ^ aSz wide := by
    cases wide
    · exact h2
    · exact Nat.lt_trans h2 (by decide)
  refine ⟨k 0 _ _ _ rfl (by omega) rfl, k 1 _ _ _ rfl (by omega) rfl, k 2 _ _ _ rfl h2' rfl, k 3 _ _ _ rfl h3 ?_, k 4 _ _ _ rfl h4 ?_, k 5 _ _ _ rfl h5 ?_, k 6 _ _ _ rfl (by omega) ?_, k 7 _ _ _ rfl (by omega) ?_, k 8 _ _ _ rfl h8 ?_, k 9 _ _ _ rfl h9 ?_⟩ <;> (cases wide <;> rfl)
end Go.Proofs.Ytlgigipjgahecaa
