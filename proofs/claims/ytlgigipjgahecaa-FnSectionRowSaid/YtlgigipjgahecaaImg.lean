/- Files as plain lists of bytes: what spec.File lays out, and where each piece of it stands. -/
import Derived.Test.YtlgigipjgahecaaRead
import Derived.Test.YtlgigipjgahecaaSegRow
import Derived.Test.YtlgigipjgahecaaSecRow
namespace Go.Proofs.Ytlgigipjgahecaa
open Go.RowKit
set_option linter.unusedVariables false

structure Seg where
  ty : Nat
  flags : Nat
  vaddr : Nat
  paddr : Nat
  memsz : Nat
  align : Nat
  data : List UInt8

structure Part where
  name : List UInt8
  ty : Nat
  flags : Nat
  addr : Nat
  link : Nat
  info : Nat
  align : Nat
  ent : Nat
  size : Nat
  data : List UInt8

structure Img where
  wide : Bool
  big : Bool
  abi : Nat
  abiv : Nat
  ty : Nat
  machine : Nat
  entry : Nat
  segs : List Seg
  parts : List Part

/-- names, each with a zero behind it, behind a zero -/
def namesB (l : List (List UInt8)) : List UInt8 := 0 :: l.flatMap (· ++ [0])
/-- where name i begins -/
def nameAt (l : List (List UInt8)) (i : Nat) : Nat := (namesB (l.take i)).length
theorem namesB_snoc (l : List (List UInt8)) (s : List UInt8) : namesB (l ++ [s]) = namesB l ++ s ++ [0] := by simp [namesB]
theorem namesB_take (l : List (List UInt8)) (i : Nat) (h : i < l.length) : namesB (l.take (i + 1)) = namesB (l.take i) ++ l[i] ++ [0] := by
  rw [List.take_succ_eq_append_getElem h, namesB_snoc]
theorem namesB_split (l : List (List UInt8)) (i : Nat) (h : i < l.length) : ∃ r, namesB l = namesB (l.take i) ++ (l[i] ++ 0 :: r) := by
  refine ⟨(l.drop (i + 1)).flatMap (· ++ [0]), ?_⟩
  have e : l = l.take i ++ (l[i] :: l.drop (i + 1)) := by rw [← List.drop_eq_getElem_cons h, List.take_append_drop]
  have : namesB l = namesB (l.take i ++ (l[i] :: l.drop (i + 1))) := by rw [← e]
  rw [this]
  unfold namesB
  rw [List.flatMap_append, List.flatMap_cons, List.append_assoc, List.cons_append]
  rfl
/-- a name is read at its place -/
theorem names_read (l : List (List UInt8)) (i : Nat) (h : i < l.length) (h0 : 0 ∉ l[i]) : strAt (namesB l) (nameAt l i) = some l[i] := by
  obtain ⟨r, e⟩ := namesB_split l i h
  unfold strAt nameAt
  rw [e, List.drop_left, cutAt_of _ _ h0]
theorem nameAt_lt (l : List (List UInt8)) (i : Nat) (h : i < l.length) : nameAt l i < (namesB l).length := by
  obtain ⟨r, e⟩ := namesB_split l i h
  unfold nameAt
  rw [e]
  simp only [List.length_append, List.length_cons]
  omega

def nonePart : Part := ⟨[], 0, 0, 0, 0, 0, 0, 0, 0, []⟩
/-- '.shstrtab' -/
def shstr : List UInt8 := [46, 115, 104, 115, 116, 114, 116, 97, 98]
def Img.firsts (x : Img) : List Part := nonePart :: x.parts
def Img.names (x : Img) : List (List UInt8) := x.firsts.map (·.name) ++ [shstr]
def Img.strPart (x : Img) : Part := ⟨shstr, 3, 0, 0, 0, 0, 1, 0, 0, namesB x.names⟩
/-- the sections of a file -/
def Img.all (x : Img) : List Part := x.firsts ++ [x.strPart]
def fileData (p : Part) : List UInt8 := if p.ty = 8 then [] else p.data
def partSize (p : Part) : Nat := sizeB p.ty p.size p.data.length
def hSize (wide : Bool) : Nat := if wide then 64 else 52
def pSize (wide : Bool) : Nat := if wide then 56 else 32
def sSize (wide : Bool) : Nat := if wide then 64 else 40
def Img.at0 (x : Img) : Nat := hSize x.wide + pSize x.wide * x.segs.length
def Img.segBody (x : Img) : List UInt8 := x.segs.flatMap (·.data)
def Img.secBody (x : Img) : List UInt8 := x.all.flatMap fileData
def Img.segPlace (x : Img) (i : Nat) : Nat := x.at0 + ((x.segs.take i).flatMap (·.data)).length
def Img.secPlace (x : Img) (i : Nat) : Nat := if i = 0 then 0 else x.at0 + x.segBody.length + ((x.all.take i).flatMap fileData).length
def Img.shoff (x : Img) : Nat := x.at0 + (x.segBody ++ x.secBody).length
/-- where a section's name begins (that of the none section: 0) -/
def Img.namePlace (x : Img) (i : Nat) : Nat := if i = 0 then 0 else nameAt x.names i
def Img.segRow (x : Img) (i : Nat) (s : Seg) : List UInt8 := segB x.wide x.big s.ty s.flags s.vaddr s.paddr s.memsz s.align s.data.length (x.segPlace i)
def Img.secRow (x : Img) (i : Nat) (p : Part) : List UInt8 := secB x.wide x.big (x.namePlace i) p.ty p.flags p.addr (x.secPlace i) (partSize p) p.link p.info p.align p.ent
/-- rows, laid behind each other, each with its number -/
def rowsFrom {α : Type} (f : Nat → α → List UInt8) : Nat → List α → List UInt8
  | _, [] => []
  | i, a :: l => f i a ++ rowsFrom f (i + 1) l
theorem rowsFrom_append {α : Type} (f : Nat → α → List UInt8) : ∀ (i : Nat) (a b : List α), rowsFrom f i (a ++ b) = rowsFrom f i a ++ rowsFrom f (i + a.length) b
  | i, [], b => by simp [rowsFrom]
  | i, x :: a, b => by
    simp only [List.cons_append, rowsFrom, rowsFrom_append f (i + 1) a b, List.append_assoc, List.length_cons]
    rw [show i + 1 + a.length = i + (a.length + 1) by omega]
theorem rowsFrom_take {α : Type} (f : Nat → α → List UInt8) (l : List α) (i : Nat) (h : i < l.length) : rowsFrom f 0 (l.take (i + 1)) = rowsFrom f 0 (l.take i) ++ f i l[i] := by
  rw [List.take_succ_eq_append_getElem h, rowsFrom_append]
  have : 0 + (l.take i).length = i := by simp; omega
  rw [this]
  simp [rowsFrom]
theorem rowsFrom_length {α : Type} (f : Nat → α → List UInt8) (k : Nat) : ∀ (l : List α) (i : Nat), (∀ j a, a ∈ l → (f j a).length = k) → (rowsFrom f i l).length = l.length * k
  | [], i, _ => by simp [rowsFrom]
  | x :: l, i, h => by
    simp only [rowsFrom, List.length_append, List.length_cons]
    rw [h i x (by simp), rowsFrom_length f k l (i + 1) fun j a ha => h j a (by simp [ha]), Nat.succ_mul, Nat.add_comm]
/-- row i, out of rows of one length -/
theorem rowsFrom_drop {α : Type} (f : Nat → α → List UInt8) (k : Nat) (l : List α) (h : ∀ j a, a ∈ l → (f j a).length = k) (i : Nat) (hi : i < l.length) : ∃ r, (rowsFrom f 0 l).drop (i * k) = f i l[i] ++ r := by
  have e : l = l.take i ++ (l[i] :: l.drop (i + 1)) := by rw [← List.drop_eq_getElem_cons hi, List.take_append_drop]
  have h1 : rowsFrom f 0 l = rowsFrom f 0 (l.take i) ++ (f i l[i] ++ rowsFrom f (i + 1) (l.drop (i + 1))) := by
    have : rowsFrom f 0 l = rowsFrom f 0 (l.take i ++ (l[i] :: l.drop (i + 1))) := by rw [← e]
    rw [this, rowsFrom_append]
    have : 0 + (l.take i).length = i := by simp; omega
    rw [this]
    rfl
  have h2 : (rowsFrom f 0 (l.take i)).length = i * k := by
    rw [rowsFrom_length f k _ 0 fun j a ha => h j a (List.mem_of_mem_take ha)]
    congr 1
    simp; omega
  exact ⟨_, by rw [h1, List.drop_left' h2]⟩

def headB (wide big : Bool) (abi abiv ty machine entry n at_ m from_ : Nat) : List UInt8 :=
  [127, 69, 76, 70, if wide then 2 else 1, if big then 2 else 1, 1, UInt8.ofNat abi, UInt8.ofNat abiv] ++ List.replicate 7 0 ++
  fixedB ty 2 big ++ fixedB machine 2 big ++ fixedB 1 4 big ++ fixedB entry (szOf wide 0) big ++ fixedB at_ (szOf wide 0) big ++ fixedB from_ (szOf wide 0) big ++ fixedB 0 4 big ++
  fixedB (hSize wide) 2 big ++ fixedB (pSize wide) 2 big ++ fixedB n 2 big ++ fixedB (sSize wide) 2 big ++ fixedB m 2 big ++ fixedB (m - 1) 2 big
def Img.head (x : Img) : List UInt8 := headB x.wide x.big x.abi x.abiv x.ty x.machine x.entry x.segs.length (hSize x.wide) x.all.length x.shoff
/-- the bytes of a file -/
def Img.file (x : Img) : List UInt8 := x.head ++ rowsFrom x.segRow 0 x.segs ++ (x.segBody ++ x.secBody) ++ rowsFrom x.secRow 0 x.all

theorem headB_length (wide big : Bool) (abi abiv ty machine entry n at_ m from_ : Nat) : (headB wide big abi abiv ty machine entry n at_ m from_).length = hSize wide := by
  cases wide <;> simp [headB, fixedB_length, szOf, hSize]
theorem segB_length (wide big : Bool) (ty flags vaddr paddr memsz align n offset : Nat) : (segB wide big ty flags vaddr paddr memsz align n offset).length = pSize wide := by
  cases wide <;> simp [segB, fixedB_length, szOf, pSize]
theorem secB_length (wide big : Bool) (name ty flags addr offset size link info align ent : Nat) : (secB wide big name ty flags addr offset size link info align ent).length = sSize wide := by
  cases wide <;> simp [secB, fixedB_length, szOf, sSize]
theorem Img.segRows_length (x : Img) : (rowsFrom x.segRow 0 x.segs).length = pSize x.wide * x.segs.length := by
  rw [rowsFrom_length x.segRow (pSize x.wide) _ _ fun j a _ => segB_length .., Nat.mul_comm]
theorem Img.secRows_length (x : Img) : (rowsFrom x.secRow 0 x.all).length = x.all.length * sSize x.wide :=
  rowsFrom_length x.secRow (sSize x.wide) _ _ fun j a _ => secB_length ..
theorem Img.file_length (x : Img) : x.file.length = x.shoff + x.all.length * sSize x.wide := by
  unfold Img.file Img.shoff Img.at0
  simp only [List.length_append, Img.segRows_length, Img.secRows_length]
  rw [show x.head.length = hSize x.wide from headB_length ..]
theorem Img.drop_head (x : Img) : x.file.drop (hSize x.wide) = rowsFrom x.segRow 0 x.segs ++ ((x.segBody ++ x.secBody) ++ rowsFrom x.secRow 0 x.all) := by
  have e : x.file = x.head ++ (rowsFrom x.segRow 0 x.segs ++ ((x.segBody ++ x.secBody) ++ rowsFrom x.secRow 0 x.all)) := by simp [Img.file]
  rw [e, List.drop_left' (show x.head.length = hSize x.wide from headB_length ..)]
theorem Img.drop_at0 (x : Img) : x.file.drop x.at0 = (x.segBody ++ x.secBody) ++ rowsFrom x.secRow 0 x.all := by
  have e : x.file = (x.head ++ rowsFrom x.segRow 0 x.segs) ++ ((x.segBody ++ x.secBody) ++ rowsFrom x.secRow 0 x.all) := by simp [Img.file]
  rw [e, List.drop_left']
  rw [List.length_append, Img.segRows_length]
  exact congrArg (· + _) (headB_length ..)
theorem Img.drop_shoff (x : Img) : x.file.drop x.shoff = rowsFrom x.secRow 0 x.all := by
  have e : x.file = (x.head ++ rowsFrom x.segRow 0 x.segs ++ (x.segBody ++ x.secBody)) ++ rowsFrom x.secRow 0 x.all := by simp [Img.file]
  rw [e, List.drop_left']
  unfold Img.shoff Img.at0
  rw [List.length_append, List.length_append, Img.segRows_length]
  exact congrArg (· + _ + _) (headB_length ..)
theorem Img.take_head (x : Img) : ∃ r, x.file = x.head ++ r := ⟨_, by unfold Img.file; rw [List.append_assoc, List.append_assoc]⟩

/-- the row of segment i -/
theorem Img.segRow_at (x : Img) (i : Nat) (h : i < x.segs.length) : ∃ r, x.file.drop (hSize x.wide + i * pSize x.wide) = x.segRow i x.segs[i] ++ r := by
  obtain ⟨r, e⟩ := rowsFrom_drop x.segRow (pSize x.wide) x.segs (fun j a _ => segB_length ..) i h
  rw [← List.drop_drop, Img.drop_head, List.drop_append_of_le_length, e, List.append_assoc]
  · exact ⟨_, rfl⟩
  · rw [Img.segRows_length, Nat.mul_comm]
    exact Nat.mul_le_mul_left _ (Nat.le_of_lt h)
/-- the row of section i -/
theorem Img.secRow_at (x : Img) (i : Nat) (h : i < x.all.length) : ∃ r, x.file.drop (x.shoff + i * sSize x.wide) = x.secRow i x.all[i] ++ r := by
  obtain ⟨r, e⟩ := rowsFrom_drop x.secRow (sSize x.wide) x.all (fun j a _ => secB_length ..) i h
  rw [← List.drop_drop, Img.drop_shoff, e]
  exact ⟨r, rfl⟩
theorem flat_at {α : Type} (f : α → List UInt8) (l : List α) (i : Nat) (h : i < l.length) : ∃ r, (l.flatMap f).drop ((l.take i).flatMap f).length = f l[i] ++ r := by
  have e : l = l.take i ++ (l[i] :: l.drop (i + 1)) := by rw [← List.drop_eq_getElem_cons h, List.take_append_drop]
  have : l.flatMap f = (l.take i).flatMap f ++ (f l[i] ++ (l.drop (i + 1)).flatMap f) := by
    have : l.flatMap f = (l.take i ++ (l[i] :: l.drop (i + 1))).flatMap f := by rw [← e]
    rw [this, List.flatMap_append, List.flatMap_cons]
  exact ⟨_, by rw [this, List.drop_left]⟩
theorem flat_le {α : Type} (f : α → List UInt8) (l : List α) (i : Nat) : ((l.take i).flatMap f).length ≤ (l.flatMap f).length := by
  have : l.flatMap f = (l.take i).flatMap f ++ (l.drop i).flatMap f := by rw [← List.flatMap_append, List.take_append_drop]
  rw [this]; simp
/-- the bytes of segment i -/
theorem Img.seg_at (x : Img) (i : Nat) (h : i < x.segs.length) : ∃ r, x.file.drop (x.segPlace i) = x.segs[i].data ++ r := by
  obtain ⟨r, e⟩ := flat_at (·.data) x.segs i h
  have h1 : x.segBody.drop ((x.segs.take i).flatMap (·.data)).length = x.segs[i].data ++ r := e
  unfold Img.segPlace
  rw [← List.drop_drop, Img.drop_at0, List.append_assoc, List.drop_append_of_le_length (show _ ≤ x.segBody.length from flat_le _ _ _), h1, List.append_assoc]
  exact ⟨_, rfl⟩
/-- the bytes of section i -/
theorem Img.sec_at (x : Img) (i : Nat) (hi : 0 < i) (h : i < x.all.length) : ∃ r, x.file.drop (x.secPlace i) = fileData x.all[i] ++ r := by
  obtain ⟨r, e⟩ := flat_at fileData x.all i h
  have h1 : x.secBody.drop ((x.all.take i).flatMap fileData).length = fileData x.all[i] ++ r := e
  unfold Img.secPlace
  rw [if_neg (by omega), ← List.drop_drop, ← List.drop_drop, Img.drop_at0, List.append_assoc, List.drop_left, List.drop_append_of_le_length (show _ ≤ x.secBody.length from flat_le _ _ _), h1, List.append_assoc]
  exact ⟨_, rfl⟩
end Go.Proofs.Ytlgigipjgahecaa
