/-
  Several texts in one: Pure, Gr.
-/
import Derived.Test.YtohjnegllfdemaaDoorRows
import Derived.WalkKit
import Derived.WalkSpells
import Derived.WalkLawsBesides
import Derived.Lib.Strings
set_option maxRecDepth 100000
namespace Go.Proofs.YtohjnegllfdemaaDoor
open Go.RowKit

/-!
  Plain functions on lists of bytes: the scanners of structured field values. Each gives what is left of the text behind the piece that it reads, or nothing. No program stands in this text.
-/
/-- A list of bytes. -/
abbrev Bs := List UInt8

def lowB (n : Nat) : Bool := decide (97 ≤ n) && decide (n ≤ 122)
def uppB (n : Nat) : Bool := decide (65 ≤ n) && decide (n ≤ 90)
def digB (n : Nat) : Bool := decide (48 ≤ n) && decide (n ≤ 57)
def alpB (n : Nat) : Bool := lowB n || uppB n
/-- A visible byte or a blank. -/
def visB (n : Nat) : Bool := decide (32 ≤ n) && decide (n ≤ 126)
def vchB (n : Nat) : Bool := decide (33 ≤ n) && decide (n ≤ 126)
def spB (n : Nat) : Bool := n == 32
/-- A blank or a tab. -/
def wsB (n : Nat) : Bool := n == 32 || n == 9
def amongB (n : Nat) (l : Bs) : Bool := l.any fun c => c.toNat == n
def tokMarks : Bs := [33, 35, 36, 37, 38, 39, 42, 43, 45, 46, 94, 95, 96, 124, 126]
def tokB (n : Nat) : Bool := alpB n || digB n || amongB n tokMarks
def tokB2 (n : Nat) : Bool := tokB n || amongB n [58, 47]
def b64Marks : Bs := [43, 47, 61]
def b64B (n : Nat) : Bool := alpB n || digB n || amongB n b64Marks
def keyMarks : Bs := [95, 45, 46, 42]
def keyB (n : Nat) : Bool := lowB n || digB n || amongB n keyMarks
def hexB (n : Nat) : Bool := digB n || (decide (97 ≤ n) && decide (n ≤ 102))
def hexV (n : Nat) : Nat := if digB n then n - 48 else n - 87

/-- Without the bytes at its head that have a mark. -/
def skip (p : Nat → Bool) : Bs → Bs
  | [] => []
  | c :: r => if p c.toNat then skip p r else c :: r

/-- A string behind its opening quote. -/
def strT : Bs → Option Bs
  | [] => none
  | c :: r =>
    if c = 92 then
      match r with
      | [] => none
      | d :: r' => if d = 34 ∨ d = 92 then strT r' else none
    else if c = 34 then some r
    else if visB c.toNat then strT r else none
def str : Bs → Option Bs
  | [] => none
  | c :: r => if c = 34 then strT r else none

def tok : Bs → Option Bs
  | [] => none
  | c :: r => if alpB c.toNat || c.toNat == 42 then some (skip tokB2 (c :: r)) else none

def key : Bs → Option Bs
  | [] => none
  | c :: r => if lowB c.toNat || c.toNat == 42 then some (skip keyB (c :: r)) else none

/-- A byte sequence behind its opening colon. -/
def bytT : Bs → Option Bs
  | [] => none
  | c :: r => if c = 58 then some r else if b64B c.toNat then bytT r else none
def byt : Bs → Option Bs
  | [] => none
  | c :: r => if c = 58 then bytT r else none

def boo : Bs → Option Bs
  | c :: d :: r => if c = 63 ∧ (d = 48 ∨ d = 49) then some r else none
  | _ => none

/-- A number: the digits behind its point (m of them so far), the digits ahead of it (n so far). -/
def num2 (m : Nat) : Bs → Option (Bool × Bs)
  | [] => if m = 0 ∨ 3 < m then none else some (true, [])
  | c :: r => if digB c.toNat then num2 (m + 1) r else if m = 0 ∨ 3 < m then none else some (true, c :: r)
def num1 (n : Nat) : Bs → Option (Bool × Bs)
  | [] => if n = 0 ∨ 15 < n then none else some (false, [])
  | c :: r =>
    if digB c.toNat then num1 (n + 1) r
    else if c = 46 ∧ 0 < n then if 12 < n then none else num2 0 r
    else if n = 0 ∨ 15 < n then none else some (false, c :: r)
def num : Bs → Option (Bool × Bs)
  | [] => none
  | c :: r => if c = 45 then num1 0 r else num1 0 (c :: r)

def dat : Bs → Option Bs
  | [] => none
  | c :: r =>
    if c = 64 then
      match num r with
      | some (false, r') => some r'
      | _ => none
    else none

/-- A display string behind its opening: its decoded bytes, and what is left. -/
def dspT : Bs → Option (Bs × Bs)
  | [] => none
  | c :: r =>
    if visB c.toNat then
      if c = 34 then some ([], r)
      else if c = 37 then
        match r with
        | a :: b :: r' => if hexB a.toNat && hexB b.toNat then (dspT r').map fun x => (UInt8.ofNat (hexV a.toNat * 16 + hexV b.toNat) :: x.1, x.2) else none
        | _ => none
      else (dspT r).map fun x => (c :: x.1, x.2)
    else none

/-!
  Small words for the walks: results, worlds that have only grown, strings by their lists of bytes.
-/
theorem ret_bool {a b : Bool} (h : a = b) : Ending.returned (.bool a) = .returned (.bool b) := by rw [h]
theorem ret_bool2 {a b c d : Bool} (h : a = b) (k : c = d) : Ending.returned (.tuple #[.bool a, .bool c]) = .returned (.tuple #[.bool b, .bool d]) := by rw [h, k]
theorem hid {p : Prop} (h : p) : Hid p := h

/-- The bytes of a string. -/
def bl (s : ByteArray) : Bs := s.data.toList
theorem bl_length (s : ByteArray) : (bl s).length = s.size := by simp [bl]
theorem bl_extract (s : ByteArray) (a b : Nat) : bl (s.extract a b) = ((bl s).drop a).take (b - a) := Lib.extract_data s a b
theorem bl_toList (s : ByteArray) : s.toList = bl s := Lib.toList_data s
theorem bl_from (s : ByteArray) (a : Nat) : bl (s.extract a s.size) = (bl s).drop a := by
  rw [bl_extract, List.take_of_length_le]
  rw [List.length_drop, bl_length]
  exact Nat.le_refl _
theorem bl_upto (s : ByteArray) (a : Nat) : bl (s.extract 0 a) = (bl s).take a := by rw [bl_extract]; simp
theorem bl_inj {a b : ByteArray} (h : bl a = bl b) : a = b := by
  obtain ⟨⟨l⟩⟩ := a
  obtain ⟨⟨m⟩⟩ := b
  simpa [bl] using h
theorem bl_empty {a : ByteArray} (h : bl a = []) : a = ⟨#[]⟩ := bl_inj (by rw [h]; rfl)
theorem bl_mk (l : Bs) : bl ⟨l.toArray⟩ = l := rfl
theorem bl_get (s : ByteArray) (k : Nat) (h : k < s.size) : (bl s).drop k = s[k] :: (bl s).drop (k + 1) := by
  have hk : k < s.data.toList.length := by simpa using h
  unfold bl
  rw [List.drop_eq_getElem_cons hk]
  rfl
theorem bl_end (s : ByteArray) (k : Nat) (h : ¬ k < s.size) : (bl s).drop k = [] := by
  rw [List.drop_eq_nil_iff, bl_length]
  omega

/-- The world has only grown: what was there is as it was. -/
def Gr (w w' : World) : Prop := Below w.heap.size w w'
theorem Gr.refl (w : World) : Gr w w := Below.refl _ _
theorem Gr.trans {a b c : World} (h : Gr a b) (k : Gr b c) : Gr a c := Below.trans h (Below.mono k h.size)
theorem Gr.drew {a b : World} (h : Gr a b) : Gr a b.drew := Below.drew h
theorem Gr.drewN {a b : World} (h : Gr a b) (n : Nat) : Gr a (b.drewN n) := below_drewN h n
theorem Gr.alloc {a b : World} (h : Gr a b) (o : Obj) : Gr a (b.alloc o) := Below.alloc h h.size o
theorem Gr.cell {a b : World} (h : Gr a b) {p : Addr} {v : Value} (hc : a.cell? p = some v) : b.cell? p = some v :=
  (Below.cell h (World.block_lt_of_cell? a p hc)).trans hc
theorem Gr.frame {a b : World} (h : Gr a b) (may : MemPlace → Prop) : a.keptBut b may := Below.frame h may
theorem Gr.below {a b : World} (h : Gr a b) : Below a.heap.size a b := h

/-- What a piece of the text ahead of a rest is. -/
def ahead (l r : Bs) : Bs := l.take (l.length - r.length)

/-- (consumed, rest, true) -/
def Took (s : ByteArray) (r : Bs) (e : Ending) : Prop :=
  ∃ c t : ByteArray, e = .returned (.tuple #[.string c, .string t, .bool true]) ∧ bl c = ahead (bl s) r ∧ bl t = r
/-- (.., .., false) -/
def Nope (e : Ending) : Prop := ∃ c t : ByteArray, e = .returned (.tuple #[.string c, .string t, .bool false])

theorem took_at (s : ByteArray) (k : Nat) (r : Bs) (hk : k ≤ s.size) (h : (bl s).drop k = r) :
    Took s r (.returned (.tuple #[.string (s.extract 0 k), .string (s.extract k s.size), .bool true])) := by
  refine ⟨_, _, rfl, ?_, by rw [bl_from, h]⟩
  rw [bl_upto, ahead, ← h, List.length_drop, bl_length]
  congr 1
  omega

end Go.Proofs.YtohjnegllfdemaaDoor
