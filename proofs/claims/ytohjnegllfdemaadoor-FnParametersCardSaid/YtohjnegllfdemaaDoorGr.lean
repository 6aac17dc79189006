/-
  Small words for the walks: results, worlds that have only grown, strings by their lists of bytes.
-/
import Derived.Test.YtohjnegllfdemaaDoorRows
import Derived.Test.YtohjnegllfdemaaDoorPure
import Derived.WalkKit
import Derived.WalkSpells
import Derived.WalkLawsBesides
import Derived.Lib.Strings
namespace Go.Proofs.YtohjnegllfdemaaDoor
open Go.RowKit

theorem ret_bool {a b : Bool} (h : a = b) : Ending.returned (.bool a) = .returned (.bool b) := by rw [h]
theorem ret_bool2 {a b c d : Bool} (h : a = b) (k : c = d) : Ending.returned (.tuple #[.bool a, .bool c]) = .returned (.tuple #[.bool b, .bool d]) := by rw [h, k]
theorem hid {p : Prop} (h : p) : Hid p := h

/-- The bytes of a string. -/
def bl (s : ByteArray) : Bs := s.data.toList
theorem bl_length (s : ByteArray) : (bl s).length = s.size := by simp [bl]
theorem bl_extract (s : ByteArray) (a b : Nat) : bl (s.extract a b) = ((bl s).drop a).take (b - a) := Lib.extract_data s a b
theorem bl_toList (s : ByteArray) : s.toList = bl s := Lib.toList_data s
theorem bl_from (s : ByteArray) (a : Nat) : bl (s.extract a s.size) = (bl s).drop a := by
  rw [bl_extract, List.take_of_length_le]
  rw [List.length_drop, bl_length]
  exact Nat.le_refl _
theorem bl_upto (s : ByteArray) (a : Nat) : bl (s.extract 0 a) = (bl s).take a := by rw [bl_extract]; simp
theorem bl_inj {a b : ByteArray} (h : bl a = bl b) : a = b := by
  obtain ⟨⟨l⟩⟩ := a
  obtain ⟨⟨m⟩⟩ := b
  simpa [bl] using h
theorem bl_empty {a : ByteArray} (h : bl a = []) : a = ⟨#[]⟩ := bl_inj (by rw [h]; rfl)
theorem bl_mk (l : Bs) : bl ⟨l.toArray⟩ = l := rfl
theorem bl_get (s : ByteArray) (k : Nat) (h : k < s.size) : (bl s).drop k = s[k] :: (bl s).drop (k + 1) := by
  have hk : k < s.data.toList.length := by simpa using h
  unfold bl
  rw [List.drop_eq_getElem_cons hk]
  rfl
theorem bl_end (s : ByteArray) (k : Nat) (h : ¬ k < s.size) : (bl s).drop k = [] := by
  rw [List.drop_eq_nil_iff, bl_length]
  omega

/-- The world has only grown: what was there is as it was. -/
def Gr (w w' : World) : Prop := Below w.heap.size w w'
theorem Gr.refl (w : World) : Gr w w := Below.refl _ _
theorem Gr.trans {a b c : World} (h : Gr a b) (k : Gr b c) : Gr a c := Below.trans h (Below.mono k h.size)
theorem Gr.drew {a b : World} (h : Gr a b) : Gr a b.drew := Below.drew h
theorem Gr.drewN {a b : World} (h : Gr a b) (n : Nat) : Gr a (b.drewN n) := below_drewN h n
theorem Gr.alloc {a b : World} (h : Gr a b) (o : Obj) : Gr a (b.alloc o) := Below.alloc h h.size o
theorem Gr.cell {a b : World} (h : Gr a b) {p : Addr} {v : Value} (hc : a.cell? p = some v) : b.cell? p = some v :=
  (Below.cell h (World.block_lt_of_cell? a p hc)).trans hc
theorem Gr.frame {a b : World} (h : Gr a b) (may : MemPlace → Prop) : a.keptBut b may := Below.frame h may
theorem Gr.below {a b : World} (h : Gr a b) : Below a.heap.size a b := h

/-- What a piece of the text ahead of a rest is. -/
def ahead (l r : Bs) : Bs := l.take (l.length - r.length)

/-- (consumed, rest, true) -/
def Took (s : ByteArray) (r : Bs) (e : Ending) : Prop :=
  ∃ c t : ByteArray, e = .returned (.tuple #[.string c, .string t, .bool true]) ∧ bl c = ahead (bl s) r ∧ bl t = r
/-- (.., .., false) -/
def Nope (e : Ending) : Prop := ∃ c t : ByteArray, e = .returned (.tuple #[.string c, .string t, .bool false])

theorem took_at (s : ByteArray) (k : Nat) (r : Bs) (hk : k ≤ s.size) (h : (bl s).drop k = r) :
    Took s r (.returned (.tuple #[.string (s.extract 0 k), .string (s.extract k s.size), .bool true])) := by
  refine ⟨_, _, rfl, ?_, by rw [bl_from, h]⟩
  rw [bl_upto, ahead, ← h, List.length_drop, bl_length]
  congr 1
  omega

end Go.Proofs.YtohjnegllfdemaaDoor
