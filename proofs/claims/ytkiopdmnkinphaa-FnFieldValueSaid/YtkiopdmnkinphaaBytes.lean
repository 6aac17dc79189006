/-
  Plain functions on bytes and on lists of bytes, for the header fields. No program stands in this text.
-/
namespace Go.Proofs.Ytkiopdmnkinphaa

/-- A small letter, a great letter, a digit. -/
def lowB (n : Nat) : Bool := decide (97 ≤ n) && decide (n ≤ 122)
def uppB (n : Nat) : Bool := decide (65 ≤ n) && decide (n ≤ 90)
def digB (n : Nat) : Bool := decide (48 ≤ n) && decide (n ≤ 57)
def alpB (n : Nat) : Bool := lowB n || uppB n
def ctlB (n : Nat) : Bool := decide (n < 32) || n == 127
def owsB (n : Nat) : Bool := n == 32 || n == 9

/-- A byte that a field value may hold. -/
def fvB (n : Nat) : Bool := !(ctlB n && !owsB n)

/-- Each byte has a mark. -/
def allB (p : Nat → Bool) (l : List UInt8) : Bool := l.all fun c => p c.toNat

theorem allB_take_succ (p : Nat → Bool) (s : ByteArray) (k : Nat) (h : k < s.size) :
    allB p (s.data.toList.take (k + 1)) = (allB p (s.data.toList.take k) && p (s[k]).toNat) := by
  have hk : k < s.data.toList.length := by simpa using h
  unfold allB
  rw [List.take_succ_eq_append_getElem hk, List.all_append]
  simp
  rfl

theorem allB_of_take (p : Nat → Bool) (l : List UInt8) (k : Nat) (h : allB p (l.take k) = false) : allB p l = false := by
  unfold allB at *
  rw [← List.take_append_drop k l, List.all_append, h]
  simp

/-- One round on: all so far, and this one. -/
theorem allB_next (p : Nat → Bool) (s : ByteArray) (k : Nat) (h : k < s.size) (hr : allB p (s.data.toList.take k) = true) (hc : p (s[k]).toNat = true) :
    allB p (s.data.toList.take (k + 1)) = true := by
  rw [allB_take_succ p s k h, hr, hc]
  rfl

theorem allB_fails (p : Nat → Bool) (s : ByteArray) (k : Nat) (h : k < s.size) (hc : p (s[k]).toNat = false) : allB p s.data.toList = false :=
  allB_of_take p _ (k + 1) (by rw [allB_take_succ p s k h, hc]; simp)

theorem allB_whole (p : Nat → Bool) (s : ByteArray) (k : Nat) (h : ¬ k < s.size) (hr : allB p (s.data.toList.take k) = true) : allB p s.data.toList = true := by
  rwa [List.take_of_length_le (by simp; omega)] at hr

end Go.Proofs.Ytkiopdmnkinphaa
