/-
  Plain functions on bytes and on lists of bytes, for the header fields. No program stands in this text.
-/
namespace Go.Proofs.YtkiopdmnkinphaaDoor

/-- A small letter, a great letter, a digit. -/
def lowB (n : Nat) : Bool := decide (97 ≤ n) && decide (n ≤ 122)
def uppB (n : Nat) : Bool := decide (65 ≤ n) && decide (n ≤ 90)
def digB (n : Nat) : Bool := decide (48 ≤ n) && decide (n ≤ 57)
def alpB (n : Nat) : Bool := lowB n || uppB n

/-- The byte stands in a list of bytes. -/
def amongB (n : Nat) (l : List UInt8) : Bool := l.any fun c => c.toNat == n

/-- The marks of a token beside letters and digits. -/
def tokMarks : List UInt8 := [33, 35, 36, 37, 38, 39, 42, 43, 45, 46, 94, 95, 96, 124, 126]
def tokB (n : Nat) : Bool := alpB n || digB n || amongB n tokMarks

/-- The marks of a host beside letters and digits. -/
def hostMarks : List UInt8 := [45, 46, 95, 126, 33, 36, 38, 39, 40, 41, 42, 43, 44, 59, 61, 37, 58, 91, 93]
def hostB (n : Nat) : Bool := alpB n || digB n || amongB n hostMarks

/-- Each byte has a mark. -/
def allB (p : Nat → Bool) (l : List UInt8) : Bool := l.all fun c => p c.toNat

theorem allB_take_succ (p : Nat → Bool) (s : ByteArray) (k : Nat) (h : k < s.size) :
    allB p (s.data.toList.take (k + 1)) = (allB p (s.data.toList.take k) && p (s[k]).toNat) := by
  have hk : k < s.data.toList.length := by simpa using h
  unfold allB
  rw [List.take_succ_eq_append_getElem hk, List.all_append]
  simp
  rfl

theorem allB_of_take (p : Nat → Bool) (l : List UInt8) (k : Nat) (h : allB p (l.take k) = false) : allB p l = false := by
  unfold allB at *
  rw [← List.take_append_drop k l, List.all_append, h]
  simp

/-- One round on: all so far, and this one. -/
theorem allB_next (p : Nat → Bool) (s : ByteArray) (k : Nat) (h : k < s.size) (hr : allB p (s.data.toList.take k) = true) (hc : p (s[k]).toNat = true) :
    allB p (s.data.toList.take (k + 1)) = true := by
  rw [allB_take_succ p s k h, hr, hc]
  rfl

theorem allB_fails (p : Nat → Bool) (s : ByteArray) (k : Nat) (h : k < s.size) (hc : p (s[k]).toNat = false) : allB p s.data.toList = false :=
  allB_of_take p _ (k + 1) (by rw [allB_take_succ p s k h, hc]; simp)

theorem allB_whole (p : Nat → Bool) (s : ByteArray) (k : Nat) (h : ¬ k < s.size) (hr : allB p (s.data.toList.take k) = true) : allB p s.data.toList = true := by
  rwa [List.take_of_length_le (by simp; omega)] at hr

/-- The search for a byte, a round on. -/
theorem amongB_next (n : Nat) (s : ByteArray) (k : Nat) (h : k < s.size) (hr : amongB n (s.data.toList.take k) = false) (hc : (s[k]).toNat ≠ n) :
    amongB n (s.data.toList.take (k + 1)) = false := by
  have hk : k < s.data.toList.length := by simpa using h
  unfold amongB at *
  rw [List.take_succ_eq_append_getElem hk, List.any_append, hr]
  simp
  exact hc

theorem amongB_found (n : Nat) (s : ByteArray) (k : Nat) (h : k < s.size) (hc : (s[k]).toNat = n) : amongB n s.data.toList = true := by
  have hk : k < s.data.toList.length := by simpa using h
  unfold amongB
  rw [List.any_eq_true]
  exact ⟨s.data.toList[k], List.getElem_mem hk, by simp; exact hc⟩

theorem amongB_whole (n : Nat) (s : ByteArray) (k : Nat) (h : ¬ k < s.size) (hr : amongB n (s.data.toList.take k) = false) : amongB n s.data.toList = false := by
  rwa [List.take_of_length_le (by simp; omega)] at hr

/-- A token of RFC 7230. -/
def tokNameB (l : List UInt8) : Bool := allB tokB l && !l.isEmpty

theorem tokNameB_fails (s : ByteArray) (h : allB tokB s.data.toList = false) : tokNameB s.data.toList = false := by
  unfold tokNameB
  rw [h]
  rfl
theorem tokNameB_empty (s : ByteArray) (h : s.size = 0) : tokNameB s.data.toList = false := by
  have he : s.data.toList = [] := List.eq_nil_of_length_eq_zero (by simpa using h)
  rw [he]
  rfl
theorem tokNameB_whole (s : ByteArray) (h : allB tokB s.data.toList = true) : tokNameB s.data.toList = !s.data.toList.isEmpty := by
  unfold tokNameB
  rw [h]
  rfl
theorem tokNameB_whole' (s : ByteArray) (h : allB tokB s.data.toList = true) (h0 : ¬ s.size = 0) : tokNameB s.data.toList = true := by
  rw [tokNameB_whole s h]
  have hne : s.data.toList.isEmpty = false := by
    rw [List.isEmpty_eq_false_iff]
    intro e
    have := congrArg List.length e
    simp at this
    exact h0 (by simp [this])
  rw [hne]
  rfl

end Go.Proofs.YtkiopdmnkinphaaDoor
