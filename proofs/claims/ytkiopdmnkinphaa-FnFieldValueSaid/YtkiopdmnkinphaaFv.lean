/-
  The walks of FnFieldValue.
-/
import Derived.Test.YtkiopdmnkinphaaRows
import Derived.Test.YtkiopdmnkinphaaBytes
import Derived.WalkKit
import Derived.WalkSpells
import Derived.WalkLawsBesides
namespace Go.Proofs.Ytkiopdmnkinphaa
open Go.RowKit

theorem ret_bool {a b : Bool} (h : a = b) : Ending.returned (.bool a) = .returned (.bool b) := by rw [h]

theorem isCTL_any (n : Nat) (w : World) :
    Calls Try.prog 18 #[.int .u8 n] w fun e w' => e = .returned (.bool (ctlB n)) ∧ w = w' := by
  by_cases h1 : n < 32 <;> by_cases h2 : n = 127 <;> (try omega) <;>
  · go_enter Try.func18, Try.ntmps18
    go_wp2
    go_ret
    exact ⟨ret_bool (by rw [Bool.eq_iff_iff]; simp [ctlB]; omega), rfl⟩

theorem isLWS_any (n : Nat) (w : World) :
    Calls Try.prog 19 #[.int .u8 n] w fun e w' => e = .returned (.bool (owsB n)) ∧ w = w' := by
  by_cases h1 : n = 32 <;> by_cases h2 : n = 9 <;> (try omega) <;>
  · go_enter Try.func19, Try.ntmps19
    go_wp2
    go_ret
    exact ⟨ret_bool (by rw [Bool.eq_iff_iff]; simp [owsB]; omega), rfl⟩

set_option maxHeartbeats 400000 in
theorem implFv_any (s : ByteArray) (w : World) (hs : s.size ≤ maxLen) :
    Calls Try.prog 12 #[.string s] w fun e w' => e = .returned (.bool (allB fvB s.data.toList)) ∧ w = w' := by
  unfold maxLen at hs
  go_enter Try.func12, Try.ntmps12
  go_wp2
  go_loop [3] (fun i => ∃ k : Nat, k ≤ s.size ∧ i = .int .i64 k ∧ Hid (allB fvB (s.data.toList.take k) = true)) (fun i => s.size - (intOf i).toNat)
  case atStart => exact ⟨0, Nat.zero_le _, rfl, rfl⟩
  case round =>
    obtain ⟨k, hk, rfl, hr⟩ := hrel
    by_cases hlt : k < s.size
    · cases h1 : ctlB (s[k]).toNat <;> cases h2 : owsB (s[k]).toNat
      all_goals
        go_wp2_with (first | (go_at_call 18; refine (isCTL_any _ _).mono ?_; rintro e w' ⟨rfl, rfl⟩) | (go_at_call 19; refine (isLWS_any _ _).mono ?_; rintro e w' ⟨rfl, rfl⟩))
        first
          | (go_round; case rel => exact ⟨k + 1, by omega, by go_num, allB_next fvB s k hlt hr.out (by simp [fvB, h1, h2])⟩
             case measure => simp [intOf]; omega)
          | (go_ret; exact ⟨ret_bool (allB_fails fvB s k hlt (by simp [fvB, h1, h2])).symm, rfl⟩)
    · go_wp2
      go_ret
      exact ⟨ret_bool (allB_whole fvB s k hlt hr.out).symm, rfl⟩

set_option maxHeartbeats 400000 in
theorem specFv_any (s : ByteArray) (w : World) (hs : s.size ≤ maxLen) :
    Calls Try.prog 6 #[.string s] w fun e w' => e = .returned (.bool (allB fvB s.data.toList)) ∧ w = w' := by
  unfold maxLen at hs
  go_enter Try.func6, Try.ntmps6
  go_wp2
  go_loop [6] (fun i => ∃ k : Nat, k ≤ s.size ∧ i = .int .i64 k ∧ Hid (allB fvB (s.data.toList.take k) = true)) (fun i => s.size - (intOf i).toNat)
  case atStart => exact ⟨0, Nat.zero_le _, rfl, rfl⟩
  case round =>
    obtain ⟨k, hk, rfl, hr⟩ := hrel
    by_cases hlt : k < s.size
    · by_cases h1 : (s[k]).toNat < 32 <;> by_cases h2 : (s[k]).toNat = 9 <;> by_cases h3 : (s[k]).toNat = 127 <;> (try omega)
      all_goals
        have H1 := h1
        have H2 := h2
        have H3 := h3
        go_wp2
        first
          | (go_round; case rel => exact ⟨k + 1, by omega, by go_num, allB_next fvB s k hlt hr.out (by unfold fvB ctlB owsB; simp; omega)⟩
             case measure => simp [intOf]; omega)
          | (go_ret; exact ⟨ret_bool (allB_fails fvB s k hlt (by unfold fvB ctlB owsB; simp; omega)).symm, rfl⟩)
    · go_wp2
      go_ret
      exact ⟨ret_bool (allB_whole fvB s k hlt hr.out).symm, rfl⟩

theorem implFieldValue_any (s : ByteArray) (w : World) (hs : s.size ≤ maxLen) :
    Calls Try.prog 5 #[.string s] w fun e w' => e = .returned (.bool (allB fvB s.data.toList)) ∧ w = w' := by
  go_enter Try.func5, Try.ntmps5
  go_wp2_with (go_at_call 12; refine (implFv_any _ _ hs).mono ?_; rintro e w' ⟨rfl, rfl⟩)
  go_ret
  exact ⟨rfl, rfl⟩

/-- The law's walk. -/
theorem lawFv_walk (s : ByteArray) (hs : s.size ≤ maxLen) (w : World) :
    Calls Try.prog 3 #[.string s] w fun e w' => e = .returned (.bool true) ∧ Below w.heap.size w w' := by
  have ha : ({ data := #[97] } : ByteArray).size ≤ maxLen := by decide
  by_cases hz : s.size ≤ 2147483647
  · go_enter Try.func3, Try.ntmps3
    go_wp2_with fail
    refine (implFieldValue_any s _ hs).mono ?_
    rintro e w' ⟨rfl, rfl⟩
    go_wp2_with fail
    refine (specFv_any s _ hs).mono ?_
    rintro e w' ⟨rfl, rfl⟩
    go_wp2_with fail
    refine (implFieldValue_any _ _ ha).mono ?_
    rintro e w' ⟨rfl, rfl⟩
    go_wp2_with fail
    go_ret
    exact ⟨ret_bool (by decide), Below.refl _ _⟩
  · go_enter Try.func3, Try.ntmps3
    go_wp2_with fail
    go_ret
    exact ⟨rfl, Below.refl _ _⟩
end Go.Proofs.Ytkiopdmnkinphaa
