/-
  The walks of the three laws over the tables of httpguts: token runes, field names, hosts.
-/
import Derived.Test.YtkiopdmnkinphaaDoorRows
import Derived.Test.YtkiopdmnkinphaaDoorBytes
import Derived.WalkKit
import Derived.WalkSpells
import Derived.WalkLawsBesides
namespace Go.Proofs.YtkiopdmnkinphaaDoor
open Go.RowKit

theorem ret_bool {a b : Bool} (h : a = b) : Ending.returned (.bool a) = .returned (.bool b) := by rw [h]

/-- A table of 256 bools, as the variable's block holds it. -/
def BoolTab (g : Nat) (p : Nat → Bool) (w : World) : Prop := ∀ i, i < 256 → w.cell? ⟨g, i, none⟩ = some (.bool (p i))

theorem hid_among (n : Nat) (s : ByteArray) (k : Nat) (h : k < s.size) (hc : (s[k]).toNat = n) : Hid (amongB n s.data.toList = true) := amongB_found n s k h hc

theorem letter_any (n : Nat) (w : World) :
    Calls Tryd.prog 16 #[.int .u8 n] w fun e w' => e = .returned (.bool (alpB n)) ∧ w = w' := by
  by_cases h1 : 97 ≤ n <;> by_cases h2 : n ≤ 122 <;> by_cases h3 : 65 ≤ n <;> by_cases h4 : n ≤ 90 <;> (try omega) <;>
  · go_enter Tryd.func16, Tryd.ntmps16
    go_wp2
    go_ret
    exact ⟨ret_bool (by rw [Bool.eq_iff_iff]; simp [alpB, lowB, uppB]; omega), rfl⟩

theorem digit_any (n : Nat) (w : World) :
    Calls Tryd.prog 17 #[.int .u8 n] w fun e w' => e = .returned (.bool (digB n)) ∧ w = w' := by
  by_cases h1 : 48 ≤ n <;> by_cases h2 : n ≤ 57 <;> (try omega) <;>
  · go_enter Tryd.func17, Tryd.ntmps17
    go_wp2
    go_ret
    exact ⟨ret_bool (by rw [Bool.eq_iff_iff]; simp [digB]; omega), rfl⟩

set_option maxHeartbeats 400000 in
theorem among_any (n : Nat) (s : ByteArray) (w : World) (hs : s.size ≤ maxLen) :
    Calls Tryd.prog 18 #[.int .u8 n, .string s] w fun e w' => e = .returned (.bool (amongB n s.data.toList)) ∧ w = w' := by
  unfold maxLen at hs
  go_enter Tryd.func18, Tryd.ntmps18
  go_wp2
  go_loop [8] (fun i => ∃ k : Nat, k ≤ s.size ∧ i = .int .i64 k ∧ Hid (amongB n (s.data.toList.take k) = false)) (fun i => s.size - (intOf i).toNat)
  case atStart => exact ⟨0, Nat.zero_le _, rfl, rfl⟩
  case round =>
    obtain ⟨k, hk, rfl, hr⟩ := hrel
    by_cases hlt : k < s.size
    · by_cases h1 : (s[k]).toNat = n
      · have H1 : ((s[k]).toNat : Int) = n := by omega
        have hf := hid_among n s k hlt h1
        clear h1
        go_wp2
        go_ret
        exact ⟨ret_bool hf.out.symm, rfl⟩
      · have H1 : (((s[k]).toNat : Int) == n) = false := by simp; omega
        go_wp2
        go_round
        case rel => exact ⟨k + 1, by omega, by go_num, amongB_next n s k hlt hr.out h1⟩
        case measure => simp [intOf]; omega
    · go_wp2
      go_ret
      exact ⟨ret_bool (amongB_whole n s k hlt hr.out).symm, rfl⟩


theorem tchar_any (n : Nat) (w : World) :
    Calls Tryd.prog 13 #[.int .u8 n] w fun e w' => e = .returned (.bool (tokB n)) ∧ w = w' := by
  cases h1 : alpB n <;> cases h2 : digB n <;>
  · go_enter Tryd.func13, Tryd.ntmps13
    go_wp2_with (first | (go_at_call 16; refine (letter_any _ _).mono ?_; rintro e w' ⟨rfl, rfl⟩) | (go_at_call 17; refine (digit_any _ _).mono ?_; rintro e w' ⟨rfl, rfl⟩) | (go_at_call 18; refine (among_any _ _ _ (by decide)).mono ?_; rintro e w' ⟨rfl, rfl⟩))
    go_ret
    exact ⟨ret_bool (by simp [tokB, tokMarks, h1, h2]), rfl⟩

set_option maxHeartbeats 400000 in
theorem specTokenName_any (s : ByteArray) (w : World) (hs : s.size ≤ maxLen) :
    Calls Tryd.prog 9 #[.string s] w fun e w' => e = .returned (.bool (tokNameB s.data.toList)) ∧ w = w' := by
  unfold maxLen at hs
  go_enter Tryd.func9, Tryd.ntmps9
  go_wp2
  go_loop [6] (fun i => ∃ k : Nat, k ≤ s.size ∧ i = .int .i64 k ∧ Hid (allB tokB (s.data.toList.take k) = true)) (fun i => s.size - (intOf i).toNat)
  case atStart => exact ⟨0, Nat.zero_le _, rfl, rfl⟩
  case round =>
    obtain ⟨k, hk, rfl, hr⟩ := hrel
    by_cases hlt : k < s.size
    · cases h1 : tokB (s[k]).toNat
      · go_wp2_with ((go_at_call 13; refine (tchar_any _ _).mono ?_; rintro e w' ⟨rfl, rfl⟩))
        go_ret
        exact ⟨ret_bool (tokNameB_fails s (allB_fails tokB s k hlt h1)).symm, rfl⟩
      · go_wp2_with ((go_at_call 13; refine (tchar_any _ _).mono ?_; rintro e w' ⟨rfl, rfl⟩))
        go_round
        case rel => exact ⟨k + 1, by omega, by go_num, allB_next tokB s k hlt hr.out h1⟩
        case measure => simp [intOf]; omega
    · go_wp2
      go_ret
      exact ⟨ret_bool (by rw [tokNameB_whole s (allB_whole tokB s k hlt hr.out)]; simp [ByteArray.toList_eq]), rfl⟩

set_option maxHeartbeats 400000 in
theorem specHost_any (s : ByteArray) (w : World) (hs : s.size ≤ maxLen) :
    Calls Tryd.prog 11 #[.string s] w fun e w' => e = .returned (.bool (allB hostB s.data.toList)) ∧ w = w' := by
  unfold maxLen at hs
  go_enter Tryd.func11, Tryd.ntmps11
  go_wp2
  go_loop [6] (fun i => ∃ k : Nat, k ≤ s.size ∧ i = .int .i64 k ∧ Hid (allB hostB (s.data.toList.take k) = true)) (fun i => s.size - (intOf i).toNat)
  case atStart => exact ⟨0, Nat.zero_le _, rfl, rfl⟩
  case round =>
    obtain ⟨k, hk, rfl, hr⟩ := hrel
    by_cases hlt : k < s.size
    · cases h1 : alpB (s[k]).toNat <;> cases h2 : digB (s[k]).toNat <;> cases h3 : amongB (s[k]).toNat hostMarks
      all_goals
        have h3' := h3
        unfold hostMarks at h3'
        go_wp2_with (first | (go_at_call 16; refine (letter_any _ _).mono ?_; rintro e w' ⟨rfl, rfl⟩) | (go_at_call 17; refine (digit_any _ _).mono ?_; rintro e w' ⟨rfl, rfl⟩) | (go_at_call 18; refine (among_any _ _ _ (by decide)).mono ?_; rintro e w' ⟨rfl, rfl⟩))
        first
          | (go_round; case rel => exact ⟨k + 1, by omega, by go_num, allB_next hostB s k hlt hr.out (by simp [hostB, h1, h2, h3])⟩
             case measure => simp [intOf]; omega)
          | (go_ret; exact ⟨ret_bool (allB_fails hostB s k hlt (by simp [hostB, h1, h2, h3])).symm, rfl⟩)
    · go_wp2
      go_ret
      exact ⟨ret_bool (allB_whole hostB s k hlt hr.out).symm, rfl⟩


set_option maxRecDepth 100000 in
theorem specTchar_any (n : Nat) (w : World) (hn : n ≤ 2147483647) :
    Calls Tryd.prog 7 #[.int .i32 n] w fun e w' => e = .returned (.bool (decide (n < 128) && tokB n)) ∧ w = w' := by
  by_cases h1 : n < 128 <;>
  · go_enter Tryd.func7, Tryd.ntmps7
    go_wp2_with ((go_at_call 13; refine (tchar_any _ _).mono ?_; rintro e w' ⟨rfl, rfl⟩))
    go_ret
    exact ⟨ret_bool (by first | rfl | (simp; done) | simp [h1]), rfl⟩

set_option maxRecDepth 100000 in
theorem isTokenRune_any (n : Nat) (w : World) (hn : n ≤ 2147483647) (hT : BoolTab 0 tokB w) :
    Calls Tryd.prog 12 #[.int .i32 n] w fun e w' => e = .returned (.bool (decide (n < 128) && tokB n)) ∧ w = w' := by
  by_cases h1 : n < 128
  · have hc := hT n (by omega)
    go_enter Tryd.func12, Tryd.ntmps12
    go_wp2
    go_ret
    exact ⟨ret_bool (by first | rfl | (simp; done) | simp [h1]), rfl⟩
  · go_enter Tryd.func12, Tryd.ntmps12
    go_wp2
    go_ret
    exact ⟨ret_bool (by first | rfl | (simp; done) | simp [h1]), rfl⟩

theorem implTokenRune_any (n : Nat) (w : World) (hn : n ≤ 2147483647) (hT : BoolTab 0 tokB w) :
    Calls Tryd.prog 6 #[.int .i32 n] w fun e w' => e = .returned (.bool (decide (n < 128) && tokB n)) ∧ w = w' := by
  go_enter Tryd.func6, Tryd.ntmps6
  go_wp2_with ((go_at_call 12; refine (isTokenRune_any _ _ hn hT).mono ?_; rintro e w' ⟨rfl, rfl⟩))
  go_ret
  exact ⟨rfl, rfl⟩

set_option maxHeartbeats 400000 in
set_option maxRecDepth 100000 in
theorem validName_any (s : ByteArray) (w : World) (hs : s.size ≤ maxLen) (hT : BoolTab 0 tokB w) :
    Calls Tryd.prog 14 #[.string s] w fun e w' => e = .returned (.bool (tokNameB s.data.toList)) ∧ w = w' := by
  unfold maxLen at hs
  by_cases h0 : s.size = 0
  · go_enter Tryd.func14, Tryd.ntmps14
    go_wp2
    go_ret
    exact ⟨ret_bool (tokNameB_empty s h0).symm, rfl⟩
  · have H0 : ((s.size : Int) == 0) = false := by rw [beq_eq_false_iff_ne]; omega
    go_enter Tryd.func14, Tryd.ntmps14
    go_wp2
    go_loop [3] (fun i => ∃ k : Nat, k ≤ s.size ∧ i = .int .i64 k ∧ Hid (allB tokB (s.data.toList.take k) = true)) (fun i => s.size - (intOf i).toNat)
    case atStart => exact ⟨0, Nat.zero_le _, rfl, rfl⟩
    case round =>
      obtain ⟨k, hk, rfl, hr⟩ := hrel
      by_cases hlt : k < s.size
      · have hb : (s[k]).toNat < 256 := (s[k]).toNat_lt
        have hc := hT (s[k]).toNat hb
        cases h1 : tokB (s[k]).toNat
        · rw [h1] at hc
          go_wp2
          go_ret
          exact ⟨ret_bool (tokNameB_fails s (allB_fails tokB s k hlt h1)).symm, rfl⟩
        · rw [h1] at hc
          go_wp2
          go_round
          case rel => exact ⟨k + 1, by omega, by go_num, allB_next tokB s k hlt hr.out h1⟩
          case measure => simp [intOf]; omega
      · go_wp2
        go_ret
        exact ⟨ret_bool (tokNameB_whole' s (allB_whole tokB s k hlt hr.out) h0).symm, rfl⟩

set_option maxHeartbeats 400000 in
set_option maxRecDepth 100000 in
theorem validHost_any (s : ByteArray) (w : World) (hs : s.size ≤ maxLen) (hT : BoolTab 1 hostB w) :
    Calls Tryd.prog 15 #[.string s] w fun e w' => e = .returned (.bool (allB hostB s.data.toList)) ∧ w = w' := by
  unfold maxLen at hs
  go_enter Tryd.func15, Tryd.ntmps15
  go_wp2
  go_loop [3] (fun i => ∃ k : Nat, k ≤ s.size ∧ i = .int .i64 k ∧ Hid (allB hostB (s.data.toList.take k) = true)) (fun i => s.size - (intOf i).toNat)
  case atStart => exact ⟨0, Nat.zero_le _, rfl, rfl⟩
  case round =>
    obtain ⟨k, hk, rfl, hr⟩ := hrel
    by_cases hlt : k < s.size
    · have hb : (s[k]).toNat < 256 := (s[k]).toNat_lt
      have hc := hT (s[k]).toNat hb
      cases h1 : hostB (s[k]).toNat
      · rw [h1] at hc
        go_wp2
        go_ret
        exact ⟨ret_bool (allB_fails hostB s k hlt h1).symm, rfl⟩
      · rw [h1] at hc
        go_wp2
        go_round
        case rel => exact ⟨k + 1, by omega, by go_num, allB_next hostB s k hlt hr.out h1⟩
        case measure => simp [intOf]; omega
    · go_wp2
      go_ret
      exact ⟨ret_bool (allB_whole hostB s k hlt hr.out).symm, rfl⟩

theorem implFieldName_any (s : ByteArray) (w : World) (hs : s.size ≤ maxLen) (hT : BoolTab 0 tokB w) :
    Calls Tryd.prog 8 #[.string s] w fun e w' => e = .returned (.bool (tokNameB s.data.toList)) ∧ w = w' := by
  go_enter Tryd.func8, Tryd.ntmps8
  go_wp2_with ((go_at_call 14; refine (validName_any _ _ hs hT).mono ?_; rintro e w' ⟨rfl, rfl⟩))
  go_ret
  exact ⟨rfl, rfl⟩

theorem implHost_any (s : ByteArray) (w : World) (hs : s.size ≤ maxLen) (hT : BoolTab 1 hostB w) :
    Calls Tryd.prog 10 #[.string s] w fun e w' => e = .returned (.bool (allB hostB s.data.toList)) ∧ w = w' := by
  go_enter Tryd.func10, Tryd.ntmps10
  go_wp2_with ((go_at_call 15; refine (validHost_any _ _ hs hT).mono ?_; rintro e w' ⟨rfl, rfl⟩))
  go_ret
  exact ⟨rfl, rfl⟩

theorem lawName_walk (s : ByteArray) (hs : s.size ≤ maxLen) (w : World) (hT : BoolTab 0 tokB w) :
    Calls Tryd.prog 4 #[.string s] w fun e w' => e = .returned (.bool true) ∧ Below w.heap.size w w' := by
  have ha : ({ data := #[97] } : ByteArray).size ≤ maxLen := by decide
  by_cases hz : s.size ≤ 2147483647
  · go_enter Tryd.func4, Tryd.ntmps4
    go_wp2_with fail
    refine (implFieldName_any s _ hs hT).mono ?_
    rintro e w' ⟨rfl, rfl⟩
    go_wp2_with fail
    refine (specTokenName_any s _ hs).mono ?_
    rintro e w' ⟨rfl, rfl⟩
    go_wp2_with fail
    refine (implFieldName_any _ _ ha hT).mono ?_
    rintro e w' ⟨rfl, rfl⟩
    go_wp2_with fail
    go_ret
    exact ⟨ret_bool (by decide), Below.refl _ _⟩
  · go_enter Tryd.func4, Tryd.ntmps4
    go_wp2_with fail
    go_ret
    exact ⟨rfl, Below.refl _ _⟩

theorem lawHost_walk (s : ByteArray) (hs : s.size ≤ maxLen) (w : World) (hT : BoolTab 1 hostB w) :
    Calls Tryd.prog 5 #[.string s] w fun e w' => e = .returned (.bool true) ∧ Below w.heap.size w w' := by
  have ha : ({ data := #[97] } : ByteArray).size ≤ maxLen := by decide
  by_cases hz : s.size ≤ 2147483647
  · go_enter Tryd.func5, Tryd.ntmps5
    go_wp2_with fail
    refine (implHost_any s _ hs hT).mono ?_
    rintro e w' ⟨rfl, rfl⟩
    go_wp2_with fail
    refine (specHost_any s _ hs).mono ?_
    rintro e w' ⟨rfl, rfl⟩
    go_wp2_with fail
    refine (implHost_any _ _ ha hT).mono ?_
    rintro e w' ⟨rfl, rfl⟩
    go_wp2_with fail
    go_ret
    exact ⟨ret_bool (by decide), Below.refl _ _⟩
  · go_enter Tryd.func5, Tryd.ntmps5
    go_wp2_with fail
    go_ret
    exact ⟨rfl, Below.refl _ _⟩

theorem lawRune_walk (r : Int) (hb : r ≤ 2147483647) (w : World) (hT : BoolTab 0 tokB w) :
    Calls Tryd.prog 3 #[.int .i32 r] w fun e w' => e = .returned (.bool true) ∧ Below w.heap.size w w' := by
  by_cases hn : r < 0
  · go_enter Tryd.func3, Tryd.ntmps3
    go_wp2_with fail
    refine (implTokenRune_any 97 _ (by decide) hT).mono ?_
    rintro e w' ⟨rfl, rfl⟩
    go_wp2_with fail
    go_ret
    exact ⟨ret_bool (by decide), Below.refl _ _⟩
  · obtain ⟨n, rfl⟩ := Int.eq_ofNat_of_zero_le (show 0 ≤ r by omega)
    have hb' : n ≤ 2147483647 := by omega
    go_enter Tryd.func3, Tryd.ntmps3
    go_wp2_with fail
    refine (implTokenRune_any n _ hb' hT).mono ?_
    rintro e w' ⟨rfl, rfl⟩
    go_wp2_with fail
    refine (specTchar_any n _ hb').mono ?_
    rintro e w' ⟨rfl, rfl⟩
    go_wp2_with fail
    refine (implTokenRune_any 97 _ (by decide) hT).mono ?_
    rintro e w' ⟨rfl, rfl⟩
    go_wp2_with fail
    go_ret
    exact ⟨ret_bool (by decide), Below.refl _ _⟩
end Go.Proofs.YtkiopdmnkinphaaDoor
