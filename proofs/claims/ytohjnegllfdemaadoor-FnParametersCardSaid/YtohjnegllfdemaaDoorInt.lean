/-
  The walk of consumeIntegerOrDecimal.
-/
import Derived.Test.YtohjnegllfdemaaDoorNum
set_option maxRecDepth 100000
namespace Go.Proofs.YtohjnegllfdemaaDoor
open Go.RowKit

/-- What consumeIntegerOrDecimal gives. -/
def IntPost (s : ByteArray) (R : Option (Bool × Bs)) (e : Ending) : Prop :=
  match R with
  | none => Nope e
  | some (_, r) => Took s r e

/-- The loop's head: ahead of the point, or behind it. -/
def IntInv (s : ByteArray) (o : Nat) (R : Option (Bool × Bs)) (i per d : Value) : Prop :=
  (∃ k : Nat, k ≤ s.size ∧ o ≤ k ∧ i = .int .i64 k ∧ per = .int .i64 0 ∧ d = .bool false ∧ num1 (k - o) ((bl s).drop k) = R ∧ (k = o → ∃ h : o < s.size, digB (s[o]).toNat = true)) ∨
  (∃ (j p : Nat) (h : j < s.size), p ≤ j ∧ o < p ∧ p ≤ o + 12 ∧ i = .int .i64 (j + 1 : Nat) ∧ per = .int .i64 p ∧ d = .bool true ∧ num2 (j - p) ((bl s).drop (j + 1)) = R ∧ ((j = p ∧ (s[j]).toNat = 46) ∨ (p < j ∧ digB (s[j]).toNat = true)))

theorem dig_ne {n : Nat} (h : digB n = true) : n ≠ 46 := by
  intro e
  subst e
  cases h

set_option maxHeartbeats 4000000 in
theorem int_minus (s : ByteArray) (R : Option (Bool × Bs)) (w : World) (hs : s.size ≤ maxLen) (h0 : 1 < s.size) (hm : (((s[0]).toNat : Int) == 45) = true) (hd0 : digB (s[1]).toNat = true) (HR : Hid (num1 0 ((bl s).drop 1) = R)) :
    Calls Tryd.prog 75 #[.string s] w fun e w' => IntPost s R e ∧ Gr w w' := by
  unfold maxLen at hs
  have hse : ¬ s = ByteArray.empty := by intro e; rw [e] at h0; simp at h0
  have HI : IntInv s 1 R (.int .i64 1) (.int .i64 0) (.bool false) := .inl ⟨1, by omega, Nat.le_refl _, rfl, rfl, rfl, HR.out, fun _ => ⟨h0, hd0⟩⟩
  go_enter Tryd.func75, Tryd.ntmps75
  go_wp2_with (go_at_call 90; refine (isDigit_any _ _).mono ?_; rintro e w' ⟨rfl, rfl⟩)
  clear hm hd0
  go_loop [5, 7, 8] (fun i per d => IntInv s 1 R i per d) (fun i _ _ => s.size - (intOf i).toNat)
  case atStart => exact HI
  case round =>
    clear HI
    rcases hrel with ⟨k, hk, hok, rfl, rfl, rfl, hr, hko⟩ | ⟨j, p, hjs, hpj0, hop, hp12, rfl, rfl, rfl, hr, hj⟩
    · by_cases hlt : k < s.size
      · rcases num1_step s k (k - 1) R hlt hr with ⟨hd, hx⟩ | ⟨hd, hc, hn, ⟨h12, hx⟩ | ⟨h12, hx⟩⟩ | ⟨hd, hc, hx⟩
        · have HN : IntInv s 1 R (.int .i64 ((k + 1 : Nat) : Int)) (.int .i64 0) (.bool false) := .inl ⟨k + 1, by omega, by omega, rfl, rfl, rfl, by rw [show k + 1 - 1 = k - 1 + 1 from by omega]; exact hx, fun h => absurd h (by omega)⟩
          have HH := hid HN
          clear HN hr hx hko
          go_wp2_with (go_at_call 90; refine (isDigit_any _ _).mono ?_; rintro e w' ⟨rfl, rfl⟩)
          go_round
          case rel => simpa using HH.out
          case measure => simp [intOf]; omega
        · have HX := hid hx
          have c1 : (((s[k]).toNat : Int) == 46) = true := eqT hc
          have q1 : (12 : Int) < (k : Int) - 1 := by omega
          clear hr hx hko hc
          go_wp2_with (go_at_call 90; refine (isDigit_any _ _).mono ?_; rintro e w' ⟨rfl, rfl⟩)
          go_ret3
          exact ⟨by rw [HX.out]; exact ⟨_, _, rfl⟩, Gr.refl _⟩
        · have HN : IntInv s 1 R (.int .i64 ((k + 1 : Nat) : Int)) (.int .i64 k) (.bool true) := .inr ⟨k, k, hlt, Nat.le_refl _, by omega, by omega, rfl, rfl, rfl, by rw [Nat.sub_self]; exact hx, .inl ⟨rfl, hc⟩⟩
          have HH := hid HN
          have c1 : (((s[k]).toNat : Int) == 46) = true := eqT hc
          have q1 : (k : Int) - 1 ≤ 12 := by omega
          clear HN hr hx hko hc
          go_wp2_with (go_at_call 90; refine (isDigit_any _ _).mono ?_; rintro e w' ⟨rfl, rfl⟩)
          go_round
          case rel => simpa using HH.out
          case measure => simp [intOf]; omega
        · have hn : k ≠ 1 := by
            intro e
            subst e
            obtain ⟨_, h⟩ := hko rfl
            rw [hd] at h
            cases h
          have c1 : (((s[k]).toNat : Int) == 46) = false := eqF (n := 46) (by omega)
          clear hr hko hc
          by_cases h15 : 15 < k - 1
          · have HX := hid (show R = none by rw [hx, if_pos (by omega)])
            clear hx
            have q1 : (15 : Int) < (k : Int) - 1 := by omega
            go_wp2_with (go_at_call 90; refine (isDigit_any _ _).mono ?_; rintro e w' ⟨rfl, rfl⟩)
            go_ret3
            exact ⟨by rw [HX.out]; exact ⟨_, _, rfl⟩, Gr.refl _⟩
          · have HX := hid (show R = some (false, (bl s).drop k) by rw [hx, if_neg (by omega)])
            clear hx
            have q1 : (k : Int) - 1 ≤ 15 := by omega
            go_wp2_with (go_at_call 90; refine (isDigit_any _ _).mono ?_; rintro e w' ⟨rfl, rfl⟩)
            go_quiet (fail)
            go_wp2
            go_ret3
            exact ⟨by rw [HX.out]; exact took_at s k _ hk rfl, (Gr.refl _).drewN _⟩
      · have hn : k ≠ 1 := by
          intro e
          subst e
          obtain ⟨h, _⟩ := hko rfl
          exact hlt h
        have hx : R = if k - 1 = 0 ∨ 15 < k - 1 then none else some (false, (bl s).drop k) := by
          rw [bl_end s k hlt]
          exact num1_end s k (k - 1) R hlt hr
        clear hr hko
        by_cases h15 : 15 < k - 1
        · have HX := hid (show R = none by rw [hx, if_pos (by omega)])
          clear hx
          have q1 : (15 : Int) < (k : Int) - 1 := by omega
          go_wp2_with fail
          go_ret3
          exact ⟨by rw [HX.out]; exact ⟨_, _, rfl⟩, Gr.refl _⟩
        · have HX := hid (show R = some (false, (bl s).drop k) by rw [hx, if_neg (by omega)])
          clear hx
          have q1 : (k : Int) - 1 ≤ 15 := by omega
          go_wp2_with fail
          go_quiet (fail)
          go_wp2
          go_ret3
          exact ⟨by rw [HX.out]; exact took_at s k _ hk rfl, (Gr.refl _).drewN _⟩
    · by_cases hlt : j + 1 < s.size
      · rcases num2_step s (j + 1) (j - p) R hlt hr with ⟨hd, hx⟩ | ⟨hd, hx⟩
        · have HN : IntInv s 1 R (.int .i64 ((j + 1 + 1 : Nat) : Int)) (.int .i64 p) (.bool true) := .inr ⟨j + 1, p, hlt, by omega, hop, hp12, rfl, rfl, rfl, by rw [show j + 1 - p = j - p + 1 from by omega]; exact hx, .inr ⟨by omega, hd⟩⟩
          have HH := hid HN
          clear HN hr hx hj
          go_wp2_with (go_at_call 90; refine (isDigit_any _ _).mono ?_; rintro e w' ⟨rfl, rfl⟩)
          go_round
          case rel => simpa using HH.out
          case measure => simp [intOf]; omega
        · clear hr
          rcases hj with ⟨rfl, h46⟩ | ⟨hpj, hdj⟩
          · have HX := hid (show R = none by rw [hx, if_pos (by omega)])
            clear hx
            have q1 : (j : Int) + 1 - 1 ≤ 16 := by omega
            have q2 : (((s[j]).toNat : Int) == 46) = true := eqT h46
            clear h46
            go_wp2_with (go_at_call 90; refine (isDigit_any _ _).mono ?_; rintro e w' ⟨rfl, rfl⟩)
            go_ret3
            exact ⟨by rw [HX.out]; exact ⟨_, _, rfl⟩, Gr.refl _⟩
          · have q2 : (((s[j]).toNat : Int) == 46) = false := eqF (n := 46) (dig_ne hdj)
            clear hdj
            by_cases h3 : 3 < j - p
            · have HX := hid (show R = none by rw [hx, if_pos (by omega)])
              clear hx
              have q3 : (3 : Int) < (j : Int) + 1 - (p : Int) - 1 := by omega
              by_cases h16 : (16 : Int) < (j : Int) + 1 - 1
              · go_wp2_with (go_at_call 90; refine (isDigit_any _ _).mono ?_; rintro e w' ⟨rfl, rfl⟩)
                go_ret3
                exact ⟨by rw [HX.out]; exact ⟨_, _, rfl⟩, Gr.refl _⟩
              · go_wp2_with (go_at_call 90; refine (isDigit_any _ _).mono ?_; rintro e w' ⟨rfl, rfl⟩)
                go_ret3
                exact ⟨by rw [HX.out]; exact ⟨_, _, rfl⟩, Gr.refl _⟩
            · have HX := hid (show R = some (true, (bl s).drop (j + 1)) by rw [hx, if_neg (by omega)])
              clear hx
              have q3 : (j : Int) + 1 - (p : Int) - 1 ≤ 3 := by omega
              have q1 : (j : Int) + 1 - 1 ≤ 16 := by omega
              go_wp2_with (go_at_call 90; refine (isDigit_any _ _).mono ?_; rintro e w' ⟨rfl, rfl⟩)
              go_quiet (fail)
              go_wp2
              go_ret3
              exact ⟨by rw [HX.out]; exact took_at s (j + 1) _ (by omega) rfl, (Gr.refl _).drewN _⟩
      · have hx : R = if j - p = 0 ∨ 3 < j - p then none else some (true, (bl s).drop (j + 1)) := by
          rw [bl_end s (j + 1) hlt]
          exact num2_end s (j + 1) (j - p) R hlt hr
        clear hr
        rcases hj with ⟨rfl, h46⟩ | ⟨hpj, hdj⟩
        · have HX := hid (show R = none by rw [hx, if_pos (by omega)])
          clear hx
          have q1 : (j : Int) + 1 - 1 ≤ 16 := by omega
          have q2 : (((s[j]).toNat : Int) == 46) = true := eqT h46
          clear h46
          go_wp2_with fail
          go_ret3
          exact ⟨by rw [HX.out]; exact ⟨_, _, rfl⟩, Gr.refl _⟩
        · have q2 : (((s[j]).toNat : Int) == 46) = false := eqF (n := 46) (dig_ne hdj)
          clear hdj
          by_cases h3 : 3 < j - p
          · have HX := hid (show R = none by rw [hx, if_pos (by omega)])
            clear hx
            have q3 : (3 : Int) < (j : Int) + 1 - (p : Int) - 1 := by omega
            by_cases h16 : (16 : Int) < (j : Int) + 1 - 1
            · go_wp2_with fail
              go_ret3
              exact ⟨by rw [HX.out]; exact ⟨_, _, rfl⟩, Gr.refl _⟩
            · go_wp2_with fail
              go_ret3
              exact ⟨by rw [HX.out]; exact ⟨_, _, rfl⟩, Gr.refl _⟩
          · have HX := hid (show R = some (true, (bl s).drop (j + 1)) by rw [hx, if_neg (by omega)])
            clear hx
            have q3 : (j : Int) + 1 - (p : Int) - 1 ≤ 3 := by omega
            have q1 : (j : Int) + 1 - 1 ≤ 16 := by omega
            go_wp2_with fail
            go_quiet (fail)
            go_wp2
            go_ret3
            exact ⟨by rw [HX.out]; exact took_at s (j + 1) _ (by omega) rfl, (Gr.refl _).drewN _⟩

set_option maxHeartbeats 4000000 in
theorem int_plain (s : ByteArray) (R : Option (Bool × Bs)) (w : World) (hs : s.size ≤ maxLen) (h0 : 0 < s.size) (hm : (((s[0]).toNat : Int) == 45) = false) (hd0 : digB (s[0]).toNat = true) (HR : Hid (num1 0 ((bl s).drop 0) = R)) :
    Calls Tryd.prog 75 #[.string s] w fun e w' => IntPost s R e ∧ Gr w w' := by
  unfold maxLen at hs
  have hse : ¬ s = ByteArray.empty := by intro e; rw [e] at h0; simp at h0
  have HI : IntInv s 0 R (.int .i64 0) (.int .i64 0) (.bool false) := .inl ⟨0, by omega, Nat.le_refl _, rfl, rfl, rfl, HR.out, fun _ => ⟨h0, hd0⟩⟩
  go_enter Tryd.func75, Tryd.ntmps75
  go_wp2_with (go_at_call 90; refine (isDigit_any _ _).mono ?_; rintro e w' ⟨rfl, rfl⟩)
  clear hm hd0
  go_loop [5, 7, 8] (fun i per d => IntInv s 0 R i per d) (fun i _ _ => s.size - (intOf i).toNat)
  case atStart => exact HI
  case round =>
    clear HI
    rcases hrel with ⟨k, hk, hok, rfl, rfl, rfl, hr, hko⟩ | ⟨j, p, hjs, hpj0, hop, hp12, rfl, rfl, rfl, hr, hj⟩
    · by_cases hlt : k < s.size
      · rcases num1_step s k (k - 0) R hlt hr with ⟨hd, hx⟩ | ⟨hd, hc, hn, ⟨h12, hx⟩ | ⟨h12, hx⟩⟩ | ⟨hd, hc, hx⟩
        · have HN : IntInv s 0 R (.int .i64 ((k + 1 : Nat) : Int)) (.int .i64 0) (.bool false) := .inl ⟨k + 1, by omega, by omega, rfl, rfl, rfl, by rw [show k + 1 - 0 = k - 0 + 1 from by omega]; exact hx, fun h => absurd h (by omega)⟩
          have HH := hid HN
          clear HN hr hx hko
          go_wp2_with (go_at_call 90; refine (isDigit_any _ _).mono ?_; rintro e w' ⟨rfl, rfl⟩)
          go_round
          case rel => simpa using HH.out
          case measure => simp [intOf]; omega
        · have HX := hid hx
          have c1 : (((s[k]).toNat : Int) == 46) = true := eqT hc
          have q1 : (12 : Int) < (k : Int) - 0 := by omega
          clear hr hx hko hc
          go_wp2_with (go_at_call 90; refine (isDigit_any _ _).mono ?_; rintro e w' ⟨rfl, rfl⟩)
          go_ret3
          exact ⟨by rw [HX.out]; exact ⟨_, _, rfl⟩, Gr.refl _⟩
        · have HN : IntInv s 0 R (.int .i64 ((k + 1 : Nat) : Int)) (.int .i64 k) (.bool true) := .inr ⟨k, k, hlt, Nat.le_refl _, by omega, by omega, rfl, rfl, rfl, by rw [Nat.sub_self]; exact hx, .inl ⟨rfl, hc⟩⟩
          have HH := hid HN
          have c1 : (((s[k]).toNat : Int) == 46) = true := eqT hc
          have q1 : (k : Int) - 0 ≤ 12 := by omega
          clear HN hr hx hko hc
          go_wp2_with (go_at_call 90; refine (isDigit_any _ _).mono ?_; rintro e w' ⟨rfl, rfl⟩)
          go_round
          case rel => simpa using HH.out
          case measure => simp [intOf]; omega
        · have hn : k ≠ 0 := by
            intro e
            subst e
            obtain ⟨_, h⟩ := hko rfl
            rw [hd] at h
            cases h
          have c1 : (((s[k]).toNat : Int) == 46) = false := eqF (n := 46) (by omega)
          clear hr hko hc
          by_cases h15 : 15 < k - 0
          · have HX := hid (show R = none by rw [hx, if_pos (by omega)])
            clear hx
            have q1 : (15 : Int) < (k : Int) - 0 := by omega
            go_wp2_with (go_at_call 90; refine (isDigit_any _ _).mono ?_; rintro e w' ⟨rfl, rfl⟩)
            go_ret3
            exact ⟨by rw [HX.out]; exact ⟨_, _, rfl⟩, Gr.refl _⟩
          · have HX := hid (show R = some (false, (bl s).drop k) by rw [hx, if_neg (by omega)])
            clear hx
            have q1 : (k : Int) - 0 ≤ 15 := by omega
            go_wp2_with (go_at_call 90; refine (isDigit_any _ _).mono ?_; rintro e w' ⟨rfl, rfl⟩)
            go_quiet (fail)
            go_wp2
            go_ret3
            exact ⟨by rw [HX.out]; exact took_at s k _ hk rfl, (Gr.refl _).drewN _⟩
      · have hn : k ≠ 0 := by
          intro e
          subst e
          obtain ⟨h, _⟩ := hko rfl
          exact hlt h
        have hx : R = if k - 0 = 0 ∨ 15 < k - 0 then none else some (false, (bl s).drop k) := by
          rw [bl_end s k hlt]
          exact num1_end s k (k - 0) R hlt hr
        clear hr hko
        by_cases h15 : 15 < k - 0
        · have HX := hid (show R = none by rw [hx, if_pos (by omega)])
          clear hx
          have q1 : (15 : Int) < (k : Int) - 0 := by omega
          go_wp2_with fail
          go_ret3
          exact ⟨by rw [HX.out]; exact ⟨_, _, rfl⟩, Gr.refl _⟩
        · have HX := hid (show R = some (false, (bl s).drop k) by rw [hx, if_neg (by omega)])
          clear hx
          have q1 : (k : Int) - 0 ≤ 15 := by omega
          go_wp2_with fail
          go_quiet (fail)
          go_wp2
          go_ret3
          exact ⟨by rw [HX.out]; exact took_at s k _ hk rfl, (Gr.refl _).drewN _⟩
    · by_cases hlt : j + 1 < s.size
      · rcases num2_step s (j + 1) (j - p) R hlt hr with ⟨hd, hx⟩ | ⟨hd, hx⟩
        · have HN : IntInv s 0 R (.int .i64 ((j + 1 + 1 : Nat) : Int)) (.int .i64 p) (.bool true) := .inr ⟨j + 1, p, hlt, by omega, hop, hp12, rfl, rfl, rfl, by rw [show j + 1 - p = j - p + 1 from by omega]; exact hx, .inr ⟨by omega, hd⟩⟩
          have HH := hid HN
          clear HN hr hx hj
          go_wp2_with (go_at_call 90; refine (isDigit_any _ _).mono ?_; rintro e w' ⟨rfl, rfl⟩)
          go_round
          case rel => simpa using HH.out
          case measure => simp [intOf]; omega
        · clear hr
          rcases hj with ⟨rfl, h46⟩ | ⟨hpj, hdj⟩
          · have HX := hid (show R = none by rw [hx, if_pos (by omega)])
            clear hx
            have q1 : (j : Int) + 1 - 0 ≤ 16 := by omega
            have q2 : (((s[j]).toNat : Int) == 46) = true := eqT h46
            clear h46
            go_wp2_with (go_at_call 90; refine (isDigit_any _ _).mono ?_; rintro e w' ⟨rfl, rfl⟩)
            go_ret3
            exact ⟨by rw [HX.out]; exact ⟨_, _, rfl⟩, Gr.refl _⟩
          · have q2 : (((s[j]).toNat : Int) == 46) = false := eqF (n := 46) (dig_ne hdj)
            clear hdj
            by_cases h3 : 3 < j - p
            · have HX := hid (show R = none by rw [hx, if_pos (by omega)])
              clear hx
              have q3 : (3 : Int) < (j : Int) + 1 - (p : Int) - 1 := by omega
              by_cases h16 : (16 : Int) < (j : Int) + 1 - 0
              · go_wp2_with (go_at_call 90; refine (isDigit_any _ _).mono ?_; rintro e w' ⟨rfl, rfl⟩)
                go_ret3
                exact ⟨by rw [HX.out]; exact ⟨_, _, rfl⟩, Gr.refl _⟩
              · go_wp2_with (go_at_call 90; refine (isDigit_any _ _).mono ?_; rintro e w' ⟨rfl, rfl⟩)
                go_ret3
                exact ⟨by rw [HX.out]; exact ⟨_, _, rfl⟩, Gr.refl _⟩
            · have HX := hid (show R = some (true, (bl s).drop (j + 1)) by rw [hx, if_neg (by omega)])
              clear hx
              have q3 : (j : Int) + 1 - (p : Int) - 1 ≤ 3 := by omega
              have q1 : (j : Int) + 1 - 0 ≤ 16 := by omega
              go_wp2_with (go_at_call 90; refine (isDigit_any _ _).mono ?_; rintro e w' ⟨rfl, rfl⟩)
              go_quiet (fail)
              go_wp2
              go_ret3
              exact ⟨by rw [HX.out]; exact took_at s (j + 1) _ (by omega) rfl, (Gr.refl _).drewN _⟩
      · have hx : R = if j - p = 0 ∨ 3 < j - p then none else some (true, (bl s).drop (j + 1)) := by
          rw [bl_end s (j + 1) hlt]
          exact num2_end s (j + 1) (j - p) R hlt hr
        clear hr
        rcases hj with ⟨rfl, h46⟩ | ⟨hpj, hdj⟩
        · have HX := hid (show R = none by rw [hx, if_pos (by omega)])
          clear hx
          have q1 : (j : Int) + 1 - 0 ≤ 16 := by omega
          have q2 : (((s[j]).toNat : Int) == 46) = true := eqT h46
          clear h46
          go_wp2_with fail
          go_ret3
          exact ⟨by rw [HX.out]; exact ⟨_, _, rfl⟩, Gr.refl _⟩
        · have q2 : (((s[j]).toNat : Int) == 46) = false := eqF (n := 46) (dig_ne hdj)
          clear hdj
          by_cases h3 : 3 < j - p
          · have HX := hid (show R = none by rw [hx, if_pos (by omega)])
            clear hx
            have q3 : (3 : Int) < (j : Int) + 1 - (p : Int) - 1 := by omega
            by_cases h16 : (16 : Int) < (j : Int) + 1 - 0
            · go_wp2_with fail
              go_ret3
              exact ⟨by rw [HX.out]; exact ⟨_, _, rfl⟩, Gr.refl _⟩
            · go_wp2_with fail
              go_ret3
              exact ⟨by rw [HX.out]; exact ⟨_, _, rfl⟩, Gr.refl _⟩
          · have HX := hid (show R = some (true, (bl s).drop (j + 1)) by rw [hx, if_neg (by omega)])
            clear hx
            have q3 : (j : Int) + 1 - (p : Int) - 1 ≤ 3 := by omega
            have q1 : (j : Int) + 1 - 0 ≤ 16 := by omega
            go_wp2_with fail
            go_quiet (fail)
            go_wp2
            go_ret3
            exact ⟨by rw [HX.out]; exact took_at s (j + 1) _ (by omega) rfl, (Gr.refl _).drewN _⟩

theorem num1_nondigit (c : UInt8) (r : Bs) (h : digB c.toNat = false) : num1 0 (c :: r) = none := by simp [num1, h]

set_option maxHeartbeats 1000000 in
theorem consumeIntegerOrDecimal_any (s : ByteArray) (w : World) (hs : s.size ≤ maxLen) :
    Calls Tryd.prog 75 #[.string s] w fun e w' => IntPost s (num (bl s)) e ∧ Gr w w' := by
  by_cases h0 : 0 < s.size
  · have hb := bl_get s 0 h0
    rw [List.drop_zero] at hb
    cases hm : (((s[0]).toNat : Int) == 45)
    · have hn : num (bl s) = num1 0 (bl s) := by
        have : ¬ s[0] = 45 := fun e => by have := (u8_eq (n := 45) (by decide)).1 e; have := beq_eq_false_iff_ne.1 hm; omega
        rw [hb, num, if_neg this]
      rw [hn]
      cases hd : digB (s[0]).toNat
      · have HX := hid (show num1 0 (bl s) = none by rw [hb, num1_nondigit _ _ hd])
        have hse : ¬ s = ByteArray.empty := by intro e; rw [e] at h0; simp at h0
        clear hb hn
        unfold maxLen at hs
        go_enter Tryd.func75, Tryd.ntmps75
        go_wp2_with (go_at_call 90; refine (isDigit_any _ _).mono ?_; rintro e w' ⟨rfl, rfl⟩)
        go_ret3
        exact ⟨by rw [HX.out]; exact ⟨_, _, rfl⟩, Gr.refl _⟩
      · exact int_plain s _ w hs h0 hm hd (hid rfl)
    · have hn : num (bl s) = num1 0 ((bl s).drop 1) := by
        have : s[0] = 45 := (u8_eq (n := 45) (by decide)).2 (by have := beq_iff_eq.1 hm; omega)
        conv => lhs; rw [hb, num, if_pos this]
      rw [hn]
      by_cases h1 : 1 < s.size
      · cases hd : digB (s[1]).toNat
        · have HX := hid (show num1 0 ((bl s).drop 1) = none by rw [bl_get s 1 h1, num1_nondigit _ _ hd])
          clear hb hn
          unfold maxLen at hs
          go_enter Tryd.func75, Tryd.ntmps75
          go_wp2_with (go_at_call 90; refine (isDigit_any _ _).mono ?_; rintro e w' ⟨rfl, rfl⟩)
          go_ret3
          exact ⟨by rw [HX.out]; exact ⟨_, _, rfl⟩, Gr.refl _⟩
        · exact int_minus s _ w hs h1 hm hd (hid rfl)
      · have HX := hid (show num1 0 ((bl s).drop 1) = none by rw [bl_end s 1 h1]; rfl)
        clear hb hn
        unfold maxLen at hs
        go_enter Tryd.func75, Tryd.ntmps75
        go_wp2
        go_ret3
        exact ⟨by rw [HX.out]; exact ⟨_, _, rfl⟩, Gr.refl _⟩
  · obtain rfl := bl_empty (a := s) (List.eq_nil_of_length_eq_zero (by rw [bl_length]; omega))
    have HX := hid (show num (bl ⟨#[]⟩) = none from rfl)
    clear h0 hs
    go_enter Tryd.func75, Tryd.ntmps75
    go_wp2
    go_ret3
    exact ⟨by rw [HX.out]; exact ⟨_, _, rfl⟩, Gr.refl _⟩

end Go.Proofs.YtohjnegllfdemaaDoor
