/-
  The walks of spec.number and spec.Number.
-/
import Derived.Test.YtohjnegllfdemaaDoorQuo
set_option maxRecDepth 100000
namespace Go.Proofs.YtohjnegllfdemaaDoor
open Go.RowKit

theorem num1_big (n : Nat) (l : Bs) (h : 15 < n) : num1 n l = none := by
  induction l generalizing n with
  | nil => simp [num1, h]
  | cons c r ih =>
    unfold num1
    split
    · exact ih (n + 1) (by omega)
    · split
      · rw [if_pos (by omega)]
      · rw [if_pos (by omega)]
theorem num2_big (m : Nat) (l : Bs) (h : 3 < m) : num2 m l = none := by
  induction l generalizing m with
  | nil => simp [num2, h]
  | cons c r ih =>
    unfold num2
    split
    · exact ih (m + 1) (by omega)
    · rw [if_pos (by omega)]

/-- What Number gives. -/
def NumPost (s : ByteArray) (R : Option (Bool × Bs)) (e : Ending) : Prop :=
  match R with
  | none => e = .returned (.tuple #[.string ⟨#[]⟩, .bool false, .bool false])
  | some (d, r) => ∃ c : ByteArray, e = .returned (.tuple #[.string c, .bool d, .bool true]) ∧ bl c = ahead (bl s) r ∧ r.length ≤ s.size

theorem number_none0 (s : ByteArray) (st : Nat) (w : World) (_hs : s.size ≤ 2147483647) (h : s.size = st) :
    Calls Tryd.prog 78 #[.string s, .int .i64 st, .int .i64 (-1)] w fun e w' => e = .returned (.tuple #[.string ⟨#[]⟩, .bool false, .bool false]) ∧ w = w' := by
  have h1 : ((s.size : Int) == (st : Int)) = true := eqT h
  clear h
  go_enter Tryd.func78, Tryd.ntmps78
  go_wp2
  go_ret3
  exact ⟨rfl, rfl⟩
theorem number_some0 (s : ByteArray) (st : Nat) (w : World) (_hs : s.size ≤ 2147483647) (h : st < s.size) :
    Calls Tryd.prog 78 #[.string s, .int .i64 st, .int .i64 (-1)] w fun e w' => e = .returned (.tuple #[.string s, .bool false, .bool true]) ∧ w = w' := by
  have h1 : ((s.size : Int) == (st : Int)) = false := eqF (by omega)
  have h2 : ((-1 : Int) == (s.size : Int) - 1) = false := by rw [beq_eq_false_iff_ne]; omega
  go_enter Tryd.func78, Tryd.ntmps78
  go_wp2
  go_ret3
  exact ⟨rfl, rfl⟩
theorem number_none1 (s : ByteArray) (st p : Nat) (w : World) (hs : s.size ≤ 2147483647) (h : st < p) (hp : p < s.size) (hm : s.size - p - 1 = 0 ∨ 3 < s.size - p - 1) :
    Calls Tryd.prog 78 #[.string s, .int .i64 st, .int .i64 p] w fun e w' => e = .returned (.tuple #[.string ⟨#[]⟩, .bool false, .bool false]) ∧ w = w' := by
  have h1 : ((s.size : Int) == (st : Int)) = false := eqF (by omega)
  rcases hm with hm | hm
  · have h2 : ((p : Int) == (s.size : Int) - 1) = true := by rw [beq_iff_eq]; omega
    clear hm
    go_enter Tryd.func78, Tryd.ntmps78
    go_wp2
    go_ret3
    exact ⟨rfl, rfl⟩
  · have h2 : ((p : Int) == (s.size : Int) - 1) = false := by rw [beq_eq_false_iff_ne]; omega
    have h3 : (3 : Int) < (s.size : Int) - p - 1 := by omega
    clear hm
    go_enter Tryd.func78, Tryd.ntmps78
    go_wp2
    go_ret3
    exact ⟨rfl, rfl⟩
theorem number_some1 (s : ByteArray) (st p : Nat) (w : World) (hs : s.size ≤ 2147483647) (h : st < p) (hp : p < s.size) (hm : ¬ (s.size - p - 1 = 0 ∨ 3 < s.size - p - 1)) :
    Calls Tryd.prog 78 #[.string s, .int .i64 st, .int .i64 p] w fun e w' => e = .returned (.tuple #[.string s, .bool true, .bool true]) ∧ w = w' := by
  have h1 : ((s.size : Int) == (st : Int)) = false := eqF (by omega)
  have h2 : ((p : Int) == (s.size : Int) - 1) = false := by rw [beq_eq_false_iff_ne]; omega
  have h3 : (s.size : Int) - p - 1 ≤ 3 := by omega
  clear hm
  go_enter Tryd.func78, Tryd.ntmps78
  go_wp2
  go_ret3
  exact ⟨rfl, rfl⟩

theorem num1_end (s : ByteArray) (k n : Nat) (R : Option (Bool × Bs)) (hk : ¬ k < s.size) (h : num1 n ((bl s).drop k) = R) : R = if n = 0 ∨ 15 < n then none else some (false, []) := by
  rw [← h, bl_end s k hk]
  rfl
theorem num2_end (s : ByteArray) (k m : Nat) (R : Option (Bool × Bs)) (hk : ¬ k < s.size) (h : num2 m ((bl s).drop k) = R) : R = if m = 0 ∨ 3 < m then none else some (true, []) := by
  rw [← h, bl_end s k hk]
  rfl
theorem num1_step (s : ByteArray) (k n : Nat) (R : Option (Bool × Bs)) (hk : k < s.size) (h : num1 n ((bl s).drop k) = R) :
    (digB (s[k]).toNat = true ∧ num1 (n + 1) ((bl s).drop (k + 1)) = R) ∨
    (digB (s[k]).toNat = false ∧ (s[k]).toNat = 46 ∧ 0 < n ∧ (12 < n ∧ R = none ∨ n ≤ 12 ∧ num2 0 ((bl s).drop (k + 1)) = R)) ∨
    (digB (s[k]).toNat = false ∧ ((s[k]).toNat ≠ 46 ∨ n = 0) ∧ R = if n = 0 ∨ 15 < n then none else some (false, (bl s).drop k)) := by
  rw [bl_get s k hk, num1] at h
  split at h
  · rename_i hd
    exact .inl ⟨hd, h⟩
  · rename_i hd
    have hd' : digB (s[k]).toNat = false := by simpa using hd
    split at h
    · rename_i hc
      obtain ⟨hc, hn⟩ := hc
      refine .inr (.inl ⟨hd', (u8_eq (n := 46) (by decide)).1 hc, hn, ?_⟩)
      split at h
      · exact .inl ⟨by assumption, h.symm⟩
      · exact .inr ⟨by omega, h⟩
    · rename_i hc
      refine .inr (.inr ⟨hd', ?_, ?_⟩)
      · by_cases h0 : n = 0
        · exact .inr h0
        · exact .inl fun e => hc ⟨(u8_eq (n := 46) (by decide)).2 e, by omega⟩
      · rw [← h, bl_get s k hk]
theorem num2_step (s : ByteArray) (k m : Nat) (R : Option (Bool × Bs)) (hk : k < s.size) (h : num2 m ((bl s).drop k) = R) :
    (digB (s[k]).toNat = true ∧ num2 (m + 1) ((bl s).drop (k + 1)) = R) ∨
    (digB (s[k]).toNat = false ∧ R = if m = 0 ∨ 3 < m then none else some (true, (bl s).drop k)) := by
  rw [bl_get s k hk, num2] at h
  split at h
  · rename_i hd
    exact .inl ⟨hd, h⟩
  · rename_i hd
    exact .inr ⟨by simpa using hd, by rw [← h, bl_get s k hk]⟩

theorem numPost_at (s : ByteArray) (k : Nat) (d : Bool) (r : Bs) (hk : k ≤ s.size) (h : (bl s).drop k = r) : NumPost s (some (d, r)) (.returned (.tuple #[.string (s.extract 0 k), .bool d, .bool true])) := by
  refine ⟨_, rfl, ?_, ?_⟩
  · rw [bl_upto, ahead, ← h, List.length_drop, bl_length]
    congr 1
    omega
  · rw [← h, List.length_drop, bl_length]
    omega
theorem numPost_whole (s : ByteArray) (d : Bool) : NumPost s (some (d, [])) (.returned (.tuple #[.string s, .bool d, .bool true])) := by
  refine ⟨_, rfl, ?_, Nat.zero_le _⟩
  simp [ahead]

set_option maxHeartbeats 2000000 in
theorem Number_minus (s : ByteArray) (R : Option (Bool × Bs)) (w : World) (hs : s.size ≤ 2147483647) (h0 : 0 < s.size) (hm : (((s[0]).toNat : Int) == 45) = true) (HR : Hid (num1 (1 - 1) ((bl s).drop 1) = R)) :
    Calls Tryd.prog 55 #[.string s] w fun e w' => NumPost s R e ∧ w = w' := by
  have hne : s.toList.isEmpty = false := notEmpty h0
  go_enter Tryd.func55, Tryd.ntmps55
  go_wp2
  clear hm
  go_loop [5, 7] (fun i pt => ∃ k : Nat, 1 ≤ k ∧ k ≤ s.size ∧ i = .int .i64 k ∧ ((pt = .int .i64 (-1) ∧ k - 1 ≤ 15 ∧ Hid (num1 (k - 1) ((bl s).drop k) = R)) ∨ ∃ p : Nat, pt = .int .i64 p ∧ 1 < p ∧ p < k ∧ p - 1 ≤ 12 ∧ Hid (num2 (k - p - 1) ((bl s).drop k) = R))) (fun i _ => s.size - (intOf i).toNat)
  case atStart => exact ⟨1, Nat.le_refl _, by omega, rfl, .inl ⟨rfl, by omega, HR⟩⟩
  case round =>
    obtain ⟨k, hk0, hk, rfl, ⟨rfl, h15, hr⟩ | ⟨p, rfl, hp0, hp1, hp2, hr⟩⟩ := hrel
    · by_cases hlt : k < s.size
      · have hsz : (s.extract 0 k).size = k := by rw [← bl_length, bl_upto, List.length_take, bl_length]; omega
        rcases num1_step s k _ R hlt hr.out with ⟨hd, hn⟩ | ⟨hd, hc, hn0, ⟨h12, hn⟩ | ⟨h12, hn⟩⟩ | ⟨hd, hc, hn⟩
        · clear hr
          by_cases hbig : k + 1 - 1 ≤ 15
          · have HN := hid hn
            clear hn
            have q1 : ((k : Int) + 1 - 1) ≤ 15 := by omega
            go_wp2_with (go_at_call 54; refine (digit_any _ _).mono ?_; rintro e w' ⟨rfl, rfl⟩)
            go_round
            case rel => exact ⟨k + 1, by omega, by omega, by go_num, .inl ⟨rfl, hbig, by rw [show k + 1 - 1 = k - 1 + 1 from by omega]; exact HN⟩⟩
            case measure => simp [intOf]; omega
          · have HN := hid (hn.symm.trans (num1_big _ _ (by omega)))
            clear hn
            have q1 : 15 < ((k : Int) + 1 - 1) := by omega
            go_wp2_with (go_at_call 54; refine (digit_any _ _).mono ?_; rintro e w' ⟨rfl, rfl⟩)
            go_ret3
            exact ⟨by rw [HN.out]; rfl, rfl⟩
        · have HN := hid hn
          clear hn hr
          have c1 : (((s[k]).toNat : Int) == 46) = true := eqT hc
          have q1 : (1 : Int) < (k : Int) := by omega
          have q2 : 12 < ((k : Int) - 1) := by omega
          clear hc
          go_wp2_with (go_at_call 54; refine (digit_any _ _).mono ?_; rintro e w' ⟨rfl, rfl⟩)
          go_ret3
          exact ⟨by rw [HN.out]; rfl, rfl⟩
        · have HN := hid hn
          clear hn hr
          have c1 : (((s[k]).toNat : Int) == 46) = true := eqT hc
          have q1 : (1 : Int) < (k : Int) := by omega
          have q2 : ((k : Int) - 1) ≤ 12 := by omega
          have q3 : ((k : Int) + 1 - 1) ≤ 16 := by omega
          clear hc
          go_wp2_with (go_at_call 54; refine (digit_any _ _).mono ?_; rintro e w' ⟨rfl, rfl⟩)
          go_round
          case rel => exact ⟨k + 1, by omega, by omega, by go_num, .inr ⟨k, rfl, by omega, by omega, by omega, by rw [show k + 1 - k - 1 = 0 from by omega]; exact HN⟩⟩
          case measure => simp [intOf]; omega
        · have c1 : (((s[k]).toNat : Int) == 46) = false ∨ (((s[k]).toNat : Int) == 46) = true ∧ ¬ (1 : Int) < (k : Int) := by
            rcases hc with hc | hc
            · exact .inl (eqF hc)
            · cases h46 : (((s[k]).toNat : Int) == 46)
              · exact .inl rfl
              · exact .inr ⟨rfl, by omega⟩
          clear hc hr
          have HN := hid hn
          clear hn
          rcases c1 with c1 | ⟨c1, c2⟩
          all_goals
            go_wp2_with (go_at_call 54; refine (digit_any _ _).mono ?_; rintro e w' ⟨rfl, rfl⟩)
            by_cases h0 : k - 1 = 0
            · have hk1 : k = 1 := by omega
              refine (number_none0 _ 1 _ (by rw [hsz]; omega) (by rw [hsz]; omega)).mono ?_
              rintro e w' ⟨rfl, rfl⟩
              go_wp2_with fail
              go_ret3
              exact ⟨by rw [HN.out, if_pos (.inl h0)]; rfl, rfl⟩
            · refine (number_some0 _ 1 _ (by rw [hsz]; omega) (by rw [hsz]; omega)).mono ?_
              rintro e w' ⟨rfl, rfl⟩
              go_wp2_with fail
              go_ret3
              exact ⟨by rw [HN.out, if_neg (by omega)]; exact numPost_at s k false _ hk rfl, rfl⟩
      · have HN := hid (num1_end s k _ R hlt hr.out)
        clear hr
        go_wp2_with fail
        by_cases h0 : k - 1 = 0
        · refine (number_none0 _ 1 _ hs (by omega)).mono ?_
          rintro e w' ⟨rfl, rfl⟩
          go_wp2_with fail
          go_ret3
          exact ⟨by rw [HN.out, if_pos (.inl h0)]; rfl, rfl⟩
        · refine (number_some0 _ 1 _ hs (by omega)).mono ?_
          rintro e w' ⟨rfl, rfl⟩
          go_wp2_with fail
          go_ret3
          exact ⟨by rw [HN.out, if_neg (by omega)]; exact numPost_whole s false, rfl⟩
    · by_cases hlt : k < s.size
      · have hsz : (s.extract 0 k).size = k := by rw [← bl_length, bl_upto, List.length_take, bl_length]; omega
        rcases num2_step s k _ R hlt hr.out with ⟨hd, hn⟩ | ⟨hd, hn⟩
        · clear hr
          by_cases hbig : k + 1 - 1 ≤ 16
          · have HN := hid hn
            clear hn
            have q1 : ((k : Int) + 1 - 1) ≤ 16 := by omega
            go_wp2_with (go_at_call 54; refine (digit_any _ _).mono ?_; rintro e w' ⟨rfl, rfl⟩)
            go_round
            case rel => exact ⟨k + 1, by omega, by omega, by go_num, .inr ⟨p, rfl, by omega, by omega, by omega, by rw [show k + 1 - p - 1 = k - p - 1 + 1 from by omega]; exact HN⟩⟩
            case measure => simp [intOf]; omega
          · have HN := hid (hn.symm.trans (num2_big _ _ (by omega)))
            clear hn
            have q1 : 16 < ((k : Int) + 1 - 1) := by omega
            go_wp2_with (go_at_call 54; refine (digit_any _ _).mono ?_; rintro e w' ⟨rfl, rfl⟩)
            go_ret3
            exact ⟨by rw [HN.out]; rfl, rfl⟩
        · clear hr
          have HN := hid hn
          clear hn
          cases c1 : (((s[k]).toNat : Int) == 46)
          all_goals
            go_wp2_with (go_at_call 54; refine (digit_any _ _).mono ?_; rintro e w' ⟨rfl, rfl⟩)
            by_cases h0 : k - p - 1 = 0 ∨ 3 < k - p - 1
            · refine (number_none1 _ 1 p _ (by rw [hsz]; omega) (by omega) (by rw [hsz]; omega) (by rw [hsz]; exact h0)).mono ?_
              rintro e w' ⟨rfl, rfl⟩
              go_wp2_with fail
              go_ret3
              exact ⟨by rw [HN.out, if_pos h0]; rfl, rfl⟩
            · refine (number_some1 _ 1 p _ (by rw [hsz]; omega) (by omega) (by rw [hsz]; omega) (by rw [hsz]; exact h0)).mono ?_
              rintro e w' ⟨rfl, rfl⟩
              go_wp2_with fail
              go_ret3
              exact ⟨by rw [HN.out, if_neg h0]; exact numPost_at s k true _ hk rfl, rfl⟩
      · have hke : k = s.size := by omega
        have HN := hid (num2_end s k _ R hlt hr.out)
        clear hr
        have Hke := hid hke
        clear hke
        go_wp2_with fail
        by_cases h0 : k - p - 1 = 0 ∨ 3 < k - p - 1
        · refine (number_none1 _ 1 p _ hs (by omega) (by omega) (by rw [← Hke.out]; exact h0)).mono ?_
          rintro e w' ⟨rfl, rfl⟩
          go_wp2_with fail
          go_ret3
          exact ⟨by rw [HN.out, if_pos h0]; rfl, rfl⟩
        · refine (number_some1 _ 1 p _ hs (by omega) (by omega) (by rw [← Hke.out]; exact h0)).mono ?_
          rintro e w' ⟨rfl, rfl⟩
          go_wp2_with fail
          go_ret3
          exact ⟨by rw [HN.out, if_neg h0]; exact numPost_whole s true, rfl⟩

set_option maxHeartbeats 2000000 in
theorem Number_plain (s : ByteArray) (R : Option (Bool × Bs)) (w : World) (hs : s.size ≤ 2147483647) (h0 : 0 < s.size) (hm : (((s[0]).toNat : Int) == 45) = false) (HR : Hid (num1 (0 - 0) ((bl s).drop 0) = R)) :
    Calls Tryd.prog 55 #[.string s] w fun e w' => NumPost s R e ∧ w = w' := by
  have hne : s.toList.isEmpty = false := notEmpty h0
  go_enter Tryd.func55, Tryd.ntmps55
  go_wp2
  clear hm
  go_loop [5, 7] (fun i pt => ∃ k : Nat, 0 ≤ k ∧ k ≤ s.size ∧ i = .int .i64 k ∧ ((pt = .int .i64 (-1) ∧ k - 0 ≤ 15 ∧ Hid (num1 (k - 0) ((bl s).drop k) = R)) ∨ ∃ p : Nat, pt = .int .i64 p ∧ 0 < p ∧ p < k ∧ p - 0 ≤ 12 ∧ Hid (num2 (k - p - 1) ((bl s).drop k) = R))) (fun i _ => s.size - (intOf i).toNat)
  case atStart => exact ⟨0, Nat.le_refl _, by omega, rfl, .inl ⟨rfl, by omega, HR⟩⟩
  case round =>
    obtain ⟨k, hk0, hk, rfl, ⟨rfl, h15, hr⟩ | ⟨p, rfl, hp0, hp1, hp2, hr⟩⟩ := hrel
    · by_cases hlt : k < s.size
      · have hsz : (s.extract 0 k).size = k := by rw [← bl_length, bl_upto, List.length_take, bl_length]; omega
        rcases num1_step s k _ R hlt hr.out with ⟨hd, hn⟩ | ⟨hd, hc, hn0, ⟨h12, hn⟩ | ⟨h12, hn⟩⟩ | ⟨hd, hc, hn⟩
        · clear hr
          by_cases hbig : k + 1 - 0 ≤ 15
          · have HN := hid hn
            clear hn
            have q1 : ((k : Int) + 1 - 0) ≤ 15 := by omega
            go_wp2_with (go_at_call 54; refine (digit_any _ _).mono ?_; rintro e w' ⟨rfl, rfl⟩)
            go_round
            case rel => exact ⟨k + 1, by omega, by omega, by go_num, .inl ⟨rfl, hbig, by rw [show k + 1 - 0 = k - 0 + 1 from by omega]; exact HN⟩⟩
            case measure => simp [intOf]; omega
          · have HN := hid (hn.symm.trans (num1_big _ _ (by omega)))
            clear hn
            have q1 : 15 < ((k : Int) + 1 - 0) := by omega
            go_wp2_with (go_at_call 54; refine (digit_any _ _).mono ?_; rintro e w' ⟨rfl, rfl⟩)
            go_ret3
            exact ⟨by rw [HN.out]; rfl, rfl⟩
        · have HN := hid hn
          clear hn hr
          have c1 : (((s[k]).toNat : Int) == 46) = true := eqT hc
          have q1 : (0 : Int) < (k : Int) := by omega
          have q2 : 12 < ((k : Int) - 0) := by omega
          clear hc
          go_wp2_with (go_at_call 54; refine (digit_any _ _).mono ?_; rintro e w' ⟨rfl, rfl⟩)
          go_ret3
          exact ⟨by rw [HN.out]; rfl, rfl⟩
        · have HN := hid hn
          clear hn hr
          have c1 : (((s[k]).toNat : Int) == 46) = true := eqT hc
          have q1 : (0 : Int) < (k : Int) := by omega
          have q2 : ((k : Int) - 0) ≤ 12 := by omega
          have q3 : ((k : Int) + 1 - 0) ≤ 16 := by omega
          clear hc
          go_wp2_with (go_at_call 54; refine (digit_any _ _).mono ?_; rintro e w' ⟨rfl, rfl⟩)
          go_round
          case rel => exact ⟨k + 1, by omega, by omega, by go_num, .inr ⟨k, rfl, by omega, by omega, by omega, by rw [show k + 1 - k - 1 = 0 from by omega]; exact HN⟩⟩
          case measure => simp [intOf]; omega
        · have c1 : (((s[k]).toNat : Int) == 46) = false ∨ (((s[k]).toNat : Int) == 46) = true ∧ ¬ (0 : Int) < (k : Int) := by
            rcases hc with hc | hc
            · exact .inl (eqF hc)
            · cases h46 : (((s[k]).toNat : Int) == 46)
              · exact .inl rfl
              · exact .inr ⟨rfl, by omega⟩
          clear hc hr
          have HN := hid hn
          clear hn
          rcases c1 with c1 | ⟨c1, c2⟩
          all_goals
            go_wp2_with (go_at_call 54; refine (digit_any _ _).mono ?_; rintro e w' ⟨rfl, rfl⟩)
            by_cases h0 : k - 0 = 0
            · have hk1 : k = 0 := by omega
              refine (number_none0 _ 0 _ (by rw [hsz]; omega) (by rw [hsz]; omega)).mono ?_
              rintro e w' ⟨rfl, rfl⟩
              go_wp2_with fail
              go_ret3
              exact ⟨by rw [HN.out, if_pos (.inl h0)]; rfl, rfl⟩
            · refine (number_some0 _ 0 _ (by rw [hsz]; omega) (by rw [hsz]; omega)).mono ?_
              rintro e w' ⟨rfl, rfl⟩
              go_wp2_with fail
              go_ret3
              exact ⟨by rw [HN.out, if_neg (by omega)]; exact numPost_at s k false _ hk rfl, rfl⟩
      · have HN := hid (num1_end s k _ R hlt hr.out)
        clear hr
        go_wp2_with fail
        by_cases h0 : k - 0 = 0
        · refine (number_none0 _ 0 _ hs (by omega)).mono ?_
          rintro e w' ⟨rfl, rfl⟩
          go_wp2_with fail
          go_ret3
          exact ⟨by rw [HN.out, if_pos (.inl h0)]; rfl, rfl⟩
        · refine (number_some0 _ 0 _ hs (by omega)).mono ?_
          rintro e w' ⟨rfl, rfl⟩
          go_wp2_with fail
          go_ret3
          exact ⟨by rw [HN.out, if_neg (by omega)]; exact numPost_whole s false, rfl⟩
    · by_cases hlt : k < s.size
      · have hsz : (s.extract 0 k).size = k := by rw [← bl_length, bl_upto, List.length_take, bl_length]; omega
        rcases num2_step s k _ R hlt hr.out with ⟨hd, hn⟩ | ⟨hd, hn⟩
        · clear hr
          by_cases hbig : k + 1 - 0 ≤ 16
          · have HN := hid hn
            clear hn
            have q1 : ((k : Int) + 1 - 0) ≤ 16 := by omega
            go_wp2_with (go_at_call 54; refine (digit_any _ _).mono ?_; rintro e w' ⟨rfl, rfl⟩)
            go_round
            case rel => exact ⟨k + 1, by omega, by omega, by go_num, .inr ⟨p, rfl, by omega, by omega, by omega, by rw [show k + 1 - p - 1 = k - p - 1 + 1 from by omega]; exact HN⟩⟩
            case measure => simp [intOf]; omega
          · have HN := hid (hn.symm.trans (num2_big _ _ (by omega)))
            clear hn
            have q1 : 16 < ((k : Int) + 1 - 0) := by omega
            go_wp2_with (go_at_call 54; refine (digit_any _ _).mono ?_; rintro e w' ⟨rfl, rfl⟩)
            go_ret3
            exact ⟨by rw [HN.out]; rfl, rfl⟩
        · clear hr
          have HN := hid hn
          clear hn
          cases c1 : (((s[k]).toNat : Int) == 46)
          all_goals
            go_wp2_with (go_at_call 54; refine (digit_any _ _).mono ?_; rintro e w' ⟨rfl, rfl⟩)
            by_cases h0 : k - p - 1 = 0 ∨ 3 < k - p - 1
            · refine (number_none1 _ 0 p _ (by rw [hsz]; omega) (by omega) (by rw [hsz]; omega) (by rw [hsz]; exact h0)).mono ?_
              rintro e w' ⟨rfl, rfl⟩
              go_wp2_with fail
              go_ret3
              exact ⟨by rw [HN.out, if_pos h0]; rfl, rfl⟩
            · refine (number_some1 _ 0 p _ (by rw [hsz]; omega) (by omega) (by rw [hsz]; omega) (by rw [hsz]; exact h0)).mono ?_
              rintro e w' ⟨rfl, rfl⟩
              go_wp2_with fail
              go_ret3
              exact ⟨by rw [HN.out, if_neg h0]; exact numPost_at s k true _ hk rfl, rfl⟩
      · have hke : k = s.size := by omega
        have HN := hid (num2_end s k _ R hlt hr.out)
        clear hr
        have Hke := hid hke
        clear hke
        go_wp2_with fail
        by_cases h0 : k - p - 1 = 0 ∨ 3 < k - p - 1
        · refine (number_none1 _ 0 p _ hs (by omega) (by omega) (by rw [← Hke.out]; exact h0)).mono ?_
          rintro e w' ⟨rfl, rfl⟩
          go_wp2_with fail
          go_ret3
          exact ⟨by rw [HN.out, if_pos h0]; rfl, rfl⟩
        · refine (number_some1 _ 0 p _ hs (by omega) (by omega) (by rw [← Hke.out]; exact h0)).mono ?_
          rintro e w' ⟨rfl, rfl⟩
          go_wp2_with fail
          go_ret3
          exact ⟨by rw [HN.out, if_neg h0]; exact numPost_whole s true, rfl⟩

theorem Number_any (s : ByteArray) (w : World) (hs : s.size ≤ 2147483647) :
    Calls Tryd.prog 55 #[.string s] w fun e w' => NumPost s (num (bl s)) e ∧ w = w' := by
  cases hb : bl s with
  | nil =>
    have hz : s.size = 0 := by rw [← bl_length, hb]; rfl
    have hne : s.toList.isEmpty = true := by rw [bl_toList, hb]; rfl
    have Hz := hid hz
    clear hz hb
    go_enter Tryd.func55, Tryd.ntmps55
    go_wp2
    go_loop [5, 7] (fun i pt => i = .int .i64 0 ∧ pt = .int .i64 (-1)) (fun _ _ => 0)
    case atStart => exact ⟨rfl, rfl⟩
    case round =>
      obtain ⟨rfl, rfl⟩ := hrel
      have hz := Hz.out
      have hz' : ¬ (0 : Int) < (s.size : Int) := by omega
      clear hz
      go_wp2_with fail
      refine (number_none0 _ 0 _ hs Hz.out).mono ?_
      rintro e w' ⟨rfl, rfl⟩
      go_wp2_with fail
      go_ret3
      exact ⟨rfl, rfl⟩
  | cons c t =>
    obtain ⟨h0, h1⟩ := bl_cons hb
    by_cases hc : c = 45
    · have hm : (((s[0]).toNat : Int) == 45) = true := by rw [h1, hc]; rfl
      refine Number_minus s _ w hs h0 hm (hid ?_)
      rw [hb, num, if_pos hc]
      rfl
    · have hm : (((s[0]).toNat : Int) == 45) = false := eqF (n := 45) (fun e => hc ((u8_eq (n := 45) (by decide)).2 (by rw [← h1]; exact e)))
      refine Number_plain s _ w hs h0 hm (hid ?_)
      rw [hb, num, if_neg hc]
      rfl

end Go.Proofs.YtohjnegllfdemaaDoor
