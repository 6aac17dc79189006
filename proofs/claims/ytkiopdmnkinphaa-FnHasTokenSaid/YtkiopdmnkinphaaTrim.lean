/-
  The walks of trimOWS, trimmed, TokenName.
-/
import Derived.Test.YtkiopdmnkinphaaLow
namespace Go.Proofs.Ytkiopdmnkinphaa
open Go.RowKit

set_option maxHeartbeats 1000000 in
theorem trimOWS_any (s : ByteArray) (w : World) (hs : s.size ≤ maxLen) :
    Calls Try.prog 28 #[.string s] w fun e w' => (∃ t : ByteArray, e = .returned (.string t) ∧ bl t = trim (bl s) ∧ t.size ≤ s.size) ∧ w = w' := by
  unfold maxLen at hs
  obtain ⟨R, hR⟩ : ∃ R, R = skip wsB (bl s) := ⟨_, rfl⟩
  have ht : trim (bl s) = trimR R := by rw [hR]; rfl
  rw [ht]
  have HR := hid hR.symm
  clear ht hR
  go_enter Try.func28, Try.ntmps28
  go_wp2
  go_loop [0] (fun v => ∃ x : ByteArray, v = .string x ∧ x.size ≤ s.size ∧ Hid (skip wsB (bl x) = R)) (fun v => sz v)
  case atStart => exact ⟨s, rfl, Nat.le_refl _, HR⟩
  case round =>
    obtain ⟨x, rfl, hx, hr⟩ := hrel
    by_cases h0 : 0 < x.size
    · skip
      cases hc : wsB (x[0]).toNat
      · have HX := hid ((skip_no x h0 hc).symm.trans hr.out)
        go_wp2_with (go_at_call 31; refine (isOWS_any _ _).mono ?_; rintro e w' ⟨rfl, rfl⟩)
        clear hc
        go_loop [0] (fun v => ∃ y : ByteArray, v = .string y ∧ y.size ≤ s.size ∧ Hid (trimR (bl y) = trimR R)) (fun v => sz v)
        case atStart => exact ⟨x, rfl, hx, by rw [HX.out]; rfl⟩
        case round =>
          obtain ⟨y, rfl, hy, hr⟩ := hrel
          by_cases g0 : 0 < y.size
          · skip
            obtain ⟨m, hm⟩ : ∃ m, y.size = m + 1 := ⟨y.size - 1, by omega⟩
            have hm' : m < y.size := by omega
            have hms : (y.size : Int) - 1 = (m : Int) := by omega
            cases hc : wsB (y[m]).toNat
            · have HY := hid ((trimR_no y m hm hc).trans hr.out)
              clear hr hm
              go_wp2_with (go_at_call 31; refine (isOWS_any _ _).mono ?_; rintro e w' ⟨rfl, rfl⟩)
              go_ret
              exact ⟨⟨y, rfl, HY.out, hy⟩, rfl⟩
            · have HY := hid ((trimR_yes y m hm hc).trans hr.out)
              have hsz := size_upto y m hm
              clear hr hm
              go_wp2_with (go_at_call 31; refine (isOWS_any _ _).mono ?_; rintro e w' ⟨rfl, rfl⟩)
              go_round
              case rel => exact ⟨_, rfl, by rw [hsz]; omega, HY⟩
              case measure => simp only [sz, hsz]; omega
          · skip
            have HY := hid ((trimR_end y g0).trans hr.out)
            clear hr
            go_wp2
            go_ret
            exact ⟨⟨y, rfl, HY.out, hy⟩, rfl⟩
      · have HX := hid ((skip_yes x h0 hc).trans hr.out)
        go_wp2_with (go_at_call 31; refine (isOWS_any _ _).mono ?_; rintro e w' ⟨rfl, rfl⟩)
        go_round
        case rel => exact ⟨_, rfl, by rw [size_from]; omega, HX⟩
        case measure => simp only [sz, size_from]; omega
    · skip
      have HX := hid ((skip_end x h0).symm.trans hr.out)
      go_wp2
      go_loop [0] (fun v => ∃ y : ByteArray, v = .string y ∧ y.size ≤ s.size ∧ Hid (trimR (bl y) = trimR R)) (fun v => sz v)
      case atStart => exact ⟨x, rfl, hx, by rw [HX.out]; rfl⟩
      case round =>
        obtain ⟨y, rfl, hy, hr⟩ := hrel
        by_cases g0 : 0 < y.size
        · skip
          obtain ⟨m, hm⟩ : ∃ m, y.size = m + 1 := ⟨y.size - 1, by omega⟩
          have hm' : m < y.size := by omega
          have hms : (y.size : Int) - 1 = (m : Int) := by omega
          cases hc : wsB (y[m]).toNat
          · have HY := hid ((trimR_no y m hm hc).trans hr.out)
            clear hr hm
            go_wp2_with (go_at_call 31; refine (isOWS_any _ _).mono ?_; rintro e w' ⟨rfl, rfl⟩)
            go_ret
            exact ⟨⟨y, rfl, HY.out, hy⟩, rfl⟩
          · have HY := hid ((trimR_yes y m hm hc).trans hr.out)
            have hsz := size_upto y m hm
            clear hr hm
            go_wp2_with (go_at_call 31; refine (isOWS_any _ _).mono ?_; rintro e w' ⟨rfl, rfl⟩)
            go_round
            case rel => exact ⟨_, rfl, by rw [hsz]; omega, HY⟩
            case measure => simp only [sz, hsz]; omega
        · skip
          have HY := hid ((trimR_end y g0).trans hr.out)
          clear hr
          go_wp2
          go_ret
          exact ⟨⟨y, rfl, HY.out, hy⟩, rfl⟩

theorem among_ws (n : Nat) (w : World) :
    Calls Try.prog 22 #[.int .u8 n, .string ⟨#[32, 9]⟩] w fun e w' => e = .returned (.bool (wsB n)) ∧ w = w' := by
  rw [← wsB_among]
  exact among_l n _ _ w (by decide) rfl

set_option maxHeartbeats 1000000 in
theorem trimmed_any (s : ByteArray) (w : World) (hs : s.size ≤ maxLen) :
    Calls Try.prog 17 #[.string s] w fun e w' => (∃ t : ByteArray, e = .returned (.string t) ∧ bl t = trim (bl s) ∧ t.size ≤ s.size) ∧ w = w' := by
  unfold maxLen at hs
  obtain ⟨R, hR⟩ : ∃ R, R = skip wsB (bl s) := ⟨_, rfl⟩
  have ht : trim (bl s) = trimR R := by rw [hR]; rfl
  rw [ht]
  have HR := hid hR.symm
  clear ht hR
  go_enter Try.func17, Try.ntmps17
  go_wp2
  go_loop [0] (fun v => ∃ x : ByteArray, v = .string x ∧ x.size ≤ s.size ∧ Hid (skip wsB (bl x) = R)) (fun v => sz v)
  case atStart => exact ⟨s, rfl, Nat.le_refl _, HR⟩
  case round =>
    obtain ⟨x, rfl, hx, hr⟩ := hrel
    by_cases h0 : 0 < x.size
    · have hne := notEmpty h0
      cases hc : wsB (x[0]).toNat
      · have HX := hid ((skip_no x h0 hc).symm.trans hr.out)
        go_wp2_with (go_at_call 22; refine (among_ws _ _).mono ?_; rintro e w' ⟨rfl, rfl⟩)
        clear hc
        go_loop [0] (fun v => ∃ y : ByteArray, v = .string y ∧ y.size ≤ s.size ∧ Hid (trimR (bl y) = trimR R)) (fun v => sz v)
        case atStart => exact ⟨x, rfl, hx, by rw [HX.out]; rfl⟩
        case round =>
          obtain ⟨y, rfl, hy, hr⟩ := hrel
          by_cases g0 : 0 < y.size
          · have hne := notEmpty g0
            obtain ⟨m, hm⟩ : ∃ m, y.size = m + 1 := ⟨y.size - 1, by omega⟩
            have hm' : m < y.size := by omega
            have hms : (y.size : Int) - 1 = (m : Int) := by omega
            cases hc : wsB (y[m]).toNat
            · have HY := hid ((trimR_no y m hm hc).trans hr.out)
              clear hr hm
              go_wp2_with (go_at_call 22; refine (among_ws _ _).mono ?_; rintro e w' ⟨rfl, rfl⟩)
              go_ret
              exact ⟨⟨y, rfl, HY.out, hy⟩, rfl⟩
            · have HY := hid ((trimR_yes y m hm hc).trans hr.out)
              have hsz := size_upto y m hm
              clear hr hm
              go_wp2_with (go_at_call 22; refine (among_ws _ _).mono ?_; rintro e w' ⟨rfl, rfl⟩)
              go_round
              case rel => exact ⟨_, rfl, by rw [hsz]; omega, HY⟩
              case measure => simp only [sz, hsz]; omega
          · have hne := isEmpty_of g0
            have HY := hid ((trimR_end y g0).trans hr.out)
            clear hr
            go_wp2
            go_ret
            exact ⟨⟨y, rfl, HY.out, hy⟩, rfl⟩
      · have HX := hid ((skip_yes x h0 hc).trans hr.out)
        go_wp2_with (go_at_call 22; refine (among_ws _ _).mono ?_; rintro e w' ⟨rfl, rfl⟩)
        go_round
        case rel => exact ⟨_, rfl, by rw [size_from]; omega, HX⟩
        case measure => simp only [sz, size_from]; omega
    · have hne := isEmpty_of h0
      have HX := hid ((skip_end x h0).symm.trans hr.out)
      go_wp2
      go_loop [0] (fun v => ∃ y : ByteArray, v = .string y ∧ y.size ≤ s.size ∧ Hid (trimR (bl y) = trimR R)) (fun v => sz v)
      case atStart => exact ⟨x, rfl, hx, by rw [HX.out]; rfl⟩
      case round =>
        obtain ⟨y, rfl, hy, hr⟩ := hrel
        by_cases g0 : 0 < y.size
        · have hne := notEmpty g0
          obtain ⟨m, hm⟩ : ∃ m, y.size = m + 1 := ⟨y.size - 1, by omega⟩
          have hm' : m < y.size := by omega
          have hms : (y.size : Int) - 1 = (m : Int) := by omega
          cases hc : wsB (y[m]).toNat
          · have HY := hid ((trimR_no y m hm hc).trans hr.out)
            clear hr hm
            go_wp2_with (go_at_call 22; refine (among_ws _ _).mono ?_; rintro e w' ⟨rfl, rfl⟩)
            go_ret
            exact ⟨⟨y, rfl, HY.out, hy⟩, rfl⟩
          · have HY := hid ((trimR_yes y m hm hc).trans hr.out)
            have hsz := size_upto y m hm
            clear hr hm
            go_wp2_with (go_at_call 22; refine (among_ws _ _).mono ?_; rintro e w' ⟨rfl, rfl⟩)
            go_round
            case rel => exact ⟨_, rfl, by rw [hsz]; omega, HY⟩
            case measure => simp only [sz, hsz]; omega
        · have hne := isEmpty_of g0
          have HY := hid ((trimR_end y g0).trans hr.out)
          clear hr
          go_wp2
          go_ret
          exact ⟨⟨y, rfl, HY.out, hy⟩, rfl⟩

theorem all_yes (p : UInt8 → Bool) (s : ByteArray) (k : Nat) (h : k < s.size) (R : Bool) (hr : ((bl s).drop k).all p = R) (hc : p s[k] = true) : ((bl s).drop (k + 1)).all p = R := by
  rw [bl_get s k h] at hr
  simpa [hc] using hr
theorem all_no (p : UInt8 → Bool) (s : ByteArray) (k : Nat) (h : k < s.size) (R : Bool) (hr : ((bl s).drop k).all p = R) (hc : p s[k] = false) : R = false := by
  rw [bl_get s k h] at hr
  simpa [hc] using hr.symm
theorem all_end (p : UInt8 → Bool) (s : ByteArray) (k : Nat) (h : ¬ k < s.size) (R : Bool) (hr : ((bl s).drop k).all p = R) : R = true := by
  rw [bl_end s k h] at hr
  simpa using hr.symm

set_option maxHeartbeats 400000 in
theorem tokenName_any (s : ByteArray) (w : World) (hs : s.size ≤ maxLen) :
    Calls Try.prog 8 #[.string s] w fun e w' => e = .returned (.bool ((bl s).all (fun c => tokB c.toNat) && !s.toList.isEmpty)) ∧ w = w' := by
  unfold maxLen at hs
  obtain ⟨R, hR⟩ : ∃ R, R = (bl s).all (fun c => tokB c.toNat) := ⟨_, rfl⟩
  rw [← hR]
  have HR := hid hR.symm
  clear hR
  go_enter Try.func8, Try.ntmps8
  go_wp2
  go_loop [6] (fun i => ∃ k : Nat, k ≤ s.size ∧ i = .int .i64 k ∧ Hid (((bl s).drop k).all (fun c => tokB c.toNat) = R)) (fun i => s.size - (intOf i).toNat)
  case atStart => exact ⟨0, Nat.zero_le _, rfl, HR⟩
  case round =>
    obtain ⟨k, hk, rfl, hr⟩ := hrel
    by_cases hlt : k < s.size
    · cases hc : tokB (s[k]).toNat
      · have HX := hid (all_no _ s k hlt R hr.out hc)
        go_wp2_with (go_at_call 13; refine (tchar_any _ _).mono ?_; rintro e w' ⟨rfl, rfl⟩)
        go_ret
        exact ⟨ret_bool (by rw [HX.out]; rfl), rfl⟩
      · have HX := hid (all_yes _ s k hlt R hr.out hc)
        go_wp2_with (go_at_call 13; refine (tchar_any _ _).mono ?_; rintro e w' ⟨rfl, rfl⟩)
        go_round
        case rel => exact ⟨k + 1, by omega, by go_num, HX⟩
        case measure => simp [intOf]; omega
    · have HX := hid (all_end _ s k hlt R hr.out)
      cases he : s.toList.isEmpty
      all_goals
        go_wp2
        go_ret
        exact ⟨ret_bool (by first | rfl | (rw [HX.out]; done) | simp [HX.out]), rfl⟩
end Go.Proofs.Ytkiopdmnkinphaa
