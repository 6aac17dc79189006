/-
  The walk of consumeByteSequence.
-/
import Derived.Test.YtohjnegllfdemaaDoorStr
namespace Go.Proofs.YtohjnegllfdemaaDoor
open Go.RowKit

theorem bytT_some (s : ByteArray) (k : Nat) (r : Bs) (h : bytT ((bl s).drop k) = some r) :
    ∃ hlt : k < s.size, ((s[k]).toNat = 58 ∧ (bl s).drop (k + 1) = r) ∨ ((s[k]).toNat ≠ 58 ∧ b64B (s[k]).toNat = true ∧ bytT ((bl s).drop (k + 1)) = some r) := by
  by_cases hlt : k < s.size
  · refine ⟨hlt, ?_⟩
    rw [bl_get s k hlt, bytT] at h
    split at h
    · rename_i hc
      exact .inl ⟨(u8_eq (n := 58) (by decide)).1 hc, Option.some.inj h⟩
    · rename_i hc
      have hc' : (s[k]).toNat ≠ 58 := fun e => hc ((u8_eq (n := 58) (by decide)).2 e)
      split at h
      · rename_i hb
        exact .inr ⟨hc', hb, h⟩
      · cases h
  · rw [bl_end s k hlt] at h
    cases h
theorem bytT_none (s : ByteArray) (k : Nat) (hlt : k < s.size) (h : bytT ((bl s).drop k) = none) :
    (s[k]).toNat ≠ 58 ∧ (b64B (s[k]).toNat = false ∨ b64B (s[k]).toNat = true ∧ bytT ((bl s).drop (k + 1)) = none) := by
  rw [bl_get s k hlt, bytT] at h
  split at h
  · cases h
  · rename_i hc
    refine ⟨fun e => hc ((u8_eq (n := 58) (by decide)).2 e), ?_⟩
    split at h
    · rename_i hb
      exact .inr ⟨hb, h⟩
    · rename_i hb
      exact .inl (by simpa using hb)
theorem byt_some {s : ByteArray} {r : Bs} (h : byt (bl s) = some r) : ∃ h0 : 0 < s.size, (s[0]).toNat = 58 ∧ bytT ((bl s).drop 1) = some r := by
  cases hb : bl s with
  | nil => rw [hb] at h; cases h
  | cons c t =>
    rw [hb, byt] at h
    split at h
    · rename_i hc
      obtain ⟨h0, h1, h2⟩ := head_of (n := 58) (by decide) hb hc
      exact ⟨h0, h1, h⟩
    · cases h
theorem byt_none {s : ByteArray} (h : byt (bl s) = none) : s.size = 0 ∨ ∃ h0 : 0 < s.size, (s[0]).toNat ≠ 58 ∨ (s[0]).toNat = 58 ∧ bytT ((bl s).drop 1) = none := by
  cases hb : bl s with
  | nil => exact .inl (by rw [← bl_length, hb]; rfl)
  | cons c t =>
    rw [hb, byt] at h
    obtain ⟨h0, h1⟩ := bl_cons hb
    refine .inr ⟨h0, ?_⟩
    split at h
    · rename_i hc
      exact .inr ⟨by rw [h1]; exact (u8_eq (n := 58) (by decide)).1 hc, h⟩
    · rename_i hc
      exact .inl fun e => hc ((u8_eq (n := 58) (by decide)).2 (by rw [← h1]; exact e))

set_option maxHeartbeats 1000000 in
theorem consumeByteSequence_some (s : ByteArray) (r : Bs) (w : World) (hs : s.size ≤ maxLen) (h : byt (bl s) = some r) :
    Calls Tryd.prog 95 #[.string s] w fun e w' => Took s r e ∧ Gr w w' := by
  unfold maxLen at hs
  obtain ⟨h0, h58, hT⟩ := byt_some h
  have HT := hid hT
  have hne := lenF h0
  have h58' : (((s[0]).toNat : Int) != 58) = false := neF h58
  clear h h58 hT
  have kc := fun (w : World) (C : Array Value) (n c : Nat) => Lib.run_convert_bytes_const (P := Tryd.prog) w 80 5 C n c Tryd.underlying80 Tryd.underlying5
  go_enter Tryd.func95, Tryd.ntmps95
  go_wp2
  clear h58'
  go_loopw [5] (fun i wr => ∃ k : Nat, k ≤ s.size ∧ i = .int .i64 k ∧ Hid (bytT ((bl s).drop k) = some r) ∧ Gr w wr) (fun i _ => s.size - (intOf i).toNat)
  case atStart => exact ⟨1, by omega, rfl, HT, Gr.refl _⟩
  case round =>
    obtain ⟨k, hk, rfl, hr, hg⟩ := hrel
    obtain ⟨hlt, hx⟩ := bytT_some s k r hr.out
    rcases hx with ⟨hc, hn⟩ | ⟨hc, hb, hn⟩
    · have c1 : (((s[k]).toNat : Int) == 58) = true := eqT hc
      have HN := hid hn
      clear hn hc
      go_wp2
      go_quiet (fail)
      go_wp2
      go_ret3
      exact ⟨took_at s (k + 1) r (by omega) HN.out, hg.drewN _⟩
    · have c1 : (((s[k]).toNat : Int) == 58) = false := eqF hc
      have HN := hid hn
      clear hn hc
      cases h1 : alpB (s[k]).toNat <;> cases h2 : digB (s[k]).toNat
      · have h3 : amongB (s[k]).toNat b64Marks = true := by simpa [b64B, h1, h2] using hb
        clear hb
        go_wp2_with (first | (go_at_call 93; refine (isAlpha_any _ _).mono ?_; rintro e w' ⟨rfl, rfl⟩) | (go_at_call 90; refine (isDigit_any _ _).mono ?_; rintro e w' ⟨rfl, rfl⟩))
        refine (contains_any _ b64Marks _ _ _ _ rfl (by decide) (cells8_alloc _ _ _ _ _ rfl)).mono ?_
        rintro e w' ⟨rfl, rfl⟩
        rw [h3]
        go_wp2_with fail
        go_roundw
        case rel => exact ⟨k + 1, by omega, by go_num, HN, hg.alloc _⟩
        case measure => simp [intOf]; omega
      all_goals
        clear hb
        go_wp2_with (first | (go_at_call 93; refine (isAlpha_any _ _).mono ?_; rintro e w' ⟨rfl, rfl⟩) | (go_at_call 90; refine (isDigit_any _ _).mono ?_; rintro e w' ⟨rfl, rfl⟩))
        go_roundw
        case rel => exact ⟨k + 1, by omega, by go_num, HN, hg⟩
        case measure => simp [intOf]; omega

set_option maxHeartbeats 1000000 in
theorem consumeByteSequence_none (s : ByteArray) (w : World) (hs : s.size ≤ maxLen) (h : byt (bl s) = none) :
    Calls Tryd.prog 95 #[.string s] w fun e w' => Nope e ∧ Gr w w' := by
  unfold maxLen at hs
  rcases byt_none h with h0 | ⟨h0, h58 | ⟨h58, hT⟩⟩
  · have hne := lenT h0
    clear h h0
    go_enter Tryd.func95, Tryd.ntmps95
    go_wp2
    go_ret3
    exact ⟨⟨_, _, rfl⟩, Gr.refl _⟩
  · have hne := lenF h0
    have h58' : (((s[0]).toNat : Int) != 58) = true := neT h58
    clear h h58
    go_enter Tryd.func95, Tryd.ntmps95
    go_wp2
    go_ret3
    exact ⟨⟨_, _, rfl⟩, Gr.refl _⟩
  have HT := hid hT
  have hne := lenF h0
  have h58' : (((s[0]).toNat : Int) != 58) = false := neF h58
  clear h h58 hT
  have kc := fun (w : World) (C : Array Value) (n c : Nat) => Lib.run_convert_bytes_const (P := Tryd.prog) w 80 5 C n c Tryd.underlying80 Tryd.underlying5
  go_enter Tryd.func95, Tryd.ntmps95
  go_wp2
  clear h58'
  go_loopw [5] (fun i wr => ∃ k : Nat, k ≤ s.size ∧ i = .int .i64 k ∧ Hid (bytT ((bl s).drop k) = none) ∧ Gr w wr) (fun i _ => s.size - (intOf i).toNat)
  case atStart => exact ⟨1, by omega, rfl, HT, Gr.refl _⟩
  case round =>
    obtain ⟨k, hk, rfl, hr, hg⟩ := hrel
    by_cases hlt : k < s.size
    · obtain ⟨hc, hx⟩ := bytT_none s k hlt hr.out
      have c1 : (((s[k]).toNat : Int) == 58) = false := eqF hc
      clear hc
      have hx' : (alpB (s[k]).toNat = false ∧ digB (s[k]).toNat = false ∧ amongB (s[k]).toNat b64Marks = false) ∨ (b64B (s[k]).toNat = true ∧ bytT ((bl s).drop (k + 1)) = none) := by
        rcases hx with hx | hx
        · simp only [b64B, Bool.or_eq_false_iff] at hx
          exact .inl ⟨hx.1.1, hx.1.2, hx.2⟩
        · exact .inr hx
      clear hx
      rcases hx' with ⟨h1, h2, h3⟩ | ⟨hb, hn⟩
      · go_wp2_with (first | (go_at_call 93; refine (isAlpha_any _ _).mono ?_; rintro e w' ⟨rfl, rfl⟩) | (go_at_call 90; refine (isDigit_any _ _).mono ?_; rintro e w' ⟨rfl, rfl⟩))
        refine (contains_any _ b64Marks _ _ _ _ rfl (by decide) (cells8_alloc _ _ _ _ _ rfl)).mono ?_
        rintro e w' ⟨rfl, rfl⟩
        rw [h3]
        go_wp2_with fail
        go_ret3
        exact ⟨⟨_, _, rfl⟩, hg.alloc _⟩
      have HN := hid hn
      clear hn
      cases h1 : alpB (s[k]).toNat <;> cases h2 : digB (s[k]).toNat
      · have h3 : amongB (s[k]).toNat b64Marks = true := by simpa [b64B, h1, h2] using hb
        clear hb
        go_wp2_with (first | (go_at_call 93; refine (isAlpha_any _ _).mono ?_; rintro e w' ⟨rfl, rfl⟩) | (go_at_call 90; refine (isDigit_any _ _).mono ?_; rintro e w' ⟨rfl, rfl⟩))
        refine (contains_any _ b64Marks _ _ _ _ rfl (by decide) (cells8_alloc _ _ _ _ _ rfl)).mono ?_
        rintro e w' ⟨rfl, rfl⟩
        rw [h3]
        go_wp2_with fail
        go_roundw
        case rel => exact ⟨k + 1, by omega, by go_num, HN, hg.alloc _⟩
        case measure => simp [intOf]; omega
      all_goals
        clear hb
        go_wp2_with (first | (go_at_call 93; refine (isAlpha_any _ _).mono ?_; rintro e w' ⟨rfl, rfl⟩) | (go_at_call 90; refine (isDigit_any _ _).mono ?_; rintro e w' ⟨rfl, rfl⟩))
        go_roundw
        case rel => exact ⟨k + 1, by omega, by go_num, HN, hg⟩
        case measure => simp [intOf]; omega
    · go_wp2
      go_ret3
      exact ⟨⟨_, _, rfl⟩, hg⟩

end Go.Proofs.YtohjnegllfdemaaDoor
