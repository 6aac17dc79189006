/-
  The walks of consumeString and consumeByteSequence.
-/
import Derived.Test.YtohjnegllfdemaaDoorTok
namespace Go.Proofs.YtohjnegllfdemaaDoor
open Go.RowKit

theorem u8_eq {c : UInt8} {n : Nat} (hn : n < 256) : c = UInt8.ofNat n ↔ c.toNat = n := by
  constructor
  · rintro rfl
    simp [Nat.mod_eq_of_lt hn]
  · intro h
    exact UInt8.toNat_inj.1 (by rw [h]; simp [Nat.mod_eq_of_lt hn])

theorem visB_eq (n : Nat) : visB n = (vchB n || spB n) := by
  rw [Bool.eq_iff_iff]; simp [visB, vchB, spB]; omega

theorem strT_some (s : ByteArray) (k : Nat) (r : Bs) (h : strT ((bl s).drop k) = some r) :
    ∃ hlt : k < s.size,
      ((s[k]).toNat = 92 ∧ ∃ h1 : k + 1 < s.size, ((s[k + 1]).toNat = 34 ∨ (s[k + 1]).toNat = 92) ∧ strT ((bl s).drop (k + 2)) = some r) ∨
      ((s[k]).toNat = 34 ∧ (bl s).drop (k + 1) = r) ∨
      ((s[k]).toNat ≠ 92 ∧ (s[k]).toNat ≠ 34 ∧ visB (s[k]).toNat = true ∧ strT ((bl s).drop (k + 1)) = some r) := by
  by_cases hlt : k < s.size
  · refine ⟨hlt, ?_⟩
    rw [bl_get s k hlt, strT.eq_def] at h
    simp only at h
    split at h
    · rename_i hc
      refine .inl ⟨(u8_eq (n := 92) (by decide)).1 hc, ?_⟩
      by_cases h1 : k + 1 < s.size
      · refine ⟨h1, ?_⟩
        rw [bl_get s (k + 1) h1] at h
        simp only at h
        split at h
        · rename_i hd
          refine ⟨?_, h⟩
          rcases hd with hd | hd
          · exact .inl ((u8_eq (n := 34) (by decide)).1 hd)
          · exact .inr ((u8_eq (n := 92) (by decide)).1 hd)
        · cases h
      · rw [bl_end s (k + 1) h1] at h
        cases h
    · rename_i hc
      have hc' : (s[k]).toNat ≠ 92 := fun e => hc ((u8_eq (n := 92) (by decide)).2 e)
      split at h
      · rename_i hq
        exact .inr (.inl ⟨(u8_eq (n := 34) (by decide)).1 hq, Option.some.inj h⟩)
      · rename_i hq
        have hq' : (s[k]).toNat ≠ 34 := fun e => hq ((u8_eq (n := 34) (by decide)).2 e)
        split at h
        · rename_i hv
          exact .inr (.inr ⟨hc', hq', hv, h⟩)
        · cases h
  · rw [bl_end s k hlt] at h
    cases h

theorem strT_none (s : ByteArray) (k : Nat) (hlt : k < s.size) (h : strT ((bl s).drop k) = none) :
      ((s[k]).toNat = 92 ∧ ¬ k + 1 < s.size) ∨
      ((s[k]).toNat = 92 ∧ ∃ h1 : k + 1 < s.size, (s[k + 1]).toNat ≠ 34 ∧ (s[k + 1]).toNat ≠ 92) ∨
      ((s[k]).toNat = 92 ∧ ∃ h1 : k + 1 < s.size, ((s[k + 1]).toNat = 34 ∨ (s[k + 1]).toNat = 92) ∧ strT ((bl s).drop (k + 2)) = none) ∨
      ((s[k]).toNat ≠ 92 ∧ (s[k]).toNat ≠ 34 ∧ visB (s[k]).toNat = false) ∨
      ((s[k]).toNat ≠ 92 ∧ (s[k]).toNat ≠ 34 ∧ visB (s[k]).toNat = true ∧ strT ((bl s).drop (k + 1)) = none) := by
  rw [bl_get s k hlt, strT.eq_def] at h
  simp only at h
  split at h
  · rename_i hc
    have hc' := (u8_eq (n := 92) (by decide)).1 hc
    by_cases h1 : k + 1 < s.size
    · rw [bl_get s (k + 1) h1] at h
      simp only at h
      split at h
      · rename_i hd
        refine .inr (.inr (.inl ⟨hc', h1, ?_, h⟩))
        rcases hd with hd | hd
        · exact .inl ((u8_eq (n := 34) (by decide)).1 hd)
        · exact .inr ((u8_eq (n := 92) (by decide)).1 hd)
      · rename_i hd
        exact .inr (.inl ⟨hc', h1, fun e => hd (.inl ((u8_eq (n := 34) (by decide)).2 e)), fun e => hd (.inr ((u8_eq (n := 92) (by decide)).2 e))⟩)
    · exact .inl ⟨hc', h1⟩
  · rename_i hc
    have hc' : (s[k]).toNat ≠ 92 := fun e => hc ((u8_eq (n := 92) (by decide)).2 e)
    split at h
    · cases h
    · rename_i hq
      have hq' : (s[k]).toNat ≠ 34 := fun e => hq ((u8_eq (n := 34) (by decide)).2 e)
      split at h
      · rename_i hv
        exact .inr (.inr (.inr (.inr ⟨hc', hq', hv, h⟩)))
      · rename_i hv
        exact .inr (.inr (.inr (.inl ⟨hc', hq', by simpa using hv⟩)))

/-- The head of a text, known to open a piece. -/
theorem head_of {s : ByteArray} {c : UInt8} {t : Bs} {n : Nat} (hn : n < 256) (h : bl s = c :: t) (hc : c = UInt8.ofNat n) : ∃ h0 : 0 < s.size, (s[0]).toNat = n ∧ (bl s).drop 1 = t := by
  obtain ⟨h0, h1⟩ := bl_cons h
  exact ⟨h0, by rw [h1]; exact (u8_eq hn).1 hc, by rw [h]; rfl⟩

theorem str_some {s : ByteArray} {r : Bs} (h : str (bl s) = some r) : ∃ h0 : 0 < s.size, (s[0]).toNat = 34 ∧ strT ((bl s).drop 1) = some r := by
  cases hb : bl s with
  | nil => rw [hb] at h; cases h
  | cons c t =>
    rw [hb, str] at h
    split at h
    · rename_i hc
      obtain ⟨h0, h1, h2⟩ := head_of (n := 34) (by decide) hb hc
      exact ⟨h0, h1, h⟩
    · cases h
theorem str_none {s : ByteArray} (h : str (bl s) = none) : s.size = 0 ∨ ∃ h0 : 0 < s.size, (s[0]).toNat ≠ 34 ∨ (s[0]).toNat = 34 ∧ strT ((bl s).drop 1) = none := by
  cases hb : bl s with
  | nil => exact .inl (by rw [← bl_length, hb]; rfl)
  | cons c t =>
    rw [hb, str] at h
    obtain ⟨h0, h1⟩ := bl_cons hb
    refine .inr ⟨h0, ?_⟩
    split at h
    · rename_i hc
      exact .inr ⟨by rw [h1]; exact (u8_eq (n := 34) (by decide)).1 hc, h⟩
    · rename_i hc
      exact .inl fun e => hc ((u8_eq (n := 34) (by decide)).2 (by rw [← h1]; exact e))

theorem eqT {a n : Nat} (h : a = n) : ((a : Int) == (n : Int)) = true := by rw [beq_iff_eq]; omega
theorem eqF {a n : Nat} (h : a ≠ n) : ((a : Int) == (n : Int)) = false := by rw [beq_eq_false_iff_ne]; omega
theorem neT {a n : Nat} (h : a ≠ n) : ((a : Int) != (n : Int)) = true := by rw [bne_iff_ne]; omega
theorem neF {a n : Nat} (h : a = n) : ((a : Int) != (n : Int)) = false := by rw [bne_eq_false_iff_eq]; omega
theorem lenT {n : Nat} (h : n = 0) : ((n : Int) == 0) = true := eqT (n := 0) h
theorem lenF {n : Nat} (h : 0 < n) : ((n : Int) == 0) = false := eqF (n := 0) (by omega)

set_option maxHeartbeats 1000000 in
theorem consumeString_some (s : ByteArray) (r : Bs) (w : World) (hs : s.size ≤ maxLen) (h : str (bl s) = some r) :
    Calls Tryd.prog 92 #[.string s] w fun e w' => Took s r e ∧ Gr w w' := by
  unfold maxLen at hs
  obtain ⟨h0, h34, hT⟩ := str_some h
  have HT := hid hT
  have hne := lenF h0
  have h34' : (((s[0]).toNat : Int) != 34) = false := neF h34
  clear h h34 hT
  go_enter Tryd.func92, Tryd.ntmps92
  go_wp2
  clear h34'
  go_loop [5] (fun i => ∃ k : Nat, k ≤ s.size ∧ i = .int .i64 k ∧ Hid (strT ((bl s).drop k) = some r)) (fun i => s.size - (intOf i).toNat)
  case atStart => exact ⟨1, by omega, rfl, HT⟩
  case round =>
    obtain ⟨k, hk, rfl, hr⟩ := hrel
    obtain ⟨hlt, hx⟩ := strT_some s k r hr.out
    rcases hx with ⟨hc, h1, hd, hn⟩ | ⟨hc, hn⟩ | ⟨hc, hq, hv, hn⟩
    · have c1 : (((s[k]).toNat : Int) == 92) = true := eqT hc
      have HN := hid hn
      clear hn hc
      have hk1 : ((k : Int) + 1 < (s.size : Int)) := by omega
      rcases hd with hd | hd
      · have d1 : (((s[k + 1]).toNat : Int) != 34) = false := neF hd
        clear hd
        go_wp2
        go_round
        case rel => exact ⟨k + 2, by omega, by go_num, HN⟩
        case measure => simp [intOf]; omega
      · have d1 : (((s[k + 1]).toNat : Int) != 34) = true := neT (n := 34) (by omega)
        have d2 : (((s[k + 1]).toNat : Int) != 92) = false := neF hd
        clear hd
        go_wp2
        go_round
        case rel => exact ⟨k + 2, by omega, by go_num, HN⟩
        case measure => simp [intOf]; omega
    · have c1 : (((s[k]).toNat : Int) == 92) = false := eqF (n := 92) (by omega)
      have c2 : (((s[k]).toNat : Int) == 34) = true := eqT hc
      have HN := hid hn
      clear hn hc
      go_wp2
      go_quiet (fail)
      go_wp2
      go_ret3
      exact ⟨took_at s (k + 1) r (by omega) HN.out, (Gr.refl _).drewN _⟩
    · have c1 : (((s[k]).toNat : Int) == 92) = false := eqF hc
      have c2 : (((s[k]).toNat : Int) == 34) = false := eqF hq
      have HN := hid hn
      rw [visB_eq] at hv
      clear hn hc hq
      cases hv1 : vchB (s[k]).toNat <;> cases hv2 : spB (s[k]).toNat
      · rw [hv1, hv2] at hv; cases hv
      all_goals
        clear hv
        go_wp2_with (first | (go_at_call 87; refine (isVChar_any _ _).mono ?_; rintro e w' ⟨rfl, rfl⟩) | (go_at_call 88; refine (isSP_any _ _).mono ?_; rintro e w' ⟨rfl, rfl⟩))
        go_round
        case rel => exact ⟨k + 1, by omega, by go_num, HN⟩
        case measure => simp [intOf]; omega

set_option maxHeartbeats 1000000 in
theorem consumeString_none (s : ByteArray) (w : World) (hs : s.size ≤ maxLen) (h : str (bl s) = none) :
    Calls Tryd.prog 92 #[.string s] w fun e w' => Nope e ∧ Gr w w' := by
  unfold maxLen at hs
  rcases str_none h with h0 | ⟨h0, h34 | ⟨h34, hT⟩⟩
  · have hne := lenT h0
    clear h h0
    go_enter Tryd.func92, Tryd.ntmps92
    go_wp2
    go_ret3
    exact ⟨⟨_, _, rfl⟩, Gr.refl _⟩
  · have hne := lenF h0
    have h34' : (((s[0]).toNat : Int) != 34) = true := neT h34
    clear h h34
    go_enter Tryd.func92, Tryd.ntmps92
    go_wp2
    go_ret3
    exact ⟨⟨_, _, rfl⟩, Gr.refl _⟩
  have HT := hid hT
  have hne := lenF h0
  have h34' : (((s[0]).toNat : Int) != 34) = false := neF h34
  clear h h34 hT
  go_enter Tryd.func92, Tryd.ntmps92
  go_wp2
  clear h34'
  go_loop [5] (fun i => ∃ k : Nat, k ≤ s.size ∧ i = .int .i64 k ∧ Hid (strT ((bl s).drop k) = none)) (fun i => s.size - (intOf i).toNat)
  case atStart => exact ⟨1, by omega, rfl, HT⟩
  case round =>
    obtain ⟨k, hk, rfl, hr⟩ := hrel
    by_cases hlt : k < s.size
    · rcases strT_none s k hlt hr.out with ⟨hc, h1⟩ | ⟨hc, h1, hd, hd'⟩ | ⟨hc, h1, hd, hn⟩ | ⟨hc, hq, hv⟩ | ⟨hc, hq, hv, hn⟩
      · have c1 : (((s[k]).toNat : Int) == 92) = true := eqT hc
        clear hc
        have hk1 : ((s.size : Int) ≤ (k : Int) + 1) := by omega
        go_wp2
        go_ret3
        exact ⟨⟨_, _, rfl⟩, Gr.refl _⟩
      · have c1 : (((s[k]).toNat : Int) == 92) = true := eqT hc
        have d1 : (((s[k + 1]).toNat : Int) != 34) = true := neT hd
        have d2 : (((s[k + 1]).toNat : Int) != 92) = true := neT hd'
        have hk1 : ((k : Int) + 1 < (s.size : Int)) := by omega
        clear hd hd' hc
        go_wp2
        go_ret3
        exact ⟨⟨_, _, rfl⟩, Gr.refl _⟩
      · have c1 : (((s[k]).toNat : Int) == 92) = true := eqT hc
        have HN := hid hn
        clear hn hc
        have hk1 : ((k : Int) + 1 < (s.size : Int)) := by omega
        rcases hd with hd | hd
        · have d1 : (((s[k + 1]).toNat : Int) != 34) = false := neF hd
          clear hd
          go_wp2
          go_round
          case rel => exact ⟨k + 2, by omega, by go_num, HN⟩
          case measure => simp [intOf]; omega
        · have d1 : (((s[k + 1]).toNat : Int) != 34) = true := neT (n := 34) (by omega)
          have d2 : (((s[k + 1]).toNat : Int) != 92) = false := neF hd
          clear hd
          go_wp2
          go_round
          case rel => exact ⟨k + 2, by omega, by go_num, HN⟩
          case measure => simp [intOf]; omega
      · have c1 : (((s[k]).toNat : Int) == 92) = false := eqF hc
        have c2 : (((s[k]).toNat : Int) == 34) = false := eqF hq
        rw [visB_eq, Bool.or_eq_false_iff] at hv
        obtain ⟨hv1, hv2⟩ := hv
        clear hc hq
        go_wp2_with (first | (go_at_call 87; refine (isVChar_any _ _).mono ?_; rintro e w' ⟨rfl, rfl⟩) | (go_at_call 88; refine (isSP_any _ _).mono ?_; rintro e w' ⟨rfl, rfl⟩))
        go_ret3
        exact ⟨⟨_, _, rfl⟩, Gr.refl _⟩
      · have c1 : (((s[k]).toNat : Int) == 92) = false := eqF hc
        have c2 : (((s[k]).toNat : Int) == 34) = false := eqF hq
        have HN := hid hn
        rw [visB_eq] at hv
        clear hn hc hq
        cases hv1 : vchB (s[k]).toNat <;> cases hv2 : spB (s[k]).toNat
        · rw [hv1, hv2] at hv; cases hv
        all_goals
          clear hv
          go_wp2_with (first | (go_at_call 87; refine (isVChar_any _ _).mono ?_; rintro e w' ⟨rfl, rfl⟩) | (go_at_call 88; refine (isSP_any _ _).mono ?_; rintro e w' ⟨rfl, rfl⟩))
          go_round
          case rel => exact ⟨k + 1, by omega, by go_num, HN⟩
          case measure => simp [intOf]; omega
    · go_wp2
      go_ret3
      exact ⟨⟨_, _, rfl⟩, Gr.refl _⟩

end Go.Proofs.YtohjnegllfdemaaDoor
