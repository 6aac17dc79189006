/-
  The walk of consumeDate.
-/
import Derived.Test.YtohjnegllfdemaaDoorInt
import Derived.Test.YtohjnegllfdemaaDoorKey
set_option maxRecDepth 100000
namespace Go.Proofs.YtohjnegllfdemaaDoor
open Go.RowKit

/-- Some piece, or none. -/
def OptPost (s : ByteArray) (R : Option Bs) (e : Ending) : Prop :=
  match R with
  | none => Nope e
  | some r => Took s r e

theorem num2_pre : ∀ (l : Bs) (m : Nat) (d : Bool) (r : Bs), num2 m l = some (d, r) → d = true ∧ ∃ pre, l = pre ++ r ∧ amongB 46 pre = false := by
  intro l
  induction l with
  | nil =>
    intro m d r h
    simp only [num2] at h
    split at h
    · cases h
    · cases h
      exact ⟨rfl, [], rfl, rfl⟩
  | cons c t ih =>
    intro m d r h
    simp only [num2] at h
    split at h
    · rename_i hd
      obtain ⟨h1, pre, h2, h3⟩ := ih _ _ _ h
      have := dig_ne hd
      exact ⟨h1, c :: pre, by rw [h2]; rfl, by simp only [amongB, List.any_cons, Bool.or_eq_false_iff]; exact ⟨by simpa using this, h3⟩⟩
    · split at h
      · cases h
      · cases h
        exact ⟨rfl, [], rfl, rfl⟩

theorem num1_pre : ∀ (l : Bs) (n : Nat) (d : Bool) (r : Bs), num1 n l = some (d, r) → ∃ pre, l = pre ++ r ∧ amongB 46 pre = d := by
  intro l
  induction l with
  | nil =>
    intro n d r h
    simp only [num1] at h
    split at h
    · cases h
    · cases h
      exact ⟨[], rfl, rfl⟩
  | cons c t ih =>
    intro n d r h
    simp only [num1] at h
    split at h
    · rename_i hd
      obtain ⟨pre, h2, h3⟩ := ih _ _ _ h
      have := dig_ne hd
      exact ⟨c :: pre, by rw [h2]; rfl, by simp only [amongB, List.any_cons]; rw [show (c.toNat == 46) = false from by simpa using this, Bool.false_or]; exact h3⟩
    · split at h
      · rename_i hc
        split at h
        · cases h
        · obtain ⟨h1, pre, h2, h3⟩ := num2_pre _ _ _ _ h
          have h46 : c.toNat = 46 := (u8_eq (n := 46) (by decide)).1 hc.1
          exact ⟨c :: pre, by rw [h2]; rfl, by simp only [amongB, List.any_cons]; rw [show (c.toNat == 46) = true from by simpa using h46, Bool.true_or]; exact h1.symm⟩
      · split at h
        · cases h
        · cases h
          exact ⟨[], rfl, rfl⟩

theorem num_pre {l : Bs} {d : Bool} {r : Bs} (h : num l = some (d, r)) : ∃ pre, l = pre ++ r ∧ amongB 46 pre = d := by
  cases l with
  | nil => cases h
  | cons c t =>
    simp only [num] at h
    split at h
    · rename_i hc
      obtain ⟨pre, h1, h2⟩ := num1_pre _ _ _ _ h
      have h45 : c.toNat = 45 := (u8_eq (n := 45) (by decide)).1 hc
      refine ⟨c :: pre, by rw [h1]; rfl, ?_⟩
      simp only [amongB, List.any_cons]
      rw [show (c.toNat == 46) = false from by rw [h45]; rfl, Bool.false_or]
      exact h2
    · exact num1_pre _ _ _ _ h

/-- What stands ahead of the rest of a date holds a point just where the number does. -/
theorem dat_pre {s : ByteArray} {d : Bool} {r : Bs} (h0 : 0 < s.size) (hc : (s[0]).toNat = 64) (h : num ((bl s).drop 1) = some (d, r)) :
    r.length + 1 ≤ s.size ∧ amongB 46 (ahead (bl s) r) = d ∧ (bl s).drop (s.size - r.length) = r := by
  obtain ⟨pre, h1, h2⟩ := num_pre h
  have hb := bl_get s 0 h0
  rw [List.drop_zero, Nat.zero_add, h1] at hb
  have hl : s.size = pre.length + r.length + 1 := by rw [← bl_length, hb]; simp
  refine ⟨by omega, ?_, ?_⟩
  · have : ahead (bl s) r = s[0] :: pre := by
      rw [ahead, bl_length, hb, show s.size - r.length = pre.length + 1 from by omega, List.take_succ_cons, List.take_left]
    rw [this]
    simp only [amongB, List.any_cons]
    rw [show ((s[0]).toNat == 46) = false from by rw [hc]; rfl, Bool.false_or]
    exact h2
  · rw [hb, show s.size - r.length = pre.length + 1 from by omega, List.drop_succ_cons, List.drop_left]

set_option maxHeartbeats 1000000 in
theorem consumeDate_any (s : ByteArray) (w : World) (hs : s.size ≤ maxLen) :
    Calls Tryd.prog 77 #[.string s] w fun e w' => OptPost s (dat (bl s)) e ∧ Gr w w' := by
  by_cases h0 : 0 < s.size
  · have hb := bl_get s 0 h0
    rw [List.drop_zero, Nat.zero_add] at hb
    have hne := lenF h0
    by_cases hc : (s[0]).toNat = 64
    · have c1 : (((s[0]).toNat : Int) != 64) = false := neF hc
      have h64 : s[0] = 64 := (u8_eq (n := 64) (by decide)).2 hc
      have hs1 : (s.extract 1 s.size).size ≤ maxLen := by rw [← bl_length, bl_from, List.length_drop, bl_length]; omega
      cases hn : num ((bl s).drop 1) with
      | none =>
        have HX := hid (show dat (bl s) = none by rw [hb, dat, if_pos h64, hn])
        have HN := hid hn
        clear hc hn hb h64
        unfold maxLen at hs
        go_enter Tryd.func77, Tryd.ntmps77
        go_wp2_with fail
        refine (consumeIntegerOrDecimal_any _ _ hs1).mono ?_
        rintro e w1 ⟨hp, hg⟩
        rw [bl_from, HN.out] at hp
        obtain ⟨c, t, rfl⟩ := hp
        go_wp2_with fail
        go_ret3
        exact ⟨by rw [HX.out]; exact ⟨_, _, rfl⟩, hg⟩
      | some x =>
        obtain ⟨d, r⟩ := x
        obtain ⟨hl, ha, hr⟩ := dat_pre h0 hc hn
        have HN := hid hn
        have HA := hid ha
        have HX := hid (show dat (bl s) = if d then none else some r by rw [hb, dat, if_pos h64, hn]; cases d <;> rfl)
        clear hc hn ha hr hb h64
        unfold maxLen at hs
        go_enter Tryd.func77, Tryd.ntmps77
        go_wp2_with fail
        refine (consumeIntegerOrDecimal_any _ _ hs1).mono ?_
        rintro e w1 ⟨hp, hg⟩
        rw [bl_from, HN.out] at hp
        obtain ⟨c, t, rfl, _, ht⟩ := hp
        have hts : t.size + 1 ≤ s.size := by rw [← bl_length t, ht]; omega
        have hta : bl (s.extract 0 (s.size - t.size)) = ahead (bl s) r := by rw [bl_upto, ahead, ← bl_length, ← bl_length, ht]
        obtain ⟨cap, C, hcv, hC⟩ := conv_bytes w1 (s.extract 0 (s.size - t.size))
        have HC := hid hC
        have HT := hid ht
        have HTA := hid hta
        clear hC ht hta
        go_wp2_with fail
        clear hcv
        refine (contains_any _ (bl (s.extract 0 (s.size - t.size))) 46 _ _ _ (by rw [bl_upto, List.length_take, bl_length]; omega) ?_ (Cells8.gr (cells8_alloc w1 C _ _ _ HC.out) ((Gr.refl _).drew))).mono ?_
        · rw [bl_upto, List.length_take, bl_length]; omega
        rintro e w2 ⟨rfl, rfl⟩
        rw [HTA.out, HA.out]
        cases d
        · go_wp2_with fail
          go_ret3
          exact ⟨by rw [HX.out]; exact ⟨_, _, rfl, HTA.out, HT.out⟩, (hg.alloc _).drew⟩
        · go_wp2_with fail
          go_ret3
          exact ⟨by rw [HX.out]; exact ⟨_, _, rfl⟩, (hg.alloc _).drew⟩
    · have c1 : (((s[0]).toNat : Int) != 64) = true := neT hc
      have h64 : ¬ s[0] = 64 := fun e => hc ((u8_eq (n := 64) (by decide)).1 e)
      have HX := hid (show dat (bl s) = none by rw [hb, dat, if_neg h64])
      clear h64
      clear hb hc
      unfold maxLen at hs
      go_enter Tryd.func77, Tryd.ntmps77
      go_wp2_with fail
      go_ret3
      exact ⟨by rw [HX.out]; exact ⟨_, _, rfl⟩, Gr.refl _⟩
  · obtain rfl := bl_empty (a := s) (List.eq_nil_of_length_eq_zero (by rw [bl_length]; omega))
    clear h0 hs
    go_enter Tryd.func77, Tryd.ntmps77
    go_wp2_with fail
    go_ret3
    exact ⟨⟨_, _, rfl⟩, Gr.refl _⟩

end Go.Proofs.YtohjnegllfdemaaDoor
