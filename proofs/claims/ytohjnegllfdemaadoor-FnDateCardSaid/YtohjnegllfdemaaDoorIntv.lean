/-
  Integers: what they are worth; strconv.ParseInt at them; the walk of the reference's Whole.
-/
import Derived.Test.YtohjnegllfdemaaDoorPi
import Derived.Test.YtohjnegllfdemaaDoorOnly
import Derived.Test.YtohjnegllfdemaaDoorOk
set_option maxRecDepth 100000
namespace Go.Proofs.YtohjnegllfdemaaDoor
open Go.RowKit

/-- What digits are worth behind a number. -/
def valD (a : Nat) : Bs → Nat
  | [] => a
  | c :: r => valD ((c.toNat - 48) + a * 10) r
/-- What the text of an integer is worth. -/
def intV : Bs → Int
  | [] => 0
  | c :: r => if c = 45 then -(valD 0 r : Int) else (valD 0 (c :: r) : Int)
def digs (l : Bs) : Prop := ∀ c ∈ l, digB c.toNat = true
theorem digs_nil : digs [] := fun _ h => by cases h
theorem digs_cons {c : UInt8} {l : Bs} (h : digB c.toNat = true) (k : digs l) : digs (c :: l) := by
  intro x hx
  rcases List.mem_cons.1 hx with rfl | hx
  · exact h
  · exact k x hx
theorem digs_head {c : UInt8} {l : Bs} (h : digs (c :: l)) : digB c.toNat = true := h c (List.mem_cons_self)
theorem digs_tail {c : UInt8} {l : Bs} (h : digs (c :: l)) : digs l := fun x hx => h x (List.mem_cons_of_mem _ hx)
theorem dig_two {n : Nat} (h : digB n = true) : 48 ≤ n ∧ n ≤ 57 := by simpa [digB] using h
theorem valD_cons (a : Nat) (c : UInt8) (r : Bs) : valD a (c :: r) = valD ((c.toNat - 48) + a * 10) r := rfl
theorem valD_ge (l : Bs) : ∀ a : Nat, a ≤ valD a l := by
  induction l with
  | nil => exact fun a => Nat.le_refl _
  | cons c r ih =>
    intro a
    have h := ih ((c.toNat - 48) + a * 10)
    rw [valD_cons]
    exact Nat.le_trans (by omega) h
theorem pow10 (n : Nat) : 10 ^ (n + 1) = 10 * 10 ^ n := by rw [Nat.pow_succ, Nat.mul_comm]
theorem pow10_le {n : Nat} (h : n ≤ 15) : 10 ^ n ≤ 1000000000000000 := by
  exact Nat.le_trans (Nat.pow_le_pow_right (show 0 < 10 by decide) h) (by decide)
theorem valD_lt (l : Bs) : ∀ (n a : Nat), digs l → a < 10 ^ n → valD a l < 10 ^ (n + l.length) := by
  induction l with
  | nil => exact fun n a _ h => h
  | cons c r ih =>
    intro n a hd h
    have h2 := dig_two (digs_head hd)
    have h3 := ih (n + 1) ((c.toNat - 48) + a * 10) (digs_tail hd) (by rw [pow10]; omega)
    rw [valD_cons, List.length_cons]
    rwa [show n + (r.length + 1) = n + 1 + r.length from by omega]

theorem num2_true : ∀ (l : Bs) (m : Nat) (d : Bool) (r : Bs), num2 m l = some (d, r) → d = true := fun l m d r h => (num2_pre l m d r h).1
theorem num1_int : ∀ (l : Bs) (n : Nat), num1 n l = some (false, []) → digs l ∧ 0 < n + l.length ∧ n + l.length ≤ 15 := by
  intro l
  induction l with
  | nil =>
    intro n h
    simp only [num1] at h
    split at h
    · cases h
    · exact ⟨digs_nil, by simp; omega, by simp; omega⟩
  | cons c t ih =>
    intro n h
    simp only [num1] at h
    split at h
    · rename_i hc
      obtain ⟨h1, h2, h3⟩ := ih _ h
      exact ⟨digs_cons hc h1, by simp only [List.length_cons]; omega, by simp only [List.length_cons]; omega⟩
    · split at h
      · split at h
        · cases h
        · have := num2_true _ _ _ _ h
          cases this
      · split at h
        · cases h
        · cases h
theorem num1_dec : ∀ (l : Bs) (n : Nat) (r : Bs), num1 n l = some (true, r) → n ≤ 12 := by
  intro l
  induction l with
  | nil =>
    intro n r h
    simp only [num1] at h
    split at h <;> cases h
  | cons c t ih =>
    intro n r h
    simp only [num1] at h
    split at h
    · have := ih _ _ h
      omega
    · split at h
      · split at h
        · cases h
        · omega
      · split at h <;> cases h
theorem uint_ok (M : Nat) (hM : 1000000000000000 ≤ M) : ∀ (l : Bs) (n a : Nat), digs l → n + l.length ≤ 15 → a < 10 ^ n → Lib.parseUintM M a l = .ok (valD a l) := by
  intro l
  induction l with
  | nil => intro n a _ _ _; rfl
  | cons c t ih =>
    intro n a hd hn ha
    have h2 := dig_two (digs_head hd)
    simp only [List.length_cons] at hn
    have h3 : 10 ^ (n + 1) ≤ 1000000000000000 := pow10_le (by omega)
    have h4 := pow10 n
    simp only [Lib.parseUintM]
    rw [valD_cons, Nat.add_comm (c.toNat - 48), if_pos h2, if_neg (by omega), if_neg (by omega)]
    exact ih (n + 1) _ (digs_tail hd) (by omega) (by omega)
theorem uint_bad (M : Nat) (hM : 1000000000000000 ≤ M) : ∀ (l : Bs) (n a : Nat) (r : Bs), num1 n l = some (true, r) → a < 10 ^ n → Lib.parseUintM M a l = Lib.parseUintB 64 [] := by
  intro l
  induction l with
  | nil =>
    intro n a r h _
    simp only [num1] at h
    split at h <;> cases h
  | cons c t ih =>
    intro n a r h ha
    have hn := num1_dec _ _ _ h
    have h3 : 10 ^ (n + 1) ≤ 1000000000000000 := pow10_le (by omega)
    have h4 := pow10 n
    simp only [num1] at h
    simp only [Lib.parseUintM]
    split at h
    · rename_i hc
      have h2 := dig_two hc
      rw [if_pos h2, if_neg (by omega), if_neg (by omega)]
      exact ih (n + 1) _ _ h (by omega)
    · rename_i hc
      rw [if_neg (by intro h2; exact hc (by simp [digB, h2.1, h2.2]))]
      rfl

/-- The text of an integer, taken apart. -/
theorem int_parts {l : Bs} (h : num l = some (false, [])) : ∃ c t, l = c :: t ∧ ((c = 45 ∧ digs t ∧ 0 < t.length ∧ t.length ≤ 15) ∨ (c ≠ 45 ∧ digs (c :: t) ∧ t.length < 15)) := by
  cases l with
  | nil => cases h
  | cons c t =>
    refine ⟨c, t, rfl, ?_⟩
    simp only [num] at h
    split at h
    · rename_i hc
      obtain ⟨h1, h2, h3⟩ := num1_int _ _ h
      exact .inl ⟨hc, h1, by omega, by omega⟩
    · rename_i hc
      obtain ⟨h1, h2, h3⟩ := num1_int _ _ h
      simp only [List.length_cons] at h3
      exact .inr ⟨hc, h1, by omega⟩
theorem parseIntB_ok {l : Bs} (h : num l = some (false, [])) : Lib.parseIntB 64 l = .ok (intV l) := by
  obtain ⟨c, t, rfl, ⟨rfl, h1, h2, h3⟩ | ⟨hc, h1, h3⟩⟩ := int_parts h
  · have hu : Lib.parseUintB 64 t = .ok (valD 0 t) := by
      unfold Lib.parseUintB
      rw [if_neg (by rintro rfl; simp at h2)]
      exact uint_ok _ (by decide) t 0 0 h1 (by omega) (by decide)
    have hv := valD_lt t 0 0 h1 (by decide)
    have h4 : 10 ^ (0 + t.length) ≤ 1000000000000000 := pow10_le (by omega)
    have h45 : ((45 : UInt8).toNat) = 45 := rfl
    simp only [Lib.parseIntB, h45, intV, if_true, or_true, hu]
    rw [if_neg (by simp), if_neg (by omega)]
  · have hc' : c.toNat ≠ 45 := fun e => hc (UInt8.toNat_inj.1 e)
    have hd := dig_two (digs_head h1)
    have hu : Lib.parseUintB 64 (c :: t) = .ok (valD 0 (c :: t)) := by
      unfold Lib.parseUintB
      rw [if_neg (by simp)]
      exact uint_ok _ (by decide) (c :: t) 0 0 h1 (by simp only [List.length_cons]; omega) (by decide)
    have hv := valD_lt (c :: t) 0 0 h1 (by decide)
    have h4 : 10 ^ (0 + (c :: t).length) ≤ 1000000000000000 := pow10_le (by simp only [List.length_cons]; omega)
    simp only [Lib.parseIntB, intV]
    rw [if_neg (by omega), hu]
    simp only [hc', if_neg hc]
    rw [if_neg (by omega), if_neg (by omega)]
    simp
theorem parseIntB_bad {l r : Bs} (h : num l = some (true, r)) : Lib.parseIntB 64 l = Lib.parseIntB 64 [] := by
  cases l with
  | nil => cases h
  | cons c t =>
    simp only [num] at h
    split at h
    · rename_i hc
      subst hc
      have hne : t ≠ [] := by
        rintro rfl
        simp only [num1] at h
        split at h <;> cases h
      have hu : Lib.parseUintB 64 t = Lib.parseUintB 64 [] := by
        unfold Lib.parseUintB
        rw [if_neg hne]
        exact uint_bad _ (by decide) t 0 0 r h (by decide)
      have h45 : ((45 : UInt8).toNat) = 45 := rfl
      simp only [Lib.parseIntB, h45, or_true, if_true]
      rw [hu]
      rfl
    · rename_i hc
      have hc' : c.toNat ≠ 45 := fun e => hc (UInt8.toNat_inj.1 e)
      have h43 : c.toNat ≠ 43 := by
        intro e
        have : digB c.toNat = false := by rw [e]; rfl
        have h0 : num1 0 (c :: t) = none := by simp [num1, this]
        rw [h0] at h
        cases h
      have hu : Lib.parseUintB 64 (c :: t) = Lib.parseUintB 64 [] := by
        unfold Lib.parseUintB
        rw [if_neg (by simp)]
        exact uint_bad _ (by decide) (c :: t) 0 0 r h (by decide)
      simp only [Lib.parseIntB]
      rw [if_neg (by omega), hu]
      rfl

/-- What an item says of an integer. -/
theorem rel_int {l : Bs} {k : Int} {t v : Bs} {odd ok : Bool} (h : ItemRel l k t v odd ok) (hs : num l = some (false, [])) : k = 1 ∧ ok = true ∧ t = l := by
  obtain ⟨c, t', rfl, hp⟩ := int_parts hs
  have hc : (c.toNat == 45 || digB c.toNat) = true := by
    rcases hp with ⟨rfl, _⟩ | ⟨_, h1, _⟩
    · rfl
    · rw [digs_head h1]
      simp
  unfold ItemRel at h
  simp only [hc, if_true, hs] at h
  exact ⟨by simpa using h.2.1, h.2.2.1, by rw [h.2.2.2.1]; simp [ahead]⟩
theorem rel_date {l : Bs} {k : Int} {t v : Bs} {odd ok : Bool} (h : ItemRel l k t v odd ok) (hs : dat l = some []) : k = 7 ∧ ok = true ∧ t = l := by
  cases l with
  | nil => cases hs
  | cons c r =>
    have hc : c = 64 := by
      simp only [dat] at hs
      split at hs
      · assumption
      · cases hs
    subst hc
    unfold ItemRel at h
    have h64 : ((64 : UInt8).toNat) = 64 := rfl
    simp only [h64] at h
    rw [if_neg (by decide), if_neg (by decide), if_neg (by decide), if_neg (by decide), if_neg (by decide), if_pos (by decide), hs] at h
    exact ⟨h.1, h.2.2.1, by rw [h.2.2.2.1]; simp [ahead]⟩
theorem dat_num {l : Bs} (h : dat l = some []) : ∃ t, l = 64 :: t ∧ num t = some (false, []) := by
  cases l with
  | nil => cases h
  | cons c t =>
    simp only [dat] at h
    split at h
    · rename_i hc
      refine ⟨t, by rw [hc], ?_⟩
      split at h
      · rename_i r hn
        obtain rfl := Option.some.inj h
        exact hn
      · cases h
    · cases h

end Go.Proofs.YtohjnegllfdemaaDoor
