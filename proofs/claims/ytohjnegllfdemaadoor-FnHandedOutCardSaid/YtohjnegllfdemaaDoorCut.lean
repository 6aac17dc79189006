/-
  Plain laws of the scanners: what is read does not hang on what follows, as long as a piece ends there.
-/
import Derived.Test.YtohjnegllfdemaaDoorGram5
set_option maxRecDepth 100000
namespace Go.Proofs.YtohjnegllfdemaaDoor
open Go.RowKit

/-- A text that may stand in another's place behind a piece: nothing, a comma, or what begins alike. -/
def Ends (r r' : Bs) : Prop := r' = [] ∨ (∃ c t, r' = c :: t ∧ c.toNat = 44) ∨ (∃ c t t', r = c :: t ∧ r' = c :: t')
theorem Ends.more {r r' : Bs} (a : Bs) (h : Ends r r') : Ends (a ++ r) (a ++ r') := by
  cases a with
  | nil => exact h
  | cons c t => exact .inr (.inr ⟨c, t ++ r, t ++ r', rfl, rfl⟩)
theorem ahead_app (a r : Bs) : ahead (a ++ r) r = a := by
  unfold ahead
  rw [List.length_append, Nat.add_sub_cancel, List.take_left]
theorem suf_app {r l : Bs} (h : r <:+ l) : ∃ a, l = a ++ r := by
  obtain ⟨a, h⟩ := h
  exact ⟨a, h.symm⟩
theorem ahead_suf {r l : Bs} (h : r <:+ l) : l = ahead l r ++ r := by
  obtain ⟨a, rfl⟩ := suf_app h
  rw [ahead_app]
theorem app_len {a r : Bs} (h : a ++ r = r) : a = [] := by
  have := congrArg List.length h
  rw [List.length_append] at this
  exact List.eq_nil_of_length_eq_zero (by omega)

theorem skip_self {p : Nat → Bool} {c : UInt8} {t : Bs} (h : skip p (c :: t) = c :: t) : p c.toNat = false := by
  cases hp : p c.toNat
  · rfl
  · rw [skip_yes hp] at h
    have := skip_le p t
    rw [h, List.length_cons] at this
    omega
theorem skip_keep {p : Nat → Bool} (h44 : p 44 = false) (r r' : Bs) (he : Ends r r') : ∀ a : Bs, skip p (a ++ r) = r → skip p (a ++ r') = r' := by
  intro a
  induction a with
  | nil =>
    intro h
    rw [List.nil_append] at h ⊢
    rcases he with rfl | ⟨c, t, rfl, hc⟩ | ⟨c, t, t', rfl, rfl⟩
    · rfl
    · exact skip_no (by rw [hc]; exact h44)
    · exact skip_no (skip_self h)
  | cons c a ih =>
    intro h
    rw [List.cons_append] at h ⊢
    cases hp : p c.toNat
    · rw [skip_no hp] at h
      have := congrArg List.length h
      rw [List.length_cons, List.length_append] at this
      omega
    · rw [skip_yes hp] at h ⊢
      exact ih h
theorem skip_part {p : Nat → Bool} (r r' : Bs) : ∀ a a1 : Bs, a1 ≠ [] → skip p (a ++ r) = a1 ++ r → skip p (a ++ r') = a1 ++ r' := by
  intro a
  induction a with
  | nil =>
    intro a1 h1 h
    have := skip_le p r
    rw [List.nil_append] at h
    rw [h, List.length_append] at this
    exact absurd (List.eq_nil_of_length_eq_zero (by omega)) h1
  | cons c a ih =>
    intro a1 h1 h
    rw [List.cons_append] at h ⊢
    cases hp : p c.toNat
    · rw [skip_no hp] at h ⊢
      rw [← List.cons_append] at h ⊢
      rw [List.append_cancel_right h]
    · rw [skip_yes hp] at h ⊢
      exact ih a1 h1 h
theorem skip_all {p : Nat → Bool} {a : Bs} (e : Bs) (h : skip p a = []) : skip p (a ++ e) = skip p e := by
  induction a with
  | nil => rfl
  | cons c a ih =>
    cases hp : p c.toNat
    · rw [skip_no hp] at h; cases h
    · rw [skip_yes hp] at h
      rw [List.cons_append, skip_yes hp, ih h]

theorem tok_keep {a r r' : Bs} (he : Ends r r') (h : tok (a ++ r) = some r) : tok (a ++ r') = some r' := by
  cases a with
  | nil => exact absurd (tok_lt h) (by simp)
  | cons c a =>
    simp only [List.cons_append, tok] at h ⊢
    split at h
    · rename_i hc
      rw [if_pos hc]
      rw [← List.cons_append] at h ⊢
      rw [skip_keep (by decide) r r' he _ (Option.some.inj h)]
    · cases h
theorem key_keep {a r r' : Bs} (he : Ends r r') (h : key (a ++ r) = some r) : key (a ++ r') = some r' := by
  cases a with
  | nil => exact absurd (key_lt h) (by simp)
  | cons c a =>
    simp only [List.cons_append, key] at h ⊢
    split at h
    · rename_i hc
      rw [if_pos hc]
      rw [← List.cons_append] at h ⊢
      rw [skip_keep (by decide) r r' he _ (Option.some.inj h)]
    · cases h
theorem strT_keep (r r' : Bs) : ∀ (n : Nat) (a : Bs), a.length ≤ n → strT (a ++ r) = some r → strT (a ++ r') = some r' := by
  intro n
  induction n with
  | zero =>
    intro a hn h
    obtain rfl : a = [] := List.eq_nil_of_length_eq_zero (by omega)
    exact absurd (strT_le _ _ _ (Nat.le_refl _) h) (by simp)
  | succ n ih =>
    intro a hn h
    cases a with
    | nil => exact absurd (strT_le _ _ _ (Nat.le_refl _) h) (by simp)
    | cons c a =>
      simp only [List.length_cons] at hn
      rw [List.cons_append, strT.eq_def] at h ⊢
      simp only at h ⊢
      split at h
      · rename_i hc
        rw [if_pos hc]
        cases a with
        | nil =>
          cases r with
          | nil => cases h
          | cons d r =>
            simp only [List.nil_append] at h
            split at h
            · have := strT_le _ _ _ (Nat.le_refl _) h
              simp at this
              omega
            · cases h
        | cons d a =>
          simp only [List.cons_append] at h ⊢
          split at h
          · rename_i hd
            rw [if_pos hd]
            exact ih a (by simp at hn; omega) h
          · cases h
      · rename_i hc
        rw [if_neg hc]
        split at h
        · rename_i hc2
          rw [if_pos hc2]
          rw [app_len (Option.some.inj h), List.nil_append]
        · rename_i hc2
          rw [if_neg hc2]
          split at h
          · rename_i hc3
            rw [if_pos hc3]
            exact ih a (by omega) h
          · cases h
theorem str_keep {a r : Bs} (r' : Bs) (h : str (a ++ r) = some r) : str (a ++ r') = some r' := by
  cases a with
  | nil => exact absurd (str_le h) (by simp)
  | cons c a =>
    simp only [List.cons_append, str] at h ⊢
    split at h
    · rename_i hc
      rw [if_pos hc]
      exact strT_keep r r' _ a (Nat.le_refl _) h
    · cases h
theorem bytT_keep (r r' : Bs) : ∀ a : Bs, bytT (a ++ r) = some r → bytT (a ++ r') = some r' := by
  intro a
  induction a with
  | nil => intro h; exact absurd (bytT_le _ _ h) (by simp)
  | cons c a ih =>
    intro h
    simp only [List.cons_append, bytT] at h ⊢
    split at h
    · rename_i hc
      rw [if_pos hc, app_len (Option.some.inj h), List.nil_append]
    · rename_i hc
      rw [if_neg hc]
      split at h
      · rename_i hc2
        rw [if_pos hc2]
        exact ih h
      · cases h
theorem byt_keep {a r : Bs} (r' : Bs) (h : byt (a ++ r) = some r) : byt (a ++ r') = some r' := by
  cases a with
  | nil => exact absurd (byt_le h) (by simp)
  | cons c a =>
    simp only [List.cons_append, byt] at h ⊢
    split at h
    · rename_i hc
      rw [if_pos hc]
      exact bytT_keep r r' a h
    · cases h
theorem boo_keep {a r : Bs} (r' : Bs) (h : boo (a ++ r) = some r) : boo (a ++ r') = some r' := by
  rcases boo_some h with h | h
  · have : a = [63, 48] := List.append_cancel_right (h.trans (by simp))
    subst this
    simp [boo]
  · have : a = [63, 49] := List.append_cancel_right (h.trans (by simp))
    subst this
    simp [boo]
theorem num2_len {l : Bs} {m : Nat} {d : Bool} {r : Bs} (h : num2 m l = some (d, r)) : r.length ≤ l.length := by
  obtain ⟨_, p, h, _⟩ := num2_pre _ _ _ _ h
  rw [h]
  simp
theorem num1_len {l : Bs} {m : Nat} {d : Bool} {r : Bs} (h : num1 m l = some (d, r)) : r.length ≤ l.length := by
  obtain ⟨p, h, _⟩ := num1_pre _ _ _ _ h
  rw [h]
  simp
theorem num2_keep (r r' : Bs) (he : Ends r r') : ∀ (a : Bs) (m : Nat) (d : Bool), num2 m (a ++ r) = some (d, r) → num2 m (a ++ r') = some (d, r') := by
  intro a
  induction a with
  | nil =>
    intro m d h
    rw [List.nil_append] at h ⊢
    have hm : ¬ (m = 0 ∨ 3 < m) ∧ d = true ∧ ∀ c t, r = c :: t → digB c.toNat = false := by
      cases r with
      | nil =>
        simp only [num2] at h
        split at h
        · cases h
        · rename_i hm
          cases h
          exact ⟨hm, rfl, fun c t h => by cases h⟩
      | cons c t =>
        simp only [num2] at h
        split at h
        · have := num2_len h
          simp at this
          omega
        · rename_i hd
          split at h
          · cases h
          · rename_i hm
            cases h
            exact ⟨hm, rfl, fun c t h => by cases h; simpa using hd⟩
    obtain ⟨hm, rfl, hd⟩ := hm
    rcases he with rfl | ⟨c, t, rfl, hc⟩ | ⟨c, t, t', rfl, rfl⟩
    · simp only [num2, if_neg hm]
    · have : digB c.toNat = false := by rw [hc]; decide
      simp only [num2, this, Bool.false_eq_true, if_false, if_neg hm]
    · simp only [num2, hd _ _ rfl, Bool.false_eq_true, if_false, if_neg hm]
  | cons c a ih =>
    intro m d h
    simp only [List.cons_append, num2] at h ⊢
    split at h
    · rename_i hc
      rw [if_pos hc]
      exact ih _ _ h
    · split at h
      · cases h
      · simp only [Option.some.injEq, Prod.mk.injEq] at h
        have := congrArg List.length h.2
        rw [List.length_cons, List.length_append] at this
        omega
theorem num1_keep (r r' : Bs) (he : Ends r r') : ∀ (a : Bs) (m : Nat) (d : Bool), num1 m (a ++ r) = some (d, r) → num1 m (a ++ r') = some (d, r') := by
  intro a
  induction a with
  | nil =>
    intro m d h
    rw [List.nil_append] at h ⊢
    have hm : ¬ (m = 0 ∨ 15 < m) ∧ d = false ∧ ∀ c t, r = c :: t → digB c.toNat = false ∧ ¬ (c = 46 ∧ 0 < m) := by
      cases r with
      | nil =>
        simp only [num1] at h
        split at h
        · cases h
        · rename_i hm
          cases h
          exact ⟨hm, rfl, fun c t h => by cases h⟩
      | cons c t =>
        simp only [num1] at h
        split at h
        · have := num1_len h
          simp at this
          omega
        · rename_i hd
          split at h
          · split at h
            · cases h
            · have := num2_len h
              simp at this
              omega
          · rename_i hp
            split at h
            · cases h
            · rename_i hm
              cases h
              exact ⟨hm, rfl, fun c t h => by cases h; exact ⟨by simpa using hd, hp⟩⟩
    obtain ⟨hm, rfl, hd⟩ := hm
    rcases he with rfl | ⟨c, t, rfl, hc⟩ | ⟨c, t, t', rfl, rfl⟩
    · simp only [num1, if_neg hm]
    · have h1 : digB c.toNat = false := by rw [hc]; decide
      have h2 : ¬ (c = 46 ∧ 0 < m) := by
        rintro ⟨rfl, _⟩
        exact absurd hc (by decide)
      simp only [num1, h1, Bool.false_eq_true, if_false, if_neg hm, if_neg h2]
    · simp only [num1, (hd _ _ rfl).1, Bool.false_eq_true, if_false, if_neg hm, if_neg (hd _ _ rfl).2]
  | cons c a ih =>
    intro m d h
    simp only [List.cons_append, num1] at h ⊢
    split at h
    · rename_i hc
      rw [if_pos hc]
      exact ih _ _ h
    · rename_i hc
      rw [if_neg hc]
      split at h
      · rename_i hp
        rw [if_pos hp]
        split at h
        · cases h
        · rename_i h12
          rw [if_neg h12]
          exact num2_keep r r' he _ _ _ h
      · split at h
        · cases h
        · simp only [Option.some.injEq, Prod.mk.injEq] at h
          have := congrArg List.length h.2
          rw [List.length_cons, List.length_append] at this
          omega
theorem num_keep {a r r' : Bs} {d : Bool} (he : Ends r r') (h : num (a ++ r) = some (d, r)) : num (a ++ r') = some (d, r') := by
  cases a with
  | nil => exact absurd (num_lt h) (by simp)
  | cons c a =>
    simp only [List.cons_append, num] at h ⊢
    split at h
    · rename_i hc
      rw [if_pos hc]
      exact num1_keep r r' he _ _ _ h
    · rename_i hc
      rw [if_neg hc]
      rw [← List.cons_append] at h ⊢
      exact num1_keep r r' he _ _ _ h
theorem dat_keep {a r r' : Bs} (he : Ends r r') (h : dat (a ++ r) = some r) : dat (a ++ r') = some r' := by
  cases a with
  | nil => exact absurd (dat_lt h) (by simp)
  | cons c a =>
    simp only [List.cons_append, dat] at h ⊢
    split at h
    · rename_i hc
      rw [if_pos hc]
      split at h
      · rename_i r1 hn
        obtain rfl := Option.some.inj h
        rw [num_keep he hn]
      · cases h
    · cases h
theorem dspT_lt : ∀ (n : Nat) (l o r : Bs), l.length ≤ n → dspT l = some (o, r) → r.length < l.length := by
  intro n
  induction n with
  | zero => intro l o r hn h; cases l with
    | nil => cases h
    | cons c t => simp at hn
  | succ n ih =>
    intro l o r hn h
    cases l with
    | nil => cases h
    | cons c t =>
      simp only [List.length_cons] at hn ⊢
      rw [dspT.eq_def] at h
      simp only at h
      split at h
      · split at h
        · cases h
          omega
        · split at h
          · split at h
            · rename_i a b r'
              split at h
              · obtain ⟨y, hy, he⟩ := Option.map_eq_some_iff.1 h
                cases he
                have := ih r' y.1 y.2 (by simp at hn; omega) hy
                simp only [List.length_cons]
                omega
              · cases h
            · cases h
          · obtain ⟨y, hy, he⟩ := Option.map_eq_some_iff.1 h
            cases he
            have := ih t y.1 y.2 (by omega) hy
            omega
      · cases h
theorem dspT_keep (r r' : Bs) : ∀ (n : Nat) (a o : Bs), a.length ≤ n → dspT (a ++ r) = some (o, r) → dspT (a ++ r') = some (o, r') := by
  intro n
  induction n with
  | zero =>
    intro a o hn h
    obtain rfl : a = [] := List.eq_nil_of_length_eq_zero (by omega)
    exact absurd (dspT_lt _ _ _ _ (Nat.le_refl _) h) (by simp)
  | succ n ih =>
    intro a o hn h
    cases a with
    | nil => exact absurd (dspT_lt _ _ _ _ (Nat.le_refl _) h) (by simp)
    | cons c a =>
      simp only [List.length_cons] at hn
      rw [List.cons_append, dspT.eq_def] at h ⊢
      simp only at h ⊢
      split at h
      · rename_i hv
        rw [if_pos hv]
        split at h
        · rename_i hc
          rw [if_pos hc]
          simp only [Option.some.injEq, Prod.mk.injEq] at h
          rw [← h.1, app_len h.2, List.nil_append]
        · rename_i hc
          rw [if_neg hc]
          split at h
          · rename_i hc2
            rw [if_pos hc2]
            match a, h with
            | [], h =>
              simp only [List.nil_append] at h
              match r, h with
              | [], h => cases h
              | [_], h => cases h
              | x :: y :: r2, h =>
                simp only at h
                split at h
                · obtain ⟨z, hy, he⟩ := Option.map_eq_some_iff.1 h
                  have := dspT_lt _ _ _ _ (Nat.le_refl _) (show dspT r2 = some (z.1, z.2) from hy)
                  simp only [Prod.mk.injEq] at he
                  rw [he.2] at this
                  simp only [List.length_cons] at this
                  omega
                · cases h
            | [x], h =>
              simp only [List.cons_append, List.nil_append] at h
              match r, h with
              | [], h => cases h
              | y :: r2, h =>
                simp only at h
                split at h
                · obtain ⟨z, hy, he⟩ := Option.map_eq_some_iff.1 h
                  have := dspT_lt _ _ _ _ (Nat.le_refl _) (show dspT r2 = some (z.1, z.2) from hy)
                  simp only [Prod.mk.injEq] at he
                  rw [he.2] at this
                  simp only [List.length_cons] at this
                  omega
                · cases h
            | x :: y :: a, h =>
              simp only [List.cons_append] at h ⊢
              split at h
              · rename_i hh
                rw [if_pos hh]
                obtain ⟨z, hy, he⟩ := Option.map_eq_some_iff.1 h
                simp only [Prod.mk.injEq] at he
                have hy' : dspT (a ++ r) = some (z.1, r) := by rw [hy, ← he.2]
                rw [ih a z.1 (by simp at hn; omega) hy', ← he.1]
                rfl
              · cases h
          · rename_i hc2
            rw [if_neg hc2]
            obtain ⟨z, hy, he⟩ := Option.map_eq_some_iff.1 h
            simp only [Prod.mk.injEq] at he
            have hy' : dspT (a ++ r) = some (z.1, r) := by rw [hy, ← he.2]
            rw [ih a z.1 (by omega) hy', ← he.1]
            rfl
      · cases h
theorem dspS_keep {a r o : Bs} (r' : Bs) (h : dspS (a ++ r) = some (o, r)) : dspS (a ++ r') = some (o, r') := by
  match a, h with
  | [], h =>
    simp only [List.nil_append] at h
    match r, h with
    | [], h => cases h
    | [_], h => cases h
    | x :: y :: t, h =>
      simp only [dspS] at h
      split at h
      · have := dspT_lt _ _ _ _ (Nat.le_refl _) h
        simp only [List.length_cons] at this
        omega
      · cases h
  | [x], h =>
    simp only [List.cons_append, List.nil_append] at h
    match r, h with
    | [], h => cases h
    | y :: t, h =>
      simp only [dspS] at h
      split at h
      · have := dspT_lt _ _ _ _ (Nat.le_refl _) h
        simp only [List.length_cons] at this
        omega
      · cases h
  | x :: y :: a, h =>
    simp only [List.cons_append, dspS] at h ⊢
    split at h
    · rename_i hc
      rw [if_pos hc]
      exact dspT_keep r r' _ a o (Nat.le_refl _) h
    · cases h
theorem dsp_keep {a r : Bs} (r' : Bs) (h : dsp (a ++ r) = some r) : dsp (a ++ r') = some r' := by
  unfold dsp at h ⊢
  split at h
  · cases h
  · rename_i o r1 hd
    split at h
    · rename_i ha
      obtain rfl := Option.some.inj h
      rw [dspS_keep r' hd]
      simp only [ha, if_true]
    · cases h
theorem bare_keep {a r r' : Bs} (he : Ends r r') (h : bare (a ++ r) = some r) : bare (a ++ r') = some r' := by
  cases a with
  | nil => exact absurd (bare_lt h) (by simp)
  | cons c a =>
    simp only [List.cons_append, bare] at h ⊢
    rw [← List.cons_append] at h ⊢
    split at h
    · rename_i hc
      rw [if_pos hc]
      obtain ⟨⟨d, r1⟩, hn, rfl⟩ := Option.map_eq_some_iff.1 h
      rw [num_keep he hn]
      rfl
    · rename_i hc
      rw [if_neg hc]
      split at h
      · rename_i hc
        rw [if_pos hc]
        exact str_keep _ h
      · rename_i hc
        rw [if_neg hc]
        split at h
        · rename_i hc
          rw [if_pos hc]
          exact tok_keep he h
        · rename_i hc
          rw [if_neg hc]
          split at h
          · rename_i hc
            rw [if_pos hc]
            exact byt_keep _ h
          · rename_i hc
            rw [if_neg hc]
            split at h
            · rename_i hc
              rw [if_pos hc]
              exact boo_keep _ h
            · rename_i hc
              rw [if_neg hc]
              split at h
              · rename_i hc
                rw [if_pos hc]
                exact dat_keep he h
              · rename_i hc
                rw [if_neg hc]
                split at h
                · rename_i hc
                  rw [if_pos hc]
                  exact dsp_keep _ h
                · cases h

end Go.Proofs.YtohjnegllfdemaaDoor
