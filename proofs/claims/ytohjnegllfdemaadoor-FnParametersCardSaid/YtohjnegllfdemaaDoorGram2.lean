/-
  Plain laws of the scanners: what is left is no longer than the text; parameters step by step.
-/
import Derived.Test.YtohjnegllfdemaaDoorGram
import Derived.Test.YtohjnegllfdemaaDoorDat
set_option maxRecDepth 100000
namespace Go.Proofs.YtohjnegllfdemaaDoor

theorem strT_le : ∀ (n : Nat) (l r : Bs), l.length ≤ n → strT l = some r → r.length < l.length := by
  intro n
  induction n with
  | zero => intro l r hn h; cases l with
    | nil => cases h
    | cons c t => simp at hn
  | succ n ih =>
    intro l r hn h
    cases l with
    | nil => cases h
    | cons c t =>
      simp only [List.length_cons] at hn ⊢
      rw [strT.eq_def] at h
      simp only at h
      split at h
      · split at h
        · cases h
        · rename_i d r'
          split at h
          · have := ih r' r (by simp at hn; omega) h
            simp only [List.length_cons]
            omega
          · cases h
      · split at h
        · obtain rfl := Option.some.inj h
          omega
        · split at h
          · have := ih t r (by omega) h
            omega
          · cases h
theorem str_le {l r : Bs} (h : str l = some r) : r.length < l.length := by
  cases l with
  | nil => cases h
  | cons c t =>
    simp only [str] at h
    split at h
    · have := strT_le t.length t r (Nat.le_refl _) h
      simp only [List.length_cons]
      omega
    · cases h
theorem bytT_le : ∀ (l r : Bs), bytT l = some r → r.length < l.length := by
  intro l
  induction l with
  | nil => intro r h; cases h
  | cons c t ih =>
    intro r h
    simp only [bytT] at h
    simp only [List.length_cons]
    split at h
    · obtain rfl := Option.some.inj h
      omega
    · split at h
      · have := ih r h
        omega
      · cases h
theorem byt_le {l r : Bs} (h : byt l = some r) : r.length < l.length := by
  cases l with
  | nil => cases h
  | cons c t =>
    simp only [byt] at h
    split at h
    · have := bytT_le t r h
      simp only [List.length_cons]
      omega
    · cases h
theorem tok_le {l r : Bs} (h : tok l = some r) : r.length ≤ l.length := by
  cases l with
  | nil => cases h
  | cons c t =>
    simp only [tok] at h
    split at h
    · obtain rfl := Option.some.inj h
      exact skip_le _ _
    · cases h
theorem key_le {l r : Bs} (h : key l = some r) : r.length ≤ l.length := by
  cases l with
  | nil => cases h
  | cons c t =>
    simp only [key] at h
    split at h
    · obtain rfl := Option.some.inj h
      exact skip_le _ _
    · cases h
theorem boo_le {l r : Bs} (h : boo l = some r) : r.length ≤ l.length := by
  rcases boo_some h with rfl | rfl <;> (simp only [List.length_cons]; omega)
theorem num_le {l : Bs} {d : Bool} {r : Bs} (h : num l = some (d, r)) : r.length ≤ l.length := by
  obtain ⟨pre, h1, _⟩ := num_pre h
  rw [h1]
  simp
theorem dat_le {l r : Bs} (h : dat l = some r) : r.length ≤ l.length := by
  cases l with
  | nil => cases h
  | cons c t =>
    simp only [dat] at h
    split at h
    · split at h
      · rename_i r' hn
        obtain rfl := Option.some.inj h
        have := num_le hn
        simp only [List.length_cons]
        omega
      · cases h
    · cases h
theorem dsp_le {l r : Bs} (h : dsp l = some r) : r.length ≤ l.length := by
  unfold dsp at h
  split at h
  · cases h
  · rename_i o r' hd
    split at h
    · obtain rfl := Option.some.inj h
      match l, hd with
      | a :: b :: t, hd =>
        simp only [dspS] at hd
        split at hd
        · have := dspT_le t.length t o r' (Nat.le_refl _) hd
          simp only [List.length_cons]
          omega
        · cases hd
    · cases h
theorem bare_le {l r : Bs} (h : bare l = some r) : r.length ≤ l.length := by
  cases l with
  | nil => cases h
  | cons c t =>
    simp only [bare] at h
    split at h
    · obtain ⟨⟨d, r'⟩, hn, rfl⟩ := Option.map_eq_some_iff.1 h
      exact num_le hn
    · split at h
      · exact Nat.le_of_lt (str_le h)
      · split at h
        · exact tok_le h
        · split at h
          · exact Nat.le_of_lt (byt_le h)
          · split at h
            · exact boo_le h
            · split at h
              · exact dat_le h
              · split at h
                · exact dsp_le h
                · cases h

theorem par1_le {l r : Bs} {x : Bs × Option Bs} (h : par1 l = some (some (x, r))) : r.length < l.length := by
  cases l with
  | nil => cases h
  | cons c t =>
    simp only [par1] at h
    have hs := skip_le wsB t
    split at h
    · split at h
      · cases h
      · rename_i r1 hk
        have hk' := key_le hk
        split at h
        · simp only [Option.some.injEq, Prod.mk.injEq] at h
          rw [← h.2]
          simp
        · rename_i d r2
          split at h
          · split at h
            · cases h
            · rename_i r3 hb
              have := bare_le hb
              simp only [Option.some.injEq, Prod.mk.injEq] at h
              rw [← h.2]
              simp only [List.length_cons] at *
              omega
          · simp only [Option.some.injEq, Prod.mk.injEq] at h
            rw [← h.2]
            simp only [List.length_cons] at *
            omega
    · cases h

theorem parF_succ (f : Nat) (l : Bs) : parF (f + 1) l = match par1 l with
    | none => none
    | some none => some ([], l)
    | some (some (x, r)) => (parF f r).map fun y => (x :: y.1, y.2) := rfl

theorem par1_nil : par1 [] = some none := rfl

/-- More fuel than the text is long changes nothing. -/
theorem parF_fuel : ∀ (n : Nat) (l : Bs) (f g : Nat), l.length ≤ n → l.length ≤ f → l.length ≤ g → parF f l = parF g l := by
  intro n
  induction n with
  | zero =>
    intro l f g hn _ _
    obtain rfl : l = [] := List.eq_nil_of_length_eq_zero (by omega)
    cases f <;> cases g <;> rfl
  | succ n ih =>
    intro l f g hn hf hg
    cases l with
    | nil => cases f <;> cases g <;> rfl
    | cons c t =>
      obtain ⟨f, rfl⟩ : ∃ f', f = f' + 1 := ⟨f - 1, by simp at hf; omega⟩
      obtain ⟨g, rfl⟩ : ∃ g', g = g' + 1 := ⟨g - 1, by simp at hg; omega⟩
      rw [parF_succ, parF_succ]
      cases h1 : par1 (c :: t) with
      | none => rfl
      | some y =>
        cases y with
        | none => rfl
        | some y =>
          obtain ⟨x, r⟩ := y
          have := par1_le h1
          simp only
          rw [ih r f g (by omega) (by omega) (by omega)]

/-- A step of parameters. -/
theorem par_step (l : Bs) : par l = match par1 l with
    | none => none
    | some none => some ([], l)
    | some (some (x, r)) => (par r).map fun y => (x :: y.1, y.2) := by
  cases l with
  | nil => rfl
  | cons c t =>
    unfold par
    rw [List.length_cons, parF_succ]
    cases h1 : par1 (c :: t) with
    | none => rfl
    | some y =>
      cases y with
      | none => rfl
      | some y =>
        obtain ⟨x, r⟩ := y
        have := par1_le h1
        simp only
        rw [parF_fuel r.length r t.length r.length (Nat.le_refl _) (by simp at this; omega) (Nat.le_refl _)]

theorem par_le : ∀ (n : Nat) (l : Bs) (xs : List (Bs × Option Bs)) (r : Bs), l.length ≤ n → par l = some (xs, r) → r.length ≤ l.length := by
  intro n
  induction n with
  | zero =>
    intro l xs r hn h
    obtain rfl : l = [] := List.eq_nil_of_length_eq_zero (by omega)
    cases h
    exact Nat.le_refl _
  | succ n ih =>
    intro l xs r hn h
    rw [par_step] at h
    split at h
    · cases h
    · cases h
      exact Nat.le_refl _
    · rename_i x r1 h1
      have := par1_le h1
      obtain ⟨y, hy, he⟩ := Option.map_eq_some_iff.1 h
      cases he
      have := ih r1 y.1 y.2 (by omega) hy
      omega

/-- The entries so far, put ahead. -/
def pre {α β : Type} (xs : List α) (x : Option (List α × β)) : Option (List α × β) := x.map fun y => (xs ++ y.1, y.2)
theorem pre_nil {α β : Type} (x : Option (List α × β)) : pre [] x = x := by cases x <;> simp [pre]
theorem pre_cons {α β : Type} (xs : List α) (a : α) (x : Option (List α × β)) : pre xs (x.map fun y => (a :: y.1, y.2)) = pre (xs ++ [a]) x := by
  cases x <;> simp [pre]

/-- What the parameters' loop does with a text (entries so far: xs). -/
theorem par_round (l : Bs) (xs : List (Bs × Option Bs)) (R : Option (List (Bs × Option Bs) × Bs)) (h : pre xs (par l) = R) :
    (l = [] ∧ R = some (xs, [])) ∨
    (∃ c r, l = c :: r ∧ c.toNat ≠ 59 ∧ R = some (xs, c :: r)) ∨
    (∃ c r, l = c :: r ∧ c.toNat = 59 ∧ key (skip wsB r) = none ∧ R = none) ∨
    (∃ c r r1, l = c :: r ∧ c.toNat = 59 ∧ key (skip wsB r) = some r1 ∧ (r1 = [] ∨ ∃ d t, r1 = d :: t ∧ d.toNat ≠ 61) ∧ pre (xs ++ [(ahead (skip wsB r) r1, none)]) (par r1) = R ∧ r1.length ≤ r.length) ∨
    (∃ c r d r2, l = c :: r ∧ c.toNat = 59 ∧ key (skip wsB r) = some (d :: r2) ∧ d.toNat = 61 ∧ bare r2 = none ∧ R = none) ∨
    (∃ c r d r2 r3, l = c :: r ∧ c.toNat = 59 ∧ key (skip wsB r) = some (d :: r2) ∧ d.toNat = 61 ∧ bare r2 = some r3 ∧ pre (xs ++ [(ahead (skip wsB r) (d :: r2), some (ahead r2 r3))]) (par r3) = R ∧ r3.length ≤ r.length) := by
  rw [par_step] at h
  cases l with
  | nil => exact .inl ⟨rfl, by simpa [par1, pre] using h.symm⟩
  | cons c r =>
    refine .inr ?_
    have hs := skip_le wsB r
    by_cases hc : c.toNat = 59
    · refine .inr ?_
      have hc' : (c.toNat == 59) = true := by simpa using hc
      simp only [par1, hc', if_true] at h
      cases hk : key (skip wsB r) with
      | none =>
        rw [hk] at h
        exact .inl ⟨c, r, rfl, hc, hk, by simpa [pre] using h.symm⟩
      | some r1 =>
        refine .inr ?_
        rw [hk] at h
        have hkl := key_le hk
        cases r1 with
        | nil =>
          simp only at h
          rw [pre_cons] at h
          exact .inl ⟨c, r, [], rfl, hc, hk, .inl rfl, h, by simp⟩
        | cons d r2 =>
          simp only at h
          by_cases hd : d.toNat = 61
          · have hd' : (d.toNat == 61) = true := by simpa using hd
            simp only [hd', if_true] at h
            cases hb : bare r2 with
            | none =>
              rw [hb] at h
              exact .inr (.inl ⟨c, r, d, r2, rfl, hc, hk, hd, hb, by simpa [pre] using h.symm⟩)
            | some r3 =>
              rw [hb] at h
              simp only at h
              rw [pre_cons] at h
              have := bare_le hb
              exact .inr (.inr ⟨c, r, d, r2, r3, rfl, hc, hk, hd, hb, h, by simp at hkl; omega⟩)
          · have hd' : (d.toNat == 61) = false := by simpa using hd
            simp only [hd', Bool.false_eq_true, if_false] at h
            rw [pre_cons] at h
            exact .inl ⟨c, r, d :: r2, rfl, hc, hk, .inr ⟨d, r2, rfl, hd⟩, h, by omega⟩
    · have hc' : (c.toNat == 59) = false := by simpa using hc
      simp only [par1, hc', Bool.false_eq_true, if_false] at h
      exact .inl ⟨c, r, rfl, hc, by simpa [pre] using h.symm⟩

end Go.Proofs.YtohjnegllfdemaaDoor
