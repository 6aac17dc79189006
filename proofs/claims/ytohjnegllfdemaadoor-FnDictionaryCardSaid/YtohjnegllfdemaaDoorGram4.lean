/-
  Several texts in one: Gram2, Gram3, Gram4.
-/
import Derived.Test.YtohjnegllfdemaaDoorGram
import Derived.Test.YtohjnegllfdemaaDoorDat
set_option maxRecDepth 100000
namespace Go.Proofs.YtohjnegllfdemaaDoor
open Go.RowKit

/-!
  Plain laws of the scanners: what is left is no longer than the text; parameters step by step.
-/
theorem strT_le : ∀ (n : Nat) (l r : Bs), l.length ≤ n → strT l = some r → r.length < l.length := by
  intro n
  induction n with
  | zero => intro l r hn h; cases l with
    | nil => cases h
    | cons c t => simp at hn
  | succ n ih =>
    intro l r hn h
    cases l with
    | nil => cases h
    | cons c t =>
      simp only [List.length_cons] at hn ⊢
      rw [strT.eq_def] at h
      simp only at h
      split at h
      · split at h
        · cases h
        · rename_i d r'
          split at h
          · have := ih r' r (by simp at hn; omega) h
            simp only [List.length_cons]
            omega
          · cases h
      · split at h
        · obtain rfl := Option.some.inj h
          omega
        · split at h
          · have := ih t r (by omega) h
            omega
          · cases h
theorem str_le {l r : Bs} (h : str l = some r) : r.length < l.length := by
  cases l with
  | nil => cases h
  | cons c t =>
    simp only [str] at h
    split at h
    · have := strT_le t.length t r (Nat.le_refl _) h
      simp only [List.length_cons]
      omega
    · cases h
theorem bytT_le : ∀ (l r : Bs), bytT l = some r → r.length < l.length := by
  intro l
  induction l with
  | nil => intro r h; cases h
  | cons c t ih =>
    intro r h
    simp only [bytT] at h
    simp only [List.length_cons]
    split at h
    · obtain rfl := Option.some.inj h
      omega
    · split at h
      · have := ih r h
        omega
      · cases h
theorem byt_le {l r : Bs} (h : byt l = some r) : r.length < l.length := by
  cases l with
  | nil => cases h
  | cons c t =>
    simp only [byt] at h
    split at h
    · have := bytT_le t r h
      simp only [List.length_cons]
      omega
    · cases h
theorem tok_le {l r : Bs} (h : tok l = some r) : r.length ≤ l.length := by
  cases l with
  | nil => cases h
  | cons c t =>
    simp only [tok] at h
    split at h
    · obtain rfl := Option.some.inj h
      exact skip_le _ _
    · cases h
theorem key_le {l r : Bs} (h : key l = some r) : r.length ≤ l.length := by
  cases l with
  | nil => cases h
  | cons c t =>
    simp only [key] at h
    split at h
    · obtain rfl := Option.some.inj h
      exact skip_le _ _
    · cases h
theorem boo_le {l r : Bs} (h : boo l = some r) : r.length ≤ l.length := by
  rcases boo_some h with rfl | rfl <;> (simp only [List.length_cons]; omega)
theorem num_le {l : Bs} {d : Bool} {r : Bs} (h : num l = some (d, r)) : r.length ≤ l.length := by
  obtain ⟨pre, h1, _⟩ := num_pre h
  rw [h1]
  simp
theorem dat_le {l r : Bs} (h : dat l = some r) : r.length ≤ l.length := by
  cases l with
  | nil => cases h
  | cons c t =>
    simp only [dat] at h
    split at h
    · split at h
      · rename_i r' hn
        obtain rfl := Option.some.inj h
        have := num_le hn
        simp only [List.length_cons]
        omega
      · cases h
    · cases h
theorem dsp_le {l r : Bs} (h : dsp l = some r) : r.length ≤ l.length := by
  unfold dsp at h
  split at h
  · cases h
  · rename_i o r' hd
    split at h
    · obtain rfl := Option.some.inj h
      match l, hd with
      | a :: b :: t, hd =>
        simp only [dspS] at hd
        split at hd
        · have := dspT_le t.length t o r' (Nat.le_refl _) hd
          simp only [List.length_cons]
          omega
        · cases hd
    · cases h
theorem bare_le {l r : Bs} (h : bare l = some r) : r.length ≤ l.length := by
  cases l with
  | nil => cases h
  | cons c t =>
    simp only [bare] at h
    split at h
    · obtain ⟨⟨d, r'⟩, hn, rfl⟩ := Option.map_eq_some_iff.1 h
      exact num_le hn
    · split at h
      · exact Nat.le_of_lt (str_le h)
      · split at h
        · exact tok_le h
        · split at h
          · exact Nat.le_of_lt (byt_le h)
          · split at h
            · exact boo_le h
            · split at h
              · exact dat_le h
              · split at h
                · exact dsp_le h
                · cases h

theorem par1_le {l r : Bs} {x : Bs × Option Bs} (h : par1 l = some (some (x, r))) : r.length < l.length := by
  cases l with
  | nil => cases h
  | cons c t =>
    simp only [par1] at h
    have hs := skip_le wsB t
    split at h
    · split at h
      · cases h
      · rename_i r1 hk
        have hk' := key_le hk
        split at h
        · simp only [Option.some.injEq, Prod.mk.injEq] at h
          rw [← h.2]
          simp
        · rename_i d r2
          split at h
          · split at h
            · cases h
            · rename_i r3 hb
              have := bare_le hb
              simp only [Option.some.injEq, Prod.mk.injEq] at h
              rw [← h.2]
              simp only [List.length_cons] at *
              omega
          · simp only [Option.some.injEq, Prod.mk.injEq] at h
            rw [← h.2]
            simp only [List.length_cons] at *
            omega
    · cases h

theorem parF_succ (f : Nat) (l : Bs) : parF (f + 1) l = match par1 l with
    | none => none
    | some none => some ([], l)
    | some (some (x, r)) => (parF f r).map fun y => (x :: y.1, y.2) := rfl

theorem par1_nil : par1 [] = some none := rfl

/-- More fuel than the text is long changes nothing. -/
theorem parF_fuel : ∀ (n : Nat) (l : Bs) (f g : Nat), l.length ≤ n → l.length ≤ f → l.length ≤ g → parF f l = parF g l := by
  intro n
  induction n with
  | zero =>
    intro l f g hn _ _
    obtain rfl : l = [] := List.eq_nil_of_length_eq_zero (by omega)
    cases f <;> cases g <;> rfl
  | succ n ih =>
    intro l f g hn hf hg
    cases l with
    | nil => cases f <;> cases g <;> rfl
    | cons c t =>
      obtain ⟨f, rfl⟩ : ∃ f', f = f' + 1 := ⟨f - 1, by simp at hf; omega⟩
      obtain ⟨g, rfl⟩ : ∃ g', g = g' + 1 := ⟨g - 1, by simp at hg; omega⟩
      rw [parF_succ, parF_succ]
      cases h1 : par1 (c :: t) with
      | none => rfl
      | some y =>
        cases y with
        | none => rfl
        | some y =>
          obtain ⟨x, r⟩ := y
          have := par1_le h1
          simp only
          rw [ih r f g (by omega) (by omega) (by omega)]

/-- A step of parameters. -/
theorem par_step (l : Bs) : par l = match par1 l with
    | none => none
    | some none => some ([], l)
    | some (some (x, r)) => (par r).map fun y => (x :: y.1, y.2) := by
  cases l with
  | nil => rfl
  | cons c t =>
    unfold par
    rw [List.length_cons, parF_succ]
    cases h1 : par1 (c :: t) with
    | none => rfl
    | some y =>
      cases y with
      | none => rfl
      | some y =>
        obtain ⟨x, r⟩ := y
        have := par1_le h1
        simp only
        rw [parF_fuel r.length r t.length r.length (Nat.le_refl _) (by simp at this; omega) (Nat.le_refl _)]

theorem par_le : ∀ (n : Nat) (l : Bs) (xs : List (Bs × Option Bs)) (r : Bs), l.length ≤ n → par l = some (xs, r) → r.length ≤ l.length := by
  intro n
  induction n with
  | zero =>
    intro l xs r hn h
    obtain rfl : l = [] := List.eq_nil_of_length_eq_zero (by omega)
    cases h
    exact Nat.le_refl _
  | succ n ih =>
    intro l xs r hn h
    rw [par_step] at h
    split at h
    · cases h
    · cases h
      exact Nat.le_refl _
    · rename_i x r1 h1
      have := par1_le h1
      obtain ⟨y, hy, he⟩ := Option.map_eq_some_iff.1 h
      cases he
      have := ih r1 y.1 y.2 (by omega) hy
      omega

/-- The entries so far, put ahead. -/
def pre {α β : Type} (xs : List α) (x : Option (List α × β)) : Option (List α × β) := x.map fun y => (xs ++ y.1, y.2)
theorem pre_nil {α β : Type} (x : Option (List α × β)) : pre [] x = x := by cases x <;> simp [pre]
theorem pre_cons {α β : Type} (xs : List α) (a : α) (x : Option (List α × β)) : pre xs (x.map fun y => (a :: y.1, y.2)) = pre (xs ++ [a]) x := by
  cases x <;> simp [pre]

/-- What the parameters' loop does with a text (entries so far: xs). -/
theorem par_round (l : Bs) (xs : List (Bs × Option Bs)) (R : Option (List (Bs × Option Bs) × Bs)) (h : pre xs (par l) = R) :
    (l = [] ∧ R = some (xs, [])) ∨
    (∃ c r, l = c :: r ∧ c.toNat ≠ 59 ∧ R = some (xs, c :: r)) ∨
    (∃ c r, l = c :: r ∧ c.toNat = 59 ∧ key (skip wsB r) = none ∧ R = none) ∨
    (∃ c r r1, l = c :: r ∧ c.toNat = 59 ∧ key (skip wsB r) = some r1 ∧ (r1 = [] ∨ ∃ d t, r1 = d :: t ∧ d.toNat ≠ 61) ∧ pre (xs ++ [(ahead (skip wsB r) r1, none)]) (par r1) = R ∧ r1.length ≤ r.length) ∨
    (∃ c r d r2, l = c :: r ∧ c.toNat = 59 ∧ key (skip wsB r) = some (d :: r2) ∧ d.toNat = 61 ∧ bare r2 = none ∧ R = none) ∨
    (∃ c r d r2 r3, l = c :: r ∧ c.toNat = 59 ∧ key (skip wsB r) = some (d :: r2) ∧ d.toNat = 61 ∧ bare r2 = some r3 ∧ pre (xs ++ [(ahead (skip wsB r) (d :: r2), some (ahead r2 r3))]) (par r3) = R ∧ r3.length ≤ r.length) := by
  rw [par_step] at h
  cases l with
  | nil => exact .inl ⟨rfl, by simpa [par1, pre] using h.symm⟩
  | cons c r =>
    refine .inr ?_
    have hs := skip_le wsB r
    by_cases hc : c.toNat = 59
    · refine .inr ?_
      have hc' : (c.toNat == 59) = true := by simpa using hc
      simp only [par1, hc', if_true] at h
      cases hk : key (skip wsB r) with
      | none =>
        rw [hk] at h
        exact .inl ⟨c, r, rfl, hc, hk, by simpa [pre] using h.symm⟩
      | some r1 =>
        refine .inr ?_
        rw [hk] at h
        have hkl := key_le hk
        cases r1 with
        | nil =>
          simp only at h
          rw [pre_cons] at h
          exact .inl ⟨c, r, [], rfl, hc, hk, .inl rfl, h, by simp⟩
        | cons d r2 =>
          simp only at h
          by_cases hd : d.toNat = 61
          · have hd' : (d.toNat == 61) = true := by simpa using hd
            simp only [hd', if_true] at h
            cases hb : bare r2 with
            | none =>
              rw [hb] at h
              exact .inr (.inl ⟨c, r, d, r2, rfl, hc, hk, hd, hb, by simpa [pre] using h.symm⟩)
            | some r3 =>
              rw [hb] at h
              simp only at h
              rw [pre_cons] at h
              have := bare_le hb
              exact .inr (.inr ⟨c, r, d, r2, r3, rfl, hc, hk, hd, hb, h, by simp at hkl; omega⟩)
          · have hd' : (d.toNat == 61) = false := by simpa using hd
            simp only [hd', Bool.false_eq_true, if_false] at h
            rw [pre_cons] at h
            exact .inl ⟨c, r, d :: r2, rfl, hc, hk, .inr ⟨d, r2, rfl, hd⟩, h, by omega⟩
    · have hc' : (c.toNat == 59) = false := by simpa using hc
      simp only [par1, hc', Bool.false_eq_true, if_false] at h
      exact .inl ⟨c, r, rfl, hc, by simpa [pre] using h.symm⟩

/-!
  Plain laws of inner lists, lists and dictionaries, step by step.
-/
theorem num1_lt {l : Bs} {d : Bool} {r : Bs} (h : num1 0 l = some (d, r)) : r.length < l.length := by
  cases l with
  | nil => cases h
  | cons c t =>
    simp only [num1] at h
    split at h
    · obtain ⟨pre, h1, _⟩ := num1_pre _ _ _ _ h
      rw [h1]
      simp only [List.length_cons, List.length_append]
      omega
    · split at h
      · rename_i hc
        exact absurd hc.2 (by omega)
      · split at h
        · cases h
        · rename_i hn
          simp at hn
theorem num_lt {l : Bs} {d : Bool} {r : Bs} (h : num l = some (d, r)) : r.length < l.length := by
  cases l with
  | nil => cases h
  | cons c t =>
    simp only [num] at h
    split at h
    · have := num1_lt h
      simp only [List.length_cons]
      omega
    · exact num1_lt h
theorem tok_lt {l r : Bs} (h : tok l = some r) : r.length < l.length := by
  cases l with
  | nil => cases h
  | cons c t =>
    simp only [tok] at h
    split at h
    · rename_i hc
      have ht : tokB2 c.toNat = true := by
        simp only [Bool.or_eq_true, beq_iff_eq] at hc
        rcases hc with hc | hc
        · simp [tokB2, tokB, hc]
        · rw [hc]; rfl
      obtain rfl := Option.some.inj h
      rw [skip_yes ht]
      have := skip_le tokB2 t
      simp only [List.length_cons]
      omega
    · cases h
theorem key_lt {l r : Bs} (h : key l = some r) : r.length < l.length := by
  cases l with
  | nil => cases h
  | cons c t =>
    simp only [key] at h
    split at h
    · rename_i hc
      have ht : keyB c.toNat = true := by
        simp only [Bool.or_eq_true, beq_iff_eq] at hc
        rcases hc with hc | hc
        · simp [keyB, hc]
        · rw [hc]; rfl
      obtain rfl := Option.some.inj h
      rw [skip_yes ht]
      have := skip_le keyB t
      simp only [List.length_cons]
      omega
    · cases h
theorem boo_lt {l r : Bs} (h : boo l = some r) : r.length < l.length := by
  rcases boo_some h with rfl | rfl <;> (simp only [List.length_cons]; omega)
theorem dat_lt {l r : Bs} (h : dat l = some r) : r.length < l.length := by
  cases l with
  | nil => cases h
  | cons c t =>
    simp only [dat] at h
    split at h
    · split at h
      · rename_i r' hn
        obtain rfl := Option.some.inj h
        have := num_le hn
        simp only [List.length_cons]
        omega
      · cases h
    · cases h
theorem dsp_lt {l r : Bs} (h : dsp l = some r) : r.length < l.length := by
  unfold dsp at h
  split at h
  · cases h
  · rename_i o r' hd
    split at h
    · obtain rfl := Option.some.inj h
      match l, hd with
      | a :: b :: t, hd =>
        simp only [dspS] at hd
        split at hd
        · have := dspT_le t.length t o r' (Nat.le_refl _) hd
          simp only [List.length_cons]
          omega
        · cases hd
    · cases h
theorem bare_lt {l r : Bs} (h : bare l = some r) : r.length < l.length := by
  cases l with
  | nil => cases h
  | cons c t =>
    simp only [bare] at h
    split at h
    · obtain ⟨⟨d, r'⟩, hn, rfl⟩ := Option.map_eq_some_iff.1 h
      exact num_lt hn
    · split at h
      · exact str_le h
      · split at h
        · exact tok_lt h
        · split at h
          · exact byt_le h
          · split at h
            · exact boo_lt h
            · split at h
              · exact dat_lt h
              · split at h
                · exact dsp_lt h
                · cases h

theorem par_len {l : Bs} {xs : List (Bs × Option Bs)} {r : Bs} (h : par l = some (xs, r)) : r.length ≤ l.length := par_le l.length l xs r (Nat.le_refl _) h

/-- An inner list behind its bracket. -/
def innT (l : Bs) : Option (List (Bs × Bs) × Bs) := innF (l.length + 1) l
/-- One item of an inner list: none: broken; some (.inl r): the end; some (.inr ..): the item, its parameters, what is left. -/
def inn1 (l : Bs) : Option (Sum Bs ((Bs × Bs) × Bs)) :=
  match l with
  | [] => some (.inl [])
  | c :: r0 =>
    match skip wsB (c :: r0) with
    | [] => none
    | d :: r1 =>
      if d.toNat == 41 then some (.inl r1)
      else match bare (d :: r1) with
        | none => none
        | some r2 =>
          match par r2 with
          | none => none
          | some (_, r3) =>
            match r3 with
            | [] => none
            | e :: r4 => if e.toNat == 41 || e.toNat == 32 then some (.inr ((ahead (d :: r1) r2, ahead r2 (e :: r4)), e :: r4)) else none

theorem innF_succ (f : Nat) (l : Bs) : innF (f + 1) l = match inn1 l with
    | none => none
    | some (.inl r) => some ([], r)
    | some (.inr (x, r)) => (innF f r).map fun y => (x :: y.1, y.2) := by
  cases l with
  | nil => rfl
  | cons c r0 =>
    simp only [innF, inn1]
    cases hs : skip wsB (c :: r0) with
    | nil => rfl
    | cons d r1 =>
      simp only
      by_cases hd : (d.toNat == 41) = true
      · simp only [hd, if_true]
      · simp only [hd, Bool.false_eq_true, if_false]
        cases hb : bare (d :: r1) with
        | none => rfl
        | some r2 =>
          simp only
          cases hp : par r2 with
          | none => rfl
          | some y =>
            obtain ⟨ys, r3⟩ := y
            simp only
            cases r3 with
            | nil => rfl
            | cons e r4 =>
              simp only
              by_cases he : (e.toNat == 41 || e.toNat == 32) = true
              · simp only [he, if_true]
              · simp only [he, Bool.false_eq_true, if_false]

theorem inn1_lt {l r : Bs} {x : Bs × Bs} (h : inn1 l = some (.inr (x, r))) : r.length < l.length := by
  cases l with
  | nil => cases h
  | cons c r0 =>
    simp only [inn1] at h
    have hs := skip_le wsB (c :: r0)
    split at h
    · cases h
    · rename_i d r1 hsk
      rw [hsk] at hs
      split at h
      · cases h
      · split at h
        · cases h
        · rename_i r2 hb
          have := bare_lt hb
          split at h
          · cases h
          · rename_i ys r3 hp
            have := par_len hp
            split at h
            · cases h
            · rename_i e r4
              split at h
              · simp only [Option.some.injEq, Sum.inr.injEq, Prod.mk.injEq] at h
                rw [← h.2]
                omega
              · cases h

theorem innF_fuel : ∀ (n : Nat) (l : Bs) (f g : Nat), l.length ≤ n → l.length < f → l.length < g → innF f l = innF g l := by
  intro n
  induction n with
  | zero =>
    intro l f g hn hf hg
    obtain rfl : l = [] := List.eq_nil_of_length_eq_zero (by omega)
    obtain ⟨f, rfl⟩ : ∃ f', f = f' + 1 := ⟨f - 1, by omega⟩
    obtain ⟨g, rfl⟩ : ∃ g', g = g' + 1 := ⟨g - 1, by omega⟩
    rfl
  | succ n ih =>
    intro l f g hn hf hg
    obtain ⟨f, rfl⟩ : ∃ f', f = f' + 1 := ⟨f - 1, by omega⟩
    obtain ⟨g, rfl⟩ : ∃ g', g = g' + 1 := ⟨g - 1, by omega⟩
    rw [innF_succ, innF_succ]
    cases h1 : inn1 l with
    | none => rfl
    | some y =>
      cases y with
      | inl r => rfl
      | inr y =>
        obtain ⟨x, r⟩ := y
        have := inn1_lt h1
        simp only
        rw [ih r f g (by omega) (by omega) (by omega)]

theorem innT_step (l : Bs) : innT l = match inn1 l with
    | none => none
    | some (.inl r) => some ([], r)
    | some (.inr (x, r)) => (innT r).map fun y => (x :: y.1, y.2) := by
  unfold innT
  rw [innF_succ]
  cases h1 : inn1 l with
  | none => rfl
  | some y =>
    cases y with
    | inl r => rfl
    | inr y =>
      obtain ⟨x, r⟩ := y
      have := inn1_lt h1
      simp only
      rw [innF_fuel r.length r l.length (r.length + 1) (Nat.le_refl _) (by omega) (by omega)]

theorem innT_le : ∀ (n : Nat) (l : Bs) (xs : List (Bs × Bs)) (r : Bs), l.length ≤ n → innT l = some (xs, r) → r.length ≤ l.length := by
  intro n
  induction n with
  | zero =>
    intro l xs r hn h
    obtain rfl : l = [] := List.eq_nil_of_length_eq_zero (by omega)
    cases h
    exact Nat.le_refl _
  | succ n ih =>
    intro l xs r hn h
    rw [innT_step] at h
    split at h
    · cases h
    · rename_i r' h1
      cases h
      cases l with
      | nil => cases h1; exact Nat.le_refl _
      | cons c r0 =>
        simp only [inn1] at h1
        have hs := skip_le wsB (c :: r0)
        split at h1
        · cases h1
        · rename_i d r1 hsk
          rw [hsk] at hs
          split at h1
          · cases h1
            simp only [List.length_cons] at hs ⊢
            omega
          · split at h1
            · cases h1
            · split at h1
              · cases h1
              · split at h1
                · cases h1
                · split at h1 <;> cases h1
    · rename_i x r1 h1
      have := inn1_lt h1
      obtain ⟨y, hy, he⟩ := Option.map_eq_some_iff.1 h
      cases he
      have := ih r1 y.1 y.2 (by omega) hy
      omega

theorem inn_some {l r : Bs} {xs : List (Bs × Bs)} (h : inn l = some (xs, r)) : ∃ c t, l = c :: t ∧ c.toNat = 40 ∧ innT t = some (xs, r) := by
  cases l with
  | nil => cases h
  | cons c t =>
    simp only [inn] at h
    split at h
    · rename_i hc
      exact ⟨c, t, rfl, by simpa using hc, h⟩
    · cases h
theorem inn_lt {l r : Bs} {xs : List (Bs × Bs)} (h : inn l = some (xs, r)) : r.length < l.length := by
  obtain ⟨c, t, rfl, _, h⟩ := inn_some h
  have := innT_le _ _ _ _ (Nat.le_refl _) h
  simp only [List.length_cons]
  omega
theorem mem_lt {l r : Bs} (h : mem l = some r) : r.length < l.length := by
  cases l with
  | nil => cases h
  | cons c t =>
    simp only [mem] at h
    split at h
    · obtain ⟨⟨xs, r'⟩, hn, rfl⟩ := Option.map_eq_some_iff.1 h
      exact inn_lt hn
    · exact bare_lt h

/-- No closing bracket stands at the head. -/
def noClose (u : Bs) : Prop := u = [] ∨ ∃ d r1, u = d :: r1 ∧ d.toNat ≠ 41
/-- Neither a closing bracket nor a blank stands at the head. -/
def noGo (u : Bs) : Prop := u = [] ∨ ∃ d r1, u = d :: r1 ∧ d.toNat ≠ 41 ∧ d.toNat ≠ 32

/-- A round of an inner list's loop (entries so far: xs). -/
theorem inn_round (l : Bs) (xs : List (Bs × Bs)) (R : Option (List (Bs × Bs) × Bs)) (h : pre xs (innT l) = R) :
    (l = [] ∧ R = some (xs, [])) ∨
    (0 < l.length ∧ ∃ d r1, skip wsB l = d :: r1 ∧ d.toNat = 41 ∧ R = some (xs, r1)) ∨
    (0 < l.length ∧ noClose (skip wsB l) ∧ bare (skip wsB l) = none ∧ R = none) ∨
    (0 < l.length ∧ noClose (skip wsB l) ∧ ∃ r2, bare (skip wsB l) = some r2 ∧ par r2 = none ∧ R = none) ∨
    (0 < l.length ∧ noClose (skip wsB l) ∧ ∃ r2 ys r3, bare (skip wsB l) = some r2 ∧ par r2 = some (ys, r3) ∧ noGo r3 ∧ R = none) ∨
    (0 < l.length ∧ noClose (skip wsB l) ∧ ∃ r2 ys e r4, bare (skip wsB l) = some r2 ∧ par r2 = some (ys, e :: r4) ∧ (e.toNat = 41 ∨ e.toNat = 32) ∧
      pre (xs ++ [(ahead (skip wsB l) r2, ahead r2 (e :: r4))]) (innT (e :: r4)) = R ∧ (e :: r4).length < l.length) := by
  rw [innT_step] at h
  cases l with
  | nil => exact .inl ⟨rfl, by simpa [inn1, pre] using h.symm⟩
  | cons c r0 =>
    refine .inr ?_
    have h0 : 0 < (c :: r0).length := by simp
    cases h1 : inn1 (c :: r0) with
    | none =>
      rw [h1] at h
      have hR : R = none := by simpa [pre] using h.symm
      refine .inr ?_
      simp only [inn1] at h1
      split at h1
      · rename_i hs
        rw [hs]
        exact .inl ⟨h0, .inl rfl, rfl, hR⟩
      · rename_i d r1 hs
        rw [hs]
        split at h1
        · cases h1
        · rename_i hd
          have hd' : d.toNat ≠ 41 := by simpa using hd
          split at h1
          · rename_i hb
            exact .inl ⟨h0, .inr ⟨d, r1, rfl, hd'⟩, hb, hR⟩
          · rename_i r2 hb
            split at h1
            · rename_i hp
              exact .inr (.inl ⟨h0, .inr ⟨d, r1, rfl, hd'⟩, r2, hb, hp, hR⟩)
            · rename_i ys r3 hp
              split at h1
              · exact .inr (.inr (.inl ⟨h0, .inr ⟨d, r1, rfl, hd'⟩, r2, ys, [], hb, hp, .inl rfl, hR⟩))
              · rename_i e r4
                split at h1
                · cases h1
                · rename_i he
                  have he' : e.toNat ≠ 41 ∧ e.toNat ≠ 32 := by simpa using he
                  exact .inr (.inr (.inl ⟨h0, .inr ⟨d, r1, rfl, hd'⟩, r2, ys, e :: r4, hb, hp, .inr ⟨e, r4, rfl, he'.1, he'.2⟩, hR⟩))
    | some y =>
      have hlt : ∀ x r, y = .inr (x, r) → r.length < (c :: r0).length := fun x r e => inn1_lt (by rw [h1, e])
      rw [h1] at h
      simp only [inn1] at h1
      split at h1
      · cases h1
      · rename_i d r1 hs
        rw [hs]
        split at h1
        · rename_i hd
          cases h1
          exact .inl ⟨h0, d, r1, rfl, by simpa using hd, by simpa [pre] using h.symm⟩
        · rename_i hd
          have hd' : d.toNat ≠ 41 := by simpa using hd
          split at h1
          · cases h1
          · rename_i r2 hb
            split at h1
            · cases h1
            · rename_i ys r3 hp
              split at h1
              · cases h1
              · rename_i e r4
                split at h1
                · rename_i he
                  cases h1
                  simp only at h
                  rw [pre_cons] at h
                  exact .inr (.inr (.inr (.inr ⟨h0, .inr ⟨d, r1, rfl, hd'⟩, r2, ys, e, r4, hb, hp, by simpa using he, h, hlt _ _ rfl⟩)))
                · cases h1

theorem innT_close {l r1 : Bs} {d : UInt8} (h0 : 0 < l.length) (hs : skip wsB l = d :: r1) (hd : d.toNat = 41) : innT l = some ([], r1) := by
  have hd' : (d.toNat == 41) = true := by simpa using hd
  cases l with
  | nil => simp at h0
  | cons c r0 => rw [innT_step]; simp [inn1, hs, hd']
theorem inn1_open {l : Bs} (h0 : 0 < l.length) (hn : noClose (skip wsB l)) : inn1 l = match bare (skip wsB l) with
    | none => none
    | some r2 =>
      match par r2 with
      | none => none
      | some (_, r3) =>
        match r3 with
        | [] => none
        | e :: r4 => if e.toNat == 41 || e.toNat == 32 then some (.inr ((ahead (skip wsB l) r2, ahead r2 (e :: r4)), e :: r4)) else none := by
  cases l with
  | nil => simp at h0
  | cons c r0 =>
    simp only [inn1]
    rcases hn with hn | ⟨d, r1, hn, hd⟩
    · rw [hn]; rfl
    · have hd' : (d.toNat == 41) = false := by simpa using hd
      rw [hn]
      simp only [hd', Bool.false_eq_true, if_false]
theorem innT_nobare {l : Bs} (h0 : 0 < l.length) (hn : noClose (skip wsB l)) (hb : bare (skip wsB l) = none) : innT l = none := by
  rw [innT_step, inn1_open h0 hn, hb]
theorem innT_nopar {l r2 : Bs} (h0 : 0 < l.length) (hn : noClose (skip wsB l)) (hb : bare (skip wsB l) = some r2) (hp : par r2 = none) : innT l = none := by
  rw [innT_step, inn1_open h0 hn, hb]
  simp only [hp]
theorem innT_nogo {l r2 r3 : Bs} {ys : List (Bs × Option Bs)} (h0 : 0 < l.length) (hn : noClose (skip wsB l)) (hb : bare (skip wsB l) = some r2) (hp : par r2 = some (ys, r3)) (hg : noGo r3) : innT l = none := by
  rw [innT_step, inn1_open h0 hn, hb]
  simp only [hp]
  rcases hg with rfl | ⟨e, r4, rfl, h1, h2⟩
  · rfl
  · have h1' : (e.toNat == 41) = false := by simpa using h1
    have h2' : (e.toNat == 32) = false := by simpa using h2
    simp [h1', h2']
theorem innT_next {l r2 r4 : Bs} {e : UInt8} {ys : List (Bs × Option Bs)} (h0 : 0 < l.length) (hn : noClose (skip wsB l)) (hb : bare (skip wsB l) = some r2) (hp : par r2 = some (ys, e :: r4)) (he : e.toNat = 41 ∨ e.toNat = 32) :
    innT l = (innT (e :: r4)).map fun y => ((ahead (skip wsB l) r2, ahead r2 (e :: r4)) :: y.1, y.2) := by
  have he' : (e.toNat == 41 || e.toNat == 32) = true := by simpa using he
  rw [innT_step, inn1_open h0 hn, hb]
  simp only [hp, he', if_true]
theorem innT_next_lt {l r2 r3 : Bs} {ys : List (Bs × Option Bs)} (hb : bare (skip wsB l) = some r2) (hp : par r2 = some (ys, r3)) : r3.length < l.length := by
  have h1 := bare_lt hb
  have h2 := par_len hp
  have h3 := skip_le wsB l
  omega

/-!
  Plain laws of the scanners: what is left is an end of the text.
-/
theorem suf_cons {r t : Bs} (c : UInt8) (h : r <:+ t) : r <:+ c :: t := List.IsSuffix.trans h (List.suffix_cons c t)
theorem skip_suf (p : Nat → Bool) (l : Bs) : skip p l <:+ l := by
  induction l with
  | nil => exact List.suffix_refl _
  | cons c r ih =>
    simp only [skip]
    split
    · exact suf_cons c ih
    · exact List.suffix_refl _
theorem strT_suf : ∀ (n : Nat) (l r : Bs), l.length ≤ n → strT l = some r → r <:+ l := by
  intro n
  induction n with
  | zero => intro l r hn h; cases l with
    | nil => cases h
    | cons c t => simp at hn
  | succ n ih =>
    intro l r hn h
    cases l with
    | nil => cases h
    | cons c t =>
      simp only [List.length_cons] at hn
      rw [strT.eq_def] at h
      simp only at h
      split at h
      · split at h
        · cases h
        · rename_i d r'
          split at h
          · exact suf_cons c (suf_cons d (ih r' r (by simp at hn; omega) h))
          · cases h
      · split at h
        · obtain rfl := Option.some.inj h
          exact List.suffix_cons _ _
        · split at h
          · exact suf_cons c (ih t r (by omega) h)
          · cases h
theorem str_suf {l r : Bs} (h : str l = some r) : r <:+ l := by
  cases l with
  | nil => cases h
  | cons c t =>
    simp only [str] at h
    split at h
    · exact suf_cons c (strT_suf t.length t r (Nat.le_refl _) h)
    · cases h
theorem bytT_suf : ∀ (l r : Bs), bytT l = some r → r <:+ l := by
  intro l
  induction l with
  | nil => intro r h; cases h
  | cons c t ih =>
    intro r h
    simp only [bytT] at h
    split at h
    · obtain rfl := Option.some.inj h
      exact List.suffix_cons _ _
    · split at h
      · exact suf_cons c (ih r h)
      · cases h
theorem byt_suf {l r : Bs} (h : byt l = some r) : r <:+ l := by
  cases l with
  | nil => cases h
  | cons c t =>
    simp only [byt] at h
    split at h
    · exact suf_cons c (bytT_suf t r h)
    · cases h
theorem tok_suf {l r : Bs} (h : tok l = some r) : r <:+ l := by
  cases l with
  | nil => cases h
  | cons c t =>
    simp only [tok] at h
    split at h
    · obtain rfl := Option.some.inj h
      exact skip_suf _ _
    · cases h
theorem key_suf {l r : Bs} (h : key l = some r) : r <:+ l := by
  cases l with
  | nil => cases h
  | cons c t =>
    simp only [key] at h
    split at h
    · obtain rfl := Option.some.inj h
      exact skip_suf _ _
    · cases h
theorem boo_suf {l r : Bs} (h : boo l = some r) : r <:+ l := by
  rcases boo_some h with rfl | rfl
  · exact suf_cons _ (List.suffix_cons _ _)
  · exact suf_cons _ (List.suffix_cons _ _)
theorem num_suf {l : Bs} {d : Bool} {r : Bs} (h : num l = some (d, r)) : r <:+ l := by
  obtain ⟨pre, h1, _⟩ := num_pre h
  exact ⟨pre, h1.symm⟩
theorem dat_suf {l r : Bs} (h : dat l = some r) : r <:+ l := by
  cases l with
  | nil => cases h
  | cons c t =>
    simp only [dat] at h
    split at h
    · split at h
      · rename_i r' hn
        obtain rfl := Option.some.inj h
        exact suf_cons c (num_suf hn)
      · cases h
    · cases h
theorem dspT_suf : ∀ (n : Nat) (l o r : Bs), l.length ≤ n → dspT l = some (o, r) → r <:+ l := by
  intro n
  induction n with
  | zero => intro l o r hn h; cases l with
    | nil => cases h
    | cons c t => simp at hn
  | succ n ih =>
    intro l o r hn h
    cases l with
    | nil => cases h
    | cons c t =>
      simp only [List.length_cons] at hn
      rw [dspT.eq_def] at h
      simp only at h
      split at h
      · split at h
        · cases h
          exact List.suffix_cons _ _
        · split at h
          · split at h
            · rename_i a b r'
              split at h
              · obtain ⟨y, hy, he⟩ := Option.map_eq_some_iff.1 h
                cases he
                exact suf_cons c (suf_cons a (suf_cons b (ih r' y.1 y.2 (by simp at hn; omega) hy)))
              · cases h
            · cases h
          · obtain ⟨y, hy, he⟩ := Option.map_eq_some_iff.1 h
            cases he
            exact suf_cons c (ih t y.1 y.2 (by omega) hy)
      · cases h
theorem dsp_suf {l r : Bs} (h : dsp l = some r) : r <:+ l := by
  unfold dsp at h
  split at h
  · cases h
  · rename_i o r' hd
    split at h
    · obtain rfl := Option.some.inj h
      match l, hd with
      | a :: b :: t, hd =>
        simp only [dspS] at hd
        split at hd
        · exact suf_cons a (suf_cons b (dspT_suf t.length t o r' (Nat.le_refl _) hd))
        · cases hd
    · cases h
theorem bare_suf {l r : Bs} (h : bare l = some r) : r <:+ l := by
  cases l with
  | nil => cases h
  | cons c t =>
    simp only [bare] at h
    split at h
    · obtain ⟨⟨d, r'⟩, hn, rfl⟩ := Option.map_eq_some_iff.1 h
      exact num_suf hn
    · split at h
      · exact str_suf h
      · split at h
        · exact tok_suf h
        · split at h
          · exact byt_suf h
          · split at h
            · exact boo_suf h
            · split at h
              · exact dat_suf h
              · split at h
                · exact dsp_suf h
                · cases h
theorem suf_drop {l r : Bs} (h : r <:+ l) : l.drop (l.length - r.length) = r := by
  obtain ⟨p, rfl⟩ := h
  rw [List.length_append, Nat.add_sub_cancel, List.drop_left]

end Go.Proofs.YtohjnegllfdemaaDoor
