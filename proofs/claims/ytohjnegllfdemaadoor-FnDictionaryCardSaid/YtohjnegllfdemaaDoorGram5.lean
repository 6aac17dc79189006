/-
  Plain laws of lists and dictionaries, step by step.
-/
import Derived.Test.YtohjnegllfdemaaDoorGram4
set_option maxRecDepth 100000
namespace Go.Proofs.YtohjnegllfdemaaDoor

/-- The members of a text that is not empty. -/
def lisT (l : Bs) : Option (List (Bs × Bs)) := lisF l.length l
theorem lisF_fuel : ∀ (n : Nat) (l : Bs) (f g : Nat), l.length ≤ n → l.length ≤ f → l.length ≤ g → lisF f l = lisF g l := by
  intro n
  induction n with
  | zero =>
    intro l f g hn hf hg
    obtain rfl : l = [] := List.eq_nil_of_length_eq_zero (by omega)
    cases f <;> cases g <;> rfl
  | succ n ih =>
    intro l f g hn hf hg
    cases l with
    | nil => cases f <;> cases g <;> rfl
    | cons c t =>
      obtain ⟨f, rfl⟩ : ∃ f', f = f' + 1 := ⟨f - 1, by simp at hf; omega⟩
      obtain ⟨g, rfl⟩ : ∃ g', g = g' + 1 := ⟨g - 1, by simp at hg; omega⟩
      simp only [lisF]
      cases h1 : mem (c :: t) with
      | none => rfl
      | some r1 =>
        have l1 := mem_lt h1
        simp only
        cases h2 : par r1 with
        | none => rfl
        | some y =>
          obtain ⟨ys, r2⟩ := y
          have l2 := par_len h2
          simp only
          cases h3 : skip wsB r2 with
          | nil => rfl
          | cons d r3 =>
            have l3 := skip_le wsB r2
            rw [h3] at l3
            simp only
            split
            · cases h4 : skip wsB r3 with
              | nil => rfl
              | cons e r4 =>
                have l4 := skip_le wsB r3
                rw [h4] at l4
                simp only [List.length_cons] at *
                rw [ih (e :: r4) f g (by simp; omega) (by simp; omega) (by simp; omega)]
            · rfl
theorem lis_nil : lis [] = some [] := rfl
theorem lis_open {l : Bs} (h : l ≠ []) : lis l = lisT l := by
  cases l with
  | nil => exact absurd rfl h
  | cons c r => rfl

/-- What stands ahead of what is still to be read. -/
def pre1 {α : Type} (ys : List α) (o : Option (List α)) : Option (List α) := o.map fun zs => ys ++ zs
theorem pre1_nil {α : Type} (o : Option (List α)) : pre1 [] o = o := by cases o <;> rfl
theorem pre1_cons {α : Type} (ys : List α) (x : α) (o : Option (List α)) : pre1 ys (o.map fun zs => x :: zs) = pre1 (ys ++ [x]) o := by
  cases o <;> simp [pre1]
theorem pre1_none {α : Type} (ys : List α) : pre1 ys none = none := rfl
theorem pre1_one {α : Type} (ys : List α) (x : α) : pre1 ys (some [x]) = some (ys ++ [x]) := rfl

theorem lisT_step (l : Bs) : lisT l = match mem l with
    | none => none
    | some r1 =>
      match par r1 with
      | none => none
      | some (_, r2) =>
        match skip wsB r2 with
        | [] => some [(ahead l r1, ahead r1 r2)]
        | d :: r3 =>
          if d.toNat == 44 then
            match skip wsB r3 with
            | [] => none
            | e :: r4 => (lisT (e :: r4)).map fun y => (ahead l r1, ahead r1 r2) :: y
          else none := by
  cases l with
  | nil => rfl
  | cons c t =>
    have hu : lisT (c :: t) = lisF (t.length + 1) (c :: t) := rfl
    rw [hu]
    simp only [lisF]
    cases h1 : mem (c :: t) with
    | none => rfl
    | some r1 =>
      have l1 := mem_lt h1
      simp only
      cases h2 : par r1 with
      | none => rfl
      | some y =>
        obtain ⟨ys, r2⟩ := y
        have l2 := par_len h2
        simp only
        cases h3 : skip wsB r2 with
        | nil => rfl
        | cons d r3 =>
          have l3 := skip_le wsB r2
          rw [h3] at l3
          simp only
          split
          · cases h4 : skip wsB r3 with
            | nil => rfl
            | cons e r4 =>
              have l4 := skip_le wsB r3
              rw [h4] at l4
              simp only [List.length_cons] at *
              unfold lisT
              rw [lisF_fuel t.length (e :: r4) t.length (e :: r4).length (by simp; omega) (by simp; omega) (by simp)]
          · rfl
theorem lisT_nomem {l : Bs} (h : mem l = none) : lisT l = none := by rw [lisT_step, h]
theorem lisT_nopar {l r1 : Bs} (h : mem l = some r1) (h2 : par r1 = none) : lisT l = none := by rw [lisT_step, h]; simp only [h2]
theorem lisT_end {l r1 r2 : Bs} {ys : List (Bs × Option Bs)} (h : mem l = some r1) (h2 : par r1 = some (ys, r2)) (h3 : skip wsB r2 = []) : lisT l = some [(ahead l r1, ahead r1 r2)] := by rw [lisT_step, h]; simp only [h2, h3]
theorem lisT_nocomma {l r1 r2 r3 : Bs} {d : UInt8} {ys : List (Bs × Option Bs)} (h : mem l = some r1) (h2 : par r1 = some (ys, r2)) (h3 : skip wsB r2 = d :: r3) (hd : d.toNat ≠ 44) : lisT l = none := by
  have hd' : (d.toNat == 44) = false := by simpa using hd
  rw [lisT_step, h]; simp only [h2, h3, hd', Bool.false_eq_true, if_false]
theorem lisT_tail {l r1 r2 r3 : Bs} {d : UInt8} {ys : List (Bs × Option Bs)} (h : mem l = some r1) (h2 : par r1 = some (ys, r2)) (h3 : skip wsB r2 = d :: r3) (hd : d.toNat = 44) (h4 : skip wsB r3 = []) : lisT l = none := by
  have hd' : (d.toNat == 44) = true := by simpa using hd
  rw [lisT_step, h]; simp only [h2, h3, hd', if_true, h4]
theorem lisT_next {l r1 r2 r3 r4 : Bs} {d e : UInt8} {ys : List (Bs × Option Bs)} (h : mem l = some r1) (h2 : par r1 = some (ys, r2)) (h3 : skip wsB r2 = d :: r3) (hd : d.toNat = 44) (h4 : skip wsB r3 = e :: r4) : lisT l = (lisT (e :: r4)).map fun y => (ahead l r1, ahead r1 r2) :: y := by
  have hd' : (d.toNat == 44) = true := by simpa using hd
  rw [lisT_step, h]; simp only [h2, h3, hd', if_true, h4]

/-! Dictionaries. -/
/-- The value behind a key, if it has one; what is left. -/
def dicV : Bs → Option (Option Bs × Bs)
  | [] => some (none, [])
  | d :: r2 => if d.toNat == 61 then (mem r2).map fun r => (some (ahead r2 r), r) else some (none, d :: r2)
/-- What is left behind a comma, where one stands. -/
def dicC : Bs → Bs
  | [] => []
  | d :: r => if d.toNat == 44 then skip wsB r else skip wsB (d :: r)
/-- A key with its value and parameters. -/
abbrev Dm := Bs × Option Bs × Bs
def dicF : Nat → Bs → Option (List Dm)
  | 0, _ => none
  | f + 1, l =>
    match key l with
    | none => none
    | some r1 =>
      match dicV r1 with
      | none => none
      | some (v, r2) =>
        match par r2 with
        | none => none
        | some (_, r3) =>
          match skip wsB r3 with
          | [] => some [(ahead l r1, v, ahead r2 r3)]
          | d :: r4 =>
            match dicC (d :: r4) with
            | [] => none
            | e :: r5 => (dicF f (e :: r5)).map fun y => (ahead l r1, v, ahead r2 r3) :: y
def dicT (l : Bs) : Option (List Dm) := dicF l.length l
def dic : Bs → Option (List Dm)
  | [] => some []
  | c :: r => dicT (c :: r)
theorem dic_open {l : Bs} (h : l ≠ []) : dic l = dicT l := by
  cases l with
  | nil => exact absurd rfl h
  | cons c r => rfl

theorem dicV_len {r1 r2 : Bs} {v : Option Bs} (h : dicV r1 = some (v, r2)) : r2.length ≤ r1.length := by
  cases r1 with
  | nil => cases h; exact Nat.le_refl _
  | cons d r =>
    simp only [dicV] at h
    split at h
    · obtain ⟨y, hy, he⟩ := Option.map_eq_some_iff.1 h
      cases he
      have := mem_lt hy
      simp only [List.length_cons]
      omega
    · cases h; exact Nat.le_refl _
theorem dicC_len (l : Bs) : (dicC l).length ≤ l.length := by
  cases l with
  | nil => exact Nat.le_refl _
  | cons d r =>
    simp only [dicC]
    split
    · have := skip_le wsB r
      simp only [List.length_cons]
      omega
    · exact skip_le _ _
theorem dicF_fuel : ∀ (n : Nat) (l : Bs) (f g : Nat), l.length ≤ n → l.length ≤ f → l.length ≤ g → dicF f l = dicF g l := by
  intro n
  induction n with
  | zero =>
    intro l f g hn hf hg
    obtain rfl : l = [] := List.eq_nil_of_length_eq_zero (by omega)
    cases f <;> cases g <;> rfl
  | succ n ih =>
    intro l f g hn hf hg
    cases l with
    | nil => cases f <;> cases g <;> rfl
    | cons c t =>
      obtain ⟨f, rfl⟩ : ∃ f', f = f' + 1 := ⟨f - 1, by simp at hf; omega⟩
      obtain ⟨g, rfl⟩ : ∃ g', g = g' + 1 := ⟨g - 1, by simp at hg; omega⟩
      simp only [dicF]
      cases h1 : key (c :: t) with
      | none => rfl
      | some r1 =>
        have l1 := key_lt h1
        simp only
        cases h2 : dicV r1 with
        | none => rfl
        | some y =>
          obtain ⟨v, r2⟩ := y
          have l2 := dicV_len h2
          simp only
          cases h3 : par r2 with
          | none => rfl
          | some y =>
            obtain ⟨ys, r3⟩ := y
            have l3 := par_len h3
            simp only
            cases h4 : skip wsB r3 with
            | nil => rfl
            | cons d r4 =>
              have l4 := skip_le wsB r3
              rw [h4] at l4
              simp only
              cases h5 : dicC (d :: r4) with
              | nil => rfl
              | cons e r5 =>
                have l5 := dicC_len (d :: r4)
                rw [h5] at l5
                simp only [List.length_cons] at *
                rw [ih (e :: r5) f g (by simp; omega) (by simp; omega) (by simp; omega)]
theorem dicT_step (l : Bs) : dicT l = match key l with
    | none => none
    | some r1 =>
      match dicV r1 with
      | none => none
      | some (v, r2) =>
        match par r2 with
        | none => none
        | some (_, r3) =>
          match skip wsB r3 with
          | [] => some [(ahead l r1, v, ahead r2 r3)]
          | d :: r4 =>
            match dicC (d :: r4) with
            | [] => none
            | e :: r5 => (dicT (e :: r5)).map fun y => (ahead l r1, v, ahead r2 r3) :: y := by
  cases l with
  | nil => rfl
  | cons c t =>
    have hu : dicT (c :: t) = dicF (t.length + 1) (c :: t) := rfl
    rw [hu]
    simp only [dicF]
    cases h1 : key (c :: t) with
    | none => rfl
    | some r1 =>
      have l1 := key_lt h1
      simp only
      cases h2 : dicV r1 with
      | none => rfl
      | some y =>
        obtain ⟨v, r2⟩ := y
        have l2 := dicV_len h2
        simp only
        cases h3 : par r2 with
        | none => rfl
        | some y =>
          obtain ⟨ys, r3⟩ := y
          have l3 := par_len h3
          simp only
          cases h4 : skip wsB r3 with
          | nil => rfl
          | cons d r4 =>
            have l4 := skip_le wsB r3
            rw [h4] at l4
            simp only
            cases h5 : dicC (d :: r4) with
            | nil => rfl
            | cons e r5 =>
              have l5 := dicC_len (d :: r4)
              rw [h5] at l5
              simp only [List.length_cons] at *
              unfold dicT
              rw [dicF_fuel t.length (e :: r5) t.length (e :: r5).length (by simp; omega) (by simp; omega) (by simp)]
theorem dicT_nokey {l : Bs} (h : key l = none) : dicT l = none := by rw [dicT_step, h]
theorem dicT_noval {l r1 : Bs} (h : key l = some r1) (h2 : dicV r1 = none) : dicT l = none := by rw [dicT_step, h]; simp only [h2]
theorem dicT_nopar {l r1 r2 : Bs} {v : Option Bs} (h : key l = some r1) (h2 : dicV r1 = some (v, r2)) (h3 : par r2 = none) : dicT l = none := by rw [dicT_step, h]; simp only [h2, h3]
theorem dicT_end {l r1 r2 r3 : Bs} {v : Option Bs} {ys : List (Bs × Option Bs)} (h : key l = some r1) (h2 : dicV r1 = some (v, r2)) (h3 : par r2 = some (ys, r3)) (h4 : skip wsB r3 = []) : dicT l = some [(ahead l r1, v, ahead r2 r3)] := by rw [dicT_step, h]; simp only [h2, h3, h4]
theorem dicT_tail {l r1 r2 r3 r4 : Bs} {d : UInt8} {v : Option Bs} {ys : List (Bs × Option Bs)} (h : key l = some r1) (h2 : dicV r1 = some (v, r2)) (h3 : par r2 = some (ys, r3)) (h4 : skip wsB r3 = d :: r4) (h5 : dicC (d :: r4) = []) : dicT l = none := by rw [dicT_step, h]; simp only [h2, h3, h4, h5]
theorem dicT_next {l r1 r2 r3 r4 r5 : Bs} {d e : UInt8} {v : Option Bs} {ys : List (Bs × Option Bs)} (h : key l = some r1) (h2 : dicV r1 = some (v, r2)) (h3 : par r2 = some (ys, r3)) (h4 : skip wsB r3 = d :: r4) (h5 : dicC (d :: r4) = e :: r5) : dicT l = (dicT (e :: r5)).map fun y => (ahead l r1, v, ahead r2 r3) :: y := by rw [dicT_step, h]; simp only [h2, h3, h4, h5]
theorem dicV_yes {d : UInt8} {r2 : Bs} (h : d.toNat = 61) : dicV (d :: r2) = (mem r2).map fun r => (some (ahead r2 r), r) := by
  have h' : (d.toNat == 61) = true := by simpa using h
  simp only [dicV, h', if_true]
theorem dicV_no {d : UInt8} {r2 : Bs} (h : d.toNat ≠ 61) : dicV (d :: r2) = some (none, d :: r2) := by
  have h' : (d.toNat == 61) = false := by simpa using h
  simp only [dicV, h', Bool.false_eq_true, if_false]
theorem dicC_yes {d : UInt8} {r : Bs} (h : d.toNat = 44) : dicC (d :: r) = skip wsB r := by
  have h' : (d.toNat == 44) = true := by simpa using h
  simp only [dicC, h', if_true]
theorem dicC_no {d : UInt8} {r : Bs} (h : d.toNat ≠ 44) : dicC (d :: r) = skip wsB (d :: r) := by
  have h' : (d.toNat == 44) = false := by simpa using h
  simp only [dicC, h', Bool.false_eq_true, if_false]

end Go.Proofs.YtohjnegllfdemaaDoor
