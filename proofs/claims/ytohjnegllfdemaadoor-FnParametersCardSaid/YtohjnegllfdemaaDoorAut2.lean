/-
  Plain laws: consumeDisplayString's way through bytes accepts just the texts of whole characters (where U+FFFD does not occur).
-/
import Derived.Test.YtohjnegllfdemaaDoorAut
set_option maxRecDepth 100000
namespace Go.Proofs.YtohjnegllfdemaaDoor

/-- Bytes taken one by one, with a pending piece of a character. -/
def aut : Bs → Bs → Bool
  | p, [] => p.isEmpty
  | p, c :: l => if fullL (p ++ [c]) then (decL (p ++ [c])).1 != 65533 && aut [] l else aut (p ++ [c]) l

/-- A pending piece of a character. -/
def chain : Bs → Prop
  | [] => True
  | [a] => fullL [a] = false
  | [a, b] => fullL [a] = false ∧ fullL [a, b] = false
  | [a, b, c] => fullL [a] = false ∧ fullL [a, b] = false ∧ fullL [a, b, c] = false
  | _ => False

theorem full4 (a b c d : UInt8) (h : 194 ≤ a.toNat ∧ a.toNat ≤ 244) : fullL [a, b, c, d] = true := by
  obtain ⟨_, _, h3⟩ := row a.toNat h
  simp only [fullL, fullV, h3, List.length_cons, List.length_nil]
  have : (if a.toNat < 224 then 2 else if a.toNat < 240 then 3 else 4) ≤ 0 + 1 + 3 := by split <;> (try split) <;> omega
  rw [decide_eq_true this]
  rfl

theorem chain_next {p : Bs} {c : UInt8} (h : chain p) (hf : fullL (p ++ [c]) = false) : chain (p ++ [c]) := by
  match p, h with
  | [], _ => exact hf
  | [a], h => exact ⟨h, hf⟩
  | [a, b], h => exact ⟨h.1, h.2, hf⟩
  | [a, b, d], h => exact absurd hf (by rw [show [a, b, d] ++ [c] = [a, b, d, c] from rfl, full4 a b d c (lead a h.1)]; simp)

theorem chain_step {p : Bs} {c : UInt8} (h : chain p) (hf : fullL (p ++ [c]) = true) (r : Bs) :
    ((decL (p ++ [c])).1 = 65533 ∧ (u8n (p ++ c :: r) = 0 ∨ fffd.isPrefixOf (p ++ c :: r) = true)) ∨
    ((decL (p ++ [c])).1 ≠ 65533 ∧ (decL (p ++ [c])).2 = p.length + 1 ∧ u8n (p ++ c :: r) = p.length + 1 ∧ fffd.isPrefixOf (p ++ c :: r) = false) := by
  match p, h with
  | [], _ =>
    rcases step1 c r hf with ⟨h1, h2⟩ | h1
    · exact .inl ⟨h1, .inl h2⟩
    · exact .inr h1
  | [a], h =>
    rcases step2 a c r (lead a h) hf with ⟨h1, h2⟩ | h1
    · exact .inl ⟨h1, .inl h2⟩
    · exact .inr h1
  | [a, b], h =>
    rcases step3 a b c r (lead a h.1) h.2 hf with ⟨h1, h2⟩ | h1
    · exact .inl ⟨h1, h2⟩
    · exact .inr h1
  | [a, b, d], h =>
    rcases step4 a b d c r (lead a h.1) h.2.1 h.2.2 with ⟨h1, h2⟩ | h1
    · exact .inl ⟨h1, .inl h2⟩
    · exact .inr h1

theorem chain_short {p : Bs} (h : chain p) (hne : p ≠ []) : u8n p = 0 := by
  match p, h with
  | [], _ => exact absurd rfl hne
  | [a], h =>
    have := lead a h
    simp only [u8n, u8two, u8three, u8four]
    rw [if_neg (by omega)]
    split
    · rfl
    · split
      · rfl
      · split <;> rfl
  | [a, b], h =>
    have hl := lead a h.1
    have h2 := h.2
    rw [full2 a b hl] at h2
    simp only [Bool.or_eq_false_iff, decide_eq_false_iff_not] at h2
    simp only [u8n, u8two, u8three, u8four]
    rw [if_neg (by omega), if_neg (by omega)]
    split
    · rfl
    · split <;> rfl
  | [a, b, c], h =>
    have hl := lead a h.1
    have h2 := h.2.1
    have h3 := h.2.2
    rw [full3 a b c hl h2] at h3
    rw [full2 a b hl] at h2
    simp only [Bool.or_eq_false_iff, decide_eq_false_iff_not] at h2 h3
    simp only [u8n, u8two, u8three, u8four]
    rw [if_neg (by omega), if_neg (by omega), if_neg (by omega)]
    split <;> rfl

theorem goodF_nil (f : Nat) : goodF f [] = true := by cases f <;> rfl

theorem aut_good (l : Bs) : ∀ (p : Bs) (f : Nat), chain p → p.length + l.length ≤ f → aut p l = goodF f (p ++ l) := by
  induction l with
  | nil =>
    intro p f h hf
    cases p with
    | nil => simp [aut, goodF_nil]
    | cons a p =>
      obtain ⟨g, rfl⟩ : ∃ g, f = g + 1 := ⟨f - 1, by simp at hf; omega⟩
      have hs := chain_short h (by simp)
      simp [aut, goodF, hs]
  | cons c r ih =>
    intro p f h hf
    simp only [List.length_cons] at hf
    obtain ⟨g, rfl⟩ : ∃ g, f = g + 1 := ⟨f - 1, by omega⟩
    cases hq : fullL (p ++ [c])
    · simp only [aut, hq]
      have := ih (p ++ [c]) (g + 1) (chain_next h hq) (by simp; omega)
      rw [List.append_assoc] at this
      exact this
    · simp only [aut, hq, if_true]
      have hne : (p ++ c :: r).isEmpty = false := by cases p <;> rfl
      rcases chain_step h hq r with ⟨h1, h2⟩ | ⟨h1, h2, h3, h4⟩
      · rw [h1]
        simp only [goodF, hne]
        rcases h2 with h2 | h2 <;> simp [h2]
      · have hd : (p ++ c :: r).drop (p.length + 1) = r := by
          rw [List.drop_append, List.drop_of_length_le (by omega)]
          simp
        have h5 : ((decL (p ++ [c])).1 != 65533) = true := by simpa using h1
        have h6 := ih [] g trivial (by simp; omega)
        simp only [goodF, hne, h3, h4, hd, h5, h6]
        simp

theorem hasB_drop {p : Bs} : ∀ (n : Nat) (l : Bs), hasB p l = false → hasB p (l.drop n) = false := by
  intro n
  induction n with
  | zero => intro l h; exact h
  | succ n ih =>
    intro l h
    cases l with
    | nil => exact h
    | cons c r =>
      simp only [hasB, Bool.or_eq_false_iff] at h
      exact ih r h.2

theorem good_valid : ∀ (f : Nat) (l : Bs), hasB fffd l = false → goodF f l = validF f l := by
  intro f
  induction f with
  | zero => intro l _; cases l <;> rfl
  | succ f ih =>
    intro l h
    cases l with
    | nil => rfl
    | cons c r =>
      have hp : fffd.isPrefixOf (c :: r) = false := by
        simp only [hasB, Bool.or_eq_false_iff] at h
        exact h.1
      simp only [goodF, validF, hp, ih _ (hasB_drop _ _ h)]
      simp

theorem good_le : ∀ (f : Nat) (l : Bs), goodF f l = true → validF f l = true := by
  intro f
  induction f with
  | zero =>
    intro l h
    cases l with
    | nil => rfl
    | cons c r => simp [goodF] at h
  | succ f ih =>
    intro l h
    cases l with
    | nil => rfl
    | cons c r =>
      simp only [goodF, List.isEmpty_cons, Bool.false_or, Bool.and_eq_true] at h
      simp only [validF, Bool.and_eq_true]
      exact ⟨h.1.1, ih _ h.2⟩

theorem aut_le (o : Bs) (h : aut [] o = true) : validU o = true := by
  rw [aut_good o [] o.length trivial (by simp), List.nil_append] at h
  exact good_le _ _ h

theorem aut_valid (o : Bs) (h : hasB fffd o = false) : aut [] o = validU o := by
  rw [aut_good o [] o.length trivial (by simp), List.nil_append, good_valid _ _ h]
  rfl

end Go.Proofs.YtohjnegllfdemaaDoor
