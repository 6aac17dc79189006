/-
  Several texts in one: Aut, Aut2, Gram.
-/
import Derived.Test.YtohjnegllfdemaaDoorItem
import Derived.Test.YtohjnegllfdemaaDoorFull
import Derived.Lib.DecodeN
import Derived.Shelf.Unicode.DecodeSlow
set_option maxRecDepth 100000
namespace Go.Proofs.YtohjnegllfdemaaDoor
open Go.RowKit

/-!
  Plain laws: bytes taken one by one, as consumeDisplayString takes them (a piece of a character is pending until it is full), against characters taken one by one.
-/
def fullL : Bs → Bool
  | [] => false
  | [a] => fullV 1 (Lib.firstT a.toNat) 0 0
  | [a, b] => fullV 2 (Lib.firstT a.toNat) b.toNat 0
  | a :: b :: c :: r => fullV (r.length + 3) (Lib.firstT a.toNat) b.toNat c.toNat
def decL : Bs → Nat × Nat
  | [] => (65533, 0)
  | [a] => Lib.decodeN 1 a.toNat 0 0 0
  | [a, b] => Lib.decodeN 2 a.toNat b.toNat 0 0
  | [a, b, c] => Lib.decodeN 3 a.toNat b.toNat c.toNat 0
  | a :: b :: c :: d :: r => Lib.decodeN (r.length + 4) a.toNat b.toNat c.toNat d.toNat

/-- Characters one by one: each is well formed, none is U+FFFD. -/
def goodF : Nat → Bs → Bool
  | 0, l => l.isEmpty
  | f + 1, l => l.isEmpty || (u8n l != 0 && !(fffd.isPrefixOf l) && goodF f (l.drop (u8n l)))

def pend (p : Bs) : Prop := p = [] ∨ (p.length ≤ 3 ∧ fullL p = false)

theorem fffd_head (a : UInt8) (r : Bs) (h : a.toNat ≠ 239) : fffd.isPrefixOf (a :: r) = false := by
  have : (239 : UInt8) ≠ a := fun e => h (by rw [← e]; rfl)
  simp [fffd, List.isPrefixOf, this]

/-- One byte. -/
theorem step1 (a : UInt8) (r : Bs) (hf : fullL [a] = true) : ((decL [a]).1 = 65533 ∧ u8n (a :: r) = 0) ∨ ((decL [a]).1 ≠ 65533 ∧ (decL [a]).2 = 1 ∧ u8n (a :: r) = 1 ∧ fffd.isPrefixOf (a :: r) = false) := by
  have hlt := a.toNat_lt
  by_cases h1 : a.toNat < 128
  · refine .inr ⟨?_, ?_, ?_, fffd_head a r (by omega)⟩
    · simp [decL, Lib.decodeN, h1]; omega
    · simp [decL, Lib.decodeN, h1]
    · simp [u8n, h1]
  · have hx : a.toNat < 194 ∨ 245 ≤ a.toNat := by
      simp only [fullL, fullV] at hf
      rcases Lib.firstT_cases a.toNat with h | h | h | h | h | h | h | h | h <;> simp [h, Lib.accLo, Lib.accHi] at hf
      all_goals (unfold Lib.firstT at h; revert h; repeat' split)
      all_goals omega
    refine .inl ⟨by simp [decL, Lib.decodeN, h1], ?_⟩
    simp only [u8n, h1, if_false]
    rw [if_neg (by omega), if_neg (by omega), if_neg (by omega)]

theorem lead (a : UInt8) (hf : fullL [a] = false) : 194 ≤ a.toNat ∧ a.toNat ≤ 244 := by
  have : ∀ n : Fin 256, fullV 1 (Lib.firstT n.1) 0 0 = false → 194 ≤ n.1 ∧ n.1 ≤ 244 := by decide +kernel
  exact this ⟨a.toNat, a.toNat_lt⟩ hf
/-- The bounds of a second byte. -/
def loB (a : Nat) : Nat := if a = 224 then 160 else if a = 240 then 144 else 128
def hiB (a : Nat) : Nat := if a = 237 then 159 else if a = 244 then 143 else 191
theorem row (a : Nat) (h : 194 ≤ a ∧ a ≤ 244) : Lib.accLo (Lib.firstT a / 16) = loB a ∧ Lib.accHi (Lib.firstT a / 16) = hiB a ∧ Lib.firstT a % 8 = (if a < 224 then 2 else if a < 240 then 3 else 4) := by
  have : ∀ n : Fin 245, 194 ≤ n.1 → Lib.accLo (Lib.firstT n.1 / 16) = loB n.1 ∧ Lib.accHi (Lib.firstT n.1 / 16) = hiB n.1 ∧ Lib.firstT n.1 % 8 = (if n.1 < 224 then 2 else if n.1 < 240 then 3 else 4) := by decide +kernel
  exact this ⟨a, by omega⟩ h.1
theorem full2 (a b : UInt8) (h : 194 ≤ a.toNat ∧ a.toNat ≤ 244) : fullL [a, b] = (decide (a.toNat < 224) || decide (b.toNat < loB a.toNat) || decide (hiB a.toNat < b.toNat)) := by
  obtain ⟨h1, h2, h3⟩ := row a.toNat h
  simp only [fullL, fullV, h1, h2, h3]
  rw [Bool.eq_iff_iff]
  simp
  split
  · omega
  · split <;> omega
theorem full3 (a b c : UInt8) (h : 194 ≤ a.toNat ∧ a.toNat ≤ 244) (h2 : fullL [a, b] = false) : fullL [a, b, c] = (decide (a.toNat < 240) || decide (c.toNat < 128) || decide (191 < c.toNat)) := by
  rw [full2 a b h] at h2
  obtain ⟨h1, h3, h4⟩ := row a.toNat h
  simp only [fullL, fullV, h1, h3, h4]
  simp at h2
  rw [Bool.eq_iff_iff]
  simp
  split
  · omega
  · split <;> omega

theorem step2 (a b : UInt8) (r : Bs) (h : 194 ≤ a.toNat ∧ a.toNat ≤ 244) (hf : fullL [a, b] = true) :
    ((decL [a, b]).1 = 65533 ∧ u8n (a :: b :: r) = 0) ∨ ((decL [a, b]).1 ≠ 65533 ∧ (decL [a, b]).2 = 2 ∧ u8n (a :: b :: r) = 2 ∧ fffd.isPrefixOf (a :: b :: r) = false) := by
  rw [full2 a b h] at hf
  simp only [Bool.or_eq_true, decide_eq_true_eq] at hf
  have lb := b.toNat_lt
  by_cases h1 : a.toNat < 224
  · by_cases h2 : 128 ≤ b.toNat ∧ b.toNat ≤ 191
    · refine .inr ⟨?_, ?_, ?_, fffd_head a _ (by omega)⟩
      · simp only [decL, Lib.decodeN]
        rw [if_neg (by omega), if_pos (by omega), if_pos (by omega)]
        simp only
        omega
      · simp only [decL, Lib.decodeN]
        rw [if_neg (by omega), if_pos (by omega), if_pos (by omega)]
      · simp only [u8n, u8two, contB]
        rw [if_neg (by omega), if_pos (by omega)]
        simp [h2]
    · refine .inl ⟨?_, ?_⟩
      · simp only [decL, Lib.decodeN]
        rw [if_neg (by omega), if_neg (by omega), if_neg (by omega), if_neg (by omega)]
      · simp only [u8n, u8two, contB]
        rw [if_neg (by omega), if_pos (by omega)]
        simp
        omega
  · refine .inl ⟨?_, ?_⟩
    · simp only [decL, Lib.decodeN]
      rw [if_neg (by omega), if_neg (by omega), if_neg (by omega), if_neg (by omega)]
    · have hb : b.toNat < loB a.toNat ∨ hiB a.toNat < b.toNat := by omega
      clear hf
      simp only [loB, hiB] at hb
      by_cases h3 : a.toNat < 240
      · simp only [u8n]
        rw [if_neg (by omega), if_neg (by omega), if_pos (by omega)]
        cases r with
        | nil => simp [u8three]
        | cons c r' =>
          have : u8three a.toNat (b :: c :: r') = false := by
            rw [Bool.eq_false_iff]
            simp only [u8three, contB, ne_eq, Bool.and_eq_true, decide_eq_true_eq, Bool.not_eq_true', Bool.and_eq_false_iff, beq_eq_false_iff_ne, decide_eq_false_iff_not]
            repeat' split at hb
            all_goals omega
          rw [this]
          rfl
      · simp only [u8n]
        rw [if_neg (by omega), if_neg (by omega), if_neg (by omega), if_pos (by omega)]
        have : u8four a.toNat (b :: r) = false := by
          match r with
          | [] => rfl
          | [_] => rfl
          | c :: d :: r' =>
            rw [Bool.eq_false_iff]
            simp only [u8four, contB, ne_eq, Bool.and_eq_true, decide_eq_true_eq, Bool.not_eq_true', Bool.and_eq_false_iff, beq_eq_false_iff_ne, decide_eq_false_iff_not]
            repeat' split at hb
            all_goals omega
        rw [this]
        rfl

theorem step3 (a b c : UInt8) (r : Bs) (h : 194 ≤ a.toNat ∧ a.toNat ≤ 244) (h2 : fullL [a, b] = false) (hf : fullL [a, b, c] = true) :
    ((decL [a, b, c]).1 = 65533 ∧ (u8n (a :: b :: c :: r) = 0 ∨ fffd.isPrefixOf (a :: b :: c :: r) = true)) ∨ ((decL [a, b, c]).1 ≠ 65533 ∧ (decL [a, b, c]).2 = 3 ∧ u8n (a :: b :: c :: r) = 3 ∧ fffd.isPrefixOf (a :: b :: c :: r) = false) := by
  rw [full3 a b c h h2] at hf
  rw [full2 a b h] at h2
  simp only [Bool.or_eq_true, Bool.or_eq_false_iff, decide_eq_true_eq, decide_eq_false_iff_not] at hf h2
  simp only [loB, hiB] at h2
  have lb := b.toNat_lt
  have lc := c.toNat_lt
  by_cases h1 : a.toNat < 240
  · by_cases h3 : 128 ≤ c.toNat ∧ c.toNat ≤ 191
    · have hbb : 128 ≤ b.toNat ∧ b.toNat ≤ 191 := by
        obtain ⟨⟨g1, g2⟩, g3⟩ := h2
        repeat' split at g2
        all_goals (repeat' split at g3)
        all_goals omega
      have hu : u8n (a :: b :: c :: r) = 3 := by
        simp only [u8n]
        rw [if_neg (by omega), if_neg (by omega), if_pos (by omega)]
        have : u8three a.toNat (b :: c :: r) = true := by
          simp only [u8three, contB, Bool.and_eq_true, decide_eq_true_eq, Bool.not_eq_true', Bool.and_eq_false_iff, beq_eq_false_iff_ne, decide_eq_false_iff_not]
          obtain ⟨⟨g1, g2⟩, g3⟩ := h2
          repeat' split at g2
          all_goals (repeat' split at g3)
          all_goals omega
        rw [this]
        rfl
      have hd : decL [a, b, c] = (a.toNat % 16 * 4096 + b.toNat % 64 * 64 + c.toNat % 64, 3) := by
        simp only [decL, Lib.decodeN]
        obtain ⟨⟨g1, g2⟩, g3⟩ := h2
        have hb : 128 ≤ b.toNat ∧ b.toNat ≤ 191 := by
          repeat' split at g2
          all_goals (repeat' split at g3)
          all_goals omega
        rw [if_neg (by omega), if_neg (by omega), if_pos (by omega), if_pos]
        repeat' split at g2
        all_goals (repeat' split at g3)
        all_goals omega
      by_cases hx : a.toNat = 239 ∧ b.toNat = 191 ∧ c.toNat = 189
      · refine .inl ⟨by rw [hd]; simp only; omega, .inr ?_⟩
        have ea : a = 239 := UInt8.toNat_inj.1 hx.1
        have eb : b = 191 := UInt8.toNat_inj.1 hx.2.1
        have ec : c = 189 := UInt8.toNat_inj.1 hx.2.2
        subst ea eb ec
        simp [fffd, List.isPrefixOf]
      · refine .inr ⟨?_, by rw [hd], hu, ?_⟩
        · rw [hd]
          simp only
          intro e
          apply hx
          have h224 := h2.1.1
          clear h2 hf
          omega
        · rw [Bool.eq_false_iff]
          intro e
          simp [fffd, List.isPrefixOf] at e
          obtain ⟨e1, e2, e3⟩ := e
          exact hx ⟨by rw [← e1]; rfl, by rw [← e2]; rfl, by rw [← e3]; rfl⟩
    · refine .inl ⟨?_, .inl ?_⟩
      · simp only [decL, Lib.decodeN]
        rw [if_neg (by omega), if_neg (by omega), if_neg (by omega), if_neg (by omega)]
      · simp only [u8n]
        rw [if_neg (by omega), if_neg (by omega), if_pos (by omega)]
        have : u8three a.toNat (b :: c :: r) = false := by
          rw [Bool.eq_false_iff]
          simp only [u8three, contB, ne_eq, Bool.and_eq_true, decide_eq_true_eq, Bool.not_eq_true', Bool.and_eq_false_iff, beq_eq_false_iff_ne, decide_eq_false_iff_not]
          omega
        rw [this]
        rfl
  · refine .inl ⟨?_, .inl ?_⟩
    · simp only [decL, Lib.decodeN]
      rw [if_neg (by omega), if_neg (by omega), if_neg (by omega), if_neg (by omega)]
    · simp only [u8n]
      rw [if_neg (by omega), if_neg (by omega), if_neg (by omega), if_pos (by omega)]
      have : u8four a.toNat (b :: c :: r) = false := by
        match r with
        | [] => rfl
        | d :: r' =>
          rw [Bool.eq_false_iff]
          simp only [u8four, contB, ne_eq, Bool.and_eq_true, decide_eq_true_eq, Bool.not_eq_true', Bool.and_eq_false_iff, beq_eq_false_iff_ne, decide_eq_false_iff_not]
          omega
      rw [this]
      rfl

theorem step4 (a b c d : UInt8) (r : Bs) (h : 194 ≤ a.toNat ∧ a.toNat ≤ 244) (h2 : fullL [a, b] = false) (h3 : fullL [a, b, c] = false) :
    ((decL [a, b, c, d]).1 = 65533 ∧ u8n (a :: b :: c :: d :: r) = 0) ∨ ((decL [a, b, c, d]).1 ≠ 65533 ∧ (decL [a, b, c, d]).2 = 4 ∧ u8n (a :: b :: c :: d :: r) = 4 ∧ fffd.isPrefixOf (a :: b :: c :: d :: r) = false) := by
  rw [full3 a b c h h2] at h3
  rw [full2 a b h] at h2
  simp only [Bool.or_eq_false_iff, decide_eq_false_iff_not] at h3 h2
  simp only [loB, hiB] at h2
  have ld := d.toNat_lt
  obtain ⟨⟨g1, g2⟩, g3⟩ := h2
  have hb : 128 ≤ b.toNat ∧ b.toNat ≤ 191 ∧ ¬ (a.toNat = 240 ∧ b.toNat < 144) ∧ ¬ (a.toNat = 244 ∧ 144 ≤ b.toNat) := by
    repeat' split at g2
    all_goals (repeat' split at g3)
    all_goals omega
  clear g2 g3
  by_cases h4 : 128 ≤ d.toNat ∧ d.toNat ≤ 191
  · refine .inr ⟨?_, ?_, ?_, fffd_head a _ (by omega)⟩
    · simp only [decL, Lib.decodeN, List.length_nil]
      rw [if_neg (by omega), if_neg (by omega), if_neg (by omega), if_pos (by omega), if_pos (by omega)]
      simp only
      omega
    · simp only [decL, Lib.decodeN, List.length_nil]
      rw [if_neg (by omega), if_neg (by omega), if_neg (by omega), if_pos (by omega), if_pos (by omega)]
    · simp only [u8n]
      rw [if_neg (by omega), if_neg (by omega), if_neg (by omega), if_pos (by omega)]
      have : u8four a.toNat (b :: c :: d :: r) = true := by
        simp only [u8four, contB, Bool.and_eq_true, decide_eq_true_eq, Bool.not_eq_true', Bool.and_eq_false_iff, beq_eq_false_iff_ne, decide_eq_false_iff_not]
        omega
      rw [this]
      rfl
  · refine .inl ⟨?_, ?_⟩
    · simp only [decL, Lib.decodeN, List.length_nil]
      rw [if_neg (by omega), if_neg (by omega), if_neg (by omega), if_neg (by omega)]
    · simp only [u8n]
      rw [if_neg (by omega), if_neg (by omega), if_neg (by omega), if_pos (by omega)]
      have : u8four a.toNat (b :: c :: d :: r) = false := by
        rw [Bool.eq_false_iff]
        simp only [u8four, contB, ne_eq, Bool.and_eq_true, decide_eq_true_eq, Bool.not_eq_true', Bool.and_eq_false_iff, beq_eq_false_iff_ne, decide_eq_false_iff_not]
        omega
      rw [this]
      rfl

/-!
  Plain laws: consumeDisplayString's way through bytes accepts just the texts of whole characters (where U+FFFD does not occur).
-/
/-- Bytes taken one by one, with a pending piece of a character. -/
def aut : Bs → Bs → Bool
  | p, [] => p.isEmpty
  | p, c :: l => if fullL (p ++ [c]) then (decL (p ++ [c])).1 != 65533 && aut [] l else aut (p ++ [c]) l

/-- A pending piece of a character. -/
def chain : Bs → Prop
  | [] => True
  | [a] => fullL [a] = false
  | [a, b] => fullL [a] = false ∧ fullL [a, b] = false
  | [a, b, c] => fullL [a] = false ∧ fullL [a, b] = false ∧ fullL [a, b, c] = false
  | _ => False

theorem full4 (a b c d : UInt8) (h : 194 ≤ a.toNat ∧ a.toNat ≤ 244) : fullL [a, b, c, d] = true := by
  obtain ⟨_, _, h3⟩ := row a.toNat h
  simp only [fullL, fullV, h3, List.length_cons, List.length_nil]
  have : (if a.toNat < 224 then 2 else if a.toNat < 240 then 3 else 4) ≤ 0 + 1 + 3 := by split <;> (try split) <;> omega
  rw [decide_eq_true this]
  rfl

theorem chain_next {p : Bs} {c : UInt8} (h : chain p) (hf : fullL (p ++ [c]) = false) : chain (p ++ [c]) := by
  match p, h with
  | [], _ => exact hf
  | [a], h => exact ⟨h, hf⟩
  | [a, b], h => exact ⟨h.1, h.2, hf⟩
  | [a, b, d], h => exact absurd hf (by rw [show [a, b, d] ++ [c] = [a, b, d, c] from rfl, full4 a b d c (lead a h.1)]; simp)

theorem chain_step {p : Bs} {c : UInt8} (h : chain p) (hf : fullL (p ++ [c]) = true) (r : Bs) :
    ((decL (p ++ [c])).1 = 65533 ∧ (u8n (p ++ c :: r) = 0 ∨ fffd.isPrefixOf (p ++ c :: r) = true)) ∨
    ((decL (p ++ [c])).1 ≠ 65533 ∧ (decL (p ++ [c])).2 = p.length + 1 ∧ u8n (p ++ c :: r) = p.length + 1 ∧ fffd.isPrefixOf (p ++ c :: r) = false) := by
  match p, h with
  | [], _ =>
    rcases step1 c r hf with ⟨h1, h2⟩ | h1
    · exact .inl ⟨h1, .inl h2⟩
    · exact .inr h1
  | [a], h =>
    rcases step2 a c r (lead a h) hf with ⟨h1, h2⟩ | h1
    · exact .inl ⟨h1, .inl h2⟩
    · exact .inr h1
  | [a, b], h =>
    rcases step3 a b c r (lead a h.1) h.2 hf with ⟨h1, h2⟩ | h1
    · exact .inl ⟨h1, h2⟩
    · exact .inr h1
  | [a, b, d], h =>
    rcases step4 a b d c r (lead a h.1) h.2.1 h.2.2 with ⟨h1, h2⟩ | h1
    · exact .inl ⟨h1, .inl h2⟩
    · exact .inr h1

theorem chain_short {p : Bs} (h : chain p) (hne : p ≠ []) : u8n p = 0 := by
  match p, h with
  | [], _ => exact absurd rfl hne
  | [a], h =>
    have := lead a h
    simp only [u8n, u8two, u8three, u8four]
    rw [if_neg (by omega)]
    split
    · rfl
    · split
      · rfl
      · split <;> rfl
  | [a, b], h =>
    have hl := lead a h.1
    have h2 := h.2
    rw [full2 a b hl] at h2
    simp only [Bool.or_eq_false_iff, decide_eq_false_iff_not] at h2
    simp only [u8n, u8two, u8three, u8four]
    rw [if_neg (by omega), if_neg (by omega)]
    split
    · rfl
    · split <;> rfl
  | [a, b, c], h =>
    have hl := lead a h.1
    have h2 := h.2.1
    have h3 := h.2.2
    rw [full3 a b c hl h2] at h3
    rw [full2 a b hl] at h2
    simp only [Bool.or_eq_false_iff, decide_eq_false_iff_not] at h2 h3
    simp only [u8n, u8two, u8three, u8four]
    rw [if_neg (by omega), if_neg (by omega), if_neg (by omega)]
    split <;> rfl

theorem goodF_nil (f : Nat) : goodF f [] = true := by cases f <;> rfl

theorem aut_good (l : Bs) : ∀ (p : Bs) (f : Nat), chain p → p.length + l.length ≤ f → aut p l = goodF f (p ++ l) := by
  induction l with
  | nil =>
    intro p f h hf
    cases p with
    | nil => simp [aut, goodF_nil]
    | cons a p =>
      obtain ⟨g, rfl⟩ : ∃ g, f = g + 1 := ⟨f - 1, by simp at hf; omega⟩
      have hs := chain_short h (by simp)
      simp [aut, goodF, hs]
  | cons c r ih =>
    intro p f h hf
    simp only [List.length_cons] at hf
    obtain ⟨g, rfl⟩ : ∃ g, f = g + 1 := ⟨f - 1, by omega⟩
    cases hq : fullL (p ++ [c])
    · simp only [aut, hq]
      have := ih (p ++ [c]) (g + 1) (chain_next h hq) (by simp; omega)
      rw [List.append_assoc] at this
      exact this
    · simp only [aut, hq, if_true]
      have hne : (p ++ c :: r).isEmpty = false := by cases p <;> rfl
      rcases chain_step h hq r with ⟨h1, h2⟩ | ⟨h1, h2, h3, h4⟩
      · rw [h1]
        simp only [goodF, hne]
        rcases h2 with h2 | h2 <;> simp [h2]
      · have hd : (p ++ c :: r).drop (p.length + 1) = r := by
          rw [List.drop_append, List.drop_of_length_le (by omega)]
          simp
        have h5 : ((decL (p ++ [c])).1 != 65533) = true := by simpa using h1
        have h6 := ih [] g trivial (by simp; omega)
        simp only [goodF, hne, h3, h4, hd, h5, h6]
        simp

theorem hasB_drop {p : Bs} : ∀ (n : Nat) (l : Bs), hasB p l = false → hasB p (l.drop n) = false := by
  intro n
  induction n with
  | zero => intro l h; exact h
  | succ n ih =>
    intro l h
    cases l with
    | nil => exact h
    | cons c r =>
      simp only [hasB, Bool.or_eq_false_iff] at h
      exact ih r h.2

theorem good_valid : ∀ (f : Nat) (l : Bs), hasB fffd l = false → goodF f l = validF f l := by
  intro f
  induction f with
  | zero => intro l _; cases l <;> rfl
  | succ f ih =>
    intro l h
    cases l with
    | nil => rfl
    | cons c r =>
      have hp : fffd.isPrefixOf (c :: r) = false := by
        simp only [hasB, Bool.or_eq_false_iff] at h
        exact h.1
      simp only [goodF, validF, hp, ih _ (hasB_drop _ _ h)]
      simp

theorem good_le : ∀ (f : Nat) (l : Bs), goodF f l = true → validF f l = true := by
  intro f
  induction f with
  | zero =>
    intro l h
    cases l with
    | nil => rfl
    | cons c r => simp [goodF] at h
  | succ f ih =>
    intro l h
    cases l with
    | nil => rfl
    | cons c r =>
      simp only [goodF, List.isEmpty_cons, Bool.false_or, Bool.and_eq_true] at h
      simp only [validF, Bool.and_eq_true]
      exact ⟨h.1.1, ih _ h.2⟩

theorem aut_le (o : Bs) (h : aut [] o = true) : validU o = true := by
  rw [aut_good o [] o.length trivial (by simp), List.nil_append] at h
  exact good_le _ _ h

theorem aut_valid (o : Bs) (h : hasB fffd o = false) : aut [] o = validU o := by
  rw [aut_good o [] o.length trivial (by simp), List.nil_append, good_valid _ _ h]
  rfl

/-!
  Plain functions on lists of bytes: bare items, parameters, inner lists, lists, dictionaries, as the package reads them; and what the reference's bare item says of them.
-/
/-- A display string: what is left. -/
def dsp (l : Bs) : Option Bs :=
  match dspS l with
  | none => none
  | some (o, r) => if aut [] o then some r else none

/-- A bare item: what is left. -/
def bare : Bs → Option Bs
  | [] => none
  | c :: r =>
    if c.toNat == 45 || digB c.toNat then (num (c :: r)).map (·.2)
    else if c.toNat == 34 then str (c :: r)
    else if c.toNat == 42 || alpB c.toNat then tok (c :: r)
    else if c.toNat == 58 then byt (c :: r)
    else if c.toNat == 63 then boo (c :: r)
    else if c.toNat == 64 then dat (c :: r)
    else if c.toNat == 37 then dsp (c :: r)
    else none

/-- What the reference's item says of the package's. -/
theorem rel_bare {l : Bs} {k : Int} {t v : Bs} {odd ok : Bool} (h : ItemRel l k t v odd ok) :
    (ok = false ∧ bare l = none) ∨ (ok = true ∧ t.length ≤ l.length ∧ (odd = true ∨ odd = false ∧ ∃ r, bare l = some r ∧ t = ahead l r ∧ r.length ≤ l.length)) := by
  have al : ∀ {l r : Bs}, (ahead l r).length ≤ l.length := by intro l r; simp only [ahead, List.length_take]; omega
  unfold ItemRel at h
  unfold bare
  split at h
  · exact .inl ⟨h.2.2, rfl⟩
  · rename_i c r
    simp only
    split at h
    · rename_i hc
      rw [if_pos hc]
      obtain ⟨ho, h⟩ := h
      split at h
      · rename_i hn
        exact .inl ⟨h.2, by rw [hn]; rfl⟩
      · rename_i d r' hn
        exact .inr ⟨h.2.1, by rw [h.2.2.1]; exact al, .inr ⟨ho, r', by rw [hn]; rfl, h.2.2.1, h.2.2.2⟩⟩
    · rename_i hc
      rw [if_neg hc]
      split at h
      · rename_i hc
        rw [if_pos hc]
        obtain ⟨_, ho, h⟩ := h
        split at h
        · rename_i hn
          exact .inl ⟨h, hn⟩
        · rename_i r' hn
          exact .inr ⟨h.1, by rw [h.2.1]; exact al, .inr ⟨ho, r', hn, h.2.1, h.2.2⟩⟩
      · rename_i hc
        rw [if_neg hc]
        split at h
        · rename_i hc
          rw [if_pos hc]
          obtain ⟨_, ho, hk, r', hn, ht, hr, _⟩ := h
          exact .inr ⟨hk, by rw [ht]; exact al, .inr ⟨ho, r', hn, ht, hr⟩⟩
        · rename_i hc
          rw [if_neg hc]
          split at h
          · rename_i hc
            rw [if_pos hc]
            obtain ⟨_, ⟨n, hn, ht⟩, ho, h⟩ := h
            have hl : t.length ≤ (c :: r).length := by rw [ht, List.length_take]; omega
            cases odd
            · have h := h rfl
              split at h
              · rename_i hn
                exact .inl ⟨h, hn⟩
              · rename_i r' hn
                exact .inr ⟨h.1, hl, .inr ⟨rfl, r', hn, h.2.1, h.2.2⟩⟩
            · exact .inr ⟨ho rfl, hl, .inl rfl⟩
          · rename_i hc
            rw [if_neg hc]
            split at h
            · rename_i hc
              rw [if_pos hc]
              obtain ⟨ho, h⟩ := h
              split at h
              · rename_i hn
                exact .inl ⟨h.2, hn⟩
              · rename_i r' hn
                exact .inr ⟨h.2.1, by rw [h.2.2.1]; exact al, .inr ⟨ho, r', hn, h.2.2.1, h.2.2.2⟩⟩
            · rename_i hc
              rw [if_neg hc]
              split at h
              · rename_i hc
                rw [if_pos hc]
                obtain ⟨_, ho, h⟩ := h
                split at h
                · rename_i hn
                  exact .inl ⟨h, hn⟩
                · rename_i r' hn
                  exact .inr ⟨h.1, by rw [h.2.1]; exact al, .inr ⟨ho, r', hn, h.2.1, h.2.2⟩⟩
              · rename_i hc
                rw [if_neg hc]
                split at h
                · rename_i hc
                  rw [if_pos hc]
                  obtain ⟨_, h⟩ := h
                  split at h
                  · rename_i hn
                    exact .inl ⟨h.1, by simp only [dsp, hn]⟩
                  · rename_i o r' hn
                    obtain ⟨h1, h2, h3, h4, _⟩ := h
                    cases hv : validU o
                    · refine .inl ⟨h1.trans hv, ?_⟩
                      have : aut [] o = false := by
                        cases ha : aut [] o
                        · rfl
                        · rw [aut_le o ha] at hv; cases hv
                      simp [dsp, hn, this]
                    · refine .inr ⟨h1.trans hv, by rw [h3]; exact al, ?_⟩
                      cases odd
                      · refine .inr ⟨rfl, r', ?_, h3, h4⟩
                        have : aut [] o = true := by rw [aut_valid o h2.symm, hv]
                        simp [dsp, hn, this]
                      · exact .inl rfl
                · rename_i hc
                  rw [if_neg hc]
                  exact .inl ⟨h.2.2, rfl⟩

/-! Each piece is a suffix. -/
theorem skip_le (p : Nat → Bool) (l : Bs) : (skip p l).length ≤ l.length := by
  induction l with
  | nil => exact Nat.le_refl _
  | cons c r ih =>
    simp only [skip]
    split
    · simp only [List.length_cons]; omega
    · exact Nat.le_refl _

/-- One parameter behind its semicolon: its key, its value if it has one, what is left. none: the text is broken; some none: there is none. -/
def par1 : Bs → Option (Option ((Bs × Option Bs) × Bs))
  | [] => some none
  | c :: r =>
    if c.toNat == 59 then
      match key (skip wsB r) with
      | none => none
      | some r1 =>
        match r1 with
        | [] => some (some ((ahead (skip wsB r) r1, none), r1))
        | d :: r2 =>
          if d.toNat == 61 then
            match bare r2 with
            | none => none
            | some r3 => some (some ((ahead (skip wsB r) r1, some (ahead r2 r3)), r3))
          else some (some ((ahead (skip wsB r) r1, none), r1))
    else some none

def parF : Nat → Bs → Option (List (Bs × Option Bs) × Bs)
  | 0, l => some ([], l)
  | f + 1, l =>
    match par1 l with
    | none => none
    | some none => some ([], l)
    | some (some (x, r)) => (parF f r).map fun y => (x :: y.1, y.2)
/-- Parameters, and what is left. -/
def par (l : Bs) : Option (List (Bs × Option Bs) × Bs) := parF l.length l

/-- The members of an inner list behind its bracket, with their parameters; what is left. -/
def innF : Nat → Bs → Option (List (Bs × Bs) × Bs)
  | 0, l => some ([], l)
  | f + 1, l =>
    match l with
    | [] => some ([], [])
    | c :: r0 =>
      match skip wsB (c :: r0) with
      | [] => none
      | d :: r1 =>
        if d.toNat == 41 then some ([], r1)
        else match bare (d :: r1) with
          | none => none
          | some r2 =>
            match par r2 with
            | none => none
            | some (_, r3) =>
              match r3 with
              | [] => none
              | e :: r4 =>
                if e.toNat == 41 || e.toNat == 32 then (innF f (e :: r4)).map fun y => ((ahead (d :: r1) r2, ahead r2 (e :: r4)) :: y.1, y.2)
                else none
def inn : Bs → Option (List (Bs × Bs) × Bs)
  | [] => none
  | c :: r => if c.toNat == 40 then innF (r.length + 1) r else none

/-- An item or an inner list: what is left. -/
def mem : Bs → Option Bs
  | [] => none
  | c :: r => if c.toNat == 40 then (inn (c :: r)).map (·.2) else bare (c :: r)

def lisF : Nat → Bs → Option (List (Bs × Bs))
  | 0, _ => none
  | f + 1, l =>
    match mem l with
    | none => none
    | some r1 =>
      match par r1 with
      | none => none
      | some (_, r2) =>
        match skip wsB r2 with
        | [] => some [(ahead l r1, ahead r1 r2)]
        | d :: r3 =>
          if d.toNat == 44 then
            match skip wsB r3 with
            | [] => none
            | e :: r4 => (lisF f (e :: r4)).map fun y => (ahead l r1, ahead r1 r2) :: y
          else none
/-- The members of a list with their parameters. -/
def lis : Bs → Option (List (Bs × Bs))
  | [] => some []
  | c :: r => lisF (r.length + 1) (c :: r)

end Go.Proofs.YtohjnegllfdemaaDoor
