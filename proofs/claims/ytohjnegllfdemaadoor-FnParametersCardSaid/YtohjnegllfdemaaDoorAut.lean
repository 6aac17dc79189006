/-
  Plain laws: bytes taken one by one, as consumeDisplayString takes them (a piece of a character is pending until it is full), against characters taken one by one.
-/
import Derived.Test.YtohjnegllfdemaaDoorItem
import Derived.Test.YtohjnegllfdemaaDoorFull
import Derived.Lib.DecodeN
import Derived.Shelf.Unicode.DecodeSlow
set_option maxRecDepth 100000
namespace Go.Proofs.YtohjnegllfdemaaDoor

def fullL : Bs → Bool
  | [] => false
  | [a] => fullV 1 (Lib.firstT a.toNat) 0 0
  | [a, b] => fullV 2 (Lib.firstT a.toNat) b.toNat 0
  | a :: b :: c :: r => fullV (r.length + 3) (Lib.firstT a.toNat) b.toNat c.toNat
def decL : Bs → Nat × Nat
  | [] => (65533, 0)
  | [a] => Lib.decodeN 1 a.toNat 0 0 0
  | [a, b] => Lib.decodeN 2 a.toNat b.toNat 0 0
  | [a, b, c] => Lib.decodeN 3 a.toNat b.toNat c.toNat 0
  | a :: b :: c :: d :: r => Lib.decodeN (r.length + 4) a.toNat b.toNat c.toNat d.toNat

/-- Characters one by one: each is well formed, none is U+FFFD. -/
def goodF : Nat → Bs → Bool
  | 0, l => l.isEmpty
  | f + 1, l => l.isEmpty || (u8n l != 0 && !(fffd.isPrefixOf l) && goodF f (l.drop (u8n l)))

def pend (p : Bs) : Prop := p = [] ∨ (p.length ≤ 3 ∧ fullL p = false)

theorem fffd_head (a : UInt8) (r : Bs) (h : a.toNat ≠ 239) : fffd.isPrefixOf (a :: r) = false := by
  have : (239 : UInt8) ≠ a := fun e => h (by rw [← e]; rfl)
  simp [fffd, List.isPrefixOf, this]

/-- One byte. -/
theorem step1 (a : UInt8) (r : Bs) (hf : fullL [a] = true) : ((decL [a]).1 = 65533 ∧ u8n (a :: r) = 0) ∨ ((decL [a]).1 ≠ 65533 ∧ (decL [a]).2 = 1 ∧ u8n (a :: r) = 1 ∧ fffd.isPrefixOf (a :: r) = false) := by
  have hlt := a.toNat_lt
  by_cases h1 : a.toNat < 128
  · refine .inr ⟨?_, ?_, ?_, fffd_head a r (by omega)⟩
    · simp [decL, Lib.decodeN, h1]; omega
    · simp [decL, Lib.decodeN, h1]
    · simp [u8n, h1]
  · have hx : a.toNat < 194 ∨ 245 ≤ a.toNat := by
      simp only [fullL, fullV] at hf
      rcases Lib.firstT_cases a.toNat with h | h | h | h | h | h | h | h | h <;> simp [h, Lib.accLo, Lib.accHi] at hf
      all_goals (unfold Lib.firstT at h; revert h; repeat' split)
      all_goals omega
    refine .inl ⟨by simp [decL, Lib.decodeN, h1], ?_⟩
    simp only [u8n, h1, if_false]
    rw [if_neg (by omega), if_neg (by omega), if_neg (by omega)]

theorem lead (a : UInt8) (hf : fullL [a] = false) : 194 ≤ a.toNat ∧ a.toNat ≤ 244 := by
  have : ∀ n : Fin 256, fullV 1 (Lib.firstT n.1) 0 0 = false → 194 ≤ n.1 ∧ n.1 ≤ 244 := by decide +kernel
  exact this ⟨a.toNat, a.toNat_lt⟩ hf
/-- The bounds of a second byte. -/
def loB (a : Nat) : Nat := if a = 224 then 160 else if a = 240 then 144 else 128
def hiB (a : Nat) : Nat := if a = 237 then 159 else if a = 244 then 143 else 191
theorem row (a : Nat) (h : 194 ≤ a ∧ a ≤ 244) : Lib.accLo (Lib.firstT a / 16) = loB a ∧ Lib.accHi (Lib.firstT a / 16) = hiB a ∧ Lib.firstT a % 8 = (if a < 224 then 2 else if a < 240 then 3 else 4) := by
  have : ∀ n : Fin 245, 194 ≤ n.1 → Lib.accLo (Lib.firstT n.1 / 16) = loB n.1 ∧ Lib.accHi (Lib.firstT n.1 / 16) = hiB n.1 ∧ Lib.firstT n.1 % 8 = (if n.1 < 224 then 2 else if n.1 < 240 then 3 else 4) := by decide +kernel
  exact this ⟨a, by omega⟩ h.1
theorem full2 (a b : UInt8) (h : 194 ≤ a.toNat ∧ a.toNat ≤ 244) : fullL [a, b] = (decide (a.toNat < 224) || decide (b.toNat < loB a.toNat) || decide (hiB a.toNat < b.toNat)) := by
  obtain ⟨h1, h2, h3⟩ := row a.toNat h
  simp only [fullL, fullV, h1, h2, h3]
  rw [Bool.eq_iff_iff]
  simp
  split
  · omega
  · split <;> omega
theorem full3 (a b c : UInt8) (h : 194 ≤ a.toNat ∧ a.toNat ≤ 244) (h2 : fullL [a, b] = false) : fullL [a, b, c] = (decide (a.toNat < 240) || decide (c.toNat < 128) || decide (191 < c.toNat)) := by
  rw [full2 a b h] at h2
  obtain ⟨h1, h3, h4⟩ := row a.toNat h
  simp only [fullL, fullV, h1, h3, h4]
  simp at h2
  rw [Bool.eq_iff_iff]
  simp
  split
  · omega
  · split <;> omega

theorem step2 (a b : UInt8) (r : Bs) (h : 194 ≤ a.toNat ∧ a.toNat ≤ 244) (hf : fullL [a, b] = true) :
    ((decL [a, b]).1 = 65533 ∧ u8n (a :: b :: r) = 0) ∨ ((decL [a, b]).1 ≠ 65533 ∧ (decL [a, b]).2 = 2 ∧ u8n (a :: b :: r) = 2 ∧ fffd.isPrefixOf (a :: b :: r) = false) := by
  rw [full2 a b h] at hf
  simp only [Bool.or_eq_true, decide_eq_true_eq] at hf
  have lb := b.toNat_lt
  by_cases h1 : a.toNat < 224
  · by_cases h2 : 128 ≤ b.toNat ∧ b.toNat ≤ 191
    · refine .inr ⟨?_, ?_, ?_, fffd_head a _ (by omega)⟩
      · simp only [decL, Lib.decodeN]
        rw [if_neg (by omega), if_pos (by omega), if_pos (by omega)]
        simp only
        omega
      · simp only [decL, Lib.decodeN]
        rw [if_neg (by omega), if_pos (by omega), if_pos (by omega)]
      · simp only [u8n, u8two, contB]
        rw [if_neg (by omega), if_pos (by omega)]
        simp [h2]
    · refine .inl ⟨?_, ?_⟩
      · simp only [decL, Lib.decodeN]
        rw [if_neg (by omega), if_neg (by omega), if_neg (by omega), if_neg (by omega)]
      · simp only [u8n, u8two, contB]
        rw [if_neg (by omega), if_pos (by omega)]
        simp
        omega
  · refine .inl ⟨?_, ?_⟩
    · simp only [decL, Lib.decodeN]
      rw [if_neg (by omega), if_neg (by omega), if_neg (by omega), if_neg (by omega)]
    · have hb : b.toNat < loB a.toNat ∨ hiB a.toNat < b.toNat := by omega
      clear hf
      simp only [loB, hiB] at hb
      by_cases h3 : a.toNat < 240
      · simp only [u8n]
        rw [if_neg (by omega), if_neg (by omega), if_pos (by omega)]
        cases r with
        | nil => simp [u8three]
        | cons c r' =>
          have : u8three a.toNat (b :: c :: r') = false := by
            rw [Bool.eq_false_iff]
            simp only [u8three, contB, ne_eq, Bool.and_eq_true, decide_eq_true_eq, Bool.not_eq_true', Bool.and_eq_false_iff, beq_eq_false_iff_ne, decide_eq_false_iff_not]
            repeat' split at hb
            all_goals omega
          rw [this]
          rfl
      · simp only [u8n]
        rw [if_neg (by omega), if_neg (by omega), if_neg (by omega), if_pos (by omega)]
        have : u8four a.toNat (b :: r) = false := by
          match r with
          | [] => rfl
          | [_] => rfl
          | c :: d :: r' =>
            rw [Bool.eq_false_iff]
            simp only [u8four, contB, ne_eq, Bool.and_eq_true, decide_eq_true_eq, Bool.not_eq_true', Bool.and_eq_false_iff, beq_eq_false_iff_ne, decide_eq_false_iff_not]
            repeat' split at hb
            all_goals omega
        rw [this]
        rfl

theorem step3 (a b c : UInt8) (r : Bs) (h : 194 ≤ a.toNat ∧ a.toNat ≤ 244) (h2 : fullL [a, b] = false) (hf : fullL [a, b, c] = true) :
    ((decL [a, b, c]).1 = 65533 ∧ (u8n (a :: b :: c :: r) = 0 ∨ fffd.isPrefixOf (a :: b :: c :: r) = true)) ∨ ((decL [a, b, c]).1 ≠ 65533 ∧ (decL [a, b, c]).2 = 3 ∧ u8n (a :: b :: c :: r) = 3 ∧ fffd.isPrefixOf (a :: b :: c :: r) = false) := by
  rw [full3 a b c h h2] at hf
  rw [full2 a b h] at h2
  simp only [Bool.or_eq_true, Bool.or_eq_false_iff, decide_eq_true_eq, decide_eq_false_iff_not] at hf h2
  simp only [loB, hiB] at h2
  have lb := b.toNat_lt
  have lc := c.toNat_lt
  by_cases h1 : a.toNat < 240
  · by_cases h3 : 128 ≤ c.toNat ∧ c.toNat ≤ 191
    · have hbb : 128 ≤ b.toNat ∧ b.toNat ≤ 191 := by
        obtain ⟨⟨g1, g2⟩, g3⟩ := h2
        repeat' split at g2
        all_goals (repeat' split at g3)
        all_goals omega
      have hu : u8n (a :: b :: c :: r) = 3 := by
        simp only [u8n]
        rw [if_neg (by omega), if_neg (by omega), if_pos (by omega)]
        have : u8three a.toNat (b :: c :: r) = true := by
          simp only [u8three, contB, Bool.and_eq_true, decide_eq_true_eq, Bool.not_eq_true', Bool.and_eq_false_iff, beq_eq_false_iff_ne, decide_eq_false_iff_not]
          obtain ⟨⟨g1, g2⟩, g3⟩ := h2
          repeat' split at g2
          all_goals (repeat' split at g3)
          all_goals omega
        rw [this]
        rfl
      have hd : decL [a, b, c] = (a.toNat % 16 * 4096 + b.toNat % 64 * 64 + c.toNat % 64, 3) := by
        simp only [decL, Lib.decodeN]
        obtain ⟨⟨g1, g2⟩, g3⟩ := h2
        have hb : 128 ≤ b.toNat ∧ b.toNat ≤ 191 := by
          repeat' split at g2
          all_goals (repeat' split at g3)
          all_goals omega
        rw [if_neg (by omega), if_neg (by omega), if_pos (by omega), if_pos]
        repeat' split at g2
        all_goals (repeat' split at g3)
        all_goals omega
      by_cases hx : a.toNat = 239 ∧ b.toNat = 191 ∧ c.toNat = 189
      · refine .inl ⟨by rw [hd]; simp only; omega, .inr ?_⟩
        have ea : a = 239 := UInt8.toNat_inj.1 hx.1
        have eb : b = 191 := UInt8.toNat_inj.1 hx.2.1
        have ec : c = 189 := UInt8.toNat_inj.1 hx.2.2
        subst ea eb ec
        simp [fffd, List.isPrefixOf]
      · refine .inr ⟨?_, by rw [hd], hu, ?_⟩
        · rw [hd]
          simp only
          intro e
          apply hx
          have h224 := h2.1.1
          clear h2 hf
          omega
        · rw [Bool.eq_false_iff]
          intro e
          simp [fffd, List.isPrefixOf] at e
          obtain ⟨e1, e2, e3⟩ := e
          exact hx ⟨by rw [← e1]; rfl, by rw [← e2]; rfl, by rw [← e3]; rfl⟩
    · refine .inl ⟨?_, .inl ?_⟩
      · simp only [decL, Lib.decodeN]
        rw [if_neg (by omega), if_neg (by omega), if_neg (by omega), if_neg (by omega)]
      · simp only [u8n]
        rw [if_neg (by omega), if_neg (by omega), if_pos (by omega)]
        have : u8three a.toNat (b :: c :: r) = false := by
          rw [Bool.eq_false_iff]
          simp only [u8three, contB, ne_eq, Bool.and_eq_true, decide_eq_true_eq, Bool.not_eq_true', Bool.and_eq_false_iff, beq_eq_false_iff_ne, decide_eq_false_iff_not]
          omega
        rw [this]
        rfl
  · refine .inl ⟨?_, .inl ?_⟩
    · simp only [decL, Lib.decodeN]
      rw [if_neg (by omega), if_neg (by omega), if_neg (by omega), if_neg (by omega)]
    · simp only [u8n]
      rw [if_neg (by omega), if_neg (by omega), if_neg (by omega), if_pos (by omega)]
      have : u8four a.toNat (b :: c :: r) = false := by
        match r with
        | [] => rfl
        | d :: r' =>
          rw [Bool.eq_false_iff]
          simp only [u8four, contB, ne_eq, Bool.and_eq_true, decide_eq_true_eq, Bool.not_eq_true', Bool.and_eq_false_iff, beq_eq_false_iff_ne, decide_eq_false_iff_not]
          omega
      rw [this]
      rfl

theorem step4 (a b c d : UInt8) (r : Bs) (h : 194 ≤ a.toNat ∧ a.toNat ≤ 244) (h2 : fullL [a, b] = false) (h3 : fullL [a, b, c] = false) :
    ((decL [a, b, c, d]).1 = 65533 ∧ u8n (a :: b :: c :: d :: r) = 0) ∨ ((decL [a, b, c, d]).1 ≠ 65533 ∧ (decL [a, b, c, d]).2 = 4 ∧ u8n (a :: b :: c :: d :: r) = 4 ∧ fffd.isPrefixOf (a :: b :: c :: d :: r) = false) := by
  rw [full3 a b c h h2] at h3
  rw [full2 a b h] at h2
  simp only [Bool.or_eq_false_iff, decide_eq_false_iff_not] at h3 h2
  simp only [loB, hiB] at h2
  have ld := d.toNat_lt
  obtain ⟨⟨g1, g2⟩, g3⟩ := h2
  have hb : 128 ≤ b.toNat ∧ b.toNat ≤ 191 ∧ ¬ (a.toNat = 240 ∧ b.toNat < 144) ∧ ¬ (a.toNat = 244 ∧ 144 ≤ b.toNat) := by
    repeat' split at g2
    all_goals (repeat' split at g3)
    all_goals omega
  clear g2 g3
  by_cases h4 : 128 ≤ d.toNat ∧ d.toNat ≤ 191
  · refine .inr ⟨?_, ?_, ?_, fffd_head a _ (by omega)⟩
    · simp only [decL, Lib.decodeN, List.length_nil]
      rw [if_neg (by omega), if_neg (by omega), if_neg (by omega), if_pos (by omega), if_pos (by omega)]
      simp only
      omega
    · simp only [decL, Lib.decodeN, List.length_nil]
      rw [if_neg (by omega), if_neg (by omega), if_neg (by omega), if_pos (by omega), if_pos (by omega)]
    · simp only [u8n]
      rw [if_neg (by omega), if_neg (by omega), if_neg (by omega), if_pos (by omega)]
      have : u8four a.toNat (b :: c :: d :: r) = true := by
        simp only [u8four, contB, Bool.and_eq_true, decide_eq_true_eq, Bool.not_eq_true', Bool.and_eq_false_iff, beq_eq_false_iff_ne, decide_eq_false_iff_not]
        omega
      rw [this]
      rfl
  · refine .inl ⟨?_, ?_⟩
    · simp only [decL, Lib.decodeN, List.length_nil]
      rw [if_neg (by omega), if_neg (by omega), if_neg (by omega), if_neg (by omega)]
    · simp only [u8n]
      rw [if_neg (by omega), if_neg (by omega), if_neg (by omega), if_pos (by omega)]
      have : u8four a.toNat (b :: c :: d :: r) = false := by
        rw [Bool.eq_false_iff]
        simp only [u8four, contB, ne_eq, Bool.and_eq_true, decide_eq_true_eq, Bool.not_eq_true', Bool.and_eq_false_iff, beq_eq_false_iff_ne, decide_eq_false_iff_not]
        omega
      rw [this]
      rfl
end Go.Proofs.YtohjnegllfdemaaDoor
