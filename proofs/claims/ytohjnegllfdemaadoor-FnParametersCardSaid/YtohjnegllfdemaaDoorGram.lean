/-
  Plain functions on lists of bytes: bare items, parameters, inner lists, lists, dictionaries, as the package reads them; and what the reference's bare item says of them.
-/
import Derived.Test.YtohjnegllfdemaaDoorAut2
set_option maxRecDepth 100000
namespace Go.Proofs.YtohjnegllfdemaaDoor

/-- A display string: what is left. -/
def dsp (l : Bs) : Option Bs :=
  match dspS l with
  | none => none
  | some (o, r) => if aut [] o then some r else none

/-- A bare item: what is left. -/
def bare : Bs → Option Bs
  | [] => none
  | c :: r =>
    if c.toNat == 45 || digB c.toNat then (num (c :: r)).map (·.2)
    else if c.toNat == 34 then str (c :: r)
    else if c.toNat == 42 || alpB c.toNat then tok (c :: r)
    else if c.toNat == 58 then byt (c :: r)
    else if c.toNat == 63 then boo (c :: r)
    else if c.toNat == 64 then dat (c :: r)
    else if c.toNat == 37 then dsp (c :: r)
    else none

/-- What the reference's item says of the package's. -/
theorem rel_bare {l : Bs} {k : Int} {t v : Bs} {odd ok : Bool} (h : ItemRel l k t v odd ok) :
    (ok = false ∧ bare l = none) ∨ (ok = true ∧ t.length ≤ l.length ∧ (odd = true ∨ odd = false ∧ ∃ r, bare l = some r ∧ t = ahead l r ∧ r.length ≤ l.length)) := by
  have al : ∀ {l r : Bs}, (ahead l r).length ≤ l.length := by intro l r; simp only [ahead, List.length_take]; omega
  unfold ItemRel at h
  unfold bare
  split at h
  · exact .inl ⟨h.2.2, rfl⟩
  · rename_i c r
    simp only
    split at h
    · rename_i hc
      rw [if_pos hc]
      obtain ⟨ho, h⟩ := h
      split at h
      · rename_i hn
        exact .inl ⟨h.2, by rw [hn]; rfl⟩
      · rename_i d r' hn
        exact .inr ⟨h.2.1, by rw [h.2.2.1]; exact al, .inr ⟨ho, r', by rw [hn]; rfl, h.2.2.1, h.2.2.2⟩⟩
    · rename_i hc
      rw [if_neg hc]
      split at h
      · rename_i hc
        rw [if_pos hc]
        obtain ⟨_, ho, h⟩ := h
        split at h
        · rename_i hn
          exact .inl ⟨h, hn⟩
        · rename_i r' hn
          exact .inr ⟨h.1, by rw [h.2.1]; exact al, .inr ⟨ho, r', hn, h.2.1, h.2.2⟩⟩
      · rename_i hc
        rw [if_neg hc]
        split at h
        · rename_i hc
          rw [if_pos hc]
          obtain ⟨_, ho, hk, r', hn, ht, hr, _⟩ := h
          exact .inr ⟨hk, by rw [ht]; exact al, .inr ⟨ho, r', hn, ht, hr⟩⟩
        · rename_i hc
          rw [if_neg hc]
          split at h
          · rename_i hc
            rw [if_pos hc]
            obtain ⟨_, ⟨n, hn, ht⟩, ho, h⟩ := h
            have hl : t.length ≤ (c :: r).length := by rw [ht, List.length_take]; omega
            cases odd
            · have h := h rfl
              split at h
              · rename_i hn
                exact .inl ⟨h, hn⟩
              · rename_i r' hn
                exact .inr ⟨h.1, hl, .inr ⟨rfl, r', hn, h.2.1, h.2.2⟩⟩
            · exact .inr ⟨ho rfl, hl, .inl rfl⟩
          · rename_i hc
            rw [if_neg hc]
            split at h
            · rename_i hc
              rw [if_pos hc]
              obtain ⟨ho, h⟩ := h
              split at h
              · rename_i hn
                exact .inl ⟨h.2, hn⟩
              · rename_i r' hn
                exact .inr ⟨h.2.1, by rw [h.2.2.1]; exact al, .inr ⟨ho, r', hn, h.2.2.1, h.2.2.2⟩⟩
            · rename_i hc
              rw [if_neg hc]
              split at h
              · rename_i hc
                rw [if_pos hc]
                obtain ⟨_, ho, h⟩ := h
                split at h
                · rename_i hn
                  exact .inl ⟨h, hn⟩
                · rename_i r' hn
                  exact .inr ⟨h.1, by rw [h.2.1]; exact al, .inr ⟨ho, r', hn, h.2.1, h.2.2⟩⟩
              · rename_i hc
                rw [if_neg hc]
                split at h
                · rename_i hc
                  rw [if_pos hc]
                  obtain ⟨_, h⟩ := h
                  split at h
                  · rename_i hn
                    exact .inl ⟨h.1, by simp only [dsp, hn]⟩
                  · rename_i o r' hn
                    obtain ⟨h1, h2, h3, h4, _⟩ := h
                    cases hv : validU o
                    · refine .inl ⟨h1.trans hv, ?_⟩
                      have : aut [] o = false := by
                        cases ha : aut [] o
                        · rfl
                        · rw [aut_le o ha] at hv; cases hv
                      simp [dsp, hn, this]
                    · refine .inr ⟨h1.trans hv, by rw [h3]; exact al, ?_⟩
                      cases odd
                      · refine .inr ⟨rfl, r', ?_, h3, h4⟩
                        have : aut [] o = true := by rw [aut_valid o h2.symm, hv]
                        simp [dsp, hn, this]
                      · exact .inl rfl
                · rename_i hc
                  rw [if_neg hc]
                  exact .inl ⟨h.2.2, rfl⟩

/-! Each piece is a suffix. -/
theorem skip_le (p : Nat → Bool) (l : Bs) : (skip p l).length ≤ l.length := by
  induction l with
  | nil => exact Nat.le_refl _
  | cons c r ih =>
    simp only [skip]
    split
    · simp only [List.length_cons]; omega
    · exact Nat.le_refl _

/-- One parameter behind its semicolon: its key, its value if it has one, what is left. none: the text is broken; some none: there is none. -/
def par1 : Bs → Option (Option ((Bs × Option Bs) × Bs))
  | [] => some none
  | c :: r =>
    if c.toNat == 59 then
      match key (skip wsB r) with
      | none => none
      | some r1 =>
        match r1 with
        | [] => some (some ((ahead (skip wsB r) r1, none), r1))
        | d :: r2 =>
          if d.toNat == 61 then
            match bare r2 with
            | none => none
            | some r3 => some (some ((ahead (skip wsB r) r1, some (ahead r2 r3)), r3))
          else some (some ((ahead (skip wsB r) r1, none), r1))
    else some none

def parF : Nat → Bs → Option (List (Bs × Option Bs) × Bs)
  | 0, l => some ([], l)
  | f + 1, l =>
    match par1 l with
    | none => none
    | some none => some ([], l)
    | some (some (x, r)) => (parF f r).map fun y => (x :: y.1, y.2)
/-- Parameters, and what is left. -/
def par (l : Bs) : Option (List (Bs × Option Bs) × Bs) := parF l.length l

/-- The members of an inner list behind its bracket, with their parameters; what is left. -/
def innF : Nat → Bs → Option (List (Bs × Bs) × Bs)
  | 0, l => some ([], l)
  | f + 1, l =>
    match l with
    | [] => some ([], [])
    | c :: r0 =>
      match skip wsB (c :: r0) with
      | [] => none
      | d :: r1 =>
        if d.toNat == 41 then some ([], r1)
        else match bare (d :: r1) with
          | none => none
          | some r2 =>
            match par r2 with
            | none => none
            | some (_, r3) =>
              match r3 with
              | [] => none
              | e :: r4 =>
                if e.toNat == 41 || e.toNat == 32 then (innF f (e :: r4)).map fun y => ((ahead (d :: r1) r2, ahead r2 (e :: r4)) :: y.1, y.2)
                else none
def inn : Bs → Option (List (Bs × Bs) × Bs)
  | [] => none
  | c :: r => if c.toNat == 40 then innF (r.length + 1) r else none

/-- An item or an inner list: what is left. -/
def mem : Bs → Option Bs
  | [] => none
  | c :: r => if c.toNat == 40 then (inn (c :: r)).map (·.2) else bare (c :: r)

def lisF : Nat → Bs → Option (List (Bs × Bs))
  | 0, _ => none
  | f + 1, l =>
    match mem l with
    | none => none
    | some r1 =>
      match par r1 with
      | none => none
      | some (_, r2) =>
        match skip wsB r2 with
        | [] => some [(ahead l r1, ahead r1 r2)]
        | d :: r3 =>
          if d.toNat == 44 then
            match skip wsB r3 with
            | [] => none
            | e :: r4 => (lisF f (e :: r4)).map fun y => (ahead l r1, ahead r1 r2) :: y
          else none
/-- The members of a list with their parameters. -/
def lis : Bs → Option (List (Bs × Bs))
  | [] => some []
  | c :: r => lisF (r.length + 1) (c :: r)

end Go.Proofs.YtohjnegllfdemaaDoor
