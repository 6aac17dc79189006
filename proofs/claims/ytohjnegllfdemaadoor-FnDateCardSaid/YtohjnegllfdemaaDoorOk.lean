/-
  What a bare item is, by its kind.
-/
import Derived.Test.YtohjnegllfdemaaDoorItem
namespace Go.Proofs.YtohjnegllfdemaaDoor

theorem ahead_full {l r t : Bs} (ht : t = ahead l r) (hr : r.length ≤ l.length) (hl : l.length ≤ t.length) : r = [] ∧ t = l := by
  have h1 : t.length = l.length - r.length := by rw [ht, ahead, List.length_take]; omega
  have h2 : r = [] := List.eq_nil_of_length_eq_zero (by omega)
  refine ⟨h2, ?_⟩
  rw [ht, h2, ahead]
  simp

/-- Where there is an item: what it is. -/
theorem rel_ok {l : Bs} {k : Int} {t v : Bs} {odd : Bool} (h : ItemRel l k t v odd true) :
    (k = 1 ∧ odd = false ∧ ∃ r, num l = some (false, r) ∧ t = ahead l r ∧ r.length ≤ l.length) ∨
    (k = 2 ∧ odd = false ∧ ∃ r, num l = some (true, r) ∧ t = ahead l r ∧ r.length ≤ l.length) ∨
    (k = 3 ∧ odd = false ∧ ∃ r, str l = some r ∧ t = ahead l r ∧ r.length ≤ l.length) ∨
    (k = 4 ∧ odd = false ∧ ∃ r, tok l = some r ∧ t = ahead l r ∧ r.length ≤ l.length ∧ v = t) ∨
    (k = 5 ∧ (odd = false → ∃ r, byt l = some r ∧ t = ahead l r ∧ r.length ≤ l.length)) ∨
    (k = 6 ∧ odd = false ∧ ∃ r, boo l = some r ∧ t = ahead l r ∧ r.length ≤ l.length) ∨
    (k = 7 ∧ odd = false ∧ ∃ r, dat l = some r ∧ t = ahead l r ∧ r.length ≤ l.length) ∨
    (k = 8 ∧ ∃ o r, dspS l = some (o, r) ∧ validU o = true ∧ odd = hasB fffd o ∧ t = ahead l r ∧ r.length ≤ l.length ∧ v = o) := by
  unfold ItemRel at h
  split at h
  · exact absurd h.2.2 (by simp)
  · split at h
    · obtain ⟨ho, h⟩ := h
      split at h
      · exact absurd h.2 (by simp)
      · rename_i d r hn
        obtain ⟨hk, _, ht, hr⟩ := h
        cases d
        · exact .inl ⟨by simpa using hk, ho, r, hn, ht, hr⟩
        · exact .inr (.inl ⟨by simpa using hk, ho, r, hn, ht, hr⟩)
    · refine .inr (.inr ?_)
      split at h
      · obtain ⟨hk, ho, h⟩ := h
        split at h
        · exact absurd h (by simp)
        · rename_i r hn
          exact .inl ⟨hk, ho, r, hn, h.2.1, h.2.2⟩
      · refine .inr ?_
        split at h
        · obtain ⟨hk, ho, _, r, hn, ht, hr, hv⟩ := h
          exact .inl ⟨hk, ho, r, hn, ht, hr, hv⟩
        · refine .inr ?_
          split at h
          · obtain ⟨hk, _, _, h⟩ := h
            refine .inl ⟨hk, fun ho => ?_⟩
            have h := h ho
            split at h
            · exact absurd h (by simp)
            · rename_i r hn
              exact ⟨r, hn, h.2.1, h.2.2⟩
          · refine .inr ?_
            split at h
            · obtain ⟨ho, h⟩ := h
              split at h
              · exact absurd h.2 (by simp)
              · rename_i r hn
                exact .inl ⟨h.1, ho, r, hn, h.2.2.1, h.2.2.2⟩
            · refine .inr ?_
              split at h
              · obtain ⟨hk, ho, h⟩ := h
                split at h
                · exact absurd h (by simp)
                · rename_i r hn
                  exact .inl ⟨hk, ho, r, hn, h.2.1, h.2.2⟩
              · refine .inr ?_
                split at h
                · obtain ⟨hk, h⟩ := h
                  split at h
                  · exact absurd h.1 (by simp)
                  · rename_i o r hn
                    exact ⟨hk, o, r, hn, h.1.symm, h.2.1, h.2.2.1, h.2.2.2.1, h.2.2.2.2⟩
                · exact absurd h.2.2 (by simp)

end Go.Proofs.YtohjnegllfdemaaDoor
