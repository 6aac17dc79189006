/-
  Plain laws of the scanners: what is left is an end of the text.
-/
import Derived.Test.YtohjnegllfdemaaDoorGram3
set_option maxRecDepth 100000
namespace Go.Proofs.YtohjnegllfdemaaDoor

theorem suf_cons {r t : Bs} (c : UInt8) (h : r <:+ t) : r <:+ c :: t := List.IsSuffix.trans h (List.suffix_cons c t)
theorem skip_suf (p : Nat → Bool) (l : Bs) : skip p l <:+ l := by
  induction l with
  | nil => exact List.suffix_refl _
  | cons c r ih =>
    simp only [skip]
    split
    · exact suf_cons c ih
    · exact List.suffix_refl _
theorem strT_suf : ∀ (n : Nat) (l r : Bs), l.length ≤ n → strT l = some r → r <:+ l := by
  intro n
  induction n with
  | zero => intro l r hn h; cases l with
    | nil => cases h
    | cons c t => simp at hn
  | succ n ih =>
    intro l r hn h
    cases l with
    | nil => cases h
    | cons c t =>
      simp only [List.length_cons] at hn
      rw [strT.eq_def] at h
      simp only at h
      split at h
      · split at h
        · cases h
        · rename_i d r'
          split at h
          · exact suf_cons c (suf_cons d (ih r' r (by simp at hn; omega) h))
          · cases h
      · split at h
        · obtain rfl := Option.some.inj h
          exact List.suffix_cons _ _
        · split at h
          · exact suf_cons c (ih t r (by omega) h)
          · cases h
theorem str_suf {l r : Bs} (h : str l = some r) : r <:+ l := by
  cases l with
  | nil => cases h
  | cons c t =>
    simp only [str] at h
    split at h
    · exact suf_cons c (strT_suf t.length t r (Nat.le_refl _) h)
    · cases h
theorem bytT_suf : ∀ (l r : Bs), bytT l = some r → r <:+ l := by
  intro l
  induction l with
  | nil => intro r h; cases h
  | cons c t ih =>
    intro r h
    simp only [bytT] at h
    split at h
    · obtain rfl := Option.some.inj h
      exact List.suffix_cons _ _
    · split at h
      · exact suf_cons c (ih r h)
      · cases h
theorem byt_suf {l r : Bs} (h : byt l = some r) : r <:+ l := by
  cases l with
  | nil => cases h
  | cons c t =>
    simp only [byt] at h
    split at h
    · exact suf_cons c (bytT_suf t r h)
    · cases h
theorem tok_suf {l r : Bs} (h : tok l = some r) : r <:+ l := by
  cases l with
  | nil => cases h
  | cons c t =>
    simp only [tok] at h
    split at h
    · obtain rfl := Option.some.inj h
      exact skip_suf _ _
    · cases h
theorem key_suf {l r : Bs} (h : key l = some r) : r <:+ l := by
  cases l with
  | nil => cases h
  | cons c t =>
    simp only [key] at h
    split at h
    · obtain rfl := Option.some.inj h
      exact skip_suf _ _
    · cases h
theorem boo_suf {l r : Bs} (h : boo l = some r) : r <:+ l := by
  rcases boo_some h with rfl | rfl
  · exact suf_cons _ (List.suffix_cons _ _)
  · exact suf_cons _ (List.suffix_cons _ _)
theorem num_suf {l : Bs} {d : Bool} {r : Bs} (h : num l = some (d, r)) : r <:+ l := by
  obtain ⟨pre, h1, _⟩ := num_pre h
  exact ⟨pre, h1.symm⟩
theorem dat_suf {l r : Bs} (h : dat l = some r) : r <:+ l := by
  cases l with
  | nil => cases h
  | cons c t =>
    simp only [dat] at h
    split at h
    · split at h
      · rename_i r' hn
        obtain rfl := Option.some.inj h
        exact suf_cons c (num_suf hn)
      · cases h
    · cases h
theorem dspT_suf : ∀ (n : Nat) (l o r : Bs), l.length ≤ n → dspT l = some (o, r) → r <:+ l := by
  intro n
  induction n with
  | zero => intro l o r hn h; cases l with
    | nil => cases h
    | cons c t => simp at hn
  | succ n ih =>
    intro l o r hn h
    cases l with
    | nil => cases h
    | cons c t =>
      simp only [List.length_cons] at hn
      rw [dspT.eq_def] at h
      simp only at h
      split at h
      · split at h
        · cases h
          exact List.suffix_cons _ _
        · split at h
          · split at h
            · rename_i a b r'
              split at h
              · obtain ⟨y, hy, he⟩ := Option.map_eq_some_iff.1 h
                cases he
                exact suf_cons c (suf_cons a (suf_cons b (ih r' y.1 y.2 (by simp at hn; omega) hy)))
              · cases h
            · cases h
          · obtain ⟨y, hy, he⟩ := Option.map_eq_some_iff.1 h
            cases he
            exact suf_cons c (ih t y.1 y.2 (by omega) hy)
      · cases h
theorem dsp_suf {l r : Bs} (h : dsp l = some r) : r <:+ l := by
  unfold dsp at h
  split at h
  · cases h
  · rename_i o r' hd
    split at h
    · obtain rfl := Option.some.inj h
      match l, hd with
      | a :: b :: t, hd =>
        simp only [dspS] at hd
        split at hd
        · exact suf_cons a (suf_cons b (dspT_suf t.length t o r' (Nat.le_refl _) hd))
        · cases hd
    · cases h
theorem bare_suf {l r : Bs} (h : bare l = some r) : r <:+ l := by
  cases l with
  | nil => cases h
  | cons c t =>
    simp only [bare] at h
    split at h
    · obtain ⟨⟨d, r'⟩, hn, rfl⟩ := Option.map_eq_some_iff.1 h
      exact num_suf hn
    · split at h
      · exact str_suf h
      · split at h
        · exact tok_suf h
        · split at h
          · exact byt_suf h
          · split at h
            · exact boo_suf h
            · split at h
              · exact dat_suf h
              · split at h
                · exact dsp_suf h
                · cases h
theorem suf_drop {l r : Bs} (h : r <:+ l) : l.drop (l.length - r.length) = r := by
  obtain ⟨p, rfl⟩ := h
  rw [List.length_append, Nat.add_sub_cancel, List.drop_left]

end Go.Proofs.YtohjnegllfdemaaDoor
