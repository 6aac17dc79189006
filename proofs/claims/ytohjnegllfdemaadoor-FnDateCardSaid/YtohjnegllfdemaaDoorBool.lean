/-
  The walks of booleans, and the law FnBoolean.
-/
import Derived.Test.YtohjnegllfdemaaDoorGr
import Derived.Deep.QuietTactic
import Derived.BigQuiet
namespace Go.Proofs.YtohjnegllfdemaaDoor
open Go.RowKit

theorem boo_some {l r : Bs} (h : boo l = some r) : l = 63 :: 48 :: r ∨ l = 63 :: 49 :: r := by
  unfold boo at h
  split at h
  · split at h
    · rename_i hc
      obtain ⟨rfl, rfl | rfl⟩ := hc <;> cases h
      · exact .inl rfl
      · exact .inr rfl
    · cases h
  · cases h
theorem boo_none {l : Bs} (h : boo l = none) : l.length < 2 ∨ (l.take 2 ≠ [63, 48] ∧ l.take 2 ≠ [63, 49]) := by
  match l with
  | [] => exact .inl (by simp)
  | [_] => exact .inl (by simp)
  | c :: d :: r =>
    refine .inr ?_
    simp only [boo] at h
    split at h
    · cases h
    · rename_i hc
      simp
      constructor
      · rintro rfl rfl; exact hc ⟨rfl, .inl rfl⟩
      · rintro rfl rfl; exact hc ⟨rfl, .inr rfl⟩

set_option maxHeartbeats 400000 in
theorem consumeBoolean_some (s : ByteArray) (r : Bs) (w : World) (hs : s.size ≤ maxLen) (h : boo (bl s) = some r) :
    Calls Tryd.prog 83 #[.string s] w fun e w' => Took s r e ∧ Gr w w' := by
  unfold maxLen at hs
  have hl : 2 ≤ s.size := by rw [← bl_length]; rcases boo_some h with h | h <;> rw [h] <;> simp
  have hd : Hid ((bl s).drop 2 = r) := hid (by rcases boo_some h with h | h <;> rw [h] <;> rfl)
  rcases boo_some h with h | h
  · have hx : (s.extract 0 2).toList = [63, 48] := by rw [bl_toList, bl_upto, h]; rfl
    clear h
    go_enter Tryd.func83, Tryd.ntmps83
    go_wp2
    go_quiet (fail)
    go_wp2
    go_ret3
    exact ⟨took_at s 2 r hl hd.out, Gr.drewN (Gr.refl _) _⟩
  · have hx : (s.extract 0 2).toList = [63, 49] := by rw [bl_toList, bl_upto, h]; rfl
    clear h
    go_enter Tryd.func83, Tryd.ntmps83
    go_wp2
    go_quiet (fail)
    go_wp2
    go_ret3
    exact ⟨took_at s 2 r hl hd.out, Gr.drewN (Gr.refl _) _⟩

set_option maxHeartbeats 400000 in
theorem consumeBoolean_none (s : ByteArray) (w : World) (hs : s.size ≤ maxLen) (h : boo (bl s) = none) :
    Calls Tryd.prog 83 #[.string s] w fun e w' => Nope e ∧ Gr w w' := by
  unfold maxLen at hs
  rcases boo_none h with h | ⟨h1, h2⟩
  · rw [bl_length] at h
    go_enter Tryd.func83, Tryd.ntmps83
    go_wp2
    go_ret3
    exact ⟨⟨_, _, rfl⟩, Gr.refl _⟩
  · have hx1 : ((s.extract 0 2).toList == [63, 48]) = false := by rw [bl_toList, bl_upto, beq_eq_false_iff_ne]; exact h1
    have hx2 : ((s.extract 0 2).toList == [63, 49]) = false := by rw [bl_toList, bl_upto, beq_eq_false_iff_ne]; exact h2
    clear h h1 h2
    by_cases hl : 2 ≤ s.size <;>
    · go_enter Tryd.func83, Tryd.ntmps83
      go_wp2
      go_ret3
      exact ⟨⟨_, _, rfl⟩, Gr.refl _⟩

/-- Of ParseBoolean: the value and whether there is one. -/
def booP (l : Bs) : Bool × Bool := if boo l = some [] then (l == [63, 49], true) else (false, false)

theorem parseBoolean_any (s : ByteArray) (w : World) (hs : s.size ≤ maxLen) :
    Calls Tryd.prog 62 #[.string s] w fun e w' => e = .returned (.tuple #[.bool (booP (bl s)).1, .bool (booP (bl s)).2]) ∧ Gr w w' := by
  cases hb : boo (bl s) with
  | none =>
    have hp : Hid (booP (bl s) = (false, false)) := hid (by simp [booP, hb])
    go_enter Tryd.func62, Tryd.ntmps62
    go_wp2_with fail
    refine (consumeBoolean_none s _ hs hb).mono ?_
    rintro e w' ⟨⟨c, t, rfl⟩, hg⟩
    go_wp2_with fail
    go_ret2
    exact ⟨by rw [hp.out]; rfl, hg⟩
  | some r =>
    by_cases hr : r = []
    · subst hr
      have hp : Hid (booP (bl s) = (bl s == [63, 49], true)) := hid (by simp [booP, hb])
      have hv : Hid ((s.toList == [63, 49]) = (bl s == [63, 49])) := hid (by rw [bl_toList])
      go_enter Tryd.func62, Tryd.ntmps62
      go_wp2_with fail
      refine (consumeBoolean_some s _ _ hs hb).mono ?_
      rintro e w' ⟨⟨c, t, rfl, _, ht⟩, hg⟩
      obtain rfl := bl_empty ht
      clear ht
      go_wp2_with fail
      go_ret2
      exact ⟨by rw [hp.out, ← hv.out]; rfl, hg⟩
    · have hp : Hid (booP (bl s) = (false, false)) := hid (by simp [booP, hb, hr])
      go_enter Tryd.func62, Tryd.ntmps62
      go_wp2_with fail
      refine (consumeBoolean_some s _ _ hs hb).mono ?_
      rintro e w' ⟨⟨c, t, rfl, _, ht⟩, hg⟩
      have hn : t.toList.isEmpty = false := by rw [bl_toList, ht, List.isEmpty_eq_false_iff]; exact hr
      have hn2 : ¬ t.toList = [] := by rw [bl_toList, ht]; exact hr
      clear ht
      go_wp2_with fail
      go_ret2
      exact ⟨by rw [hp.out]; rfl, hg⟩

theorem implBoolean_any (s : ByteArray) (w : World) (hs : s.size ≤ maxLen) :
    Calls Tryd.prog 32 #[.string s] w fun e w' => e = .returned (.tuple #[.bool (booP (bl s)).1, .bool (booP (bl s)).2]) ∧ Gr w w' := by
  go_enter Tryd.func32, Tryd.ntmps32
  go_wp2_with fail
  refine (parseBoolean_any s _ hs).mono ?_
  rintro e w' ⟨rfl, hg⟩
  go_wp2_with fail
  go_ret2
  exact ⟨rfl, hg⟩

/-- The package answers at all. -/
theorem works_any (w : World) :
    Calls Tryd.prog 14 #[] w fun e w' => e = .returned (.bool true) ∧ Gr w w' := by
  have hb : booP (bl ⟨#[63, 49]⟩) = (true, true) := by decide
  have h1 : (booP (bl ⟨#[63, 49]⟩)).1 = true := by rw [hb]
  have h2 : (booP (bl ⟨#[63, 49]⟩)).2 = true := by rw [hb]
  clear hb
  go_enter Tryd.func14, Tryd.ntmps14
  go_wp2_with fail
  refine (implBoolean_any _ _ (by decide)).mono ?_
  rintro e w' ⟨rfl, hg⟩
  go_wp2_with fail
  go_ret
  exact ⟨rfl, hg⟩

theorem booP_cases (l : Bs) : (booP l = (false, true) ∧ l = [63, 48]) ∨ (booP l = (true, true) ∧ l = [63, 49]) ∨ (booP l = (false, false) ∧ l ≠ [63, 48] ∧ l ≠ [63, 49]) := by
  by_cases h0 : l = [63, 48]
  · subst h0; exact .inl ⟨by decide, rfl⟩
  by_cases h1 : l = [63, 49]
  · subst h1; exact .inr (.inl ⟨by decide, rfl⟩)
  refine .inr (.inr ⟨?_, h0, h1⟩)
  unfold booP
  split
  · rename_i h
    rcases boo_some h with h | h
    · exact absurd h h0
    · exact absurd h h1
  · rfl


end Go.Proofs.YtohjnegllfdemaaDoor
