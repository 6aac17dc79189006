/-
  Plain laws: parameters, inner lists and members do not hang on what follows; two lists with a comma between them; what a list hands out is read by itself.
-/
import Derived.Test.YtohjnegllfdemaaDoorCut
set_option maxRecDepth 100000
namespace Go.Proofs.YtohjnegllfdemaaDoor
open Go.RowKit

/-- No equals sign stands at the head. -/
def noEq (r : Bs) : Prop := r = [] ∨ ∃ d t, r = d :: t ∧ d.toNat ≠ 61
theorem par1_plain {c : UInt8} {l r1 : Bs} (hc : c.toNat = 59) (hk : key (skip wsB l) = some r1) (hn : noEq r1) : par1 (c :: l) = some (some ((ahead (skip wsB l) r1, none), r1)) := by
  have hc' : (c.toNat == 59) = true := by simpa using hc
  simp only [par1, hc', if_true, hk]
  rcases hn with rfl | ⟨d, t, rfl, hd⟩
  · rfl
  · have hd' : (d.toNat == 61) = false := by simpa using hd
    simp only [hd', Bool.false_eq_true, if_false]
theorem par1_val {c d : UInt8} {l r2 r3 : Bs} (hc : c.toNat = 59) (hk : key (skip wsB l) = some (d :: r2)) (hd : d.toNat = 61) (hb : bare r2 = some r3) : par1 (c :: l) = some (some ((ahead (skip wsB l) (d :: r2), some (ahead r2 r3)), r3)) := by
  have hc' : (c.toNat == 59) = true := by simpa using hc
  have hd' : (d.toNat == 61) = true := by simpa using hd
  simp only [par1, hc', if_true, hk, hd', hb]
theorem par1_inv {c : UInt8} {l r3 : Bs} {x : Bs × Option Bs} (h : par1 (c :: l) = some (some (x, r3))) :
    c.toNat = 59 ∧ ((key (skip wsB l) = some r3 ∧ noEq r3 ∧ x = (ahead (skip wsB l) r3, none)) ∨
      ∃ d r2, key (skip wsB l) = some (d :: r2) ∧ d.toNat = 61 ∧ bare r2 = some r3 ∧ x = (ahead (skip wsB l) (d :: r2), some (ahead r2 r3))) := by
  simp only [par1] at h
  split at h
  · rename_i hc
    refine ⟨by simpa using hc, ?_⟩
    split at h
    · cases h
    · rename_i r1 hk
      split at h
      · simp only [Option.some.injEq, Prod.mk.injEq] at h
        obtain ⟨h1, rfl⟩ := h
        exact .inl ⟨hk, .inl rfl, h1.symm⟩
      · rename_i d r2
        split at h
        · rename_i hd
          split at h
          · cases h
          · rename_i r4 hb
            simp only [Option.some.injEq, Prod.mk.injEq] at h
            obtain ⟨h1, rfl⟩ := h
            exact .inr ⟨d, r2, hk, by simpa using hd, hb, h1.symm⟩
        · rename_i hd
          simp only [Option.some.injEq, Prod.mk.injEq] at h
          obtain ⟨h1, rfl⟩ := h
          exact .inl ⟨hk, .inr ⟨d, r2, rfl, by simpa using hd⟩, h1.symm⟩
  · cases h
theorem par1_suf {l r3 : Bs} {x : Bs × Option Bs} (h : par1 l = some (some (x, r3))) : r3 <:+ l := by
  cases l with
  | nil => cases h
  | cons c l =>
    obtain ⟨_, ⟨hk, _⟩ | ⟨d, r2, hk, _, hb, _⟩⟩ := par1_inv h
    · exact suf_cons c ((key_suf hk).trans (skip_suf _ _))
    · exact suf_cons c (((bare_suf hb).trans (List.suffix_cons _ _)).trans ((key_suf hk).trans (skip_suf _ _)))
theorem par_suf : ∀ (n : Nat) (l : Bs) (xs : List (Bs × Option Bs)) (r : Bs), l.length ≤ n → par l = some (xs, r) → r <:+ l := by
  intro n
  induction n with
  | zero =>
    intro l xs r hn h
    obtain rfl : l = [] := List.eq_nil_of_length_eq_zero (by omega)
    cases h
    exact List.suffix_refl _
  | succ n ih =>
    intro l xs r hn h
    rw [par_step] at h
    split at h
    · cases h
    · cases h
      exact List.suffix_refl _
    · rename_i x r1 h1
      have := par1_le h1
      obtain ⟨y, hy, he⟩ := Option.map_eq_some_iff.1 h
      cases he
      exact (ih r1 y.1 y.2 (by omega) hy).trans (par1_suf h1)

theorem noEq_ends {r r' : Bs} (he : Ends r r') (h : noEq r) : noEq r' := by
  rcases he with rfl | ⟨c, t, rfl, hc⟩ | ⟨c, t, t', rfl, rfl⟩
  · exact .inl rfl
  · exact .inr ⟨c, t, rfl, by omega⟩
  · rcases h with h | ⟨d, t2, h, hd⟩
    · cases h
    · cases h
      exact .inr ⟨_, _, rfl, hd⟩
/-- A key behind blanks. -/
theorem key_part {l r a4 : Bs} (r' : Bs) (a : Bs) (hl : l = a ++ r) (he : Ends r r') (hk : key (skip wsB l) = some (a4 ++ r)) :
    ∃ b, skip wsB l = b ++ (a4 ++ r) ∧ skip wsB (a ++ r') = b ++ (a4 ++ r') ∧ key (skip wsB (a ++ r')) = some (a4 ++ r') := by
  obtain ⟨b, hb⟩ := suf_app (key_suf hk)
  have hlt := key_lt hk
  have hbn : b ++ a4 ≠ [] := by
    intro e
    have : b = [] := (List.append_eq_nil_iff.1 e).1
    rw [hb, this] at hlt
    simp at hlt
  have hs : skip wsB (a ++ r') = (b ++ a4) ++ r' := skip_part r r' a _ hbn (by rw [← hl, hb, List.append_assoc])
  rw [List.append_assoc] at hs
  refine ⟨b, hb, hs, ?_⟩
  rw [hs]
  rw [hb] at hk
  exact key_keep (he.more a4) hk
theorem par1_keep {a r r' a4 : Bs} {x : Bs × Option Bs} (he : Ends r r') (ha : a ≠ []) (h : par1 (a ++ r) = some (some (x, a4 ++ r))) : par1 (a ++ r') = some (some (x, a4 ++ r')) := by
  cases a with
  | nil => exact absurd rfl ha
  | cons c a =>
    rw [List.cons_append] at h ⊢
    obtain ⟨hc, ⟨hk, hn, rfl⟩ | ⟨d, r2, hk, hd, hb, rfl⟩⟩ := par1_inv h
    · obtain ⟨b, h1, h2, h3⟩ := key_part r' a rfl he hk
      rw [par1_plain hc h3 (noEq_ends (he.more a4) hn), h1, h2, ahead_app, ahead_app]
    · obtain ⟨a5, h5⟩ := suf_app (bare_suf hb)
      have hd5 : d :: r2 = (d :: a5 ++ a4) ++ r := by rw [h5]; simp
      rw [hd5] at hk
      obtain ⟨b, h1, h2, h3⟩ := key_part r' a rfl he hk
      have hd6 : (d :: a5 ++ a4) ++ r' = d :: (a5 ++ (a4 ++ r')) := by simp
      rw [h5] at hb
      rw [hd6] at h3 h2
      rw [par1_val hc h3 hd (bare_keep (he.more a4) hb), h2, h1, hd5, h5, ahead_app, ahead_app, ahead_app, ahead_app]

theorem par1_stop {r r' : Bs} (he : Ends r r') (h : par1 r = some none) : par1 r' = some none := by
  rcases he with rfl | ⟨c, t, rfl, hc⟩ | ⟨c, t, t', rfl, rfl⟩
  · rfl
  · have hc' : (c.toNat == 59) = false := by rw [hc]; rfl
    simp only [par1, hc', Bool.false_eq_true, if_false]
  · cases hc : (c.toNat == 59)
    · simp only [par1, hc, Bool.false_eq_true, if_false]
    · simp only [par1, hc, if_true] at h
      repeat' split at h
      all_goals cases h
theorem par_keep (r r' : Bs) (he : Ends r r') : ∀ (n : Nat) (a : Bs) (xs : List (Bs × Option Bs)), a.length ≤ n → par (a ++ r) = some (xs, r) → par (a ++ r') = some (xs, r') := by
  intro n
  induction n with
  | zero =>
    intro a xs hn h
    obtain rfl : a = [] := List.eq_nil_of_length_eq_zero (by omega)
    rw [List.nil_append, par_step] at h ⊢
    split at h
    · cases h
    · rename_i h1
      rw [par1_stop he h1]
      cases h
      rfl
    · rename_i x r1 h1
      have := par1_le h1
      obtain ⟨y, hy, hz⟩ := Option.map_eq_some_iff.1 h
      have := par_len hy
      cases hz
      omega
  | succ n ih =>
    intro a xs hn h
    cases a with
    | nil => exact ih [] xs (by simp) h
    | cons c a =>
      rw [par_step] at h ⊢
      split at h
      · cases h
      · simp only [Option.some.injEq, Prod.mk.injEq] at h
        have := app_len h.2
        cases this
      · rename_i x r1 h1
        obtain ⟨y, hy, hz⟩ := Option.map_eq_some_iff.1 h
        simp only [Prod.mk.injEq] at hz
        have hy' : par r1 = some (y.1, r) := by rw [hy, ← hz.2]
        obtain ⟨a4, rfl⟩ := suf_app (par_suf _ _ _ _ (Nat.le_refl _) hy')
        have hl := par1_le h1
        simp only [List.length_append, List.length_cons] at hl hn
        rw [par1_keep he (by simp) h1]
        simp only
        rw [ih a4 y.1 (by omega) hy', ← hz.1]
        rfl

/-! Inner lists. -/
theorem pre_some {α β : Type} {xs zs : List α} {o : Option (List α × β)} {r : β} (h : pre xs o = some (zs, r)) : ∃ ys, o = some (ys, r) ∧ zs = xs ++ ys := by
  cases o with
  | none => cases h
  | some y =>
    simp only [pre, Option.map_some, Option.some.injEq, Prod.mk.injEq] at h
    exact ⟨y.1, by rw [← h.2], h.1.symm⟩
theorem innT_lt : ∀ (n : Nat) (l : Bs) (xs : List (Bs × Bs)) (r : Bs), l.length ≤ n → l ≠ [] → innT l = some (xs, r) → r <:+ l ∧ r.length < l.length := by
  intro n
  induction n with
  | zero =>
    intro l xs r hn hl h
    exact absurd (List.eq_nil_of_length_eq_zero (by omega)) hl
  | succ n ih =>
    intro l xs r hn hl h
    rcases inn_round l [] (some (xs, r)) (by rw [pre_nil, h]) with ⟨h1, _⟩ | ⟨_, d, r1, hs, _, hr⟩ | ⟨_, _, _, hr⟩ | ⟨_, _, _, _, _, hr⟩ | ⟨_, _, _, _, _, _, _, _, hr⟩ | ⟨_, _, r2, ys, e, r4, hb, hp, _, hr, hlt⟩
    · exact absurd h1 hl
    · cases hr
      have hs' := skip_suf wsB l
      have hs2 := skip_le wsB l
      rw [hs] at hs' hs2
      exact ⟨(List.suffix_cons _ _).trans hs', by simp only [List.length_cons] at hs2; omega⟩
    · cases hr
    · cases hr
    · cases hr
    · obtain ⟨zs, hz, _⟩ := pre_some hr
      obtain ⟨h1, h2⟩ := ih _ _ _ (by omega) (by simp) hz
      exact ⟨h1.trans ((par_suf _ _ _ _ (Nat.le_refl _) hp).trans ((bare_suf hb).trans (skip_suf _ _))), by omega⟩
theorem innT_keep (r r' : Bs) : ∀ (n : Nat) (a : Bs) (xs : List (Bs × Bs)), a.length ≤ n → a ≠ [] → innT (a ++ r) = some (xs, r) → innT (a ++ r') = some (xs, r') := by
  intro n
  induction n with
  | zero =>
    intro a xs hn ha h
    exact absurd (List.eq_nil_of_length_eq_zero (by omega)) ha
  | succ n ih =>
    intro a xs hn ha h
    have h0 : 0 < (a ++ r').length := by
      have : a.length ≠ 0 := fun e => ha (List.eq_nil_of_length_eq_zero e)
      rw [List.length_append]
      omega
    rcases inn_round (a ++ r) [] (some (xs, r)) (by rw [pre_nil, h]) with ⟨h1, _⟩ | ⟨_, d, r1, hs, hd, hr⟩ | ⟨_, _, _, hr⟩ | ⟨_, _, _, _, _, hr⟩ | ⟨_, _, _, _, _, _, _, _, hr⟩ | ⟨_, hn2, r2, ys, e, r4, hb, hp, hee, hr, hlt⟩
    · exact absurd (List.append_eq_nil_iff.1 h1).1 ha
    · cases hr
      have := skip_part r r' a [d] (by simp) hs
      exact innT_close h0 this hd
    · cases hr
    · cases hr
    · cases hr
    · obtain ⟨zs, hz, rfl⟩ := pre_some hr
      obtain ⟨h1, h2⟩ := innT_lt _ _ _ _ (Nat.le_refl _) (by simp) hz
      obtain ⟨a4, ha4⟩ := suf_app h1
      have ha4n : a4 ≠ [] := by
        rintro rfl
        rw [ha4] at h2
        simp at h2
      cases a4 with
      | nil => exact absurd rfl ha4n
      | cons e' a5 =>
        rw [List.cons_append] at ha4
        obtain ⟨rfl, rfl⟩ := List.cons.inj ha4
        obtain ⟨a3, rfl⟩ := suf_app (par_suf _ _ _ _ (Nat.le_refl _) hp)
        obtain ⟨b, hbb⟩ := suf_app (bare_suf hb)
        have hbn : b ++ a3 ++ e :: a5 ≠ [] := by simp
        have hs : skip wsB (a ++ r) = (b ++ a3 ++ e :: a5) ++ r := by rw [hbb]; simp
        have hs' := skip_part r r' a _ hbn hs
        have hs2 : (b ++ a3 ++ e :: a5) ++ r' = b ++ (a3 ++ e :: (a5 ++ r')) := by simp
        rw [hs2] at hs'
        have hE : Ends (e :: (a5 ++ r)) (e :: (a5 ++ r')) := .inr (.inr ⟨_, _, _, rfl, rfl⟩)
        rw [hbb] at hb
        have hb' := bare_keep (hE.more a3) hb
        have hp' := par_keep _ _ hE _ a3 _ (Nat.le_refl _) hp
        have hn' : noClose (skip wsB (a ++ r')) := by
          rw [hs']
          rw [hbb] at hn2
          cases b with
          | nil => exact absurd (bare_lt hb) (by simp)
          | cons q b =>
            rcases hn2 with hn2 | ⟨d, t, hn2, hd⟩
            · cases hn2
            · cases hn2
              exact .inr ⟨_, _, rfl, hd⟩
        rw [← hs'] at hb'
        simp only [List.length_append, List.length_cons] at hlt hn
        rw [innT_next h0 hn' hb' hp' hee]
        have := ih (e :: a5) zs (by simp only [List.length_cons]; omega) (by simp) hz
        rw [List.cons_append] at this
        rw [this, hs', hbb, ahead_app, ahead_app, ahead_app, ahead_app]
        rfl
theorem inn_keep {a r r' : Bs} {xs : List (Bs × Bs)} (hc : a ≠ [40] ∨ r' = []) (h : inn (a ++ r) = some (xs, r)) : inn (a ++ r') = some (xs, r') := by
  cases a with
  | nil => exact absurd (inn_lt h) (by simp)
  | cons c a =>
    obtain ⟨c1, t1, he, h40, ht⟩ := inn_some h
    rw [List.cons_append] at he
    obtain ⟨rfl, rfl⟩ := List.cons.inj he
    have h40' : (c.toNat == 40) = true := by simpa using h40
    have hin : ∀ t : Bs, inn (c :: t) = innT t := fun t => by simp only [inn, h40', if_true]; rfl
    rw [List.cons_append, hin]
    by_cases ha : a = []
    · subst ha
      have hr' : r' = [] := by
        rcases hc with hc | hc
        · exact absurd (by rw [show c = 40 from UInt8.toNat_inj.1 h40]) hc
        · exact hc
      subst hr'
      by_cases hr : r = []
      · subst hr; exact ht
      · have := (innT_lt _ _ _ _ (Nat.le_refl _) hr ht).2
        omega
    · exact innT_keep r r' _ a xs (Nat.le_refl _) ha ht
theorem mem_keep {a r r' : Bs} (he : Ends r r') (hc : a ≠ [40] ∨ r' = []) (h : mem (a ++ r) = some r) : mem (a ++ r') = some r' := by
  cases a with
  | nil => exact absurd (mem_lt h) (by simp)
  | cons c a =>
    rw [List.cons_append] at h ⊢
    simp only [mem] at h ⊢
    split at h
    · rename_i h40
      rw [if_pos h40]
      obtain ⟨⟨xs, r1⟩, hn, rfl⟩ := Option.map_eq_some_iff.1 h
      rw [← List.cons_append] at hn ⊢
      rw [inn_keep hc hn]
      rfl
    · rename_i h40
      rw [if_neg h40]
      rw [← List.cons_append] at h ⊢
      exact bare_keep he h
theorem mem_suf {l r : Bs} (h : mem l = some r) : r <:+ l := by
  cases l with
  | nil => cases h
  | cons c t =>
    simp only [mem] at h
    split at h
    · obtain ⟨⟨xs, r1⟩, hn, rfl⟩ := Option.map_eq_some_iff.1 h
      obtain ⟨c1, t1, he, _, ht⟩ := inn_some hn
      obtain ⟨rfl, rfl⟩ := List.cons.inj he
      by_cases h0 : t = []
      · subst h0
        cases ht
        exact List.nil_suffix
      · exact suf_cons c (innT_lt _ _ _ _ (Nat.le_refl _) h0 ht).1
    · exact bare_suf h

/-! Lists. -/
/-- What stands behind the first list: a comma, a blank and the second one. -/
theorem mem_ws {c : UInt8} {t : Bs} (h : wsB c.toNat = true) : mem (c :: t) = none := by
  have hc : c.toNat = 32 ∨ c.toNat = 9 := by simpa [wsB] using h
  have h40 : (c.toNat == 40) = false := by rcases hc with hc | hc <;> rw [hc] <;> rfl
  simp only [mem, h40, Bool.false_eq_true, if_false]
  unfold bare
  rcases hc with hc | hc <;> (simp only [hc]; rfl)
theorem lisT_head {b : Bs} {ys : List (Bs × Bs)} (h : lisT b = some ys) : skip wsB b = b := by
  cases b with
  | nil => rfl
  | cons c t =>
    cases hw : wsB c.toNat
    · exact skip_no hw
    · rw [lisT_nomem (mem_ws hw)] at h
      cases h
theorem lis_join (b : Bs) (ys : List (Bs × Bs)) (hb0 : b ≠ []) (hb : lisT b = some ys) : ∀ (n : Nat) (a : Bs) (xs : List (Bs × Bs)), a.length ≤ n → lisT a = some xs → (∀ x ∈ xs, x.1 ≠ [40]) → lisT (a ++ (44 :: 32 :: b)) = some (xs ++ ys) := by
  intro n
  induction n with
  | zero =>
    intro a xs hn h _
    obtain rfl : a = [] := List.eq_nil_of_length_eq_zero (by omega)
    cases h
  | succ n ih =>
    intro a xs hn h hx
    rw [lisT_step] at h
    split at h
    · cases h
    · rename_i r1 hm
      split at h
      · cases h
      · rename_i zs r2 hp
        obtain ⟨a1, rfl⟩ := suf_app (mem_suf hm)
        obtain ⟨a2, rfl⟩ := suf_app (par_suf _ _ _ _ (Nat.le_refl _) hp)
        have hE : ∀ r : Bs, Ends r (r ++ 44 :: 32 :: b) := fun r => by
          cases r with
          | nil => exact .inr (.inl ⟨_, _, rfl, rfl⟩)
          | cons c t => exact .inr (.inr ⟨_, _, _, rfl, rfl⟩)
        have hp' : par (a2 ++ (r2 ++ 44 :: 32 :: b)) = some (zs, r2 ++ 44 :: 32 :: b) := par_keep _ _ (hE r2) _ a2 _ (Nat.le_refl _) hp
        have hm' : a1 ≠ [40] → mem (a1 ++ (a2 ++ (r2 ++ 44 :: 32 :: b))) = some (a2 ++ (r2 ++ 44 :: 32 :: b)) := fun hne => by
          have := mem_keep (hE (a2 ++ r2)) (.inl hne) hm
          rwa [List.append_assoc] at this
        have hl : a1 ++ (a2 ++ r2) ++ 44 :: 32 :: b = a1 ++ (a2 ++ (r2 ++ 44 :: 32 :: b)) := by simp
        rw [hl]
        simp only [ahead_app] at h
        have h44 : skip wsB (44 :: 32 :: b) = 44 :: 32 :: b := skip_no (by decide)
        split at h
        · rename_i hs
          cases h
          have hne := hx _ (List.mem_singleton.2 rfl)
          have h3 : skip wsB (r2 ++ 44 :: 32 :: b) = 44 :: 32 :: b := by rw [skip_all _ hs, h44]
          have h4 : skip wsB (32 :: b) = b := by rw [skip_yes (by decide), lisT_head hb]
          cases b with
          | nil => exact absurd rfl hb0
          | cons e t =>
            rw [lisT_next (hm' hne) hp' h3 (by decide) h4, hb, ahead_app, ahead_app]
            rfl
        · rename_i d r3 hs
          split at h
          · rename_i hd
            split at h
            · cases h
            · rename_i e r4 hs2
              obtain ⟨zs2, hz, he⟩ := Option.map_eq_some_iff.1 h
              subst he
              have hne := hx _ (List.mem_cons_self)
              have hs' : skip wsB (r2 ++ 44 :: 32 :: b) = d :: (r3 ++ 44 :: 32 :: b) := by
                have := skip_part [] (44 :: 32 :: b) r2 (d :: r3) (by simp) (by simpa using hs)
                simpa using this
              have hs2' : skip wsB (r3 ++ 44 :: 32 :: b) = e :: (r4 ++ 44 :: 32 :: b) := by
                have := skip_part [] (44 :: 32 :: b) r3 (e :: r4) (by simp) (by simpa using hs2)
                simpa using this
              have l1 := mem_lt hm
              have l3 := skip_le wsB r2
              have l4 := skip_le wsB r3
              rw [hs] at l3
              rw [hs2] at l4
              simp only [List.length_append, List.length_cons] at l1 l3 l4 hn
              rw [lisT_next (hm' hne) hp' hs' (by simpa using hd) hs2', ahead_app, ahead_app]
              have := ih (e :: r4) zs2 (by simp only [List.length_cons]; omega) hz (fun x hm => hx x (List.mem_cons_of_mem _ hm))
              rw [List.cons_append] at this
              rw [this]
              rfl
          · cases h
/-- Two lists that are not empty. -/
theorem lis_joins {a b : Bs} {xs ys : List (Bs × Bs)} (ha : lis a = some xs) (hb : lis b = some ys) (hx0 : xs ≠ []) (hy0 : ys ≠ []) (hx : ∀ x ∈ xs, x.1 ≠ [40]) : lis (a ++ (44 :: 32 :: b)) = some (xs ++ ys) := by
  have ha0 : a ≠ [] := by rintro rfl; cases ha; exact hx0 rfl
  have hb0 : b ≠ [] := by rintro rfl; cases hb; exact hy0 rfl
  rw [lis_open ha0] at ha
  rw [lis_open hb0] at hb
  rw [lis_open (by simp)]
  exact lis_join b ys hb0 hb _ a xs (Nat.le_refl _) ha hx

/-- What a member is, read by itself. -/
theorem mem_by {a r : Bs} (h : mem (a ++ r) = some r) : (bare a = some [] ∧ inn a = none) ∨ (bare a = none ∧ ∃ ys, inn a = some (ys, [])) := by
  have hm : mem (a ++ []) = some [] := mem_keep (.inl rfl) (.inr rfl) h
  rw [List.append_nil] at hm
  cases a with
  | nil => cases hm
  | cons c t =>
    simp only [mem] at hm
    split at hm
    · rename_i h40
      obtain ⟨⟨ys, r1⟩, hn, rfl⟩ := Option.map_eq_some_iff.1 hm
      refine .inr ⟨?_, ys, hn⟩
      have : c.toNat = 40 := by simpa using h40
      unfold bare
      simp only [this]
      rfl
    · rename_i h40
      refine .inl ⟨hm, ?_⟩
      simp only [inn, h40, Bool.false_eq_true, if_false]
theorem lis_out : ∀ (n : Nat) (l : Bs) (xs : List (Bs × Bs)), l.length ≤ n → lisT l = some xs → ∀ x ∈ xs, (∃ zs, par x.2 = some (zs, [])) ∧ ((bare x.1 = some [] ∧ inn x.1 = none) ∨ (bare x.1 = none ∧ ∃ ys, inn x.1 = some (ys, []))) := by
  intro n
  induction n with
  | zero =>
    intro l xs hn h
    obtain rfl : l = [] := List.eq_nil_of_length_eq_zero (by omega)
    cases h
  | succ n ih =>
    intro l xs hn h
    rw [lisT_step] at h
    split at h
    · cases h
    · rename_i r1 hm
      have l1 := mem_lt hm
      split at h
      · cases h
      · rename_i zs r2 hp
        have l2 := par_len hp
        obtain ⟨a1, rfl⟩ := suf_app (mem_suf hm)
        obtain ⟨a2, rfl⟩ := suf_app (par_suf _ _ _ _ (Nat.le_refl _) hp)
        have hfirst : (∃ zs, par a2 = some (zs, [])) ∧ ((bare a1 = some [] ∧ inn a1 = none) ∨ (bare a1 = none ∧ ∃ ys, inn a1 = some (ys, []))) := by
          refine ⟨⟨zs, ?_⟩, mem_by hm⟩
          have := par_keep r2 [] (.inl rfl) _ a2 _ (Nat.le_refl _) hp
          rwa [List.append_nil] at this
        simp only [ahead_app] at h
        split at h
        · cases h
          intro x hx
          rw [List.mem_singleton] at hx
          subst hx
          exact hfirst
        · rename_i d r3 hs
          have l3 := skip_le wsB r2
          rw [hs] at l3
          split at h
          · split at h
            · cases h
            · rename_i e r4 hs2
              have l4 := skip_le wsB r3
              rw [hs2] at l4
              obtain ⟨zs2, hz, he⟩ := Option.map_eq_some_iff.1 h
              subst he
              intro x hx
              rcases List.mem_cons.1 hx with rfl | hx
              · exact hfirst
              · exact ih (e :: r4) zs2 (by simp only [List.length_append, List.length_cons] at *; omega) hz x hx
          · cases h

end Go.Proofs.YtohjnegllfdemaaDoor
