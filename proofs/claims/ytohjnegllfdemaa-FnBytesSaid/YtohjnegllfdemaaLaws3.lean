/-
  What a bare item is, by its kind; the walks of the laws FnText, FnToken, FnBytes.
-/
import Derived.Test.YtohjnegllfdemaaOnly
import Derived.Test.YtohjnegllfdemaaParse
namespace Go.Proofs.Ytohjnegllfdemaa
open Go.RowKit

theorem ahead_full {l r t : Bs} (ht : t = ahead l r) (hr : r.length ≤ l.length) (hl : l.length ≤ t.length) : r = [] ∧ t = l := by
  have h1 : t.length = l.length - r.length := by rw [ht, ahead, List.length_take]; omega
  have h2 : r = [] := List.eq_nil_of_length_eq_zero (by omega)
  refine ⟨h2, ?_⟩
  rw [ht, h2, ahead]
  simp

/-- Where there is an item: what it is. -/
theorem rel_ok {l : Bs} {k : Int} {t v : Bs} {odd : Bool} (h : ItemRel l k t v odd true) :
    (k = 1 ∧ odd = false ∧ ∃ r, num l = some (false, r) ∧ t = ahead l r ∧ r.length ≤ l.length) ∨
    (k = 2 ∧ odd = false ∧ ∃ r, num l = some (true, r) ∧ t = ahead l r ∧ r.length ≤ l.length) ∨
    (k = 3 ∧ odd = false ∧ ∃ r, str l = some r ∧ t = ahead l r ∧ r.length ≤ l.length) ∨
    (k = 4 ∧ odd = false ∧ ∃ r, tok l = some r ∧ t = ahead l r ∧ r.length ≤ l.length ∧ v = t) ∨
    (k = 5 ∧ (odd = false → ∃ r, byt l = some r ∧ t = ahead l r ∧ r.length ≤ l.length)) ∨
    (k = 6 ∧ odd = false ∧ ∃ r, boo l = some r ∧ t = ahead l r ∧ r.length ≤ l.length) ∨
    (k = 7 ∧ odd = false ∧ ∃ r, dat l = some r ∧ t = ahead l r ∧ r.length ≤ l.length) ∨
    (k = 8 ∧ ∃ o r, dspS l = some (o, r) ∧ validU o = true ∧ odd = hasB fffd o ∧ t = ahead l r ∧ r.length ≤ l.length ∧ v = o) := by
  unfold ItemRel at h
  split at h
  · exact absurd h.2.2 (by simp)
  · split at h
    · obtain ⟨ho, h⟩ := h
      split at h
      · exact absurd h.2 (by simp)
      · rename_i d r hn
        obtain ⟨hk, _, ht, hr⟩ := h
        cases d
        · exact .inl ⟨by simpa using hk, ho, r, hn, ht, hr⟩
        · exact .inr (.inl ⟨by simpa using hk, ho, r, hn, ht, hr⟩)
    · refine .inr (.inr ?_)
      split at h
      · obtain ⟨hk, ho, h⟩ := h
        split at h
        · exact absurd h (by simp)
        · rename_i r hn
          exact .inl ⟨hk, ho, r, hn, h.2.1, h.2.2⟩
      · refine .inr ?_
        split at h
        · obtain ⟨hk, ho, _, r, hn, ht, hr, hv⟩ := h
          exact .inl ⟨hk, ho, r, hn, ht, hr, hv⟩
        · refine .inr ?_
          split at h
          · obtain ⟨hk, _, _, h⟩ := h
            refine .inl ⟨hk, fun ho => ?_⟩
            have h := h ho
            split at h
            · exact absurd h (by simp)
            · rename_i r hn
              exact ⟨r, hn, h.2.1, h.2.2⟩
          · refine .inr ?_
            split at h
            · obtain ⟨ho, h⟩ := h
              split at h
              · exact absurd h.2 (by simp)
              · rename_i r hn
                exact .inl ⟨h.1, ho, r, hn, h.2.2.1, h.2.2.2⟩
            · refine .inr ?_
              split at h
              · obtain ⟨hk, ho, h⟩ := h
                split at h
                · exact absurd h (by simp)
                · rename_i r hn
                  exact .inl ⟨hk, ho, r, hn, h.2.1, h.2.2⟩
              · refine .inr ?_
                split at h
                · obtain ⟨hk, h⟩ := h
                  split at h
                  · exact absurd h.1 (by simp)
                  · rename_i o r hn
                    exact ⟨hk, o, r, hn, h.1.symm, h.2.1, h.2.2.1, h.2.2.2.1, h.2.2.2.2⟩
                · exact absurd h.2.2 (by simp)

theorem str_head {l r : Bs} (h : str l = some r) : ∃ t, l = 34 :: t := by
  cases l with
  | nil => cases h
  | cons c t =>
    rw [str] at h
    split at h
    · rename_i hc
      exact ⟨t, by rw [hc]⟩
    · cases h
theorem rel_str {l r : Bs} {k : Int} {t v : Bs} {odd ok : Bool} (h : ItemRel l k t v odd ok) (hs : str l = some r) : k = 3 ∧ odd = false ∧ ok = true ∧ t = ahead l r := by
  obtain ⟨u, rfl⟩ := str_head hs
  unfold ItemRel at h
  dsimp only at h
  rw [if_neg (by decide), if_pos (by decide), hs] at h
  exact ⟨h.1, h.2.1, h.2.2.1, h.2.2.2.1⟩
theorem byt_head {l r : Bs} (h : byt l = some r) : ∃ t, l = 58 :: t := by
  cases l with
  | nil => cases h
  | cons c t =>
    rw [byt] at h
    split at h
    · rename_i hc
      exact ⟨t, by rw [hc]⟩
    · cases h
theorem rel_byt {l r : Bs} {k : Int} {t v : Bs} {odd ok : Bool} (h : ItemRel l k t v odd ok) (hs : byt l = some r) : k = 5 ∧ ok = true ∧ (odd = false → t = ahead l r) := by
  obtain ⟨u, rfl⟩ := byt_head hs
  unfold ItemRel at h
  dsimp only at h
  rw [if_neg (by decide), if_neg (by decide), if_neg (by decide), if_pos (by decide), hs] at h
  obtain ⟨hk, _, ho, h⟩ := h
  cases odd
  · exact ⟨hk, (h rfl).1, fun _ => (h rfl).2.1⟩
  · exact ⟨hk, ho rfl, fun e => by cases e⟩
theorem tok_head {l r : Bs} (h : tok l = some r) : ∃ c t, l = c :: t ∧ (alpB c.toNat || c.toNat == 42) = true := by
  cases l with
  | nil => cases h
  | cons c t =>
    rw [tok] at h
    split at h
    · rename_i hc
      exact ⟨c, t, rfl, hc⟩
    · cases h
theorem rel_tok {l r : Bs} {k : Int} {t v : Bs} {odd ok : Bool} (h : ItemRel l k t v odd ok) (hs : tok l = some r) : k = 4 ∧ odd = false ∧ ok = true ∧ t = ahead l r ∧ v = t := by
  obtain ⟨c, u, rfl, hc⟩ := tok_head hs
  have h1 : (c.toNat == 45 || digB c.toNat) = false := by
    rw [Bool.eq_false_iff]
    intro e
    simp [alpB, lowB, uppB, digB] at hc e
    omega
  have h2 : (c.toNat == 34) = false := by
    rw [beq_eq_false_iff_ne]
    intro e
    simp [alpB, lowB, uppB] at hc
    omega
  unfold ItemRel at h
  dsimp only at h
  rw [if_neg (by rw [h1]; decide), if_neg (by rw [h2]; decide), if_pos (by rw [Bool.or_comm]; exact hc)] at h
  obtain ⟨hk, ho, hok, r', hr', ht, _, hv⟩ := h
  rw [hs] at hr'
  cases hr'
  exact ⟨hk, ho, hok, ht, hv⟩
theorem ahead_nil (l : Bs) : ahead l [] = l := by simp [ahead]
theorem str_two {l : Bs} (h : str l = some []) : 2 ≤ l.length := by
  obtain ⟨u, rfl⟩ := str_head h
  cases u with
  | nil => cases h
  | cons _ _ => simp
theorem byt_two {l : Bs} (h : byt l = some []) : 2 ≤ l.length := by
  obtain ⟨u, rfl⟩ := byt_head h
  cases u with
  | nil => cases h
  | cons _ _ => simp

set_option maxRecDepth 100000 in
set_option maxHeartbeats 1000000 in
theorem lawText_walk (s : ByteArray) (hs : s.size ≤ maxLen) (w : World) :
    Calls Try.prog 4 #[.string s] w fun e w' => e = .returned (.bool true) ∧ Gr w w' := by
  by_cases hz : s.size ≤ 2147483647
  · go_enter Try.func4, Try.ntmps4
    go_wp2_with fail
    refine (Only_any s 3 _ hz).mono ?_
    rintro e w1 ⟨⟨k, t, v, odd, ok, q, rfl, hrel, hq⟩, hg1⟩
    rcases hq with rfl | ⟨rfl, ho, hn⟩ | ⟨rfl, ho, hok, hk, hl⟩
    · clear hrel
      go_wp2_with fail
      refine (works_any _).mono ?_
      rintro e w2 ⟨rfl, hg2⟩
      go_wp2_with fail
      go_ret
      exact ⟨rfl, (hg1.alloc _).trans hg2⟩
    · have hno : str (bl s) ≠ some [] := by
        intro e
        obtain ⟨hk, _, hok, ht⟩ := rel_str hrel e
        rw [ahead_nil] at ht
        rcases hn with hn | hn | hn
        · rw [hok] at hn; cases hn
        · exact hn hk
        · rw [← bl_length, ← bl_length, ht] at hn; omega
      clear hrel hn ho
      go_wp2_with fail
      refine (implText_no s _ hs hno).mono ?_
      rintro e w2 ⟨rfl, hg2⟩
      go_wp2_with fail
      refine (works_any _).mono ?_
      rintro e w3 ⟨rfl, hg3⟩
      go_wp2_with fail
      go_ret
      exact ⟨rfl, ((hg1.alloc _).trans hg2).trans hg3⟩
    · subst ho hok hk
      have hyes : str (bl s) = some [] ∧ bl t = bl s := by
        have hl' : (bl s).length ≤ (bl t).length := by rw [bl_length, bl_length]; exact hl
        rcases rel_ok hrel with ⟨hk, _⟩ | ⟨hk, _⟩ | ⟨hk, _, r, hr, ht, hrl⟩ | ⟨hk, _⟩ | ⟨hk, _⟩ | ⟨hk, _⟩ | ⟨hk, _⟩ | ⟨hk, _⟩
        · exact absurd hk (by decide)
        · exact absurd hk (by decide)
        · obtain ⟨h1, h2⟩ := ahead_full ht hrl hl'
          exact ⟨by rw [hr, h1], h2⟩
        all_goals exact absurd hk (by decide)
      obtain ⟨hsc, ht⟩ := hyes
      obtain rfl := bl_inj ht
      have h2 : 2 ≤ t.size := by have := str_two hsc; rwa [bl_length] at this
      clear hrel hl
      go_wp2_with fail
      refine (implText_yes _ _ hs h2 hsc).mono ?_
      rintro e w2 ⟨rfl, hg2⟩
      go_wp2_with fail
      refine (works_any _).mono ?_
      rintro e w3 ⟨rfl, hg3⟩
      have c1 := blk_cell (hg2.trans hg3) 1
      have c2 := blk_cell (hg2.trans hg3) 2
      simp at c1 c2
      have q1 : (1 : Int) ≤ (t.size : Int) - 1 := by omega
      have q2 : ((t.size : Int) - 1).toNat = t.size - 1 := by omega
      go_wp2_with fail
      go_ret
      exact ⟨rfl, ((hg1.alloc _).trans hg2).trans hg3⟩
  · go_enter Try.func4, Try.ntmps4
    go_wp2_with fail
    go_ret
    exact ⟨rfl, Gr.refl _⟩

set_option maxRecDepth 100000 in
set_option maxHeartbeats 1000000 in
theorem lawToken_walk (s : ByteArray) (hs : s.size ≤ maxLen) (w : World) :
    Calls Try.prog 6 #[.string s] w fun e w' => e = .returned (.bool true) ∧ Gr w w' := by
  by_cases hz : s.size ≤ 2147483647
  · go_enter Try.func6, Try.ntmps6
    go_wp2_with fail
    refine (Only_any s 4 _ hz).mono ?_
    rintro e w1 ⟨⟨k, t, v, odd, ok, q, rfl, hrel, hq⟩, hg1⟩
    rcases hq with rfl | ⟨rfl, ho, hn⟩ | ⟨rfl, ho, hok, hk, hl⟩
    · clear hrel
      go_wp2_with fail
      refine (works_any _).mono ?_
      rintro e w2 ⟨rfl, hg2⟩
      go_wp2_with fail
      go_ret
      exact ⟨rfl, (hg1.alloc _).trans hg2⟩
    · have hno : tok (bl s) ≠ some [] := by
        intro e
        obtain ⟨hk, _, hok, ht, _⟩ := rel_tok hrel e
        rw [ahead_nil] at ht
        rcases hn with hn | hn | hn
        · rw [hok] at hn; cases hn
        · exact hn hk
        · rw [← bl_length, ← bl_length, ht] at hn; omega
      clear hrel hn ho
      go_wp2_with fail
      refine (implToken_no s _ hs hno).mono ?_
      rintro e w2 ⟨rfl, hg2⟩
      go_wp2_with fail
      refine (works_any _).mono ?_
      rintro e w3 ⟨rfl, hg3⟩
      go_wp2_with fail
      go_ret
      exact ⟨rfl, ((hg1.alloc _).trans hg2).trans hg3⟩
    · subst ho hok hk
      have hyes : tok (bl s) = some [] ∧ bl t = bl s ∧ bl v = bl s := by
        have hl' : (bl s).length ≤ (bl t).length := by rw [bl_length, bl_length]; exact hl
        rcases rel_ok hrel with ⟨hk, _⟩ | ⟨hk, _⟩ | ⟨hk, _⟩ | ⟨hk, _, r, hr, ht, hrl, hv⟩ | ⟨hk, _⟩ | ⟨hk, _⟩ | ⟨hk, _⟩ | ⟨hk, _⟩
        · exact absurd hk (by decide)
        · exact absurd hk (by decide)
        · exact absurd hk (by decide)
        · obtain ⟨h1, h2⟩ := ahead_full ht hrl hl'
          exact ⟨by rw [hr, h1], h2, by rw [hv, h2]⟩
        all_goals exact absurd hk (by decide)
      obtain ⟨hsc, ht, hv⟩ := hyes
      obtain rfl := bl_inj ht
      obtain rfl := bl_inj hv
      clear hrel hl
      go_wp2_with fail
      refine (implToken_yes _ _ hs hsc).mono ?_
      rintro e w2 ⟨rfl, hg2⟩
      go_wp2_with fail
      refine (works_any _).mono ?_
      rintro e w3 ⟨rfl, hg3⟩
      have c1 := blk_cell (hg2.trans hg3) 1
      have c2 := blk_cell (hg2.trans hg3) 2
      simp at c1 c2
      go_wp2_with fail
      go_ret
      exact ⟨rfl, ((hg1.alloc _).trans hg2).trans hg3⟩
  · go_enter Try.func6, Try.ntmps6
    go_wp2_with fail
    go_ret
    exact ⟨rfl, Gr.refl _⟩

end Go.Proofs.Ytohjnegllfdemaa
