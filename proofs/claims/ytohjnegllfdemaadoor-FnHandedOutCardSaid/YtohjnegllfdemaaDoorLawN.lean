/-
  The walks of the reference's Inner and of the law FnInnerList.
-/
import Derived.Test.YtohjnegllfdemaaDoorSInn2
import Derived.Test.YtohjnegllfdemaaDoorLawI
set_option maxRecDepth 100000
namespace Go.Proofs.YtohjnegllfdemaaDoor
open Go.RowKit

/-- What the reference's Inner gives. -/
def SInnerPost (s : ByteArray) (w : World) (e : Ending) (w' : World) : Prop :=
  Gr w w' ∧ ∃ (v : Value) (ps : Ps) (base : Nat) (q : Int), e = .returned (.tuple #[v, .int .i64 q]) ∧ OwnP w' base 38 v ps ∧ ps.length ≤ 2 * s.size + 2 ∧
    (q = 2 ∨ (q = 0 ∧ innR (bl s) = none) ∨ (q = 1 ∧ innR (bl s) = some (psL ps)))
theorem innR_none {l : Bs} (h : inn l = none) : innR l = none := by unfold innR; rw [h]
theorem innR_more {l r : Bs} {ys : List (Bs × Bs)} (h : inn l = some (ys, r)) (hr : r ≠ []) : innR l = none := by
  unfold innR
  rw [h]
  cases r with
  | nil => exact absurd rfl hr
  | cons _ _ => rfl
theorem innR_all {l : Bs} {ys : List (Bs × Bs)} (h : inn l = some (ys, [])) : innR l = some ys := by unfold innR; rw [h]
theorem inn_hd {l : Bs} (h : hdN l ≠ 40) : inn l = none := by
  cases l with
  | nil => rfl
  | cons c t =>
    have hc' : (c.toNat == 40) = false := by simpa [hdN] using h
    simp only [inn, hc', Bool.false_eq_true, if_false]

set_option maxHeartbeats 2000000 in
theorem specInner_any (s : ByteArray) (w : World) (hs : s.size ≤ 2147483647) :
    Calls Tryd.prog 21 #[.string s] w fun e w' => SInnerPost s w e w' := by
  have HP := hid (ps_new w s)
  have HG0 := hid ((Gr.refl w).alloc (.cells #[.string s, .int .i64 0, .bool false, .bool false] 63))
  have HFIN := hid (show ∀ w', Fr w.heap.size (w.alloc (.cells #[.string s, .int .i64 0, .bool false, .bool false] 63)) w' → Gr w w' from fun w' h => fr_new h)
  go_enter Tryd.func21, Tryd.ntmps21
  go_wp2_with fail
  generalize w.alloc (.cells #[.string s, .int .i64 0, .bool false, .bool false] 63) = W at *
  refine (next_any w.heap.size 0 s false false _ hs (Nat.zero_le _) HP.out).mono ?_
  rintro e w1 ⟨rfl, hp1, hg1⟩
  have HP1 := hid hp1
  have HF1 := hid (Fr.of_gr (b := w.heap.size) hg1)
  clear hp1 hg1
  by_cases hc : hdN (bl s) = 40
  case neg =>
    have q : ((hdN (bl s) : Int) != 40) = true := neT hc
    have HN := hid (innR_none (inn_hd hc))
    clear hc
    go_wp2_with fail
    go_ret2
    exact ⟨HFIN.out _ HF1.out, _, [], 0, _, rfl, OwnP.nil _ _ _, by simp, .inr (.inl ⟨rfl, HN.out⟩)⟩
  have q : ((hdN (bl s) : Int) != 40) = false := neF hc
  have HC := hid (show hdN ((bl s).drop 0) = 40 by rw [List.drop_zero]; exact hc)
  clear hc
  go_wp2_with fail
  refine (inner_any w.heap.size 0 s false _ hs HC.out HP1.out).mono ?_
  rintro e w2 ⟨hf2, t, v, ps, j, bad, odd, rfl, _, hj, hp, ho, hl, hrel⟩
  have HP2 := hid hp
  have HF2 := hid (HF1.out.trans hf2)
  have HO2 := hid ho
  have HREL := hid hrel
  clear hp hf2 ho hrel
  go_wp2_with fail
  refine (told_any w.heap.size j s bad odd _ hs HP2.out).mono ?_
  rintro e w3 ⟨⟨q3, rfl, hq⟩, hg3⟩
  have HF3 := hid (HF2.out.trans (Fr.of_gr hg3))
  have HO3 := hid (HO2.out.gr hg3)
  have HQ := hid hq
  clear hg3 hq
  go_wp2_with fail
  go_ret2
  refine ⟨HFIN.out _ HF3.out, v, ps, _, q3, rfl, HO3.out, hl, ?_⟩
  have hrel := HREL.out
  rw [List.drop_zero] at hrel
  rcases HQ.out with h | ⟨h, h0, h1⟩ | ⟨h, h0, h1, h2⟩
  · exact .inl h
  · refine .inr (.inl ⟨h, ?_⟩)
    obtain ⟨_, h3⟩ := hrel h0
    rcases h3 with ⟨_, h3⟩ | ⟨h3, ys, r, h4, h5, _⟩
    · exact innR_none h3
    · rcases h1 with h1 | h1
      · rw [h3] at h1; cases h1
      · refine innR_more h4 ?_
        rw [← h5]
        intro e
        rw [List.drop_eq_nil_iff, bl_length] at e
        omega
  · refine .inr (.inr ⟨h, ?_⟩)
    obtain ⟨_, h3⟩ := hrel h0
    rcases h3 with ⟨h3, _⟩ | ⟨_, ys, r, h4, h5, _, h6, _⟩
    · rw [h3] at h1; cases h1
    · have : r = [] := by rw [← h5, List.drop_eq_nil_iff, bl_length]; omega
      subst this
      rw [innR_all h4, h6]

set_option maxHeartbeats 2000000 in
theorem lawInner_walk (s : ByteArray) (_hs : s.size ≤ maxLen) (w : World) (hT : Lib.Utf8Tabs 0 1 w) :
    Calls Tryd.prog 6 #[.string s] w fun e w' => e = .returned (.bool true) ∧ Gr w w' := by
  have HT := hid hT
  clear hT
  by_cases hz : s.size ≤ 2147483647
  · go_enter Tryd.func6, Tryd.ntmps6
    go_wp2_with fail
    refine (specInner_any s _ hz).mono ?_
    rintro e w1 ⟨hg1, v, ws, base, q, rfl, ho, hwl, hq⟩
    have HT1 := hid (Utf8Tabs_below HT.out hg1)
    have HG1 := hid hg1
    have HO := hid ho
    clear hg1 ho
    rcases hq with rfl | ⟨rfl, hn⟩ | ⟨rfl, hp⟩
    · go_wp2_with fail
      refine (works_any _).mono ?_
      rintro e w2 ⟨rfl, hg2⟩
      go_wp2_with fail
      go_ret
      exact ⟨rfl, HG1.out.trans hg2⟩
    · have HN := hid hn
      clear hn
      go_wp2_with fail
      refine (implInner_any s _ (by omega) HT1.out).mono ?_
      rintro e w2 ⟨hg2, ⟨_, v2, rfl⟩ | ⟨v2, ps2, hx, _⟩⟩
      · have HG2 := hid (HG1.out.trans hg2)
        clear hg2
        go_wp2_with fail
        refine (works_any _).mono ?_
        rintro e w3 ⟨rfl, hg3⟩
        go_wp2_with fail
        go_ret
        exact ⟨rfl, HG2.out.trans hg3⟩
      · rw [HN.out] at hx
        cases hx
    · have HN := hid hp
      clear hp
      go_wp2_with fail
      refine (implInner_any s _ (by omega) HT1.out).mono ?_
      rintro e w2 ⟨hg2, ⟨hx, _⟩ | ⟨v2, ps2, hx, rfl, ho2⟩⟩
      · rw [HN.out] at hx
        cases hx
      · have hx2 := Option.some.inj (HN.out.symm.trans hx)
        have HAG := hid (agree_of hx2.symm)
        have HO1 := hid (HO.out.gr hg2)
        have HO2 := hid ho2
        have HG2 := hid (HG1.out.trans hg2)
        clear hg2 hx hx2 ho2
        go_wp2_with fail
        refine (works_any _).mono ?_
        rintro e w3 ⟨rfl, hg3⟩
        go_wp2_with fail
        refine (same_true _ _ v2 v false ps2 ws _ (by omega) (HO2.out.gr hg3) (HO1.out.gr hg3) HAG.out).mono ?_
        rintro e w4 ⟨rfl, hg4⟩
        go_wp2_with fail
        go_ret
        exact ⟨rfl, (HG2.out.trans hg3).trans hg4⟩
  · go_enter Tryd.func6, Tryd.ntmps6
    go_wp2_with fail
    go_ret
    exact ⟨rfl, Gr.refl _⟩


end Go.Proofs.YtohjnegllfdemaaDoor
