/-
  The walk of the law FnList.
-/
import Derived.Test.YtohjnegllfdemaaDoorSLis2
set_option maxRecDepth 100000
namespace Go.Proofs.YtohjnegllfdemaaDoor
open Go.RowKit

theorem specList_any (s : ByteArray) (w : World) (hs : s.size ≤ 2147483647) :
    Calls Tryd.prog 23 #[.string s] w fun e w' => SLisPost s w e w' := by
  by_cases h0 : 0 < s.size
  · exact specList_some s w hs h0
  · obtain rfl := bl_empty (a := s) (List.eq_nil_of_length_eq_zero (by rw [bl_length]; omega))
    exact specList_empty w

set_option maxHeartbeats 2000000 in
theorem lawList_walk (s : ByteArray) (_hs : s.size ≤ maxLen) (w : World) (hT : Lib.Utf8Tabs 0 1 w) :
    Calls Tryd.prog 7 #[.string s] w fun e w' => e = .returned (.bool true) ∧ Gr w w' := by
  have HT := hid hT
  clear hT
  by_cases hz : s.size ≤ 2147483647
  · go_enter Tryd.func7, Tryd.ntmps7
    go_wp2_with fail
    refine (specList_any s _ hz).mono ?_
    rintro e w1 ⟨hg1, v, ws, base, q, rfl, ho, hwl, hq⟩
    have HT1 := hid (Utf8Tabs_below HT.out hg1)
    have HG1 := hid hg1
    have HO := hid ho
    clear hg1 ho
    rcases hq with rfl | ⟨rfl, hn⟩ | ⟨rfl, hp, _⟩
    · go_wp2_with fail
      refine (works_any _).mono ?_
      rintro e w2 ⟨rfl, hg2⟩
      go_wp2_with fail
      go_ret
      exact ⟨rfl, HG1.out.trans hg2⟩
    · have HN := hid hn
      clear hn
      go_wp2_with fail
      refine (implList_any s _ (by omega) HT1.out).mono ?_
      rintro e w2 ⟨hg2, ⟨_, v2, rfl⟩ | ⟨v2, ps2, hx, _⟩⟩
      · have HG2 := hid (HG1.out.trans hg2)
        clear hg2
        go_wp2_with fail
        refine (works_any _).mono ?_
        rintro e w3 ⟨rfl, hg3⟩
        go_wp2_with fail
        go_ret
        exact ⟨rfl, HG2.out.trans hg3⟩
      · rw [HN.out] at hx
        cases hx
    · have HN := hid hp
      clear hp
      go_wp2_with fail
      refine (implList_any s _ (by omega) HT1.out).mono ?_
      rintro e w2 ⟨hg2, ⟨hx, _⟩ | ⟨v2, ps2, hx, rfl, ho2⟩⟩
      · rw [HN.out] at hx
        cases hx
      · have hx2 := Option.some.inj (HN.out.symm.trans hx)
        have HAG := hid (agree_of hx2.symm)
        have HO1 := hid (HO.out.gr hg2)
        have HO2 := hid ho2
        have HG2 := hid (HG1.out.trans hg2)
        clear hg2 hx hx2 ho2
        go_wp2_with fail
        refine (works_any _).mono ?_
        rintro e w3 ⟨rfl, hg3⟩
        go_wp2_with fail
        refine (same_true _ _ v2 v false ps2 ws _ (by omega) (HO2.out.gr hg3) (HO1.out.gr hg3) HAG.out).mono ?_
        rintro e w4 ⟨rfl, hg4⟩
        go_wp2_with fail
        go_ret
        exact ⟨rfl, (HG2.out.trans hg3).trans hg4⟩
  · go_enter Tryd.func7, Tryd.ntmps7
    go_wp2_with fail
    go_ret
    exact ⟨rfl, Gr.refl _⟩

end Go.Proofs.YtohjnegllfdemaaDoor
