/-
  The walks of the laws FnInteger and FnDate.
-/
import Derived.Test.YtohjnegllfdemaaDoorWho
set_option maxRecDepth 100000
namespace Go.Proofs.YtohjnegllfdemaaDoor
open Go.RowKit

set_option maxHeartbeats 2000000 in
theorem lawInteger_walk (s : ByteArray) (_hs : s.size ≤ maxLen) (w : World) (hT : ∃ (tp : TypeId) (p : Value), w.cell? ⟨2, 0, none⟩ = some (.iface tp p)) :
    Calls Tryd.prog 11 #[.string s] w fun e w' => e = .returned (.bool true) ∧ Gr w w' := by
  obtain ⟨tp, p, hT⟩ := hT
  have HT := hid hT
  clear hT
  by_cases hz : s.size ≤ 2147483647
  case neg =>
    go_enter Tryd.func11, Tryd.ntmps11
    go_wp2_with fail
    go_ret
    exact ⟨rfl, Gr.refl _⟩
  go_enter Tryd.func11, Tryd.ntmps11
  go_wp2_with fail
  refine (Only_any s 1 _ hz).mono ?_
  rintro e w1 ⟨⟨k, t, v, odd, ok, q, rfl, hrel, hq⟩, hg1⟩
  have hT1 : ∀ o : Obj, (w1.alloc o).cell? ⟨2, 0, none⟩ = some (.iface tp p) := fun o => (hg1.alloc o).cell HT.out
  have HT1 := hid hT1
  clear hT1
  rcases hq with rfl | ⟨rfl, ho, hn⟩ | ⟨rfl, ho, hok, hk, hl⟩
  · clear hrel
    go_wp2_with fail
    refine (works_any _).mono ?_
    rintro e w2 ⟨rfl, hg2⟩
    go_wp2_with fail
    go_ret
    exact ⟨rfl, (hg1.alloc _).trans hg2⟩
  · have hno : num (bl s) ≠ some (false, []) := by
      intro e
      obtain ⟨hk, hok, ht⟩ := rel_int hrel e
      rcases hn with hn | hn | hn
      · rw [hok] at hn; cases hn
      · exact hn hk
      · rw [← bl_length, ← bl_length, ht] at hn; omega
    have HNO := hid hno
    clear hrel hn ho hno
    go_wp2_with fail
    refine (implInteger_any s _ hz tp p (HT1.out _)).mono ?_
    rintro e w2 ⟨⟨h, _⟩ | ⟨_, rfl⟩, hg2⟩
    · exact absurd h HNO.out
    go_wp2_with fail
    refine (works_any _).mono ?_
    rintro e w3 ⟨rfl, hg3⟩
    go_wp2_with fail
    go_ret
    exact ⟨rfl, ((hg1.alloc _).trans hg2).trans hg3⟩
  · subst ho hok hk
    have hl' : (bl s).length ≤ (bl t).length := by rw [bl_length, bl_length]; exact hl
    have hyes : num (bl s) = some (false, []) ∧ t = s := by
      rcases rel_ok hrel with ⟨_, _, r, hn, ht, hrl⟩ | ⟨hk, _⟩ | ⟨hk, _⟩ | ⟨hk, _⟩ | ⟨hk, _⟩ | ⟨hk, _⟩ | ⟨hk, _⟩ | ⟨hk, _⟩
      case inl =>
        obtain ⟨h1, h2⟩ := ahead_full ht hrl hl'
        subst h1
        exact ⟨hn, bl_inj h2⟩
      all_goals exact absurd hk (by decide)
    obtain ⟨hnum, rfl⟩ := hyes
    have HN := hid hnum
    clear hrel hl hl' hnum
    go_wp2_with fail
    refine (implInteger_any t _ hz tp p (HT1.out _)).mono ?_
    rintro e w2 ⟨⟨_, rfl⟩ | ⟨h, _⟩, hg2⟩
    case inr => exact absurd HN.out h
    go_wp2_with fail
    refine (works_any _).mono ?_
    rintro e w3 ⟨rfl, hg3⟩
    have c1 := blk_cell (hg2.trans hg3) 1
    simp at c1
    generalize hV : intV (bl t) = V at *
    have HV := hid hV
    clear hV
    go_wp2_with fail
    refine (whole_any t _ hz HN.out).mono ?_
    rintro e w4 ⟨rfl, rfl⟩
    rw [HV.out]
    go_wp2_with fail
    go_ret
    exact ⟨rfl, ((hg1.alloc _).trans hg2).trans hg3⟩

set_option maxHeartbeats 2000000 in
theorem lawDate_walk (s : ByteArray) (_hs : s.size ≤ maxLen) (w : World) :
    Calls Tryd.prog 12 #[.string s] w fun e w' => e = .returned (.bool true) ∧ Gr w w' := by
  by_cases hz : s.size ≤ 2147483647
  case neg =>
    go_enter Tryd.func12, Tryd.ntmps12
    go_wp2_with fail
    go_ret
    exact ⟨rfl, Gr.refl _⟩
  go_enter Tryd.func12, Tryd.ntmps12
  go_wp2_with fail
  refine (Only_any s 7 _ hz).mono ?_
  rintro e w1 ⟨⟨k, t, v, odd, ok, q, rfl, hrel, hq⟩, hg1⟩
  rcases hq with rfl | ⟨rfl, ho, hn⟩ | ⟨rfl, ho, hok, hk, hl⟩
  · clear hrel
    go_wp2_with fail
    refine (works_any _).mono ?_
    rintro e w2 ⟨rfl, hg2⟩
    go_wp2_with fail
    go_ret
    exact ⟨rfl, (hg1.alloc _).trans hg2⟩
  · have hno : dat (bl s) ≠ some [] := by
      intro e
      obtain ⟨hk, hok, ht⟩ := rel_date hrel e
      rcases hn with hn | hn | hn
      · rw [hok] at hn; cases hn
      · exact hn hk
      · rw [← bl_length, ← bl_length, ht] at hn; omega
    have HNO := hid hno
    clear hrel hn ho hno
    go_wp2_with fail
    refine (implDate_any s _ hz).mono ?_
    rintro e w2 ⟨⟨h, _⟩ | ⟨_, rfl⟩, hg2⟩
    · exact absurd h HNO.out
    go_wp2_with fail
    refine (works_any _).mono ?_
    rintro e w3 ⟨rfl, hg3⟩
    go_wp2_with fail
    go_ret
    exact ⟨rfl, ((hg1.alloc _).trans hg2).trans hg3⟩
  · subst ho hok hk
    have hl' : (bl s).length ≤ (bl t).length := by rw [bl_length, bl_length]; exact hl
    have hyes : dat (bl s) = some [] ∧ t = s := by
      rcases rel_ok hrel with ⟨hk, _⟩ | ⟨hk, _⟩ | ⟨hk, _⟩ | ⟨hk, _⟩ | ⟨hk, _⟩ | ⟨hk, _⟩ | ⟨_, _, r, hn, ht, hrl⟩ | ⟨hk, _⟩
      case inr.inr.inr.inr.inr.inr.inl =>
        obtain ⟨h1, h2⟩ := ahead_full ht hrl hl'
        subst h1
        exact ⟨hn, bl_inj h2⟩
      all_goals exact absurd hk (by decide)
    obtain ⟨hdat, rfl⟩ := hyes
    obtain ⟨t0, hlt, hnum⟩ := dat_num hdat
    have h0 : 1 ≤ t.size := by rw [← bl_length, hlt]; simp
    have HNUM := hid (show num (bl (t.extract 1 t.size)) = some (false, []) by rw [bl_from, hlt]; exact hnum)
    have hsz : (t.extract 1 t.size).size ≤ 2147483647 := by rw [ByteArray.size_extract]; omega
    have HVV := hid (show intV (bl (t.extract 1 t.size)) = datV (bl t) by rw [bl_from]; rfl)
    have HN := hid hdat
    clear hrel hl hl' hdat hlt hnum
    go_wp2_with fail
    refine (implDate_any t _ hz).mono ?_
    rintro e w2 ⟨⟨_, rfl⟩ | ⟨h, _⟩, hg2⟩
    case inr => exact absurd HN.out h
    go_wp2_with fail
    refine (works_any _).mono ?_
    rintro e w3 ⟨rfl, hg3⟩
    have c1 := blk_cell (hg2.trans hg3) 1
    simp at c1
    have HV := hid (show intV (bl (t.extract 1 t.size)) = datV (bl t) from HVV.out)
    clear HVV
    generalize datV (bl t) = V at *
    go_wp2_with fail
    refine (whole_any _ _ hsz HNUM.out).mono ?_
    rintro e w4 ⟨rfl, rfl⟩
    rw [HV.out]
    go_wp2_with fail
    go_ret
    exact ⟨rfl, ((hg1.alloc _).trans hg2).trans hg3⟩

end Go.Proofs.YtohjnegllfdemaaDoor
