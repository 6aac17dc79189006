/-
  The walk of the law FnDisplay.
-/
import Derived.Test.YtohjnegllfdemaaDoorPDsp
import Derived.Test.YtohjnegllfdemaaDoorOnly
import Derived.Test.YtohjnegllfdemaaDoorOk
set_option maxRecDepth 100000
namespace Go.Proofs.YtohjnegllfdemaaDoor
open Go.RowKit

theorem rel_dsp {l : Bs} {k : Int} {t v : Bs} {odd ok : Bool} (h : ItemRel l k t v odd ok) (hs : dsp l = some []) : k = 8 ∧ ok = true ∧ t = l := by
  unfold dsp at hs
  split at hs
  · cases hs
  · rename_i o r hd
    split at hs
    · rename_i ha
      obtain rfl := Option.some.inj hs
      match l, hd with
      | a :: b :: r, hd =>
        have hd0 := hd
        simp only [dspS] at hd
        split at hd
        · rename_i hab
          have h37 : a.toNat = 37 := (u8_eq (n := 37) (by decide)).1 hab.1
          unfold ItemRel at h
          simp only [h37] at h
          rw [if_neg (by decide), if_neg (by decide), if_neg (by decide), if_neg (by decide), if_neg (by decide), if_neg (by decide), if_pos (by decide)] at h
          rw [hd0] at h
          exact ⟨h.1, h.2.1.trans (aut_le o ha), by rw [h.2.2.2.1]; simp [ahead]⟩
        · cases hd
    · cases hs

set_option maxHeartbeats 2000000 in
theorem lawDisplay_walk (s : ByteArray) (_hs : s.size ≤ maxLen) (w : World) (hT : Lib.Utf8Tabs 0 1 w) :
    Calls Tryd.prog 3 #[.string s] w fun e w' => e = .returned (.bool true) ∧ Gr w w' := by
  have HT := hid hT
  clear hT
  by_cases hz : s.size ≤ 2147483647
  · go_enter Tryd.func3, Tryd.ntmps3
    go_wp2_with fail
    refine (Only_any s 8 _ hz).mono ?_
    rintro e w1 ⟨⟨k, t, v, odd, ok, q, rfl, hrel, hq⟩, hg1⟩
    have hT1 : ∀ o : Obj, Lib.Utf8Tabs 0 1 (w1.alloc o) := fun o => Utf8Tabs_below HT.out (hg1.alloc o)
    have HT1 := hid hT1
    clear hT1
    rcases hq with rfl | ⟨rfl, ho, hn⟩ | ⟨rfl, ho, hok, hk, hl⟩
    · clear hrel
      go_wp2_with fail
      refine (works_any _).mono ?_
      rintro e w2 ⟨rfl, hg2⟩
      go_wp2_with fail
      go_ret
      exact ⟨rfl, (hg1.alloc _).trans hg2⟩
    · have hno : dsp (bl s) ≠ some [] := by
        intro e
        obtain ⟨hk, hok, ht⟩ := rel_dsp hrel e
        rcases hn with hn | hn | hn
        · rw [hok] at hn; cases hn
        · exact hn hk
        · rw [← bl_length, ← bl_length, ht] at hn; omega
      clear hrel hn ho
      go_wp2_with fail
      refine (implDisplay_no s _ hz (HT1.out _) hno).mono ?_
      rintro e w2 ⟨rfl, hg2⟩
      go_wp2_with fail
      refine (works_any _).mono ?_
      rintro e w3 ⟨rfl, hg3⟩
      go_wp2_with fail
      go_ret
      exact ⟨rfl, ((hg1.alloc _).trans hg2).trans hg3⟩
    · subst ho hok hk
      have hyes : ∃ o, dspS (bl s) = some (o, []) ∧ aut [] o = true ∧ bl v = o := by
        have hl' : (bl s).length ≤ (bl t).length := by rw [bl_length, bl_length]; exact hl
        rcases rel_ok hrel with ⟨hk, _⟩ | ⟨hk, _⟩ | ⟨hk, _⟩ | ⟨hk, _⟩ | ⟨hk, _⟩ | ⟨hk, _⟩ | ⟨hk, _⟩ | ⟨_, o, r, hd, hv, ho, ht, hrl, hvo⟩
        case inr.inr.inr.inr.inr.inr.inr =>
          obtain ⟨h1, _⟩ := ahead_full ht hrl hl'
          subst h1
          exact ⟨o, hd, by rw [aut_valid o ho.symm, hv], hvo⟩
        all_goals exact absurd hk (by decide)
      obtain ⟨o, hd, ha, hv⟩ := hyes
      obtain rfl : v = ⟨o.toArray⟩ := bl_inj (by rw [hv, bl_mk])
      have HD := hid hd
      have HA := hid ha
      clear hrel hl hv hd ha
      go_wp2_with fail
      refine (implDisplay_yes s o _ hz (HT1.out _) HD.out HA.out).mono ?_
      rintro e w2 ⟨rfl, hg2⟩
      go_wp2_with fail
      refine (works_any _).mono ?_
      rintro e w3 ⟨rfl, hg3⟩
      have c1 := blk_cell (hg2.trans hg3) 1
      have c2 := blk_cell (hg2.trans hg3) 2
      simp at c1 c2
      go_wp2_with fail
      go_ret
      exact ⟨rfl, ((hg1.alloc _).trans hg2).trans hg3⟩
  · go_enter Tryd.func3, Tryd.ntmps3
    go_wp2_with fail
    go_ret
    exact ⟨rfl, Gr.refl _⟩

end Go.Proofs.YtohjnegllfdemaaDoor
