/-
  The walk of the law FnBytes.
-/
import Derived.Test.YtohjnegllfdemaaLaws3
import Derived.Lib.QuietBelow
import Derived.BigQuiet
namespace Go.Proofs.Ytohjnegllfdemaa
open Go.RowKit


set_option maxRecDepth 100000 in
set_option maxHeartbeats 1000000 in
theorem lawBytes_walk (s : ByteArray) (hs : s.size ≤ maxLen) (w : World) :
    Calls Try.prog 5 #[.string s] w fun e w' => e = .returned (.bool true) ∧ Gr w w' := by
  by_cases hz : s.size ≤ 2147483647
  · go_enter Try.func5, Try.ntmps5
    go_wp2_with fail
    refine (Only_any s 5 _ hz).mono ?_
    rintro e w1 ⟨⟨k, t, v, odd, ok, q, rfl, hrel, hq⟩, hg1⟩
    rcases hq with rfl | ⟨rfl, ho, hn⟩ | ⟨rfl, ho, hok, hk, hl⟩
    · clear hrel
      go_wp2_with fail
      refine (works_any _).mono ?_
      rintro e w2 ⟨rfl, hg2⟩
      go_wp2_with fail
      go_ret
      exact ⟨rfl, (hg1.alloc _).trans hg2⟩
    · have hno : byt (bl s) ≠ some [] := by
        intro e
        obtain ⟨hk, hok, ht⟩ := rel_byt hrel e
        have ht := ht ho
        rw [ahead_nil] at ht
        rcases hn with hn | hn | hn
        · rw [hok] at hn; cases hn
        · exact hn hk
        · rw [← bl_length, ← bl_length, ht] at hn; omega
      clear hrel hn ho
      go_wp2_with fail
      refine (implBytes_no s _ hs hno).mono ?_
      rintro e w2 ⟨rfl, hg2⟩
      go_wp2_with fail
      refine wp_region_quiet_below (by kernel_rfl) (by kernel_rfl) ?_
      repeat (any_goals (first | go_big_quiet_step ((go_at_call 8; exact Calls.regrown_of ((works_any _).mono fun _ _ h => h))) | quiet_step ((go_at_call 8; exact Calls.regrown_of ((works_any _).mono fun _ _ h => h)))))
      refine wpQuiet_nil ?_
      intro _ hw'
      obtain ⟨⟨dq, osq⟩, hw''⟩ := hw'
      subst hw''
      go_wp2_with fail
      go_ret
      exact ⟨rfl, ((hg1.alloc _).trans hg2).trans (below_regrown w2 dq osq)⟩
    · subst ho hok hk
      have hyes : byt (bl s) = some [] ∧ bl t = bl s := by
        have hl' : (bl s).length ≤ (bl t).length := by rw [bl_length, bl_length]; exact hl
        rcases rel_ok hrel with ⟨hk, _⟩ | ⟨hk, _⟩ | ⟨hk, _⟩ | ⟨hk, _⟩ | ⟨hk, h⟩ | ⟨hk, _⟩ | ⟨hk, _⟩ | ⟨hk, _⟩
        rotate_left 4
        · obtain ⟨r, hr, ht, hrl⟩ := h rfl
          obtain ⟨h1, h2⟩ := ahead_full ht hrl hl'
          exact ⟨by rw [hr, h1], h2⟩
        all_goals exact absurd hk (by decide)
      obtain ⟨hsc, ht⟩ := hyes
      obtain rfl := bl_inj ht
      have h2 : 2 ≤ t.size := by have := byt_two hsc; rwa [bl_length] at this
      clear hrel hl
      go_wp2_with fail
      refine (implBytes_yes _ _ hs h2 hsc).mono ?_
      rintro e w2 ⟨⟨vv, rfl, hcv⟩, hg2⟩
      have q1 : (1 : Int) ≤ (t.size : Int) - 1 := by omega
      have q2 : ((t.size : Int) - 1).toNat = t.size - 1 := by omega
      have d1 := blk_cell hg2 1
      simp at d1
      have hcell := fun d os => cell_regrown d1 d os
      have hconv := fun d os => hcv (Go.Sort.grow (redrawn w2 d) os) (below_regrown w2 d os)
      clear hcv d1
      go_wp2_with fail
      refine wp_region_quiet_below (by kernel_rfl) (by kernel_rfl) ?_
      repeat (any_goals (first | go_big_quiet_step ((go_at_call 8; exact Calls.regrown_of ((works_any _).mono fun _ _ h => h))) | quiet_step ((go_at_call 8; exact Calls.regrown_of ((works_any _).mono fun _ _ h => h)))))
      refine wpQuiet_nil ?_
      intro _ hw'
      obtain ⟨⟨dq, osq⟩, hw''⟩ := hw'
      subst hw''
      go_wp2_with fail
      go_ret
      exact ⟨rfl, ((hg1.alloc _).trans hg2).trans (below_regrown w2 dq osq)⟩
  · go_enter Try.func5, Try.ntmps5
    go_wp2_with fail
    go_ret
    exact ⟨rfl, Gr.refl _⟩

end Go.Proofs.Ytohjnegllfdemaa
