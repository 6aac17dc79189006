/-
  The walk of utf8.FullRune.
-/
import Derived.Test.YtohjnegllfdemaaDoorDec
set_option maxRecDepth 100000
namespace Go.Proofs.YtohjnegllfdemaaDoor
open Go.RowKit

/-- What FullRune gives, of n bytes: the first one's row of the table x, the second, the third. -/
def fullV (n x b1 b2 : Nat) : Bool :=
  decide (x % 8 ≤ n) || (decide (1 < n) && (decide (b1 < Lib.accLo (x / 16)) || decide (Lib.accHi (x / 16) < b1))) || (decide (2 < n) && (decide (b2 < 128) || decide (191 < b2)))

set_option maxHeartbeats 4000000 in
theorem fullRune_any (b n cap : Nat) (x0 x1 x2 : UInt8) (w : World) (hT : Lib.Utf8Tabs 0 1 w) (h1 : 1 ≤ n) (h4 : n ≤ 4) (hc0 : w.cell? ⟨b, 0, none⟩ = some (.int .u8 x0.toNat))
    (hc1 : 1 < n → w.cell? ⟨b, 1, none⟩ = some (.int .u8 x1.toNat)) (hc2 : 2 < n → w.cell? ⟨b, 2, none⟩ = some (.int .u8 x2.toNat)) :
    Calls Tryd.prog 85 #[.slice (some ⟨b, 0, none⟩) n cap] w fun e w' => e = .returned (.bool (fullV n (Lib.firstT x0.toNat) x1.toNat x2.toNat)) ∧ Gr w w' := by
  have l0 := x0.toNat_lt; have l1 := x1.toNat_lt; have l2 := x2.toNat_lt
  have hb : b < w.heap.size := World.block_lt_of_cell? _ _ hc0
  have hx := hT.1 x0.toNat (by omega)
  rcases Lib.firstT_cases x0.toNat with hX | hX | hX | hX | hX | hX | hX | hX | hX
  · rw [hX] at hx ⊢
    clear hT hX hc1 hc2
    have hge : (0 : Int) ≤ (n : Int) := by omega
    go_enter Tryd.func85, Tryd.ntmps85
    go_wp2
    go_ret
    exact ⟨ret_bool (by simp [fullV, Lib.accLo, Lib.accHi]; try omega), Gr.refl _⟩
  · rw [hX] at hx ⊢
    clear hT hX hc1 hc2
    have hge : (1 : Int) ≤ (n : Int) := by omega
    go_enter Tryd.func85, Tryd.ntmps85
    go_wp2
    go_ret
    exact ⟨ret_bool (by simp [fullV, Lib.accLo, Lib.accHi]; try omega), Gr.refl _⟩
  · have ha0 := (hT.2 0 (by omega)).1
    have ha1 := (hT.2 0 (by omega)).2
    rw [hX] at hx ⊢
    simp only [Lib.accLo, Lib.accHi, Nat.reduceMul, Nat.reduceAdd, Nat.reduceEqDiff, if_true, if_false] at ha0 ha1
    clear hT hX
    obtain rfl | rfl | rfl | rfl : n = 1 ∨ n = 2 ∨ n = 3 ∨ n = 4 := by omega
    · clear hc1
      all_goals
        go_enter Tryd.func85, Tryd.ntmps85
        go_wp2_with fail
        go_quiet (fail)
        go_wp2
        try go_quiet (fail)
        try go_wp2
        go_ret
        exact ⟨ret_bool (by simp [fullV, Lib.accLo, Lib.accHi]; try omega), ((Gr.refl _).alloc _).drewN _⟩
    · clear hc1 hc2
      go_enter Tryd.func85, Tryd.ntmps85
      go_wp2
      go_ret
      exact ⟨ret_bool (by simp [fullV, Lib.accLo, Lib.accHi]; try omega), Gr.refl _⟩
    · clear hc1 hc2
      go_enter Tryd.func85, Tryd.ntmps85
      go_wp2
      go_ret
      exact ⟨ret_bool (by simp [fullV, Lib.accLo, Lib.accHi]; try omega), Gr.refl _⟩
    · clear hc1 hc2
      go_enter Tryd.func85, Tryd.ntmps85
      go_wp2
      go_ret
      exact ⟨ret_bool (by simp [fullV, Lib.accLo, Lib.accHi]; try omega), Gr.refl _⟩
  · have ha0 := (hT.2 1 (by omega)).1
    have ha1 := (hT.2 1 (by omega)).2
    rw [hX] at hx ⊢
    simp only [Lib.accLo, Lib.accHi, Nat.reduceMul, Nat.reduceAdd, Nat.reduceEqDiff, if_true, if_false] at ha0 ha1
    clear hT hX
    obtain rfl | rfl | rfl | rfl : n = 1 ∨ n = 2 ∨ n = 3 ∨ n = 4 := by omega
    · clear hc1
      all_goals
        go_enter Tryd.func85, Tryd.ntmps85
        go_wp2_with fail
        go_quiet (fail)
        go_wp2
        try go_quiet (fail)
        try go_wp2
        go_ret
        exact ⟨ret_bool (by simp [fullV, Lib.accLo, Lib.accHi]; try omega), ((Gr.refl _).alloc _).drewN _⟩
    · have hs1 := hc1 (by omega)
      by_cases g1 : (x1.toNat : Int) < 160 <;> by_cases g2 : (191 : Int) < (x1.toNat : Int) <;> (try omega)
      all_goals
        go_enter Tryd.func85, Tryd.ntmps85
        go_wp2_with fail
        go_quiet (fail)
        go_wp2
        try go_quiet (fail)
        try go_wp2
        go_ret
        exact ⟨ret_bool (by simp [fullV, Lib.accLo, Lib.accHi]; try omega), ((Gr.refl _).alloc _).drewN _⟩
    · clear hc1 hc2
      go_enter Tryd.func85, Tryd.ntmps85
      go_wp2
      go_ret
      exact ⟨ret_bool (by simp [fullV, Lib.accLo, Lib.accHi]; try omega), Gr.refl _⟩
    · clear hc1 hc2
      go_enter Tryd.func85, Tryd.ntmps85
      go_wp2
      go_ret
      exact ⟨ret_bool (by simp [fullV, Lib.accLo, Lib.accHi]; try omega), Gr.refl _⟩
  · have ha0 := (hT.2 0 (by omega)).1
    have ha1 := (hT.2 0 (by omega)).2
    rw [hX] at hx ⊢
    simp only [Lib.accLo, Lib.accHi, Nat.reduceMul, Nat.reduceAdd, Nat.reduceEqDiff, if_true, if_false] at ha0 ha1
    clear hT hX
    obtain rfl | rfl | rfl | rfl : n = 1 ∨ n = 2 ∨ n = 3 ∨ n = 4 := by omega
    · clear hc1
      all_goals
        go_enter Tryd.func85, Tryd.ntmps85
        go_wp2_with fail
        go_quiet (fail)
        go_wp2
        try go_quiet (fail)
        try go_wp2
        go_ret
        exact ⟨ret_bool (by simp [fullV, Lib.accLo, Lib.accHi]; try omega), ((Gr.refl _).alloc _).drewN _⟩
    · have hs1 := hc1 (by omega)
      by_cases g1 : (x1.toNat : Int) < 128 <;> by_cases g2 : (191 : Int) < (x1.toNat : Int) <;> (try omega)
      all_goals
        go_enter Tryd.func85, Tryd.ntmps85
        go_wp2_with fail
        go_quiet (fail)
        go_wp2
        try go_quiet (fail)
        try go_wp2
        go_ret
        exact ⟨ret_bool (by simp [fullV, Lib.accLo, Lib.accHi]; try omega), ((Gr.refl _).alloc _).drewN _⟩
    · clear hc1 hc2
      go_enter Tryd.func85, Tryd.ntmps85
      go_wp2
      go_ret
      exact ⟨ret_bool (by simp [fullV, Lib.accLo, Lib.accHi]; try omega), Gr.refl _⟩
    · clear hc1 hc2
      go_enter Tryd.func85, Tryd.ntmps85
      go_wp2
      go_ret
      exact ⟨ret_bool (by simp [fullV, Lib.accLo, Lib.accHi]; try omega), Gr.refl _⟩
  · have ha0 := (hT.2 2 (by omega)).1
    have ha1 := (hT.2 2 (by omega)).2
    rw [hX] at hx ⊢
    simp only [Lib.accLo, Lib.accHi, Nat.reduceMul, Nat.reduceAdd, Nat.reduceEqDiff, if_true, if_false] at ha0 ha1
    clear hT hX
    obtain rfl | rfl | rfl | rfl : n = 1 ∨ n = 2 ∨ n = 3 ∨ n = 4 := by omega
    · clear hc1
      all_goals
        go_enter Tryd.func85, Tryd.ntmps85
        go_wp2_with fail
        go_quiet (fail)
        go_wp2
        try go_quiet (fail)
        try go_wp2
        go_ret
        exact ⟨ret_bool (by simp [fullV, Lib.accLo, Lib.accHi]; try omega), ((Gr.refl _).alloc _).drewN _⟩
    · have hs1 := hc1 (by omega)
      by_cases g1 : (x1.toNat : Int) < 128 <;> by_cases g2 : (159 : Int) < (x1.toNat : Int) <;> (try omega)
      all_goals
        go_enter Tryd.func85, Tryd.ntmps85
        go_wp2_with fail
        go_quiet (fail)
        go_wp2
        try go_quiet (fail)
        try go_wp2
        go_ret
        exact ⟨ret_bool (by simp [fullV, Lib.accLo, Lib.accHi]; try omega), ((Gr.refl _).alloc _).drewN _⟩
    · clear hc1 hc2
      go_enter Tryd.func85, Tryd.ntmps85
      go_wp2
      go_ret
      exact ⟨ret_bool (by simp [fullV, Lib.accLo, Lib.accHi]; try omega), Gr.refl _⟩
    · clear hc1 hc2
      go_enter Tryd.func85, Tryd.ntmps85
      go_wp2
      go_ret
      exact ⟨ret_bool (by simp [fullV, Lib.accLo, Lib.accHi]; try omega), Gr.refl _⟩
  · have ha0 := (hT.2 3 (by omega)).1
    have ha1 := (hT.2 3 (by omega)).2
    rw [hX] at hx ⊢
    simp only [Lib.accLo, Lib.accHi, Nat.reduceMul, Nat.reduceAdd, Nat.reduceEqDiff, if_true, if_false] at ha0 ha1
    clear hT hX
    obtain rfl | rfl | rfl | rfl : n = 1 ∨ n = 2 ∨ n = 3 ∨ n = 4 := by omega
    · clear hc1
      all_goals
        go_enter Tryd.func85, Tryd.ntmps85
        go_wp2_with fail
        go_quiet (fail)
        go_wp2
        try go_quiet (fail)
        try go_wp2
        go_ret
        exact ⟨ret_bool (by simp [fullV, Lib.accLo, Lib.accHi]; try omega), ((Gr.refl _).alloc _).drewN _⟩
    · have hs1 := hc1 (by omega)
      by_cases g1 : (x1.toNat : Int) < 144 <;> by_cases g2 : (191 : Int) < (x1.toNat : Int) <;> (try omega)
      all_goals
        go_enter Tryd.func85, Tryd.ntmps85
        go_wp2_with fail
        go_quiet (fail)
        go_wp2
        try go_quiet (fail)
        try go_wp2
        go_ret
        exact ⟨ret_bool (by simp [fullV, Lib.accLo, Lib.accHi]; try omega), ((Gr.refl _).alloc _).drewN _⟩
    · have hs1 := hc1 (by omega)
      by_cases g1 : (x1.toNat : Int) < 144 <;> by_cases g2 : (191 : Int) < (x1.toNat : Int) <;> (try omega)
      all_goals
        have hs2 := hc2 (by omega)
        by_cases g3 : (x2.toNat : Int) < 128 <;> by_cases g4 : (191 : Int) < (x2.toNat : Int) <;> (try omega)
      all_goals
        go_enter Tryd.func85, Tryd.ntmps85
        go_wp2_with fail
        go_quiet (fail)
        go_wp2
        try go_quiet (fail)
        try go_wp2
        go_ret
        exact ⟨ret_bool (by simp [fullV, Lib.accLo, Lib.accHi]; try omega), ((Gr.refl _).alloc _).drewN _⟩
    · clear hc1 hc2
      go_enter Tryd.func85, Tryd.ntmps85
      go_wp2
      go_ret
      exact ⟨ret_bool (by simp [fullV, Lib.accLo, Lib.accHi]; try omega), Gr.refl _⟩
  · have ha0 := (hT.2 0 (by omega)).1
    have ha1 := (hT.2 0 (by omega)).2
    rw [hX] at hx ⊢
    simp only [Lib.accLo, Lib.accHi, Nat.reduceMul, Nat.reduceAdd, Nat.reduceEqDiff, if_true, if_false] at ha0 ha1
    clear hT hX
    obtain rfl | rfl | rfl | rfl : n = 1 ∨ n = 2 ∨ n = 3 ∨ n = 4 := by omega
    · clear hc1
      all_goals
        go_enter Tryd.func85, Tryd.ntmps85
        go_wp2_with fail
        go_quiet (fail)
        go_wp2
        try go_quiet (fail)
        try go_wp2
        go_ret
        exact ⟨ret_bool (by simp [fullV, Lib.accLo, Lib.accHi]; try omega), ((Gr.refl _).alloc _).drewN _⟩
    · have hs1 := hc1 (by omega)
      by_cases g1 : (x1.toNat : Int) < 128 <;> by_cases g2 : (191 : Int) < (x1.toNat : Int) <;> (try omega)
      all_goals
        go_enter Tryd.func85, Tryd.ntmps85
        go_wp2_with fail
        go_quiet (fail)
        go_wp2
        try go_quiet (fail)
        try go_wp2
        go_ret
        exact ⟨ret_bool (by simp [fullV, Lib.accLo, Lib.accHi]; try omega), ((Gr.refl _).alloc _).drewN _⟩
    · have hs1 := hc1 (by omega)
      by_cases g1 : (x1.toNat : Int) < 128 <;> by_cases g2 : (191 : Int) < (x1.toNat : Int) <;> (try omega)
      all_goals
        have hs2 := hc2 (by omega)
        by_cases g3 : (x2.toNat : Int) < 128 <;> by_cases g4 : (191 : Int) < (x2.toNat : Int) <;> (try omega)
      all_goals
        go_enter Tryd.func85, Tryd.ntmps85
        go_wp2_with fail
        go_quiet (fail)
        go_wp2
        try go_quiet (fail)
        try go_wp2
        go_ret
        exact ⟨ret_bool (by simp [fullV, Lib.accLo, Lib.accHi]; try omega), ((Gr.refl _).alloc _).drewN _⟩
    · clear hc1 hc2
      go_enter Tryd.func85, Tryd.ntmps85
      go_wp2
      go_ret
      exact ⟨ret_bool (by simp [fullV, Lib.accLo, Lib.accHi]; try omega), Gr.refl _⟩
  · have ha0 := (hT.2 4 (by omega)).1
    have ha1 := (hT.2 4 (by omega)).2
    rw [hX] at hx ⊢
    simp only [Lib.accLo, Lib.accHi, Nat.reduceMul, Nat.reduceAdd, Nat.reduceEqDiff, if_true, if_false] at ha0 ha1
    clear hT hX
    obtain rfl | rfl | rfl | rfl : n = 1 ∨ n = 2 ∨ n = 3 ∨ n = 4 := by omega
    · clear hc1
      all_goals
        go_enter Tryd.func85, Tryd.ntmps85
        go_wp2_with fail
        go_quiet (fail)
        go_wp2
        try go_quiet (fail)
        try go_wp2
        go_ret
        exact ⟨ret_bool (by simp [fullV, Lib.accLo, Lib.accHi]; try omega), ((Gr.refl _).alloc _).drewN _⟩
    · have hs1 := hc1 (by omega)
      by_cases g1 : (x1.toNat : Int) < 128 <;> by_cases g2 : (143 : Int) < (x1.toNat : Int) <;> (try omega)
      all_goals
        go_enter Tryd.func85, Tryd.ntmps85
        go_wp2_with fail
        go_quiet (fail)
        go_wp2
        try go_quiet (fail)
        try go_wp2
        go_ret
        exact ⟨ret_bool (by simp [fullV, Lib.accLo, Lib.accHi]; try omega), ((Gr.refl _).alloc _).drewN _⟩
    · have hs1 := hc1 (by omega)
      by_cases g1 : (x1.toNat : Int) < 128 <;> by_cases g2 : (143 : Int) < (x1.toNat : Int) <;> (try omega)
      all_goals
        have hs2 := hc2 (by omega)
        by_cases g3 : (x2.toNat : Int) < 128 <;> by_cases g4 : (191 : Int) < (x2.toNat : Int) <;> (try omega)
      all_goals
        go_enter Tryd.func85, Tryd.ntmps85
        go_wp2_with fail
        go_quiet (fail)
        go_wp2
        try go_quiet (fail)
        try go_wp2
        go_ret
        exact ⟨ret_bool (by simp [fullV, Lib.accLo, Lib.accHi]; try omega), ((Gr.refl _).alloc _).drewN _⟩
    · clear hc1 hc2
      go_enter Tryd.func85, Tryd.ntmps85
      go_wp2
      go_ret
      exact ⟨ret_bool (by simp [fullV, Lib.accLo, Lib.accHi]; try omega), Gr.refl _⟩
end Go.Proofs.YtohjnegllfdemaaDoor
