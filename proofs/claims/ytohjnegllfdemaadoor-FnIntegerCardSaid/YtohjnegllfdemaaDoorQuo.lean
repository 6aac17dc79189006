/-
  The walk of spec.quoted.
-/
import Derived.Test.YtohjnegllfdemaaDoorOwn
set_option maxRecDepth 100000
namespace Go.Proofs.YtohjnegllfdemaaDoor
open Go.RowKit

/-- (n, some value, true) -/
def NTook (s : ByteArray) (r : Bs) (e : Ending) : Prop := ∃ v : ByteArray, e = .returned (.tuple #[.int .i64 ((s.size - r.length : Nat) : Int), .string v, .bool true]) ∧ r.length ≤ s.size

theorem ntook_at (s v : ByteArray) (k : Nat) (r : Bs) (hk : k ≤ s.size) (h : (bl s).drop k = r) (x : Int) (hx : x = (k : Int)) : NTook s r (.returned (.tuple #[.int .i64 x, .string v, .bool true])) := by
  have hl : r.length = s.size - k := by rw [← h, List.length_drop, bl_length]
  refine ⟨v, ?_, by omega⟩
  have : ((s.size - r.length : Nat) : Int) = x := by omega
  rw [this]

theorem notEmpty {s : ByteArray} (h0 : 0 < s.size) : s.toList.isEmpty = false := by
  rw [bl_toList, List.isEmpty_eq_false_iff]
  intro e
  have := bl_length s
  rw [e] at this
  simp at this
  omega

set_option maxHeartbeats 1000000 in
theorem quoted_some (s : ByteArray) (r : Bs) (w : World) (hs : s.size ≤ 2147483647) (h : str (bl s) = some r) :
    Calls Tryd.prog 56 #[.string s] w fun e w' => NTook s r e ∧ Gr w w' := by
  obtain ⟨i0, hi, hz0, hz1, hz2⟩ := info_parts info8
  obtain ⟨h0, h34, hT⟩ := str_some h
  have HT := hid hT
  have hne : s.toList.isEmpty = false := notEmpty h0
  have h34' : (((s[0]).toNat : Int) != 34) = false := neF h34
  clear h h34 hT
  go_enter Tryd.func56, Tryd.ntmps56
  go_wp2
  clear h34'
  go_loopw [2, 5] (fun i v wr => ∃ (k : Nat) (xs : Bs), k ≤ s.size ∧ i = .int .i64 k ∧ xs.length ≤ k ∧ Own8 wr w.heap.size v xs ∧ Hid (strT ((bl s).drop k) = some r) ∧ Gr w wr) (fun i _ _ => s.size - (intOf i).toNat)
  case atStart => exact ⟨1, [], by omega, rfl, Nat.zero_le _, Own8.nil _ _, HT, Gr.refl _⟩
  case round =>
    obtain ⟨k, xs, hk, rfl, hxs, hown, hr, hg⟩ := hrel
    obtain ⟨hlt, hx⟩ := strT_some s k r hr.out
    rcases hx with ⟨hc, h1, hd, hn⟩ | ⟨hc, hn⟩ | ⟨hc, hq, hv, hn⟩
    · have c1 : (((s[k]).toNat : Int) == 92) = true := eqT hc
      have HN := hid hn
      clear hn hc
      have hk1 : ((k : Int) + 1 < (s.size : Int)) := by omega
      have hk2 : ((k : Int) + 1 == (s.size : Int)) = false := by rw [beq_eq_false_iff_ne]; omega
      have hown0 := hown.row
      have b1 : ∀ u ∈ [Value.int .u8 ((s[k + 1]).toNat : Int)], u.oneCell' = true := by intro u hu; simp at hu; subst hu; rfl
      have b3 : xs.length + 1 ≤ maxLen := by unfold maxLen; omega
      have b4 : (xs.length + 1) * 1 ≤ 140737488355328 := by omega
      have b5 := hg.size
      rcases hd with hd | hd
      · have d1 : (((s[k + 1]).toNat : Int) != 34) = false := neF hd
        clear hd
        go_wp2_with (at_builtin; (refine wpList_append_own _ rfl _ _ 80 rfl w.heap.size 5 i0 (.int .u8 0) 1 1 Tryd.underlying80 hi hz0 hz1 hz2 rfl (by decide) _ _ _ rfl (hown0.alloc _) ⟨wr.heap.size, 0, none⟩ 1 1 [.int .u8 (s[k + 1]).toNat] rfl rfl (cell_one_new _ _ _) b1 b3 b4 (by simp; omega) ?_); intro v' w1 hown' hgrow _)
        go_roundw
        case rel => exact ⟨k + 2, xs ++ [s[k + 1]], by omega, by go_num, by simp; omega, Own8.of_row rfl hown', HN, (hg.alloc _).grown (hown0.alloc _) hgrow⟩
        case measure => simp [intOf]; omega
      · have d1 : (((s[k + 1]).toNat : Int) != 34) = true := neT (n := 34) (by omega)
        have d2 : (((s[k + 1]).toNat : Int) != 92) = false := neF hd
        clear hd
        go_wp2_with (at_builtin; (refine wpList_append_own _ rfl _ _ 80 rfl w.heap.size 5 i0 (.int .u8 0) 1 1 Tryd.underlying80 hi hz0 hz1 hz2 rfl (by decide) _ _ _ rfl (hown0.alloc _) ⟨wr.heap.size, 0, none⟩ 1 1 [.int .u8 (s[k + 1]).toNat] rfl rfl (cell_one_new _ _ _) b1 b3 b4 (by simp; omega) ?_); intro v' w1 hown' hgrow _)
        go_roundw
        case rel => exact ⟨k + 2, xs ++ [s[k + 1]], by omega, by go_num, by simp; omega, Own8.of_row rfl hown', HN, (hg.alloc _).grown (hown0.alloc _) hgrow⟩
        case measure => simp [intOf]; omega
    · have c1 : (((s[k]).toNat : Int) == 92) = false := eqF (n := 92) (by omega)
      have c2 : (((s[k]).toNat : Int) == 34) = true := eqT hc
      have HN := hid hn
      clear hn hc
      have hst := fun n => own8_string (hown.gr ((Gr.refl wr).drewN n))
      go_wp2
      go_quiet (fail)
      go_wp2
      go_ret3
      exact ⟨ntook_at s _ (k + 1) r (by omega) HN.out _ (by omega), hg.drewN _⟩
    · have c1 : (((s[k]).toNat : Int) == 92) = false := eqF hc
      have c2 : (((s[k]).toNat : Int) == 34) = false := eqF hq
      have v1 : 32 ≤ (s[k]).toNat ∧ (s[k]).toNat ≤ 126 := by simpa [visB] using hv
      obtain ⟨v1, v2⟩ := v1
      have HN := hid hn
      clear hn hc hq hv
      have hown0 := hown.row
      have b1 : ∀ u ∈ [Value.int .u8 ((s[k]).toNat : Int)], u.oneCell' = true := by intro u hu; simp at hu; subst hu; rfl
      have b3 : xs.length + 1 ≤ maxLen := by unfold maxLen; omega
      have b4 : (xs.length + 1) * 1 ≤ 140737488355328 := by omega
      have b5 := hg.size
      go_wp2_with (at_builtin; (refine wpList_append_own _ rfl _ _ 80 rfl w.heap.size 5 i0 (.int .u8 0) 1 1 Tryd.underlying80 hi hz0 hz1 hz2 rfl (by decide) _ _ _ rfl (hown0.alloc _) ⟨wr.heap.size, 0, none⟩ 1 1 [.int .u8 (s[k]).toNat] rfl rfl (cell_one_new _ _ _) b1 b3 b4 (by simp; omega) ?_); intro v' w1 hown' hgrow _)
      go_roundw
      case rel => exact ⟨k + 1, xs ++ [s[k]], by omega, by go_num, by simp; omega, Own8.of_row rfl hown', HN, (hg.alloc _).grown (hown0.alloc _) hgrow⟩
      case measure => simp [intOf]; omega

/-- (0, nothing, false) -/
def NNope (e : Ending) : Prop := e = .returned (.tuple #[.int .i64 0, .string ⟨#[]⟩, .bool false])

set_option maxHeartbeats 1000000 in
theorem quoted_none (s : ByteArray) (w : World) (hs : s.size ≤ 2147483647) (h : str (bl s) = none) :
    Calls Tryd.prog 56 #[.string s] w fun e w' => NNope e ∧ Gr w w' := by
  obtain ⟨i0, hi, hz0, hz1, hz2⟩ := info_parts info8
  rcases str_none h with h0 | ⟨h0, h34 | ⟨h34, hT⟩⟩
  · have hne : s.toList.isEmpty = true := by rw [bl_toList, List.isEmpty_iff]; exact List.eq_nil_of_length_eq_zero (by rw [bl_length]; exact h0)
    clear h h0
    go_enter Tryd.func56, Tryd.ntmps56
    go_wp2
    go_ret3
    exact ⟨rfl, Gr.refl _⟩
  · have hne : s.toList.isEmpty = false := notEmpty h0
    have h34' : (((s[0]).toNat : Int) != 34) = true := neT h34
    clear h h34
    go_enter Tryd.func56, Tryd.ntmps56
    go_wp2
    go_ret3
    exact ⟨rfl, Gr.refl _⟩
  have HT := hid hT
  have hne : s.toList.isEmpty = false := notEmpty h0
  have h34' : (((s[0]).toNat : Int) != 34) = false := neF h34
  clear h h34 hT
  go_enter Tryd.func56, Tryd.ntmps56
  go_wp2
  clear h34'
  go_loopw [2, 5] (fun i v wr => ∃ (k : Nat) (xs : Bs), k ≤ s.size ∧ i = .int .i64 k ∧ xs.length ≤ k ∧ Own8 wr w.heap.size v xs ∧ Hid (strT ((bl s).drop k) = none) ∧ Gr w wr) (fun i _ _ => s.size - (intOf i).toNat)
  case atStart => exact ⟨1, [], by omega, rfl, Nat.zero_le _, Own8.nil _ _, HT, Gr.refl _⟩
  case round =>
    obtain ⟨k, xs, hk, rfl, hxs, hown, hr, hg⟩ := hrel
    by_cases hlt : k < s.size
    · rcases strT_none s k hlt hr.out with ⟨hc, h1⟩ | ⟨hc, h1, hd, hd'⟩ | ⟨hc, h1, hd, hn⟩ | ⟨hc, hq, hv⟩ | ⟨hc, hq, hv, hn⟩
      · have c1 : (((s[k]).toNat : Int) == 92) = true := eqT hc
        clear hc
        have hk1 : ((k : Int) + 1 == (s.size : Int)) = true := by rw [beq_iff_eq]; omega
        go_wp2
        go_ret3
        exact ⟨rfl, hg⟩
      · have c1 : (((s[k]).toNat : Int) == 92) = true := eqT hc
        have d1 : (((s[k + 1]).toNat : Int) != 34) = true := neT hd
        have d2 : (((s[k + 1]).toNat : Int) != 92) = true := neT hd'
        have hk1 : ((k : Int) + 1 < (s.size : Int)) := by omega
        have hk2 : ((k : Int) + 1 == (s.size : Int)) = false := by rw [beq_eq_false_iff_ne]; omega
        clear hd hd' hc
        go_wp2
        go_ret3
        exact ⟨rfl, hg⟩
      · have c1 : (((s[k]).toNat : Int) == 92) = true := eqT hc
        have HN := hid hn
        clear hn hc
        have hk1 : ((k : Int) + 1 < (s.size : Int)) := by omega
        have hk2 : ((k : Int) + 1 == (s.size : Int)) = false := by rw [beq_eq_false_iff_ne]; omega
        have hown0 := hown.row
        have b1 : ∀ u ∈ [Value.int .u8 ((s[k + 1]).toNat : Int)], u.oneCell' = true := by intro u hu; simp at hu; subst hu; rfl
        have b3 : xs.length + 1 ≤ maxLen := by unfold maxLen; omega
        have b4 : (xs.length + 1) * 1 ≤ 140737488355328 := by omega
        have b5 := hg.size
        rcases hd with hd | hd
        · have d1 : (((s[k + 1]).toNat : Int) != 34) = false := neF hd
          clear hd
          go_wp2_with (at_builtin; (refine wpList_append_own _ rfl _ _ 80 rfl w.heap.size 5 i0 (.int .u8 0) 1 1 Tryd.underlying80 hi hz0 hz1 hz2 rfl (by decide) _ _ _ rfl (hown0.alloc _) ⟨wr.heap.size, 0, none⟩ 1 1 [.int .u8 (s[k + 1]).toNat] rfl rfl (cell_one_new _ _ _) b1 b3 b4 (by simp; omega) ?_); intro v' w1 hown' hgrow _)
          go_roundw
          case rel => exact ⟨k + 2, xs ++ [s[k + 1]], by omega, by go_num, by simp; omega, Own8.of_row rfl hown', HN, (hg.alloc _).grown (hown0.alloc _) hgrow⟩
          case measure => simp [intOf]; omega
        · have d1 : (((s[k + 1]).toNat : Int) != 34) = true := neT (n := 34) (by omega)
          have d2 : (((s[k + 1]).toNat : Int) != 92) = false := neF hd
          clear hd
          go_wp2_with (at_builtin; (refine wpList_append_own _ rfl _ _ 80 rfl w.heap.size 5 i0 (.int .u8 0) 1 1 Tryd.underlying80 hi hz0 hz1 hz2 rfl (by decide) _ _ _ rfl (hown0.alloc _) ⟨wr.heap.size, 0, none⟩ 1 1 [.int .u8 (s[k + 1]).toNat] rfl rfl (cell_one_new _ _ _) b1 b3 b4 (by simp; omega) ?_); intro v' w1 hown' hgrow _)
          go_roundw
          case rel => exact ⟨k + 2, xs ++ [s[k + 1]], by omega, by go_num, by simp; omega, Own8.of_row rfl hown', HN, (hg.alloc _).grown (hown0.alloc _) hgrow⟩
          case measure => simp [intOf]; omega
      · have c1 : (((s[k]).toNat : Int) == 92) = false := eqF hc
        have c2 : (((s[k]).toNat : Int) == 34) = false := eqF hq
        have v1 : (s[k]).toNat < 32 ∨ 32 ≤ (s[k]).toNat ∧ 126 < (s[k]).toNat := by simp [visB] at hv; omega
        clear hc hq hv
        rcases v1 with v1 | ⟨v1, v2⟩
        · go_wp2
          go_ret3
          exact ⟨rfl, hg⟩
        · go_wp2
          go_ret3
          exact ⟨rfl, hg⟩
      · have c1 : (((s[k]).toNat : Int) == 92) = false := eqF hc
        have c2 : (((s[k]).toNat : Int) == 34) = false := eqF hq
        have v1 : 32 ≤ (s[k]).toNat ∧ (s[k]).toNat ≤ 126 := by simpa [visB] using hv
        obtain ⟨v1, v2⟩ := v1
        have HN := hid hn
        clear hn hc hq hv
        have hown0 := hown.row
        have b1 : ∀ u ∈ [Value.int .u8 ((s[k]).toNat : Int)], u.oneCell' = true := by intro u hu; simp at hu; subst hu; rfl
        have b3 : xs.length + 1 ≤ maxLen := by unfold maxLen; omega
        have b4 : (xs.length + 1) * 1 ≤ 140737488355328 := by omega
        have b5 := hg.size
        go_wp2_with (at_builtin; (refine wpList_append_own _ rfl _ _ 80 rfl w.heap.size 5 i0 (.int .u8 0) 1 1 Tryd.underlying80 hi hz0 hz1 hz2 rfl (by decide) _ _ _ rfl (hown0.alloc _) ⟨wr.heap.size, 0, none⟩ 1 1 [.int .u8 (s[k]).toNat] rfl rfl (cell_one_new _ _ _) b1 b3 b4 (by simp; omega) ?_); intro v' w1 hown' hgrow _)
        go_roundw
        case rel => exact ⟨k + 1, xs ++ [s[k]], by omega, by go_num, by simp; omega, Own8.of_row rfl hown', HN, (hg.alloc _).grown (hown0.alloc _) hgrow⟩
        case measure => simp [intOf]; omega
    · go_wp2
      go_ret3
      exact ⟨rfl, hg⟩

end Go.Proofs.YtohjnegllfdemaaDoor
