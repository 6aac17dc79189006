/-
  The walks of spec.token and spec.base64.
-/
import Derived.Test.YtohjnegllfdemaaDoorNum
set_option maxRecDepth 100000
namespace Go.Proofs.YtohjnegllfdemaaDoor
open Go.RowKit

theorem tokB2_eq (n : Nat) : tokB2 n = (tokB n || (n == 58 || n == 47)) := by
  unfold tokB2 amongB
  cases tokB n
  · rw [Bool.eq_iff_iff]; simp; omega
  · simp

theorem tok_some {s : ByteArray} {r : Bs} (h : tok (bl s) = some r) : ∃ h0 : 0 < s.size, (alpB (s[0]).toNat = true ∨ alpB (s[0]).toNat = false ∧ (((s[0]).toNat : Int) != 42) = false) ∧ skip tokB2 (bl s) = r ∧ skip tokB2 ((bl s).drop 1) = r := by
  cases hb : bl s with
  | nil => rw [hb] at h; cases h
  | cons c t =>
    obtain ⟨h0, hc0⟩ := bl_cons hb
    rw [hb, tok] at h
    split at h
    · rename_i hx
      have hr := Option.some.inj h
      have h42 : alpB c.toNat = false → c.toNat = 42 := fun ha => by rw [ha] at hx; simpa using hx
      have ht : tokB2 c.toNat = true := by
        cases ha : alpB c.toNat
        · rw [h42 ha]; decide
        · simp [tokB2, tokB, ha]
      refine ⟨h0, ?_, hr, ?_⟩
      · rw [hc0]
        cases ha : alpB c.toNat
        · refine .inr ⟨rfl, ?_⟩
          rw [h42 ha]
          rfl
        · exact .inl rfl
      · rw [skip_yes ht] at hr
        exact hr
    · cases h

/-- The length of what stands ahead of a rest. -/
def TokN (s : ByteArray) (r : Bs) (e : Ending) : Prop := e = .returned (.int .i64 ((s.size - r.length : Nat) : Int)) ∧ r.length ≤ s.size
theorem tokN_at (s : ByteArray) (k : Nat) (r : Bs) (hk : k ≤ s.size) (h : (bl s).drop k = r) : TokN s r (.returned (.int .i64 (k : Int))) := by
  have hl : r.length = s.size - k := by rw [← h, List.length_drop, bl_length]
  have hkk : ((s.size - r.length : Nat) : Int) = (k : Int) := by omega
  exact ⟨by rw [hkk], by omega⟩

set_option maxHeartbeats 1000000 in
theorem token_some (s : ByteArray) (r : Bs) (w : World) (hs : s.size ≤ 2147483647) (h : tok (bl s) = some r) :
    Calls Tryd.prog 58 #[.string s] w fun e w' => TokN s r e ∧ w = w' := by
  obtain ⟨h0, ha2, _, hT⟩ := tok_some h
  have HT := hid hT
  clear h hT
  have hne : s.toList.isEmpty = false := notEmpty h0
  rcases ha2 with ha | ⟨ha, ha'⟩
  all_goals
    go_enter Tryd.func58, Tryd.ntmps58
    go_wp2_with (go_at_call 57; refine (letter_any _ _).mono ?_; rintro e w' ⟨rfl, rfl⟩)
    clear ha
    go_loop [3] (fun i => ∃ k : Nat, 1 ≤ k ∧ k ≤ s.size ∧ i = .int .i64 k ∧ Hid (skip tokB2 ((bl s).drop k) = r)) (fun i => s.size - (intOf i).toNat)
    case atStart => exact ⟨1, Nat.le_refl _, by omega, rfl, HT⟩
    case round =>
      obtain ⟨k, hk1, hk, rfl, hr⟩ := hrel
      by_cases hlt : k < s.size
      · cases h1 : tokB (s[k]).toNat <;> cases h2 : (((s[k]).toNat : Int) == 58) <;> cases h3 : (((s[k]).toNat : Int) == 47)
        all_goals
          have e2 : ((s[k]).toNat == 58) = (((s[k]).toNat : Int) == 58) := by rw [Bool.eq_iff_iff]; simp; omega
          have e3 : ((s[k]).toNat == 47) = (((s[k]).toNat : Int) == 47) := by rw [Bool.eq_iff_iff]; simp; omega
          have ht := tokB2_eq (s[k]).toNat
          rw [h1, e2, e3, h2, h3] at ht
          have HTK := hid ht
          clear e2 e3 ht
          go_wp2_with (go_at_call 79; refine (tchar_any _ _).mono ?_; rintro e w' ⟨rfl, rfl⟩)
          first
            | (go_round
               case rel => exact ⟨k + 1, by omega, by omega, by go_num, hid (skip_next tokB2 s k r hlt hr.out HTK.out)⟩
               case measure => simp [intOf]; omega)
            | (go_ret
               exact ⟨tokN_at s k r hk (skip_stop tokB2 s k r hlt hr.out HTK.out), rfl⟩)
      · go_wp2_with fail
        go_ret
        exact ⟨tokN_at s k r hk (skip_end tokB2 s k r hlt hr.out), rfl⟩

theorem token_none (s : ByteArray) (w : World) (h : tok (bl s) = none) :
    Calls Tryd.prog 58 #[.string s] w fun e w' => e = .returned (.int .i64 0) ∧ w = w' := by
  rcases tok_none h with hl | ⟨c, t, hl, h1, h2⟩
  · have hne : s.toList.isEmpty = true := by rw [bl_toList, hl]; rfl
    clear h hl
    go_enter Tryd.func58, Tryd.ntmps58
    go_wp2_with fail
    go_ret
    exact ⟨rfl, rfl⟩
  · obtain ⟨h0, hc0⟩ := bl_cons hl
    subst hc0
    have hne : s.toList.isEmpty = false := notEmpty h0
    have h3 : (((s[0]).toNat : Int) != 42) = true := neT h2
    clear h hl h2
    go_enter Tryd.func58, Tryd.ntmps58
    go_wp2_with (go_at_call 57; refine (letter_any _ _).mono ?_; rintro e w' ⟨rfl, rfl⟩)
    go_ret
    exact ⟨rfl, rfl⟩

end Go.Proofs.YtohjnegllfdemaaDoor
