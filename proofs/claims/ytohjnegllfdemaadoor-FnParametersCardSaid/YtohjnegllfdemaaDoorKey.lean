/-
  The walks of countLeftWhitespace and consumeKey.
-/
import Derived.Test.YtohjnegllfdemaaDoorStr
set_option maxRecDepth 100000
namespace Go.Proofs.YtohjnegllfdemaaDoor
open Go.RowKit

/-- How many blanks and tabs stand ahead. -/
def WsN (s : ByteArray) (e : Ending) : Prop := ∃ k : Nat, k ≤ s.size ∧ e = .returned (.int .i64 k) ∧ (bl s).drop k = skip wsB (bl s)

theorem wsN_at (s : ByteArray) (k : Nat) (r : Bs) (hk : k ≤ s.size) (h : (bl s).drop k = r) (hr : skip wsB (bl s) = r) : WsN s (.returned (.int .i64 (k : Int))) := ⟨k, hk, rfl, h.trans hr.symm⟩

set_option maxHeartbeats 1000000 in
theorem countLeftWhitespace_any (s : ByteArray) (w : World) (hs : s.size ≤ maxLen) :
    Calls Tryd.prog 72 #[.string s] w fun e w' => WsN s e ∧ Gr w w' := by
  unfold maxLen at hs
  obtain ⟨cap, C, hcv, hC⟩ := conv_bytes w s
  obtain ⟨r, hr0⟩ : ∃ r, skip wsB (bl s) = r := ⟨_, rfl⟩
  have Hsk := hid hr0
  have HC := hid hC
  clear hr0 hC
  go_enter Tryd.func72, Tryd.ntmps72
  go_wp2_with fail
  clear hcv
  go_loopw [3, 9] (fun i j wr => ∃ k : Nat, k ≤ s.size ∧ i = .int .i64 k ∧ j = .int .i64 k ∧ Hid (skip wsB ((bl s).drop k) = r) ∧ Cells8 wr w.heap.size (bl s) ∧ Gr w wr) (fun i _ _ => s.size - (intOf i).toNat)
  case atStart => exact ⟨0, Nat.zero_le _, rfl, rfl, Hsk, Cells8.gr (cells8_alloc w C _ _ (bl s) HC.out) ((Gr.refl _).drew), ((Gr.refl _).alloc _).drew⟩
  case round =>
    obtain ⟨k, hk, rfl, rfl, hr, hcells, hg⟩ := hrel
    by_cases hlt : k < s.size
    · have hcell := hcells k (by rw [bl_length]; exact hlt)
      have hbk : ((bl s)[k]'(by rw [bl_length]; exact hlt)).toNat = (s[k]).toNat := rfl
      rw [hbk] at hcell
      clear hbk
      by_cases h1 : (s[k]).toNat = 32
      · have c1 : (((s[k]).toNat : Int) != 32) = false := neF h1
        have HN := hid (skip_next wsB s k r hlt hr.out (by simp [wsB, h1]))
        clear h1
        go_wp2_with fail
        go_roundw
        case rel => exact ⟨k + 1, by omega, by go_num, by go_num, HN, hcells, hg⟩
        case measure => simp [intOf]; omega
      · have c1 : (((s[k]).toNat : Int) != 32) = true := neT h1
        by_cases h2 : (s[k]).toNat = 9
        · have c2 : (((s[k]).toNat : Int) != 9) = false := neF h2
          have HN := hid (skip_next wsB s k r hlt hr.out (by simp [wsB, h2]))
          clear h1 h2
          go_wp2_with fail
          go_roundw
          case rel => exact ⟨k + 1, by omega, by go_num, by go_num, HN, hcells, hg⟩
          case measure => simp [intOf]; omega
        · have c2 : (((s[k]).toNat : Int) != 9) = true := neT h2
          have HN := hid (skip_stop wsB s k r hlt hr.out (by simp [wsB, h1, h2]))
          clear h1 h2
          go_wp2_with fail
          go_ret
          exact ⟨wsN_at s k r hk HN.out Hsk.out, hg⟩
    · have HN := hid (skip_end wsB s k r hlt hr.out)
      go_wp2_with fail
      go_ret
      exact ⟨wsN_at s k r hk HN.out Hsk.out, hg⟩

theorem key_some {s : ByteArray} {r : Bs} (h : key (bl s) = some r) : ∃ h0 : 0 < s.size, (lowB (s[0]).toNat = true ∨ lowB (s[0]).toNat = false ∧ (((s[0]).toNat : Int) != 42) = false) ∧ skip keyB (bl s) = r := by
  cases hb : bl s with
  | nil => rw [hb] at h; cases h
  | cons c t =>
    obtain ⟨h0, hc0⟩ := bl_cons hb
    rw [hb, key] at h
    split at h
    · rename_i hx
      refine ⟨h0, ?_, Option.some.inj h⟩
      rw [hc0]
      cases hy : lowB c.toNat
      · rw [hy] at hx
        have : c.toNat = 42 := by simpa using hx
        exact .inr ⟨rfl, neF this⟩
      · exact .inl rfl
    · cases h
theorem key_none {s : ByteArray} (h : key (bl s) = none) : s.size = 0 ∨ ∃ h0 : 0 < s.size, lowB (s[0]).toNat = false ∧ (((s[0]).toNat : Int) != 42) = true := by
  cases hb : bl s with
  | nil => exact .inl (by rw [← bl_length, hb]; rfl)
  | cons c t =>
    obtain ⟨h0, hc0⟩ := bl_cons hb
    rw [hb, key] at h
    split at h
    · cases h
    · rename_i hx
      refine .inr ⟨h0, ?_⟩
      rw [hc0]
      simp only [Bool.not_eq_true, Bool.or_eq_false_iff] at hx
      exact ⟨hx.1, neT (n := 42) (by simpa using hx.2)⟩

set_option maxHeartbeats 2000000 in
theorem consumeKey_some (s : ByteArray) (r : Bs) (w : World) (hs : s.size ≤ maxLen) (h : key (bl s) = some r) :
    Calls Tryd.prog 74 #[.string s] w fun e w' => Took s r e ∧ Gr w w' := by
  unfold maxLen at hs
  obtain ⟨cap, C, hcv, hC⟩ := conv_bytes w s
  obtain ⟨h0, ha2, hsk⟩ := key_some h
  have Hsk := hid hsk
  have HC := hid hC
  have hne := lenF h0
  clear h hsk hC
  have kc := fun (w : World) (C : Array Value) (n c : Nat) => Lib.run_convert_bytes_const (P := Tryd.prog) w 80 5 C n c Tryd.underlying80 Tryd.underlying5
  rcases ha2 with ha | ⟨ha, ha'⟩
  all_goals
    go_enter Tryd.func74, Tryd.ntmps74
    go_wp2_with (go_at_call 96; refine (isLCAlpha_any _ _).mono ?_; rintro e w' ⟨rfl, rfl⟩)
    clear hcv ha
    go_loopw [5, 26] (fun i j wr => ∃ k : Nat, k ≤ s.size ∧ i = .int .i64 k ∧ j = .int .i64 k ∧ Hid (skip keyB ((bl s).drop k) = r) ∧ Cells8 wr w.heap.size (bl s) ∧ Gr w wr) (fun i _ _ => s.size - (intOf i).toNat)
    case atStart => exact ⟨0, Nat.zero_le _, rfl, rfl, Hsk, Cells8.gr (cells8_alloc w C _ _ (bl s) HC.out) ((Gr.refl _).drew), ((Gr.refl _).alloc _).drew⟩
    case round =>
      obtain ⟨k, hk, rfl, rfl, hr, hcells, hg⟩ := hrel
      by_cases hlt : k < s.size
      · have hcell := hcells k (by rw [bl_length]; exact hlt)
        have hbk : ((bl s)[k]'(by rw [bl_length]; exact hlt)).toNat = (s[k]).toNat := rfl
        rw [hbk] at hcell
        clear hbk
        cases h1 : lowB (s[k]).toNat
        · cases h2 : digB (s[k]).toNat
          · go_wp2_with (first | (go_at_call 96; refine (isLCAlpha_any _ _).mono ?_; rintro e w' ⟨rfl, rfl⟩) | (go_at_call 90; refine (isDigit_any _ _).mono ?_; rintro e w' ⟨rfl, rfl⟩))
            refine (contains_any _ keyMarks _ _ _ _ rfl (by decide) (cells8_alloc _ _ _ _ _ rfl)).mono ?_
            rintro e w' ⟨rfl, rfl⟩
            cases h3 : amongB (s[k]).toNat keyMarks
            · go_wp2_with fail
              go_quiet (fail)
              go_wp2_with fail
              go_ret3
              exact ⟨took_at s k r hk (skip_stop keyB s k r hlt hr.out (by simp [keyB, h1, h2, h3])), (hg.alloc _).drewN _⟩
            · go_wp2_with fail
              go_roundw
              case rel => exact ⟨k + 1, by omega, by go_num, by go_num, hid (skip_next keyB s k r hlt hr.out (by simp [keyB, h1, h2, h3])), hcells.gr ((Gr.refl _).alloc _), hg.alloc _⟩
              case measure => simp [intOf]; omega
          · go_wp2_with (first | (go_at_call 96; refine (isLCAlpha_any _ _).mono ?_; rintro e w' ⟨rfl, rfl⟩) | (go_at_call 90; refine (isDigit_any _ _).mono ?_; rintro e w' ⟨rfl, rfl⟩))
            go_roundw
            case rel => exact ⟨k + 1, by omega, by go_num, by go_num, hid (skip_next keyB s k r hlt hr.out (by simp [keyB, h1, h2])), hcells, hg⟩
            case measure => simp [intOf]; omega
        · go_wp2_with (go_at_call 96; refine (isLCAlpha_any _ _).mono ?_; rintro e w' ⟨rfl, rfl⟩)
          go_roundw
          case rel => exact ⟨k + 1, by omega, by go_num, by go_num, hid (skip_next keyB s k r hlt hr.out (by simp [keyB, h1])), hcells, hg⟩
          case measure => simp [intOf]; omega
      · go_wp2_with fail
        go_quiet (fail)
        go_wp2_with fail
        go_ret3
        exact ⟨took_at s k r hk (skip_end keyB s k r hlt hr.out), hg.drewN _⟩

theorem consumeKey_none (s : ByteArray) (w : World) (_hs : s.size ≤ maxLen) (h : key (bl s) = none) :
    Calls Tryd.prog 74 #[.string s] w fun e w' => Nope e ∧ Gr w w' := by
  rcases key_none h with h0 | ⟨h0, h1, h3⟩
  · have hne := lenT h0
    clear h h0
    go_enter Tryd.func74, Tryd.ntmps74
    go_wp2_with fail
    go_ret3
    exact ⟨⟨_, _, rfl⟩, Gr.refl _⟩
  · have hne := lenF h0
    clear h
    go_enter Tryd.func74, Tryd.ntmps74
    go_wp2_with (go_at_call 96; refine (isLCAlpha_any _ _).mono ?_; rintro e w' ⟨rfl, rfl⟩)
    go_ret3
    exact ⟨⟨_, _, rfl⟩, Gr.refl _⟩

end Go.Proofs.YtohjnegllfdemaaDoor
