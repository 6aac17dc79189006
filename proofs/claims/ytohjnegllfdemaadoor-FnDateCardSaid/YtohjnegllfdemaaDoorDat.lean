/-
  Several texts in one: Key, Int, Dat.
-/
import Derived.Test.YtohjnegllfdemaaDoorOwn
import Derived.Test.YtohjnegllfdemaaDoorNum
set_option maxRecDepth 100000
namespace Go.Proofs.YtohjnegllfdemaaDoor
open Go.RowKit

/-!
  The walks of countLeftWhitespace and consumeKey.
-/
/-- How many blanks and tabs stand ahead. -/
def WsN (s : ByteArray) (e : Ending) : Prop := ∃ k : Nat, k ≤ s.size ∧ e = .returned (.int .i64 k) ∧ (bl s).drop k = skip wsB (bl s)

theorem wsN_at (s : ByteArray) (k : Nat) (r : Bs) (hk : k ≤ s.size) (h : (bl s).drop k = r) (hr : skip wsB (bl s) = r) : WsN s (.returned (.int .i64 (k : Int))) := ⟨k, hk, rfl, h.trans hr.symm⟩

set_option maxHeartbeats 1000000 in
theorem countLeftWhitespace_any (s : ByteArray) (w : World) (hs : s.size ≤ maxLen) :
    Calls Tryd.prog 72 #[.string s] w fun e w' => WsN s e ∧ Gr w w' := by
  unfold maxLen at hs
  obtain ⟨cap, C, hcv, hC⟩ := conv_bytes w s
  obtain ⟨r, hr0⟩ : ∃ r, skip wsB (bl s) = r := ⟨_, rfl⟩
  have Hsk := hid hr0
  have HC := hid hC
  clear hr0 hC
  go_enter Tryd.func72, Tryd.ntmps72
  go_wp2_with fail
  clear hcv
  go_loopw [3, 9] (fun i j wr => ∃ k : Nat, k ≤ s.size ∧ i = .int .i64 k ∧ j = .int .i64 k ∧ Hid (skip wsB ((bl s).drop k) = r) ∧ Cells8 wr w.heap.size (bl s) ∧ Gr w wr) (fun i _ _ => s.size - (intOf i).toNat)
  case atStart => exact ⟨0, Nat.zero_le _, rfl, rfl, Hsk, Cells8.gr (cells8_alloc w C _ _ (bl s) HC.out) ((Gr.refl _).drew), ((Gr.refl _).alloc _).drew⟩
  case round =>
    obtain ⟨k, hk, rfl, rfl, hr, hcells, hg⟩ := hrel
    by_cases hlt : k < s.size
    · have hcell := hcells k (by rw [bl_length]; exact hlt)
      have hbk : ((bl s)[k]'(by rw [bl_length]; exact hlt)).toNat = (s[k]).toNat := rfl
      rw [hbk] at hcell
      clear hbk
      by_cases h1 : (s[k]).toNat = 32
      · have c1 : (((s[k]).toNat : Int) != 32) = false := neF h1
        have HN := hid (skip_next wsB s k r hlt hr.out (by simp [wsB, h1]))
        clear h1
        go_wp2_with fail
        go_roundw
        case rel => exact ⟨k + 1, by omega, by go_num, by go_num, HN, hcells, hg⟩
        case measure => simp [intOf]; omega
      · have c1 : (((s[k]).toNat : Int) != 32) = true := neT h1
        by_cases h2 : (s[k]).toNat = 9
        · have c2 : (((s[k]).toNat : Int) != 9) = false := neF h2
          have HN := hid (skip_next wsB s k r hlt hr.out (by simp [wsB, h2]))
          clear h1 h2
          go_wp2_with fail
          go_roundw
          case rel => exact ⟨k + 1, by omega, by go_num, by go_num, HN, hcells, hg⟩
          case measure => simp [intOf]; omega
        · have c2 : (((s[k]).toNat : Int) != 9) = true := neT h2
          have HN := hid (skip_stop wsB s k r hlt hr.out (by simp [wsB, h1, h2]))
          clear h1 h2
          go_wp2_with fail
          go_ret
          exact ⟨wsN_at s k r hk HN.out Hsk.out, hg⟩
    · have HN := hid (skip_end wsB s k r hlt hr.out)
      go_wp2_with fail
      go_ret
      exact ⟨wsN_at s k r hk HN.out Hsk.out, hg⟩

theorem key_some {s : ByteArray} {r : Bs} (h : key (bl s) = some r) : ∃ h0 : 0 < s.size, (lowB (s[0]).toNat = true ∨ lowB (s[0]).toNat = false ∧ (((s[0]).toNat : Int) != 42) = false) ∧ skip keyB (bl s) = r := by
  cases hb : bl s with
  | nil => rw [hb] at h; cases h
  | cons c t =>
    obtain ⟨h0, hc0⟩ := bl_cons hb
    rw [hb, key] at h
    split at h
    · rename_i hx
      refine ⟨h0, ?_, Option.some.inj h⟩
      rw [hc0]
      cases hy : lowB c.toNat
      · rw [hy] at hx
        have : c.toNat = 42 := by simpa using hx
        exact .inr ⟨rfl, neF this⟩
      · exact .inl rfl
    · cases h
theorem key_none {s : ByteArray} (h : key (bl s) = none) : s.size = 0 ∨ ∃ h0 : 0 < s.size, lowB (s[0]).toNat = false ∧ (((s[0]).toNat : Int) != 42) = true := by
  cases hb : bl s with
  | nil => exact .inl (by rw [← bl_length, hb]; rfl)
  | cons c t =>
    obtain ⟨h0, hc0⟩ := bl_cons hb
    rw [hb, key] at h
    split at h
    · cases h
    · rename_i hx
      refine .inr ⟨h0, ?_⟩
      rw [hc0]
      simp only [Bool.not_eq_true, Bool.or_eq_false_iff] at hx
      exact ⟨hx.1, neT (n := 42) (by simpa using hx.2)⟩

set_option maxHeartbeats 2000000 in
theorem consumeKey_some (s : ByteArray) (r : Bs) (w : World) (hs : s.size ≤ maxLen) (h : key (bl s) = some r) :
    Calls Tryd.prog 74 #[.string s] w fun e w' => Took s r e ∧ Gr w w' := by
  unfold maxLen at hs
  obtain ⟨cap, C, hcv, hC⟩ := conv_bytes w s
  obtain ⟨h0, ha2, hsk⟩ := key_some h
  have Hsk := hid hsk
  have HC := hid hC
  have hne := lenF h0
  clear h hsk hC
  have kc := fun (w : World) (C : Array Value) (n c : Nat) => Lib.run_convert_bytes_const (P := Tryd.prog) w 80 5 C n c Tryd.underlying80 Tryd.underlying5
  rcases ha2 with ha | ⟨ha, ha'⟩
  all_goals
    go_enter Tryd.func74, Tryd.ntmps74
    go_wp2_with (go_at_call 96; refine (isLCAlpha_any _ _).mono ?_; rintro e w' ⟨rfl, rfl⟩)
    clear hcv ha
    go_loopw [5, 26] (fun i j wr => ∃ k : Nat, k ≤ s.size ∧ i = .int .i64 k ∧ j = .int .i64 k ∧ Hid (skip keyB ((bl s).drop k) = r) ∧ Cells8 wr w.heap.size (bl s) ∧ Gr w wr) (fun i _ _ => s.size - (intOf i).toNat)
    case atStart => exact ⟨0, Nat.zero_le _, rfl, rfl, Hsk, Cells8.gr (cells8_alloc w C _ _ (bl s) HC.out) ((Gr.refl _).drew), ((Gr.refl _).alloc _).drew⟩
    case round =>
      obtain ⟨k, hk, rfl, rfl, hr, hcells, hg⟩ := hrel
      by_cases hlt : k < s.size
      · have hcell := hcells k (by rw [bl_length]; exact hlt)
        have hbk : ((bl s)[k]'(by rw [bl_length]; exact hlt)).toNat = (s[k]).toNat := rfl
        rw [hbk] at hcell
        clear hbk
        cases h1 : lowB (s[k]).toNat
        · cases h2 : digB (s[k]).toNat
          · go_wp2_with (first | (go_at_call 96; refine (isLCAlpha_any _ _).mono ?_; rintro e w' ⟨rfl, rfl⟩) | (go_at_call 90; refine (isDigit_any _ _).mono ?_; rintro e w' ⟨rfl, rfl⟩))
            refine (contains_any _ keyMarks _ _ _ _ rfl (by decide) (cells8_alloc _ _ _ _ _ rfl)).mono ?_
            rintro e w' ⟨rfl, rfl⟩
            cases h3 : amongB (s[k]).toNat keyMarks
            · go_wp2_with fail
              go_quiet (fail)
              go_wp2_with fail
              go_ret3
              exact ⟨took_at s k r hk (skip_stop keyB s k r hlt hr.out (by simp [keyB, h1, h2, h3])), (hg.alloc _).drewN _⟩
            · go_wp2_with fail
              go_roundw
              case rel => exact ⟨k + 1, by omega, by go_num, by go_num, hid (skip_next keyB s k r hlt hr.out (by simp [keyB, h1, h2, h3])), hcells.gr ((Gr.refl _).alloc _), hg.alloc _⟩
              case measure => simp [intOf]; omega
          · go_wp2_with (first | (go_at_call 96; refine (isLCAlpha_any _ _).mono ?_; rintro e w' ⟨rfl, rfl⟩) | (go_at_call 90; refine (isDigit_any _ _).mono ?_; rintro e w' ⟨rfl, rfl⟩))
            go_roundw
            case rel => exact ⟨k + 1, by omega, by go_num, by go_num, hid (skip_next keyB s k r hlt hr.out (by simp [keyB, h1, h2])), hcells, hg⟩
            case measure => simp [intOf]; omega
        · go_wp2_with (go_at_call 96; refine (isLCAlpha_any _ _).mono ?_; rintro e w' ⟨rfl, rfl⟩)
          go_roundw
          case rel => exact ⟨k + 1, by omega, by go_num, by go_num, hid (skip_next keyB s k r hlt hr.out (by simp [keyB, h1])), hcells, hg⟩
          case measure => simp [intOf]; omega
      · go_wp2_with fail
        go_quiet (fail)
        go_wp2_with fail
        go_ret3
        exact ⟨took_at s k r hk (skip_end keyB s k r hlt hr.out), hg.drewN _⟩

theorem consumeKey_none (s : ByteArray) (w : World) (_hs : s.size ≤ maxLen) (h : key (bl s) = none) :
    Calls Tryd.prog 74 #[.string s] w fun e w' => Nope e ∧ Gr w w' := by
  rcases key_none h with h0 | ⟨h0, h1, h3⟩
  · have hne := lenT h0
    clear h h0
    go_enter Tryd.func74, Tryd.ntmps74
    go_wp2_with fail
    go_ret3
    exact ⟨⟨_, _, rfl⟩, Gr.refl _⟩
  · have hne := lenF h0
    clear h
    go_enter Tryd.func74, Tryd.ntmps74
    go_wp2_with (go_at_call 96; refine (isLCAlpha_any _ _).mono ?_; rintro e w' ⟨rfl, rfl⟩)
    go_ret3
    exact ⟨⟨_, _, rfl⟩, Gr.refl _⟩

/-!
  The walk of consumeIntegerOrDecimal.
-/
/-- What consumeIntegerOrDecimal gives. -/
def IntPost (s : ByteArray) (R : Option (Bool × Bs)) (e : Ending) : Prop :=
  match R with
  | none => Nope e
  | some (_, r) => Took s r e

/-- The loop's head: ahead of the point, or behind it. -/
def IntInv (s : ByteArray) (o : Nat) (R : Option (Bool × Bs)) (i per d : Value) : Prop :=
  (∃ k : Nat, k ≤ s.size ∧ o ≤ k ∧ i = .int .i64 k ∧ per = .int .i64 0 ∧ d = .bool false ∧ num1 (k - o) ((bl s).drop k) = R ∧ (k = o → ∃ h : o < s.size, digB (s[o]).toNat = true)) ∨
  (∃ (j p : Nat) (h : j < s.size), p ≤ j ∧ o < p ∧ p ≤ o + 12 ∧ i = .int .i64 (j + 1 : Nat) ∧ per = .int .i64 p ∧ d = .bool true ∧ num2 (j - p) ((bl s).drop (j + 1)) = R ∧ ((j = p ∧ (s[j]).toNat = 46) ∨ (p < j ∧ digB (s[j]).toNat = true)))

theorem dig_ne {n : Nat} (h : digB n = true) : n ≠ 46 := by
  intro e
  subst e
  cases h

set_option maxHeartbeats 4000000 in
theorem int_minus (s : ByteArray) (R : Option (Bool × Bs)) (w : World) (hs : s.size ≤ maxLen) (h0 : 1 < s.size) (hm : (((s[0]).toNat : Int) == 45) = true) (hd0 : digB (s[1]).toNat = true) (HR : Hid (num1 0 ((bl s).drop 1) = R)) :
    Calls Tryd.prog 75 #[.string s] w fun e w' => IntPost s R e ∧ Gr w w' := by
  unfold maxLen at hs
  have hse : ¬ s = ByteArray.empty := by intro e; rw [e] at h0; simp at h0
  have HI : IntInv s 1 R (.int .i64 1) (.int .i64 0) (.bool false) := .inl ⟨1, by omega, Nat.le_refl _, rfl, rfl, rfl, HR.out, fun _ => ⟨h0, hd0⟩⟩
  go_enter Tryd.func75, Tryd.ntmps75
  go_wp2_with (go_at_call 90; refine (isDigit_any _ _).mono ?_; rintro e w' ⟨rfl, rfl⟩)
  clear hm hd0
  go_loop [5, 7, 8] (fun i per d => IntInv s 1 R i per d) (fun i _ _ => s.size - (intOf i).toNat)
  case atStart => exact HI
  case round =>
    clear HI
    rcases hrel with ⟨k, hk, hok, rfl, rfl, rfl, hr, hko⟩ | ⟨j, p, hjs, hpj0, hop, hp12, rfl, rfl, rfl, hr, hj⟩
    · by_cases hlt : k < s.size
      · rcases num1_step s k (k - 1) R hlt hr with ⟨hd, hx⟩ | ⟨hd, hc, hn, ⟨h12, hx⟩ | ⟨h12, hx⟩⟩ | ⟨hd, hc, hx⟩
        · have HN : IntInv s 1 R (.int .i64 ((k + 1 : Nat) : Int)) (.int .i64 0) (.bool false) := .inl ⟨k + 1, by omega, by omega, rfl, rfl, rfl, by rw [show k + 1 - 1 = k - 1 + 1 from by omega]; exact hx, fun h => absurd h (by omega)⟩
          have HH := hid HN
          clear HN hr hx hko
          go_wp2_with (go_at_call 90; refine (isDigit_any _ _).mono ?_; rintro e w' ⟨rfl, rfl⟩)
          go_round
          case rel => simpa using HH.out
          case measure => simp [intOf]; omega
        · have HX := hid hx
          have c1 : (((s[k]).toNat : Int) == 46) = true := eqT hc
          have q1 : (12 : Int) < (k : Int) - 1 := by omega
          clear hr hx hko hc
          go_wp2_with (go_at_call 90; refine (isDigit_any _ _).mono ?_; rintro e w' ⟨rfl, rfl⟩)
          go_ret3
          exact ⟨by rw [HX.out]; exact ⟨_, _, rfl⟩, Gr.refl _⟩
        · have HN : IntInv s 1 R (.int .i64 ((k + 1 : Nat) : Int)) (.int .i64 k) (.bool true) := .inr ⟨k, k, hlt, Nat.le_refl _, by omega, by omega, rfl, rfl, rfl, by rw [Nat.sub_self]; exact hx, .inl ⟨rfl, hc⟩⟩
          have HH := hid HN
          have c1 : (((s[k]).toNat : Int) == 46) = true := eqT hc
          have q1 : (k : Int) - 1 ≤ 12 := by omega
          clear HN hr hx hko hc
          go_wp2_with (go_at_call 90; refine (isDigit_any _ _).mono ?_; rintro e w' ⟨rfl, rfl⟩)
          go_round
          case rel => simpa using HH.out
          case measure => simp [intOf]; omega
        · have hn : k ≠ 1 := by
            intro e
            subst e
            obtain ⟨_, h⟩ := hko rfl
            rw [hd] at h
            cases h
          have c1 : (((s[k]).toNat : Int) == 46) = false := eqF (n := 46) (by omega)
          clear hr hko hc
          by_cases h15 : 15 < k - 1
          · have HX := hid (show R = none by rw [hx, if_pos (by omega)])
            clear hx
            have q1 : (15 : Int) < (k : Int) - 1 := by omega
            go_wp2_with (go_at_call 90; refine (isDigit_any _ _).mono ?_; rintro e w' ⟨rfl, rfl⟩)
            go_ret3
            exact ⟨by rw [HX.out]; exact ⟨_, _, rfl⟩, Gr.refl _⟩
          · have HX := hid (show R = some (false, (bl s).drop k) by rw [hx, if_neg (by omega)])
            clear hx
            have q1 : (k : Int) - 1 ≤ 15 := by omega
            go_wp2_with (go_at_call 90; refine (isDigit_any _ _).mono ?_; rintro e w' ⟨rfl, rfl⟩)
            go_quiet (fail)
            go_wp2
            go_ret3
            exact ⟨by rw [HX.out]; exact took_at s k _ hk rfl, (Gr.refl _).drewN _⟩
      · have hn : k ≠ 1 := by
          intro e
          subst e
          obtain ⟨h, _⟩ := hko rfl
          exact hlt h
        have hx : R = if k - 1 = 0 ∨ 15 < k - 1 then none else some (false, (bl s).drop k) := by
          rw [bl_end s k hlt]
          exact num1_end s k (k - 1) R hlt hr
        clear hr hko
        by_cases h15 : 15 < k - 1
        · have HX := hid (show R = none by rw [hx, if_pos (by omega)])
          clear hx
          have q1 : (15 : Int) < (k : Int) - 1 := by omega
          go_wp2_with fail
          go_ret3
          exact ⟨by rw [HX.out]; exact ⟨_, _, rfl⟩, Gr.refl _⟩
        · have HX := hid (show R = some (false, (bl s).drop k) by rw [hx, if_neg (by omega)])
          clear hx
          have q1 : (k : Int) - 1 ≤ 15 := by omega
          go_wp2_with fail
          go_quiet (fail)
          go_wp2
          go_ret3
          exact ⟨by rw [HX.out]; exact took_at s k _ hk rfl, (Gr.refl _).drewN _⟩
    · by_cases hlt : j + 1 < s.size
      · rcases num2_step s (j + 1) (j - p) R hlt hr with ⟨hd, hx⟩ | ⟨hd, hx⟩
        · have HN : IntInv s 1 R (.int .i64 ((j + 1 + 1 : Nat) : Int)) (.int .i64 p) (.bool true) := .inr ⟨j + 1, p, hlt, by omega, hop, hp12, rfl, rfl, rfl, by rw [show j + 1 - p = j - p + 1 from by omega]; exact hx, .inr ⟨by omega, hd⟩⟩
          have HH := hid HN
          clear HN hr hx hj
          go_wp2_with (go_at_call 90; refine (isDigit_any _ _).mono ?_; rintro e w' ⟨rfl, rfl⟩)
          go_round
          case rel => simpa using HH.out
          case measure => simp [intOf]; omega
        · clear hr
          rcases hj with ⟨rfl, h46⟩ | ⟨hpj, hdj⟩
          · have HX := hid (show R = none by rw [hx, if_pos (by omega)])
            clear hx
            have q1 : (j : Int) + 1 - 1 ≤ 16 := by omega
            have q2 : (((s[j]).toNat : Int) == 46) = true := eqT h46
            clear h46
            go_wp2_with (go_at_call 90; refine (isDigit_any _ _).mono ?_; rintro e w' ⟨rfl, rfl⟩)
            go_ret3
            exact ⟨by rw [HX.out]; exact ⟨_, _, rfl⟩, Gr.refl _⟩
          · have q2 : (((s[j]).toNat : Int) == 46) = false := eqF (n := 46) (dig_ne hdj)
            clear hdj
            by_cases h3 : 3 < j - p
            · have HX := hid (show R = none by rw [hx, if_pos (by omega)])
              clear hx
              have q3 : (3 : Int) < (j : Int) + 1 - (p : Int) - 1 := by omega
              by_cases h16 : (16 : Int) < (j : Int) + 1 - 1
              · go_wp2_with (go_at_call 90; refine (isDigit_any _ _).mono ?_; rintro e w' ⟨rfl, rfl⟩)
                go_ret3
                exact ⟨by rw [HX.out]; exact ⟨_, _, rfl⟩, Gr.refl _⟩
              · go_wp2_with (go_at_call 90; refine (isDigit_any _ _).mono ?_; rintro e w' ⟨rfl, rfl⟩)
                go_ret3
                exact ⟨by rw [HX.out]; exact ⟨_, _, rfl⟩, Gr.refl _⟩
            · have HX := hid (show R = some (true, (bl s).drop (j + 1)) by rw [hx, if_neg (by omega)])
              clear hx
              have q3 : (j : Int) + 1 - (p : Int) - 1 ≤ 3 := by omega
              have q1 : (j : Int) + 1 - 1 ≤ 16 := by omega
              go_wp2_with (go_at_call 90; refine (isDigit_any _ _).mono ?_; rintro e w' ⟨rfl, rfl⟩)
              go_quiet (fail)
              go_wp2
              go_ret3
              exact ⟨by rw [HX.out]; exact took_at s (j + 1) _ (by omega) rfl, (Gr.refl _).drewN _⟩
      · have hx : R = if j - p = 0 ∨ 3 < j - p then none else some (true, (bl s).drop (j + 1)) := by
          rw [bl_end s (j + 1) hlt]
          exact num2_end s (j + 1) (j - p) R hlt hr
        clear hr
        rcases hj with ⟨rfl, h46⟩ | ⟨hpj, hdj⟩
        · have HX := hid (show R = none by rw [hx, if_pos (by omega)])
          clear hx
          have q1 : (j : Int) + 1 - 1 ≤ 16 := by omega
          have q2 : (((s[j]).toNat : Int) == 46) = true := eqT h46
          clear h46
          go_wp2_with fail
          go_ret3
          exact ⟨by rw [HX.out]; exact ⟨_, _, rfl⟩, Gr.refl _⟩
        · have q2 : (((s[j]).toNat : Int) == 46) = false := eqF (n := 46) (dig_ne hdj)
          clear hdj
          by_cases h3 : 3 < j - p
          · have HX := hid (show R = none by rw [hx, if_pos (by omega)])
            clear hx
            have q3 : (3 : Int) < (j : Int) + 1 - (p : Int) - 1 := by omega
            by_cases h16 : (16 : Int) < (j : Int) + 1 - 1
            · go_wp2_with fail
              go_ret3
              exact ⟨by rw [HX.out]; exact ⟨_, _, rfl⟩, Gr.refl _⟩
            · go_wp2_with fail
              go_ret3
              exact ⟨by rw [HX.out]; exact ⟨_, _, rfl⟩, Gr.refl _⟩
          · have HX := hid (show R = some (true, (bl s).drop (j + 1)) by rw [hx, if_neg (by omega)])
            clear hx
            have q3 : (j : Int) + 1 - (p : Int) - 1 ≤ 3 := by omega
            have q1 : (j : Int) + 1 - 1 ≤ 16 := by omega
            go_wp2_with fail
            go_quiet (fail)
            go_wp2
            go_ret3
            exact ⟨by rw [HX.out]; exact took_at s (j + 1) _ (by omega) rfl, (Gr.refl _).drewN _⟩

set_option maxHeartbeats 4000000 in
theorem int_plain (s : ByteArray) (R : Option (Bool × Bs)) (w : World) (hs : s.size ≤ maxLen) (h0 : 0 < s.size) (hm : (((s[0]).toNat : Int) == 45) = false) (hd0 : digB (s[0]).toNat = true) (HR : Hid (num1 0 ((bl s).drop 0) = R)) :
    Calls Tryd.prog 75 #[.string s] w fun e w' => IntPost s R e ∧ Gr w w' := by
  unfold maxLen at hs
  have hse : ¬ s = ByteArray.empty := by intro e; rw [e] at h0; simp at h0
  have HI : IntInv s 0 R (.int .i64 0) (.int .i64 0) (.bool false) := .inl ⟨0, by omega, Nat.le_refl _, rfl, rfl, rfl, HR.out, fun _ => ⟨h0, hd0⟩⟩
  go_enter Tryd.func75, Tryd.ntmps75
  go_wp2_with (go_at_call 90; refine (isDigit_any _ _).mono ?_; rintro e w' ⟨rfl, rfl⟩)
  clear hm hd0
  go_loop [5, 7, 8] (fun i per d => IntInv s 0 R i per d) (fun i _ _ => s.size - (intOf i).toNat)
  case atStart => exact HI
  case round =>
    clear HI
    rcases hrel with ⟨k, hk, hok, rfl, rfl, rfl, hr, hko⟩ | ⟨j, p, hjs, hpj0, hop, hp12, rfl, rfl, rfl, hr, hj⟩
    · by_cases hlt : k < s.size
      · rcases num1_step s k (k - 0) R hlt hr with ⟨hd, hx⟩ | ⟨hd, hc, hn, ⟨h12, hx⟩ | ⟨h12, hx⟩⟩ | ⟨hd, hc, hx⟩
        · have HN : IntInv s 0 R (.int .i64 ((k + 1 : Nat) : Int)) (.int .i64 0) (.bool false) := .inl ⟨k + 1, by omega, by omega, rfl, rfl, rfl, by rw [show k + 1 - 0 = k - 0 + 1 from by omega]; exact hx, fun h => absurd h (by omega)⟩
          have HH := hid HN
          clear HN hr hx hko
          go_wp2_with (go_at_call 90; refine (isDigit_any _ _).mono ?_; rintro e w' ⟨rfl, rfl⟩)
          go_round
          case rel => simpa using HH.out
          case measure => simp [intOf]; omega
        · have HX := hid hx
          have c1 : (((s[k]).toNat : Int) == 46) = true := eqT hc
          have q1 : (12 : Int) < (k : Int) - 0 := by omega
          clear hr hx hko hc
          go_wp2_with (go_at_call 90; refine (isDigit_any _ _).mono ?_; rintro e w' ⟨rfl, rfl⟩)
          go_ret3
          exact ⟨by rw [HX.out]; exact ⟨_, _, rfl⟩, Gr.refl _⟩
        · have HN : IntInv s 0 R (.int .i64 ((k + 1 : Nat) : Int)) (.int .i64 k) (.bool true) := .inr ⟨k, k, hlt, Nat.le_refl _, by omega, by omega, rfl, rfl, rfl, by rw [Nat.sub_self]; exact hx, .inl ⟨rfl, hc⟩⟩
          have HH := hid HN
          have c1 : (((s[k]).toNat : Int) == 46) = true := eqT hc
          have q1 : (k : Int) - 0 ≤ 12 := by omega
          clear HN hr hx hko hc
          go_wp2_with (go_at_call 90; refine (isDigit_any _ _).mono ?_; rintro e w' ⟨rfl, rfl⟩)
          go_round
          case rel => simpa using HH.out
          case measure => simp [intOf]; omega
        · have hn : k ≠ 0 := by
            intro e
            subst e
            obtain ⟨_, h⟩ := hko rfl
            rw [hd] at h
            cases h
          have c1 : (((s[k]).toNat : Int) == 46) = false := eqF (n := 46) (by omega)
          clear hr hko hc
          by_cases h15 : 15 < k - 0
          · have HX := hid (show R = none by rw [hx, if_pos (by omega)])
            clear hx
            have q1 : (15 : Int) < (k : Int) - 0 := by omega
            go_wp2_with (go_at_call 90; refine (isDigit_any _ _).mono ?_; rintro e w' ⟨rfl, rfl⟩)
            go_ret3
            exact ⟨by rw [HX.out]; exact ⟨_, _, rfl⟩, Gr.refl _⟩
          · have HX := hid (show R = some (false, (bl s).drop k) by rw [hx, if_neg (by omega)])
            clear hx
            have q1 : (k : Int) - 0 ≤ 15 := by omega
            go_wp2_with (go_at_call 90; refine (isDigit_any _ _).mono ?_; rintro e w' ⟨rfl, rfl⟩)
            go_quiet (fail)
            go_wp2
            go_ret3
            exact ⟨by rw [HX.out]; exact took_at s k _ hk rfl, (Gr.refl _).drewN _⟩
      · have hn : k ≠ 0 := by
          intro e
          subst e
          obtain ⟨h, _⟩ := hko rfl
          exact hlt h
        have hx : R = if k - 0 = 0 ∨ 15 < k - 0 then none else some (false, (bl s).drop k) := by
          rw [bl_end s k hlt]
          exact num1_end s k (k - 0) R hlt hr
        clear hr hko
        by_cases h15 : 15 < k - 0
        · have HX := hid (show R = none by rw [hx, if_pos (by omega)])
          clear hx
          have q1 : (15 : Int) < (k : Int) - 0 := by omega
          go_wp2_with fail
          go_ret3
          exact ⟨by rw [HX.out]; exact ⟨_, _, rfl⟩, Gr.refl _⟩
        · have HX := hid (show R = some (false, (bl s).drop k) by rw [hx, if_neg (by omega)])
          clear hx
          have q1 : (k : Int) - 0 ≤ 15 := by omega
          go_wp2_with fail
          go_quiet (fail)
          go_wp2
          go_ret3
          exact ⟨by rw [HX.out]; exact took_at s k _ hk rfl, (Gr.refl _).drewN _⟩
    · by_cases hlt : j + 1 < s.size
      · rcases num2_step s (j + 1) (j - p) R hlt hr with ⟨hd, hx⟩ | ⟨hd, hx⟩
        · have HN : IntInv s 0 R (.int .i64 ((j + 1 + 1 : Nat) : Int)) (.int .i64 p) (.bool true) := .inr ⟨j + 1, p, hlt, by omega, hop, hp12, rfl, rfl, rfl, by rw [show j + 1 - p = j - p + 1 from by omega]; exact hx, .inr ⟨by omega, hd⟩⟩
          have HH := hid HN
          clear HN hr hx hj
          go_wp2_with (go_at_call 90; refine (isDigit_any _ _).mono ?_; rintro e w' ⟨rfl, rfl⟩)
          go_round
          case rel => simpa using HH.out
          case measure => simp [intOf]; omega
        · clear hr
          rcases hj with ⟨rfl, h46⟩ | ⟨hpj, hdj⟩
          · have HX := hid (show R = none by rw [hx, if_pos (by omega)])
            clear hx
            have q1 : (j : Int) + 1 - 0 ≤ 16 := by omega
            have q2 : (((s[j]).toNat : Int) == 46) = true := eqT h46
            clear h46
            go_wp2_with (go_at_call 90; refine (isDigit_any _ _).mono ?_; rintro e w' ⟨rfl, rfl⟩)
            go_ret3
            exact ⟨by rw [HX.out]; exact ⟨_, _, rfl⟩, Gr.refl _⟩
          · have q2 : (((s[j]).toNat : Int) == 46) = false := eqF (n := 46) (dig_ne hdj)
            clear hdj
            by_cases h3 : 3 < j - p
            · have HX := hid (show R = none by rw [hx, if_pos (by omega)])
              clear hx
              have q3 : (3 : Int) < (j : Int) + 1 - (p : Int) - 1 := by omega
              by_cases h16 : (16 : Int) < (j : Int) + 1 - 0
              · go_wp2_with (go_at_call 90; refine (isDigit_any _ _).mono ?_; rintro e w' ⟨rfl, rfl⟩)
                go_ret3
                exact ⟨by rw [HX.out]; exact ⟨_, _, rfl⟩, Gr.refl _⟩
              · go_wp2_with (go_at_call 90; refine (isDigit_any _ _).mono ?_; rintro e w' ⟨rfl, rfl⟩)
                go_ret3
                exact ⟨by rw [HX.out]; exact ⟨_, _, rfl⟩, Gr.refl _⟩
            · have HX := hid (show R = some (true, (bl s).drop (j + 1)) by rw [hx, if_neg (by omega)])
              clear hx
              have q3 : (j : Int) + 1 - (p : Int) - 1 ≤ 3 := by omega
              have q1 : (j : Int) + 1 - 0 ≤ 16 := by omega
              go_wp2_with (go_at_call 90; refine (isDigit_any _ _).mono ?_; rintro e w' ⟨rfl, rfl⟩)
              go_quiet (fail)
              go_wp2
              go_ret3
              exact ⟨by rw [HX.out]; exact took_at s (j + 1) _ (by omega) rfl, (Gr.refl _).drewN _⟩
      · have hx : R = if j - p = 0 ∨ 3 < j - p then none else some (true, (bl s).drop (j + 1)) := by
          rw [bl_end s (j + 1) hlt]
          exact num2_end s (j + 1) (j - p) R hlt hr
        clear hr
        rcases hj with ⟨rfl, h46⟩ | ⟨hpj, hdj⟩
        · have HX := hid (show R = none by rw [hx, if_pos (by omega)])
          clear hx
          have q1 : (j : Int) + 1 - 0 ≤ 16 := by omega
          have q2 : (((s[j]).toNat : Int) == 46) = true := eqT h46
          clear h46
          go_wp2_with fail
          go_ret3
          exact ⟨by rw [HX.out]; exact ⟨_, _, rfl⟩, Gr.refl _⟩
        · have q2 : (((s[j]).toNat : Int) == 46) = false := eqF (n := 46) (dig_ne hdj)
          clear hdj
          by_cases h3 : 3 < j - p
          · have HX := hid (show R = none by rw [hx, if_pos (by omega)])
            clear hx
            have q3 : (3 : Int) < (j : Int) + 1 - (p : Int) - 1 := by omega
            by_cases h16 : (16 : Int) < (j : Int) + 1 - 0
            · go_wp2_with fail
              go_ret3
              exact ⟨by rw [HX.out]; exact ⟨_, _, rfl⟩, Gr.refl _⟩
            · go_wp2_with fail
              go_ret3
              exact ⟨by rw [HX.out]; exact ⟨_, _, rfl⟩, Gr.refl _⟩
          · have HX := hid (show R = some (true, (bl s).drop (j + 1)) by rw [hx, if_neg (by omega)])
            clear hx
            have q3 : (j : Int) + 1 - (p : Int) - 1 ≤ 3 := by omega
            have q1 : (j : Int) + 1 - 0 ≤ 16 := by omega
            go_wp2_with fail
            go_quiet (fail)
            go_wp2
            go_ret3
            exact ⟨by rw [HX.out]; exact took_at s (j + 1) _ (by omega) rfl, (Gr.refl _).drewN _⟩

theorem num1_nondigit (c : UInt8) (r : Bs) (h : digB c.toNat = false) : num1 0 (c :: r) = none := by simp [num1, h]

set_option maxHeartbeats 1000000 in
theorem consumeIntegerOrDecimal_any (s : ByteArray) (w : World) (hs : s.size ≤ maxLen) :
    Calls Tryd.prog 75 #[.string s] w fun e w' => IntPost s (num (bl s)) e ∧ Gr w w' := by
  by_cases h0 : 0 < s.size
  · have hb := bl_get s 0 h0
    rw [List.drop_zero] at hb
    cases hm : (((s[0]).toNat : Int) == 45)
    · have hn : num (bl s) = num1 0 (bl s) := by
        have : ¬ s[0] = 45 := fun e => by have := (u8_eq (n := 45) (by decide)).1 e; have := beq_eq_false_iff_ne.1 hm; omega
        rw [hb, num, if_neg this]
      rw [hn]
      cases hd : digB (s[0]).toNat
      · have HX := hid (show num1 0 (bl s) = none by rw [hb, num1_nondigit _ _ hd])
        have hse : ¬ s = ByteArray.empty := by intro e; rw [e] at h0; simp at h0
        clear hb hn
        unfold maxLen at hs
        go_enter Tryd.func75, Tryd.ntmps75
        go_wp2_with (go_at_call 90; refine (isDigit_any _ _).mono ?_; rintro e w' ⟨rfl, rfl⟩)
        go_ret3
        exact ⟨by rw [HX.out]; exact ⟨_, _, rfl⟩, Gr.refl _⟩
      · exact int_plain s _ w hs h0 hm hd (hid rfl)
    · have hn : num (bl s) = num1 0 ((bl s).drop 1) := by
        have : s[0] = 45 := (u8_eq (n := 45) (by decide)).2 (by have := beq_iff_eq.1 hm; omega)
        conv => lhs; rw [hb, num, if_pos this]
      rw [hn]
      by_cases h1 : 1 < s.size
      · cases hd : digB (s[1]).toNat
        · have HX := hid (show num1 0 ((bl s).drop 1) = none by rw [bl_get s 1 h1, num1_nondigit _ _ hd])
          clear hb hn
          unfold maxLen at hs
          go_enter Tryd.func75, Tryd.ntmps75
          go_wp2_with (go_at_call 90; refine (isDigit_any _ _).mono ?_; rintro e w' ⟨rfl, rfl⟩)
          go_ret3
          exact ⟨by rw [HX.out]; exact ⟨_, _, rfl⟩, Gr.refl _⟩
        · exact int_minus s _ w hs h1 hm hd (hid rfl)
      · have HX := hid (show num1 0 ((bl s).drop 1) = none by rw [bl_end s 1 h1]; rfl)
        clear hb hn
        unfold maxLen at hs
        go_enter Tryd.func75, Tryd.ntmps75
        go_wp2
        go_ret3
        exact ⟨by rw [HX.out]; exact ⟨_, _, rfl⟩, Gr.refl _⟩
  · obtain rfl := bl_empty (a := s) (List.eq_nil_of_length_eq_zero (by rw [bl_length]; omega))
    have HX := hid (show num (bl ⟨#[]⟩) = none from rfl)
    clear h0 hs
    go_enter Tryd.func75, Tryd.ntmps75
    go_wp2
    go_ret3
    exact ⟨by rw [HX.out]; exact ⟨_, _, rfl⟩, Gr.refl _⟩

/-!
  The walk of consumeDate.
-/
/-- Some piece, or none. -/
def OptPost (s : ByteArray) (R : Option Bs) (e : Ending) : Prop :=
  match R with
  | none => Nope e
  | some r => Took s r e

theorem num2_pre : ∀ (l : Bs) (m : Nat) (d : Bool) (r : Bs), num2 m l = some (d, r) → d = true ∧ ∃ pre, l = pre ++ r ∧ amongB 46 pre = false := by
  intro l
  induction l with
  | nil =>
    intro m d r h
    simp only [num2] at h
    split at h
    · cases h
    · cases h
      exact ⟨rfl, [], rfl, rfl⟩
  | cons c t ih =>
    intro m d r h
    simp only [num2] at h
    split at h
    · rename_i hd
      obtain ⟨h1, pre, h2, h3⟩ := ih _ _ _ h
      have := dig_ne hd
      exact ⟨h1, c :: pre, by rw [h2]; rfl, by simp only [amongB, List.any_cons, Bool.or_eq_false_iff]; exact ⟨by simpa using this, h3⟩⟩
    · split at h
      · cases h
      · cases h
        exact ⟨rfl, [], rfl, rfl⟩

theorem num1_pre : ∀ (l : Bs) (n : Nat) (d : Bool) (r : Bs), num1 n l = some (d, r) → ∃ pre, l = pre ++ r ∧ amongB 46 pre = d := by
  intro l
  induction l with
  | nil =>
    intro n d r h
    simp only [num1] at h
    split at h
    · cases h
    · cases h
      exact ⟨[], rfl, rfl⟩
  | cons c t ih =>
    intro n d r h
    simp only [num1] at h
    split at h
    · rename_i hd
      obtain ⟨pre, h2, h3⟩ := ih _ _ _ h
      have := dig_ne hd
      exact ⟨c :: pre, by rw [h2]; rfl, by simp only [amongB, List.any_cons]; rw [show (c.toNat == 46) = false from by simpa using this, Bool.false_or]; exact h3⟩
    · split at h
      · rename_i hc
        split at h
        · cases h
        · obtain ⟨h1, pre, h2, h3⟩ := num2_pre _ _ _ _ h
          have h46 : c.toNat = 46 := (u8_eq (n := 46) (by decide)).1 hc.1
          exact ⟨c :: pre, by rw [h2]; rfl, by simp only [amongB, List.any_cons]; rw [show (c.toNat == 46) = true from by simpa using h46, Bool.true_or]; exact h1.symm⟩
      · split at h
        · cases h
        · cases h
          exact ⟨[], rfl, rfl⟩

theorem num_pre {l : Bs} {d : Bool} {r : Bs} (h : num l = some (d, r)) : ∃ pre, l = pre ++ r ∧ amongB 46 pre = d := by
  cases l with
  | nil => cases h
  | cons c t =>
    simp only [num] at h
    split at h
    · rename_i hc
      obtain ⟨pre, h1, h2⟩ := num1_pre _ _ _ _ h
      have h45 : c.toNat = 45 := (u8_eq (n := 45) (by decide)).1 hc
      refine ⟨c :: pre, by rw [h1]; rfl, ?_⟩
      simp only [amongB, List.any_cons]
      rw [show (c.toNat == 46) = false from by rw [h45]; rfl, Bool.false_or]
      exact h2
    · exact num1_pre _ _ _ _ h

/-- What stands ahead of the rest of a date holds a point just where the number does. -/
theorem dat_pre {s : ByteArray} {d : Bool} {r : Bs} (h0 : 0 < s.size) (hc : (s[0]).toNat = 64) (h : num ((bl s).drop 1) = some (d, r)) :
    r.length + 1 ≤ s.size ∧ amongB 46 (ahead (bl s) r) = d ∧ (bl s).drop (s.size - r.length) = r := by
  obtain ⟨pre, h1, h2⟩ := num_pre h
  have hb := bl_get s 0 h0
  rw [List.drop_zero, Nat.zero_add, h1] at hb
  have hl : s.size = pre.length + r.length + 1 := by rw [← bl_length, hb]; simp
  refine ⟨by omega, ?_, ?_⟩
  · have : ahead (bl s) r = s[0] :: pre := by
      rw [ahead, bl_length, hb, show s.size - r.length = pre.length + 1 from by omega, List.take_succ_cons, List.take_left]
    rw [this]
    simp only [amongB, List.any_cons]
    rw [show ((s[0]).toNat == 46) = false from by rw [hc]; rfl, Bool.false_or]
    exact h2
  · rw [hb, show s.size - r.length = pre.length + 1 from by omega, List.drop_succ_cons, List.drop_left]

set_option maxHeartbeats 1000000 in
theorem consumeDate_any (s : ByteArray) (w : World) (hs : s.size ≤ maxLen) :
    Calls Tryd.prog 77 #[.string s] w fun e w' => OptPost s (dat (bl s)) e ∧ Gr w w' := by
  by_cases h0 : 0 < s.size
  · have hb := bl_get s 0 h0
    rw [List.drop_zero, Nat.zero_add] at hb
    have hne := lenF h0
    by_cases hc : (s[0]).toNat = 64
    · have c1 : (((s[0]).toNat : Int) != 64) = false := neF hc
      have h64 : s[0] = 64 := (u8_eq (n := 64) (by decide)).2 hc
      have hs1 : (s.extract 1 s.size).size ≤ maxLen := by rw [← bl_length, bl_from, List.length_drop, bl_length]; omega
      cases hn : num ((bl s).drop 1) with
      | none =>
        have HX := hid (show dat (bl s) = none by rw [hb, dat, if_pos h64, hn])
        have HN := hid hn
        clear hc hn hb h64
        unfold maxLen at hs
        go_enter Tryd.func77, Tryd.ntmps77
        go_wp2_with fail
        refine (consumeIntegerOrDecimal_any _ _ hs1).mono ?_
        rintro e w1 ⟨hp, hg⟩
        rw [bl_from, HN.out] at hp
        obtain ⟨c, t, rfl⟩ := hp
        go_wp2_with fail
        go_ret3
        exact ⟨by rw [HX.out]; exact ⟨_, _, rfl⟩, hg⟩
      | some x =>
        obtain ⟨d, r⟩ := x
        obtain ⟨hl, ha, hr⟩ := dat_pre h0 hc hn
        have HN := hid hn
        have HA := hid ha
        have HX := hid (show dat (bl s) = if d then none else some r by rw [hb, dat, if_pos h64, hn]; cases d <;> rfl)
        clear hc hn ha hr hb h64
        unfold maxLen at hs
        go_enter Tryd.func77, Tryd.ntmps77
        go_wp2_with fail
        refine (consumeIntegerOrDecimal_any _ _ hs1).mono ?_
        rintro e w1 ⟨hp, hg⟩
        rw [bl_from, HN.out] at hp
        obtain ⟨c, t, rfl, _, ht⟩ := hp
        have hts : t.size + 1 ≤ s.size := by rw [← bl_length t, ht]; omega
        have hta : bl (s.extract 0 (s.size - t.size)) = ahead (bl s) r := by rw [bl_upto, ahead, ← bl_length, ← bl_length, ht]
        obtain ⟨cap, C, hcv, hC⟩ := conv_bytes w1 (s.extract 0 (s.size - t.size))
        have HC := hid hC
        have HT := hid ht
        have HTA := hid hta
        clear hC ht hta
        go_wp2_with fail
        clear hcv
        refine (contains_any _ (bl (s.extract 0 (s.size - t.size))) 46 _ _ _ (by rw [bl_upto, List.length_take, bl_length]; omega) ?_ (Cells8.gr (cells8_alloc w1 C _ _ _ HC.out) ((Gr.refl _).drew))).mono ?_
        · rw [bl_upto, List.length_take, bl_length]; omega
        rintro e w2 ⟨rfl, rfl⟩
        rw [HTA.out, HA.out]
        cases d
        · go_wp2_with fail
          go_ret3
          exact ⟨by rw [HX.out]; exact ⟨_, _, rfl, HTA.out, HT.out⟩, (hg.alloc _).drew⟩
        · go_wp2_with fail
          go_ret3
          exact ⟨by rw [HX.out]; exact ⟨_, _, rfl⟩, (hg.alloc _).drew⟩
    · have c1 : (((s[0]).toNat : Int) != 64) = true := neT hc
      have h64 : ¬ s[0] = 64 := fun e => hc ((u8_eq (n := 64) (by decide)).1 e)
      have HX := hid (show dat (bl s) = none by rw [hb, dat, if_neg h64])
      clear h64
      clear hb hc
      unfold maxLen at hs
      go_enter Tryd.func77, Tryd.ntmps77
      go_wp2_with fail
      go_ret3
      exact ⟨by rw [HX.out]; exact ⟨_, _, rfl⟩, Gr.refl _⟩
  · obtain rfl := bl_empty (a := s) (List.eq_nil_of_length_eq_zero (by rw [bl_length]; omega))
    clear h0 hs
    go_enter Tryd.func77, Tryd.ntmps77
    go_wp2_with fail
    go_ret3
    exact ⟨⟨_, _, rfl⟩, Gr.refl _⟩

end Go.Proofs.YtohjnegllfdemaaDoor
