/-
  The walk of consumeToken.
-/
import Derived.Test.YtohjnegllfdemaaDoorSmall
import Derived.Deep.QuietTactic
import Derived.BigQuiet
import Derived.Laws.IdiomStrings
import Derived.Lib.SlBytesConst
namespace Go.Proofs.YtohjnegllfdemaaDoor
open Go.RowKit

/-- '[]byte(s)': a new row that holds the bytes. -/
theorem conv_bytes (w : World) (s : ByteArray) : ∃ (cap : Nat) (C : Array Value),
    (convert 9 80 (.string s)).run Tryd.prog w = .ok (.slice (some ⟨w.heap.size, 0, none⟩) s.size cap) (w.drew.alloc (.cells C 5 (C.size, C.size + 1))) ∧
    C.toList.take (bl s).length = (bl s).map fun c => Value.int .u8 c.toNat := by
  refine ⟨_, _, run_bytes_of_string w _ _ _ s Tryd.underlying9 Tryd.underlying80 Tryd.underlying5, ?_⟩
  unfold bytesRow bl
  simp

theorem skip_yes {p : Nat → Bool} {c : UInt8} {r : Bs} (h : p c.toNat = true) : skip p (c :: r) = skip p r := by simp [skip, h]
theorem skip_no {p : Nat → Bool} {c : UInt8} {r : Bs} (h : p c.toNat = false) : skip p (c :: r) = c :: r := by simp [skip, h]
theorem skip_next (p : Nat → Bool) (s : ByteArray) (k : Nat) (r : Bs) (h : k < s.size) (hr : skip p ((bl s).drop k) = r) (hc : p (s[k]).toNat = true) : skip p ((bl s).drop (k + 1)) = r := by
  rwa [bl_get s k h, skip_yes hc] at hr
theorem skip_stop (p : Nat → Bool) (s : ByteArray) (k : Nat) (r : Bs) (h : k < s.size) (hr : skip p ((bl s).drop k) = r) (hc : p (s[k]).toNat = false) : (bl s).drop k = r := by
  rw [← hr, bl_get s k h, skip_no hc]
theorem skip_end (p : Nat → Bool) (s : ByteArray) (k : Nat) (r : Bs) (h : ¬ k < s.size) (hr : skip p ((bl s).drop k) = r) : (bl s).drop k = r := by
  rw [← hr, bl_end s k h]
  rfl

/-- The first byte of a text that is not empty. -/
theorem bl_cons {s : ByteArray} {c : UInt8} {r : Bs} (h : bl s = c :: r) : ∃ h0 : 0 < s.size, s[0] = c := by
  have h0 : 0 < s.size := by rw [← bl_length, h]; simp
  have h1 := bl_get s 0 h0
  rw [List.drop_zero, h] at h1
  exact ⟨h0, (List.cons.inj h1).1.symm⟩

set_option maxHeartbeats 1000000 in
theorem consumeToken_some (s : ByteArray) (r : Bs) (w : World) (hs : s.size ≤ maxLen) (h : tok (bl s) = some r) :
    Calls Tryd.prog 94 #[.string s] w fun e w' => Took s r e ∧ Gr w w' := by
  unfold maxLen at hs
  obtain ⟨cap, C, hcv, hC⟩ := conv_bytes w s
  obtain ⟨c, t, hl⟩ : ∃ c t, bl s = c :: t := by
    cases hb : bl s with
    | nil => rw [hb] at h; cases h
    | cons c t => exact ⟨c, t, rfl⟩
  obtain ⟨h0, hc0⟩ := bl_cons hl
  have hh : (alpB (s[0]).toNat || (s[0]).toNat == 42) = true ∧ skip tokB2 (bl s) = r := by
    rw [hl, tok] at h
    split at h
    · rename_i hx
      rw [hc0, hl]
      exact ⟨hx, Option.some.inj h⟩
    · cases h
  obtain ⟨ha, hsk⟩ := hh
  have Hsk := hid hsk
  have HC := hid hC
  have hne : ((s.size : Int) == 0) = false := by rw [beq_eq_false_iff_ne]; omega
  have ha2 : alpB (s[0]).toNat = true ∨ alpB (s[0]).toNat = false ∧ (((s[0]).toNat : Int) != 42) = false := by
    cases hx : alpB (s[0]).toNat
    · rw [hx] at ha
      have : (s[0]).toNat = 42 := by simpa using ha
      exact .inr ⟨rfl, by simp; omega⟩
    · exact .inl rfl
  clear h hl hc0 ha hsk hC
  have kc := fun (w : World) (C : Array Value) (n c : Nat) => Lib.run_convert_bytes_const (P := Tryd.prog) w 80 5 C n c Tryd.underlying80 Tryd.underlying5
  rcases ha2 with ha | ⟨ha, ha'⟩
  all_goals
    go_enter Tryd.func94, Tryd.ntmps94
    go_wp2_with (go_at_call 93; refine (isAlpha_any _ _).mono ?_; rintro e w' ⟨rfl, rfl⟩)
    clear hcv ha
    go_loopw [5, 26] (fun i j wr => ∃ k : Nat, k ≤ s.size ∧ i = .int .i64 k ∧ j = .int .i64 k ∧ Hid (skip tokB2 ((bl s).drop k) = r) ∧ Cells8 wr w.heap.size (bl s) ∧ Gr w wr) (fun i _ _ => s.size - (intOf i).toNat)
    case atStart => exact ⟨0, Nat.zero_le _, rfl, rfl, Hsk, Cells8.gr (cells8_alloc w C _ _ (bl s) HC.out) ((Gr.refl _).drew), ((Gr.refl _).alloc _).drew⟩
    case round =>
      obtain ⟨k, hk, rfl, rfl, hr, hcells, hg⟩ := hrel
      by_cases hlt : k < s.size
      · have hcell := hcells k (by rw [bl_length]; exact hlt)
        have hbk : ((bl s)[k]'(by rw [bl_length]; exact hlt)).toNat = (s[k]).toNat := rfl
        rw [hbk] at hcell
        clear hbk
        cases h1 : tokB (s[k]).toNat
        · go_wp2_with fail
          refine (isTChar_any _ _).mono ?_
          rintro e w1 ⟨rfl, hg1⟩
          go_wp2_with fail
          refine (contains_any _ [58, 47] _ _ _ _ rfl (by decide) (cells8_alloc _ _ _ _ _ rfl)).mono ?_
          rintro e w' ⟨rfl, rfl⟩
          cases h2 : amongB (s[k]).toNat [58, 47]
          · go_wp2_with fail
            go_quiet (fail)
            go_wp2_with fail
            go_ret3
            exact ⟨took_at s k r hk (skip_stop tokB2 s k r hlt hr.out (by simp [tokB2, h1, h2])), ((hg.trans hg1).alloc _).drewN _⟩
          · go_wp2_with fail
            go_roundw
            case rel => exact ⟨k + 1, by omega, by go_num, by go_num, hid (skip_next tokB2 s k r hlt hr.out (by simp [tokB2, h1, h2])), (hcells.gr hg1).gr ((Gr.refl _).alloc _), (hg.trans hg1).alloc _⟩
            case measure => simp [intOf]; omega
        · go_wp2_with fail
          refine (isTChar_any _ _).mono ?_
          rintro e w1 ⟨rfl, hg1⟩
          rw [h1]
          go_wp2_with fail
          go_roundw
          case rel => exact ⟨k + 1, by omega, by go_num, by go_num, hid (skip_next tokB2 s k r hlt hr.out (by simp [tokB2, h1])), hcells.gr hg1, hg.trans hg1⟩
          case measure => simp [intOf]; omega
      · go_wp2_with fail
        go_quiet (fail)
        go_wp2_with fail
        go_ret3
        exact ⟨took_at s k r hk (skip_end tokB2 s k r hlt hr.out), hg.drewN _⟩

theorem tok_none {l : Bs} (h : tok l = none) : l = [] ∨ ∃ c t, l = c :: t ∧ alpB c.toNat = false ∧ c.toNat ≠ 42 := by
  cases l with
  | nil => exact .inl rfl
  | cons c t =>
    refine .inr ⟨c, t, rfl, ?_⟩
    rw [tok] at h
    split at h
    · cases h
    · rename_i hx
      simpa using hx

theorem consumeToken_none (s : ByteArray) (w : World) (hs : s.size ≤ maxLen) (h : tok (bl s) = none) :
    Calls Tryd.prog 94 #[.string s] w fun e w' => Nope e ∧ Gr w w' := by
  unfold maxLen at hs
  rcases tok_none h with hl | ⟨c, t, hl, h1, h2⟩
  · have h0 : s.size = 0 := by rw [← bl_length, hl]; rfl
    clear h hl
    have hne : ((s.size : Int) == 0) = true := by rw [beq_iff_eq]; omega
    clear h0
    go_enter Tryd.func94, Tryd.ntmps94
    go_wp2_with fail
    go_ret3
    exact ⟨⟨_, _, rfl⟩, Gr.refl _⟩
  · obtain ⟨h0, hc0⟩ := bl_cons hl
    subst hc0
    have hne : ((s.size : Int) == 0) = false := by rw [beq_eq_false_iff_ne]; omega
    have h3 : (((s[0]).toNat : Int) != 42) = true := by simp; omega
    clear h hl h2
    go_enter Tryd.func94, Tryd.ntmps94
    go_wp2_with (go_at_call 93; refine (isAlpha_any _ _).mono ?_; rintro e w' ⟨rfl, rfl⟩)
    go_ret3
    exact ⟨⟨_, _, rfl⟩, Gr.refl _⟩

end Go.Proofs.YtohjnegllfdemaaDoor
