/-
  Several texts in one: Tok, Str, Byt, Own.
-/
import Derived.Test.YtohjnegllfdemaaDoorSmall
import Derived.Deep.QuietTactic
import Derived.BigQuiet
import Derived.Laws.IdiomStrings
import Derived.Lib.SlBytesConst
import Derived.Laws.BytesArg
import Derived.Laws.BytesString
set_option maxRecDepth 100000
namespace Go.Proofs.YtohjnegllfdemaaDoor
open Go.RowKit

/-!
  The walk of consumeToken.
-/
/-- '[]byte(s)': a new row that holds the bytes. -/
theorem conv_bytes (w : World) (s : ByteArray) : ∃ (cap : Nat) (C : Array Value),
    (convert 9 80 (.string s)).run Tryd.prog w = .ok (.slice (some ⟨w.heap.size, 0, none⟩) s.size cap) (w.drew.alloc (.cells C 5 (C.size, C.size + 1))) ∧
    C.toList.take (bl s).length = (bl s).map fun c => Value.int .u8 c.toNat := by
  refine ⟨_, _, run_bytes_of_string w _ _ _ s Tryd.underlying9 Tryd.underlying80 Tryd.underlying5, ?_⟩
  unfold bytesRow bl
  simp

theorem skip_yes {p : Nat → Bool} {c : UInt8} {r : Bs} (h : p c.toNat = true) : skip p (c :: r) = skip p r := by simp [skip, h]
theorem skip_no {p : Nat → Bool} {c : UInt8} {r : Bs} (h : p c.toNat = false) : skip p (c :: r) = c :: r := by simp [skip, h]
theorem skip_next (p : Nat → Bool) (s : ByteArray) (k : Nat) (r : Bs) (h : k < s.size) (hr : skip p ((bl s).drop k) = r) (hc : p (s[k]).toNat = true) : skip p ((bl s).drop (k + 1)) = r := by
  rwa [bl_get s k h, skip_yes hc] at hr
theorem skip_stop (p : Nat → Bool) (s : ByteArray) (k : Nat) (r : Bs) (h : k < s.size) (hr : skip p ((bl s).drop k) = r) (hc : p (s[k]).toNat = false) : (bl s).drop k = r := by
  rw [← hr, bl_get s k h, skip_no hc]
theorem skip_end (p : Nat → Bool) (s : ByteArray) (k : Nat) (r : Bs) (h : ¬ k < s.size) (hr : skip p ((bl s).drop k) = r) : (bl s).drop k = r := by
  rw [← hr, bl_end s k h]
  rfl

/-- The first byte of a text that is not empty. -/
theorem bl_cons {s : ByteArray} {c : UInt8} {r : Bs} (h : bl s = c :: r) : ∃ h0 : 0 < s.size, s[0] = c := by
  have h0 : 0 < s.size := by rw [← bl_length, h]; simp
  have h1 := bl_get s 0 h0
  rw [List.drop_zero, h] at h1
  exact ⟨h0, (List.cons.inj h1).1.symm⟩

set_option maxHeartbeats 1000000 in
theorem consumeToken_some (s : ByteArray) (r : Bs) (w : World) (hs : s.size ≤ maxLen) (h : tok (bl s) = some r) :
    Calls Tryd.prog 94 #[.string s] w fun e w' => Took s r e ∧ Gr w w' := by
  unfold maxLen at hs
  obtain ⟨cap, C, hcv, hC⟩ := conv_bytes w s
  obtain ⟨c, t, hl⟩ : ∃ c t, bl s = c :: t := by
    cases hb : bl s with
    | nil => rw [hb] at h; cases h
    | cons c t => exact ⟨c, t, rfl⟩
  obtain ⟨h0, hc0⟩ := bl_cons hl
  have hh : (alpB (s[0]).toNat || (s[0]).toNat == 42) = true ∧ skip tokB2 (bl s) = r := by
    rw [hl, tok] at h
    split at h
    · rename_i hx
      rw [hc0, hl]
      exact ⟨hx, Option.some.inj h⟩
    · cases h
  obtain ⟨ha, hsk⟩ := hh
  have Hsk := hid hsk
  have HC := hid hC
  have hne : ((s.size : Int) == 0) = false := by rw [beq_eq_false_iff_ne]; omega
  have ha2 : alpB (s[0]).toNat = true ∨ alpB (s[0]).toNat = false ∧ (((s[0]).toNat : Int) != 42) = false := by
    cases hx : alpB (s[0]).toNat
    · rw [hx] at ha
      have : (s[0]).toNat = 42 := by simpa using ha
      exact .inr ⟨rfl, by simp; omega⟩
    · exact .inl rfl
  clear h hl hc0 ha hsk hC
  have kc := fun (w : World) (C : Array Value) (n c : Nat) => Lib.run_convert_bytes_const (P := Tryd.prog) w 80 5 C n c Tryd.underlying80 Tryd.underlying5
  rcases ha2 with ha | ⟨ha, ha'⟩
  all_goals
    go_enter Tryd.func94, Tryd.ntmps94
    go_wp2_with (go_at_call 93; refine (isAlpha_any _ _).mono ?_; rintro e w' ⟨rfl, rfl⟩)
    clear hcv ha
    go_loopw [5, 26] (fun i j wr => ∃ k : Nat, k ≤ s.size ∧ i = .int .i64 k ∧ j = .int .i64 k ∧ Hid (skip tokB2 ((bl s).drop k) = r) ∧ Cells8 wr w.heap.size (bl s) ∧ Gr w wr) (fun i _ _ => s.size - (intOf i).toNat)
    case atStart => exact ⟨0, Nat.zero_le _, rfl, rfl, Hsk, Cells8.gr (cells8_alloc w C _ _ (bl s) HC.out) ((Gr.refl _).drew), ((Gr.refl _).alloc _).drew⟩
    case round =>
      obtain ⟨k, hk, rfl, rfl, hr, hcells, hg⟩ := hrel
      by_cases hlt : k < s.size
      · have hcell := hcells k (by rw [bl_length]; exact hlt)
        have hbk : ((bl s)[k]'(by rw [bl_length]; exact hlt)).toNat = (s[k]).toNat := rfl
        rw [hbk] at hcell
        clear hbk
        cases h1 : tokB (s[k]).toNat
        · go_wp2_with fail
          refine (isTChar_any _ _).mono ?_
          rintro e w1 ⟨rfl, hg1⟩
          go_wp2_with fail
          refine (contains_any _ [58, 47] _ _ _ _ rfl (by decide) (cells8_alloc _ _ _ _ _ rfl)).mono ?_
          rintro e w' ⟨rfl, rfl⟩
          cases h2 : amongB (s[k]).toNat [58, 47]
          · go_wp2_with fail
            go_quiet (fail)
            go_wp2_with fail
            go_ret3
            exact ⟨took_at s k r hk (skip_stop tokB2 s k r hlt hr.out (by simp [tokB2, h1, h2])), ((hg.trans hg1).alloc _).drewN _⟩
          · go_wp2_with fail
            go_roundw
            case rel => exact ⟨k + 1, by omega, by go_num, by go_num, hid (skip_next tokB2 s k r hlt hr.out (by simp [tokB2, h1, h2])), (hcells.gr hg1).gr ((Gr.refl _).alloc _), (hg.trans hg1).alloc _⟩
            case measure => simp [intOf]; omega
        · go_wp2_with fail
          refine (isTChar_any _ _).mono ?_
          rintro e w1 ⟨rfl, hg1⟩
          rw [h1]
          go_wp2_with fail
          go_roundw
          case rel => exact ⟨k + 1, by omega, by go_num, by go_num, hid (skip_next tokB2 s k r hlt hr.out (by simp [tokB2, h1])), hcells.gr hg1, hg.trans hg1⟩
          case measure => simp [intOf]; omega
      · go_wp2_with fail
        go_quiet (fail)
        go_wp2_with fail
        go_ret3
        exact ⟨took_at s k r hk (skip_end tokB2 s k r hlt hr.out), hg.drewN _⟩

theorem tok_none {l : Bs} (h : tok l = none) : l = [] ∨ ∃ c t, l = c :: t ∧ alpB c.toNat = false ∧ c.toNat ≠ 42 := by
  cases l with
  | nil => exact .inl rfl
  | cons c t =>
    refine .inr ⟨c, t, rfl, ?_⟩
    rw [tok] at h
    split at h
    · cases h
    · rename_i hx
      simpa using hx

theorem consumeToken_none (s : ByteArray) (w : World) (hs : s.size ≤ maxLen) (h : tok (bl s) = none) :
    Calls Tryd.prog 94 #[.string s] w fun e w' => Nope e ∧ Gr w w' := by
  unfold maxLen at hs
  rcases tok_none h with hl | ⟨c, t, hl, h1, h2⟩
  · have h0 : s.size = 0 := by rw [← bl_length, hl]; rfl
    clear h hl
    have hne : ((s.size : Int) == 0) = true := by rw [beq_iff_eq]; omega
    clear h0
    go_enter Tryd.func94, Tryd.ntmps94
    go_wp2_with fail
    go_ret3
    exact ⟨⟨_, _, rfl⟩, Gr.refl _⟩
  · obtain ⟨h0, hc0⟩ := bl_cons hl
    subst hc0
    have hne : ((s.size : Int) == 0) = false := by rw [beq_eq_false_iff_ne]; omega
    have h3 : (((s[0]).toNat : Int) != 42) = true := by simp; omega
    clear h hl h2
    go_enter Tryd.func94, Tryd.ntmps94
    go_wp2_with (go_at_call 93; refine (isAlpha_any _ _).mono ?_; rintro e w' ⟨rfl, rfl⟩)
    go_ret3
    exact ⟨⟨_, _, rfl⟩, Gr.refl _⟩

/-!
  The walks of consumeString and consumeByteSequence.
-/
theorem u8_eq {c : UInt8} {n : Nat} (hn : n < 256) : c = UInt8.ofNat n ↔ c.toNat = n := by
  constructor
  · rintro rfl
    simp [Nat.mod_eq_of_lt hn]
  · intro h
    exact UInt8.toNat_inj.1 (by rw [h]; simp [Nat.mod_eq_of_lt hn])

theorem visB_eq (n : Nat) : visB n = (vchB n || spB n) := by
  rw [Bool.eq_iff_iff]; simp [visB, vchB, spB]; omega

theorem strT_some (s : ByteArray) (k : Nat) (r : Bs) (h : strT ((bl s).drop k) = some r) :
    ∃ hlt : k < s.size,
      ((s[k]).toNat = 92 ∧ ∃ h1 : k + 1 < s.size, ((s[k + 1]).toNat = 34 ∨ (s[k + 1]).toNat = 92) ∧ strT ((bl s).drop (k + 2)) = some r) ∨
      ((s[k]).toNat = 34 ∧ (bl s).drop (k + 1) = r) ∨
      ((s[k]).toNat ≠ 92 ∧ (s[k]).toNat ≠ 34 ∧ visB (s[k]).toNat = true ∧ strT ((bl s).drop (k + 1)) = some r) := by
  by_cases hlt : k < s.size
  · refine ⟨hlt, ?_⟩
    rw [bl_get s k hlt, strT.eq_def] at h
    simp only at h
    split at h
    · rename_i hc
      refine .inl ⟨(u8_eq (n := 92) (by decide)).1 hc, ?_⟩
      by_cases h1 : k + 1 < s.size
      · refine ⟨h1, ?_⟩
        rw [bl_get s (k + 1) h1] at h
        simp only at h
        split at h
        · rename_i hd
          refine ⟨?_, h⟩
          rcases hd with hd | hd
          · exact .inl ((u8_eq (n := 34) (by decide)).1 hd)
          · exact .inr ((u8_eq (n := 92) (by decide)).1 hd)
        · cases h
      · rw [bl_end s (k + 1) h1] at h
        cases h
    · rename_i hc
      have hc' : (s[k]).toNat ≠ 92 := fun e => hc ((u8_eq (n := 92) (by decide)).2 e)
      split at h
      · rename_i hq
        exact .inr (.inl ⟨(u8_eq (n := 34) (by decide)).1 hq, Option.some.inj h⟩)
      · rename_i hq
        have hq' : (s[k]).toNat ≠ 34 := fun e => hq ((u8_eq (n := 34) (by decide)).2 e)
        split at h
        · rename_i hv
          exact .inr (.inr ⟨hc', hq', hv, h⟩)
        · cases h
  · rw [bl_end s k hlt] at h
    cases h

theorem strT_none (s : ByteArray) (k : Nat) (hlt : k < s.size) (h : strT ((bl s).drop k) = none) :
      ((s[k]).toNat = 92 ∧ ¬ k + 1 < s.size) ∨
      ((s[k]).toNat = 92 ∧ ∃ h1 : k + 1 < s.size, (s[k + 1]).toNat ≠ 34 ∧ (s[k + 1]).toNat ≠ 92) ∨
      ((s[k]).toNat = 92 ∧ ∃ h1 : k + 1 < s.size, ((s[k + 1]).toNat = 34 ∨ (s[k + 1]).toNat = 92) ∧ strT ((bl s).drop (k + 2)) = none) ∨
      ((s[k]).toNat ≠ 92 ∧ (s[k]).toNat ≠ 34 ∧ visB (s[k]).toNat = false) ∨
      ((s[k]).toNat ≠ 92 ∧ (s[k]).toNat ≠ 34 ∧ visB (s[k]).toNat = true ∧ strT ((bl s).drop (k + 1)) = none) := by
  rw [bl_get s k hlt, strT.eq_def] at h
  simp only at h
  split at h
  · rename_i hc
    have hc' := (u8_eq (n := 92) (by decide)).1 hc
    by_cases h1 : k + 1 < s.size
    · rw [bl_get s (k + 1) h1] at h
      simp only at h
      split at h
      · rename_i hd
        refine .inr (.inr (.inl ⟨hc', h1, ?_, h⟩))
        rcases hd with hd | hd
        · exact .inl ((u8_eq (n := 34) (by decide)).1 hd)
        · exact .inr ((u8_eq (n := 92) (by decide)).1 hd)
      · rename_i hd
        exact .inr (.inl ⟨hc', h1, fun e => hd (.inl ((u8_eq (n := 34) (by decide)).2 e)), fun e => hd (.inr ((u8_eq (n := 92) (by decide)).2 e))⟩)
    · exact .inl ⟨hc', h1⟩
  · rename_i hc
    have hc' : (s[k]).toNat ≠ 92 := fun e => hc ((u8_eq (n := 92) (by decide)).2 e)
    split at h
    · cases h
    · rename_i hq
      have hq' : (s[k]).toNat ≠ 34 := fun e => hq ((u8_eq (n := 34) (by decide)).2 e)
      split at h
      · rename_i hv
        exact .inr (.inr (.inr (.inr ⟨hc', hq', hv, h⟩)))
      · rename_i hv
        exact .inr (.inr (.inr (.inl ⟨hc', hq', by simpa using hv⟩)))

/-- The head of a text, known to open a piece. -/
theorem head_of {s : ByteArray} {c : UInt8} {t : Bs} {n : Nat} (hn : n < 256) (h : bl s = c :: t) (hc : c = UInt8.ofNat n) : ∃ h0 : 0 < s.size, (s[0]).toNat = n ∧ (bl s).drop 1 = t := by
  obtain ⟨h0, h1⟩ := bl_cons h
  exact ⟨h0, by rw [h1]; exact (u8_eq hn).1 hc, by rw [h]; rfl⟩

theorem str_some {s : ByteArray} {r : Bs} (h : str (bl s) = some r) : ∃ h0 : 0 < s.size, (s[0]).toNat = 34 ∧ strT ((bl s).drop 1) = some r := by
  cases hb : bl s with
  | nil => rw [hb] at h; cases h
  | cons c t =>
    rw [hb, str] at h
    split at h
    · rename_i hc
      obtain ⟨h0, h1, h2⟩ := head_of (n := 34) (by decide) hb hc
      exact ⟨h0, h1, h⟩
    · cases h
theorem str_none {s : ByteArray} (h : str (bl s) = none) : s.size = 0 ∨ ∃ h0 : 0 < s.size, (s[0]).toNat ≠ 34 ∨ (s[0]).toNat = 34 ∧ strT ((bl s).drop 1) = none := by
  cases hb : bl s with
  | nil => exact .inl (by rw [← bl_length, hb]; rfl)
  | cons c t =>
    rw [hb, str] at h
    obtain ⟨h0, h1⟩ := bl_cons hb
    refine .inr ⟨h0, ?_⟩
    split at h
    · rename_i hc
      exact .inr ⟨by rw [h1]; exact (u8_eq (n := 34) (by decide)).1 hc, h⟩
    · rename_i hc
      exact .inl fun e => hc ((u8_eq (n := 34) (by decide)).2 (by rw [← h1]; exact e))

theorem eqT {a n : Nat} (h : a = n) : ((a : Int) == (n : Int)) = true := by rw [beq_iff_eq]; omega
theorem eqF {a n : Nat} (h : a ≠ n) : ((a : Int) == (n : Int)) = false := by rw [beq_eq_false_iff_ne]; omega
theorem neT {a n : Nat} (h : a ≠ n) : ((a : Int) != (n : Int)) = true := by rw [bne_iff_ne]; omega
theorem neF {a n : Nat} (h : a = n) : ((a : Int) != (n : Int)) = false := by rw [bne_eq_false_iff_eq]; omega
theorem lenT {n : Nat} (h : n = 0) : ((n : Int) == 0) = true := eqT (n := 0) h
theorem lenF {n : Nat} (h : 0 < n) : ((n : Int) == 0) = false := eqF (n := 0) (by omega)

set_option maxHeartbeats 1000000 in
theorem consumeString_some (s : ByteArray) (r : Bs) (w : World) (hs : s.size ≤ maxLen) (h : str (bl s) = some r) :
    Calls Tryd.prog 92 #[.string s] w fun e w' => Took s r e ∧ Gr w w' := by
  unfold maxLen at hs
  obtain ⟨h0, h34, hT⟩ := str_some h
  have HT := hid hT
  have hne := lenF h0
  have h34' : (((s[0]).toNat : Int) != 34) = false := neF h34
  clear h h34 hT
  go_enter Tryd.func92, Tryd.ntmps92
  go_wp2
  clear h34'
  go_loop [5] (fun i => ∃ k : Nat, k ≤ s.size ∧ i = .int .i64 k ∧ Hid (strT ((bl s).drop k) = some r)) (fun i => s.size - (intOf i).toNat)
  case atStart => exact ⟨1, by omega, rfl, HT⟩
  case round =>
    obtain ⟨k, hk, rfl, hr⟩ := hrel
    obtain ⟨hlt, hx⟩ := strT_some s k r hr.out
    rcases hx with ⟨hc, h1, hd, hn⟩ | ⟨hc, hn⟩ | ⟨hc, hq, hv, hn⟩
    · have c1 : (((s[k]).toNat : Int) == 92) = true := eqT hc
      have HN := hid hn
      clear hn hc
      have hk1 : ((k : Int) + 1 < (s.size : Int)) := by omega
      rcases hd with hd | hd
      · have d1 : (((s[k + 1]).toNat : Int) != 34) = false := neF hd
        clear hd
        go_wp2
        go_round
        case rel => exact ⟨k + 2, by omega, by go_num, HN⟩
        case measure => simp [intOf]; omega
      · have d1 : (((s[k + 1]).toNat : Int) != 34) = true := neT (n := 34) (by omega)
        have d2 : (((s[k + 1]).toNat : Int) != 92) = false := neF hd
        clear hd
        go_wp2
        go_round
        case rel => exact ⟨k + 2, by omega, by go_num, HN⟩
        case measure => simp [intOf]; omega
    · have c1 : (((s[k]).toNat : Int) == 92) = false := eqF (n := 92) (by omega)
      have c2 : (((s[k]).toNat : Int) == 34) = true := eqT hc
      have HN := hid hn
      clear hn hc
      go_wp2
      go_quiet (fail)
      go_wp2
      go_ret3
      exact ⟨took_at s (k + 1) r (by omega) HN.out, (Gr.refl _).drewN _⟩
    · have c1 : (((s[k]).toNat : Int) == 92) = false := eqF hc
      have c2 : (((s[k]).toNat : Int) == 34) = false := eqF hq
      have HN := hid hn
      rw [visB_eq] at hv
      clear hn hc hq
      cases hv1 : vchB (s[k]).toNat <;> cases hv2 : spB (s[k]).toNat
      · rw [hv1, hv2] at hv; cases hv
      all_goals
        clear hv
        go_wp2_with (first | (go_at_call 87; refine (isVChar_any _ _).mono ?_; rintro e w' ⟨rfl, rfl⟩) | (go_at_call 88; refine (isSP_any _ _).mono ?_; rintro e w' ⟨rfl, rfl⟩))
        go_round
        case rel => exact ⟨k + 1, by omega, by go_num, HN⟩
        case measure => simp [intOf]; omega

set_option maxHeartbeats 1000000 in
theorem consumeString_none (s : ByteArray) (w : World) (hs : s.size ≤ maxLen) (h : str (bl s) = none) :
    Calls Tryd.prog 92 #[.string s] w fun e w' => Nope e ∧ Gr w w' := by
  unfold maxLen at hs
  rcases str_none h with h0 | ⟨h0, h34 | ⟨h34, hT⟩⟩
  · have hne := lenT h0
    clear h h0
    go_enter Tryd.func92, Tryd.ntmps92
    go_wp2
    go_ret3
    exact ⟨⟨_, _, rfl⟩, Gr.refl _⟩
  · have hne := lenF h0
    have h34' : (((s[0]).toNat : Int) != 34) = true := neT h34
    clear h h34
    go_enter Tryd.func92, Tryd.ntmps92
    go_wp2
    go_ret3
    exact ⟨⟨_, _, rfl⟩, Gr.refl _⟩
  have HT := hid hT
  have hne := lenF h0
  have h34' : (((s[0]).toNat : Int) != 34) = false := neF h34
  clear h h34 hT
  go_enter Tryd.func92, Tryd.ntmps92
  go_wp2
  clear h34'
  go_loop [5] (fun i => ∃ k : Nat, k ≤ s.size ∧ i = .int .i64 k ∧ Hid (strT ((bl s).drop k) = none)) (fun i => s.size - (intOf i).toNat)
  case atStart => exact ⟨1, by omega, rfl, HT⟩
  case round =>
    obtain ⟨k, hk, rfl, hr⟩ := hrel
    by_cases hlt : k < s.size
    · rcases strT_none s k hlt hr.out with ⟨hc, h1⟩ | ⟨hc, h1, hd, hd'⟩ | ⟨hc, h1, hd, hn⟩ | ⟨hc, hq, hv⟩ | ⟨hc, hq, hv, hn⟩
      · have c1 : (((s[k]).toNat : Int) == 92) = true := eqT hc
        clear hc
        have hk1 : ((s.size : Int) ≤ (k : Int) + 1) := by omega
        go_wp2
        go_ret3
        exact ⟨⟨_, _, rfl⟩, Gr.refl _⟩
      · have c1 : (((s[k]).toNat : Int) == 92) = true := eqT hc
        have d1 : (((s[k + 1]).toNat : Int) != 34) = true := neT hd
        have d2 : (((s[k + 1]).toNat : Int) != 92) = true := neT hd'
        have hk1 : ((k : Int) + 1 < (s.size : Int)) := by omega
        clear hd hd' hc
        go_wp2
        go_ret3
        exact ⟨⟨_, _, rfl⟩, Gr.refl _⟩
      · have c1 : (((s[k]).toNat : Int) == 92) = true := eqT hc
        have HN := hid hn
        clear hn hc
        have hk1 : ((k : Int) + 1 < (s.size : Int)) := by omega
        rcases hd with hd | hd
        · have d1 : (((s[k + 1]).toNat : Int) != 34) = false := neF hd
          clear hd
          go_wp2
          go_round
          case rel => exact ⟨k + 2, by omega, by go_num, HN⟩
          case measure => simp [intOf]; omega
        · have d1 : (((s[k + 1]).toNat : Int) != 34) = true := neT (n := 34) (by omega)
          have d2 : (((s[k + 1]).toNat : Int) != 92) = false := neF hd
          clear hd
          go_wp2
          go_round
          case rel => exact ⟨k + 2, by omega, by go_num, HN⟩
          case measure => simp [intOf]; omega
      · have c1 : (((s[k]).toNat : Int) == 92) = false := eqF hc
        have c2 : (((s[k]).toNat : Int) == 34) = false := eqF hq
        rw [visB_eq, Bool.or_eq_false_iff] at hv
        obtain ⟨hv1, hv2⟩ := hv
        clear hc hq
        go_wp2_with (first | (go_at_call 87; refine (isVChar_any _ _).mono ?_; rintro e w' ⟨rfl, rfl⟩) | (go_at_call 88; refine (isSP_any _ _).mono ?_; rintro e w' ⟨rfl, rfl⟩))
        go_ret3
        exact ⟨⟨_, _, rfl⟩, Gr.refl _⟩
      · have c1 : (((s[k]).toNat : Int) == 92) = false := eqF hc
        have c2 : (((s[k]).toNat : Int) == 34) = false := eqF hq
        have HN := hid hn
        rw [visB_eq] at hv
        clear hn hc hq
        cases hv1 : vchB (s[k]).toNat <;> cases hv2 : spB (s[k]).toNat
        · rw [hv1, hv2] at hv; cases hv
        all_goals
          clear hv
          go_wp2_with (first | (go_at_call 87; refine (isVChar_any _ _).mono ?_; rintro e w' ⟨rfl, rfl⟩) | (go_at_call 88; refine (isSP_any _ _).mono ?_; rintro e w' ⟨rfl, rfl⟩))
          go_round
          case rel => exact ⟨k + 1, by omega, by go_num, HN⟩
          case measure => simp [intOf]; omega
    · go_wp2
      go_ret3
      exact ⟨⟨_, _, rfl⟩, Gr.refl _⟩

/-!
  The walk of consumeByteSequence.
-/
theorem bytT_some (s : ByteArray) (k : Nat) (r : Bs) (h : bytT ((bl s).drop k) = some r) :
    ∃ hlt : k < s.size, ((s[k]).toNat = 58 ∧ (bl s).drop (k + 1) = r) ∨ ((s[k]).toNat ≠ 58 ∧ b64B (s[k]).toNat = true ∧ bytT ((bl s).drop (k + 1)) = some r) := by
  by_cases hlt : k < s.size
  · refine ⟨hlt, ?_⟩
    rw [bl_get s k hlt, bytT] at h
    split at h
    · rename_i hc
      exact .inl ⟨(u8_eq (n := 58) (by decide)).1 hc, Option.some.inj h⟩
    · rename_i hc
      have hc' : (s[k]).toNat ≠ 58 := fun e => hc ((u8_eq (n := 58) (by decide)).2 e)
      split at h
      · rename_i hb
        exact .inr ⟨hc', hb, h⟩
      · cases h
  · rw [bl_end s k hlt] at h
    cases h
theorem bytT_none (s : ByteArray) (k : Nat) (hlt : k < s.size) (h : bytT ((bl s).drop k) = none) :
    (s[k]).toNat ≠ 58 ∧ (b64B (s[k]).toNat = false ∨ b64B (s[k]).toNat = true ∧ bytT ((bl s).drop (k + 1)) = none) := by
  rw [bl_get s k hlt, bytT] at h
  split at h
  · cases h
  · rename_i hc
    refine ⟨fun e => hc ((u8_eq (n := 58) (by decide)).2 e), ?_⟩
    split at h
    · rename_i hb
      exact .inr ⟨hb, h⟩
    · rename_i hb
      exact .inl (by simpa using hb)
theorem byt_some {s : ByteArray} {r : Bs} (h : byt (bl s) = some r) : ∃ h0 : 0 < s.size, (s[0]).toNat = 58 ∧ bytT ((bl s).drop 1) = some r := by
  cases hb : bl s with
  | nil => rw [hb] at h; cases h
  | cons c t =>
    rw [hb, byt] at h
    split at h
    · rename_i hc
      obtain ⟨h0, h1, h2⟩ := head_of (n := 58) (by decide) hb hc
      exact ⟨h0, h1, h⟩
    · cases h
theorem byt_none {s : ByteArray} (h : byt (bl s) = none) : s.size = 0 ∨ ∃ h0 : 0 < s.size, (s[0]).toNat ≠ 58 ∨ (s[0]).toNat = 58 ∧ bytT ((bl s).drop 1) = none := by
  cases hb : bl s with
  | nil => exact .inl (by rw [← bl_length, hb]; rfl)
  | cons c t =>
    rw [hb, byt] at h
    obtain ⟨h0, h1⟩ := bl_cons hb
    refine .inr ⟨h0, ?_⟩
    split at h
    · rename_i hc
      exact .inr ⟨by rw [h1]; exact (u8_eq (n := 58) (by decide)).1 hc, h⟩
    · rename_i hc
      exact .inl fun e => hc ((u8_eq (n := 58) (by decide)).2 (by rw [← h1]; exact e))

set_option maxHeartbeats 1000000 in
theorem consumeByteSequence_some (s : ByteArray) (r : Bs) (w : World) (hs : s.size ≤ maxLen) (h : byt (bl s) = some r) :
    Calls Tryd.prog 95 #[.string s] w fun e w' => Took s r e ∧ Gr w w' := by
  unfold maxLen at hs
  obtain ⟨h0, h58, hT⟩ := byt_some h
  have HT := hid hT
  have hne := lenF h0
  have h58' : (((s[0]).toNat : Int) != 58) = false := neF h58
  clear h h58 hT
  have kc := fun (w : World) (C : Array Value) (n c : Nat) => Lib.run_convert_bytes_const (P := Tryd.prog) w 80 5 C n c Tryd.underlying80 Tryd.underlying5
  go_enter Tryd.func95, Tryd.ntmps95
  go_wp2
  clear h58'
  go_loopw [5] (fun i wr => ∃ k : Nat, k ≤ s.size ∧ i = .int .i64 k ∧ Hid (bytT ((bl s).drop k) = some r) ∧ Gr w wr) (fun i _ => s.size - (intOf i).toNat)
  case atStart => exact ⟨1, by omega, rfl, HT, Gr.refl _⟩
  case round =>
    obtain ⟨k, hk, rfl, hr, hg⟩ := hrel
    obtain ⟨hlt, hx⟩ := bytT_some s k r hr.out
    rcases hx with ⟨hc, hn⟩ | ⟨hc, hb, hn⟩
    · have c1 : (((s[k]).toNat : Int) == 58) = true := eqT hc
      have HN := hid hn
      clear hn hc
      go_wp2
      go_quiet (fail)
      go_wp2
      go_ret3
      exact ⟨took_at s (k + 1) r (by omega) HN.out, hg.drewN _⟩
    · have c1 : (((s[k]).toNat : Int) == 58) = false := eqF hc
      have HN := hid hn
      clear hn hc
      cases h1 : alpB (s[k]).toNat <;> cases h2 : digB (s[k]).toNat
      · have h3 : amongB (s[k]).toNat b64Marks = true := by simpa [b64B, h1, h2] using hb
        clear hb
        go_wp2_with (first | (go_at_call 93; refine (isAlpha_any _ _).mono ?_; rintro e w' ⟨rfl, rfl⟩) | (go_at_call 90; refine (isDigit_any _ _).mono ?_; rintro e w' ⟨rfl, rfl⟩))
        refine (contains_any _ b64Marks _ _ _ _ rfl (by decide) (cells8_alloc _ _ _ _ _ rfl)).mono ?_
        rintro e w' ⟨rfl, rfl⟩
        rw [h3]
        go_wp2_with fail
        go_roundw
        case rel => exact ⟨k + 1, by omega, by go_num, HN, hg.alloc _⟩
        case measure => simp [intOf]; omega
      all_goals
        clear hb
        go_wp2_with (first | (go_at_call 93; refine (isAlpha_any _ _).mono ?_; rintro e w' ⟨rfl, rfl⟩) | (go_at_call 90; refine (isDigit_any _ _).mono ?_; rintro e w' ⟨rfl, rfl⟩))
        go_roundw
        case rel => exact ⟨k + 1, by omega, by go_num, HN, hg⟩
        case measure => simp [intOf]; omega

set_option maxHeartbeats 1000000 in
theorem consumeByteSequence_none (s : ByteArray) (w : World) (hs : s.size ≤ maxLen) (h : byt (bl s) = none) :
    Calls Tryd.prog 95 #[.string s] w fun e w' => Nope e ∧ Gr w w' := by
  unfold maxLen at hs
  rcases byt_none h with h0 | ⟨h0, h58 | ⟨h58, hT⟩⟩
  · have hne := lenT h0
    clear h h0
    go_enter Tryd.func95, Tryd.ntmps95
    go_wp2
    go_ret3
    exact ⟨⟨_, _, rfl⟩, Gr.refl _⟩
  · have hne := lenF h0
    have h58' : (((s[0]).toNat : Int) != 58) = true := neT h58
    clear h h58
    go_enter Tryd.func95, Tryd.ntmps95
    go_wp2
    go_ret3
    exact ⟨⟨_, _, rfl⟩, Gr.refl _⟩
  have HT := hid hT
  have hne := lenF h0
  have h58' : (((s[0]).toNat : Int) != 58) = false := neF h58
  clear h h58 hT
  have kc := fun (w : World) (C : Array Value) (n c : Nat) => Lib.run_convert_bytes_const (P := Tryd.prog) w 80 5 C n c Tryd.underlying80 Tryd.underlying5
  go_enter Tryd.func95, Tryd.ntmps95
  go_wp2
  clear h58'
  go_loopw [5] (fun i wr => ∃ k : Nat, k ≤ s.size ∧ i = .int .i64 k ∧ Hid (bytT ((bl s).drop k) = none) ∧ Gr w wr) (fun i _ => s.size - (intOf i).toNat)
  case atStart => exact ⟨1, by omega, rfl, HT, Gr.refl _⟩
  case round =>
    obtain ⟨k, hk, rfl, hr, hg⟩ := hrel
    by_cases hlt : k < s.size
    · obtain ⟨hc, hx⟩ := bytT_none s k hlt hr.out
      have c1 : (((s[k]).toNat : Int) == 58) = false := eqF hc
      clear hc
      have hx' : (alpB (s[k]).toNat = false ∧ digB (s[k]).toNat = false ∧ amongB (s[k]).toNat b64Marks = false) ∨ (b64B (s[k]).toNat = true ∧ bytT ((bl s).drop (k + 1)) = none) := by
        rcases hx with hx | hx
        · simp only [b64B, Bool.or_eq_false_iff] at hx
          exact .inl ⟨hx.1.1, hx.1.2, hx.2⟩
        · exact .inr hx
      clear hx
      rcases hx' with ⟨h1, h2, h3⟩ | ⟨hb, hn⟩
      · go_wp2_with (first | (go_at_call 93; refine (isAlpha_any _ _).mono ?_; rintro e w' ⟨rfl, rfl⟩) | (go_at_call 90; refine (isDigit_any _ _).mono ?_; rintro e w' ⟨rfl, rfl⟩))
        refine (contains_any _ b64Marks _ _ _ _ rfl (by decide) (cells8_alloc _ _ _ _ _ rfl)).mono ?_
        rintro e w' ⟨rfl, rfl⟩
        rw [h3]
        go_wp2_with fail
        go_ret3
        exact ⟨⟨_, _, rfl⟩, hg.alloc _⟩
      have HN := hid hn
      clear hn
      cases h1 : alpB (s[k]).toNat <;> cases h2 : digB (s[k]).toNat
      · have h3 : amongB (s[k]).toNat b64Marks = true := by simpa [b64B, h1, h2] using hb
        clear hb
        go_wp2_with (first | (go_at_call 93; refine (isAlpha_any _ _).mono ?_; rintro e w' ⟨rfl, rfl⟩) | (go_at_call 90; refine (isDigit_any _ _).mono ?_; rintro e w' ⟨rfl, rfl⟩))
        refine (contains_any _ b64Marks _ _ _ _ rfl (by decide) (cells8_alloc _ _ _ _ _ rfl)).mono ?_
        rintro e w' ⟨rfl, rfl⟩
        rw [h3]
        go_wp2_with fail
        go_roundw
        case rel => exact ⟨k + 1, by omega, by go_num, HN, hg.alloc _⟩
        case measure => simp [intOf]; omega
      all_goals
        clear hb
        go_wp2_with (first | (go_at_call 93; refine (isAlpha_any _ _).mono ?_; rintro e w' ⟨rfl, rfl⟩) | (go_at_call 90; refine (isDigit_any _ _).mono ?_; rintro e w' ⟨rfl, rfl⟩))
        go_roundw
        case rel => exact ⟨k + 1, by omega, by go_num, HN, hg⟩
        case measure => simp [intOf]; omega
    · go_wp2
      go_ret3
      exact ⟨⟨_, _, rfl⟩, hg⟩

/-!
  Rows of bytes that a call itself appends to.
-/
theorem info8 : (Tryd.prog.info? 5).map (fun i => (i.zero, i.size, i.bytes)) = some (some (.int .u8 0), 1, 1) := by kernel_rfl

/-- The value is a slice of bytes of the call's own, and holds these. -/
def Own8 (w : World) (base : Nat) (v : Value) (xs : Bs) : Prop := w.ownsRow base 5 1 v xs.length (xs.map fun c => Value.int .u8 c.toNat)

theorem Own8.row {w : World} {base : Nat} {v : Value} {xs : Bs} (h : Own8 w base v xs) : w.ownsRow base 5 1 v xs.length (xs.map fun c => Value.int .u8 c.toNat) := h
theorem Own8.of_row {w : World} {base : Nat} {v : Value} {xs : Bs} {c : UInt8} {x : Int} (hx : x = (c.toNat : Int)) (h : w.ownsRow base 5 1 v (xs.length + 1) ((xs.map fun c => Value.int .u8 c.toNat) ++ [.int .u8 x])) : Own8 w base v (xs ++ [c]) := by
  subst hx
  simpa [Own8] using h
theorem Gr.grown {a b c : World} {e : TypeId} {size : Nat} {v : Value} {n : Nat} {xs : List Value} (h : Gr a b) (ho : b.ownsRow a.heap.size e size v n xs) (hg : b.grownBy c v.ownBlock) : Gr a c :=
  Below.grown h hg h.size fun k hk => (World.ownsRow.lt ho k hk).1
theorem Own8.nil (w : World) (base : Nat) : Own8 w base (.slice none 0 0) [] := World.ownsRow_nil _ _ _ _
theorem Own8.alloc {w : World} {base : Nat} {v : Value} {xs : Bs} (h : Own8 w base v xs) (o : Obj) : Own8 (w.alloc o) base v xs := World.ownsRow.alloc h o
theorem Own8.gr {w w' : World} {base : Nat} {v : Value} {xs : Bs} (h : Own8 w base v xs) (k : Gr w w') : Own8 w' base v xs := by
  refine World.ownsRow.kept h (row := none) ⟨k.os, k.tape, k.output, k.size, fun i hi _ => k.block i hi⟩ ?_
  cases v.ownBlock with
  | none => exact .inl rfl
  | some b => exact .inr (by simp)

theorem own8_string {w : World} {base : Nat} {v : Value} {xs : Bs} (h : Own8 w base v xs) :
    (convert 80 9 v).run Tryd.prog w = .ok (.string ⟨xs.toArray⟩) w := by
  obtain ⟨hl, hv | ⟨g, cap, cur, hv, hg, hh, hn, hm, hs, ht⟩⟩ := h
  · obtain ⟨rfl, h0⟩ := hv
    have : xs = [] := List.eq_nil_of_length_eq_zero h0
    subst this
    rw [run_convert_bytes_string _ _ _ _ _ _ _ Tryd.underlying80 Tryd.underlying5 Tryd.underlying9]
    rfl
  · subst hv
    have hcell : ∀ i, i < xs.length → w.cell? ⟨g, 0 + i, none⟩ = some (.int .u8 ((xs.map fun c => ((c.toNat : Nat) : Int)).getD i 0)) := by
      intro i hi
      have h1 : (cur.toList.take (xs.length * 1))[i]? = some (.int .u8 ((xs[i]).toNat : Int)) := by rw [ht]; simp [hi]
      rw [List.getElem?_take, if_pos (by omega)] at h1
      simp only [World.cell?, hh]
      simpa [hi] using h1
    rw [run_convert_bytes_arg w 80 5 Tryd.underlying80 Tryd.underlying5 g 0 xs.length cap (xs.map fun c => ((c.toNat : Nat) : Int)) (by simp) hcell 9 Tryd.underlying9]
    have : strOfNums (xs.map fun c => ((c.toNat : Nat) : Int)) = ⟨xs.toArray⟩ := by
      apply bl_inj
      unfold bl
      rw [strOfNums_data, List.map_map]
      have hf : ((fun n : Int => UInt8.ofNat n.toNat) ∘ fun c : UInt8 => ((c.toNat : Nat) : Int)) = id := by funext c; simp
      rw [hf, List.map_id]
    rw [this]

end Go.Proofs.YtohjnegllfdemaaDoor
