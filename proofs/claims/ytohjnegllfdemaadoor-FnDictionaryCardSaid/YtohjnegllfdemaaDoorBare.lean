/-
  The walk of consumeBareItem.
-/
import Derived.Test.YtohjnegllfdemaaDoorCDsp
set_option maxRecDepth 100000
namespace Go.Proofs.YtohjnegllfdemaaDoor
open Go.RowKit

theorem opt_some {s : ByteArray} {R : Option Bs} {e : Ending} (h : OptPost s R e) : (R = none ∧ Nope e) ∨ ∃ r, R = some r ∧ Took s r e := by
  cases R with
  | none => exact .inl ⟨rfl, h⟩
  | some r => exact .inr ⟨r, rfl, h⟩
theorem int_opt {s : ByteArray} {R : Option (Bool × Bs)} {e : Ending} (h : IntPost s R e) : OptPost s (R.map (·.2)) e := by
  cases R with
  | none => exact h
  | some x => exact h
theorem str_opt (s : ByteArray) (w : World) (hs : s.size ≤ maxLen) : Calls Tryd.prog 92 #[.string s] w fun e w' => OptPost s (str (bl s)) e ∧ Gr w w' := by
  cases h : str (bl s) with
  | none => exact consumeString_none s w hs h
  | some r => exact consumeString_some s r w hs h
theorem tok_opt (s : ByteArray) (w : World) (hs : s.size ≤ maxLen) : Calls Tryd.prog 94 #[.string s] w fun e w' => OptPost s (tok (bl s)) e ∧ Gr w w' := by
  cases h : tok (bl s) with
  | none => exact consumeToken_none s w hs h
  | some r => exact consumeToken_some s r w hs h
theorem byt_opt (s : ByteArray) (w : World) (hs : s.size ≤ maxLen) : Calls Tryd.prog 95 #[.string s] w fun e w' => OptPost s (byt (bl s)) e ∧ Gr w w' := by
  cases h : byt (bl s) with
  | none => exact consumeByteSequence_none s w hs h
  | some r => exact consumeByteSequence_some s r w hs h
theorem boo_opt (s : ByteArray) (w : World) (hs : s.size ≤ maxLen) : Calls Tryd.prog 83 #[.string s] w fun e w' => OptPost s (boo (bl s)) e ∧ Gr w w' := by
  cases h : boo (bl s) with
  | none => exact consumeBoolean_none s w hs h
  | some r => exact consumeBoolean_some s r w hs h
theorem num_opt (s : ByteArray) (w : World) (hs : s.size ≤ maxLen) : Calls Tryd.prog 75 #[.string s] w fun e w' => OptPost s ((num (bl s)).map (·.2)) e ∧ Gr w w' :=
  (consumeIntegerOrDecimal_any s w hs).mono fun _ _ ⟨h, g⟩ => ⟨int_opt h, g⟩
theorem key_opt (s : ByteArray) (w : World) (hs : s.size ≤ maxLen) : Calls Tryd.prog 74 #[.string s] w fun e w' => OptPost s (key (bl s)) e ∧ Gr w w' := by
  cases h : key (bl s) with
  | none => exact consumeKey_none s w hs h
  | some r => exact consumeKey_some s r w hs h

theorem le31 {n : Nat} (h : n ≤ 4294967296) : n ≤ maxLen := by unfold maxLen; omega

set_option maxHeartbeats 1000000 in
theorem bare_minus (s : ByteArray) (w : World) (hs : s.size ≤ 4294967296) (h0 : 0 < s.size) (q45 : (((s[0]).toNat : Int) == 45) = true) :
    Calls Tryd.prog 71 #[.string s] w fun e w' => OptPost s ((num (bl s)).map (·.2)) e ∧ Gr w w' := by
  have hne := lenF h0
  go_enter Tryd.func71, Tryd.ntmps71
  go_wp2_with fail
  refine (num_opt s _ (le31 hs)).mono ?_
  rintro e w1 ⟨hp, hg⟩
  rcases opt_some hp with ⟨hR, c, t, rfl⟩ | ⟨r, hR, c, t, rfl, hc, ht⟩
  · have HR := hid hR
    clear hR hp
    go_wp2_with fail
    go_ret3
    exact ⟨by rw [HR.out]; exact ⟨_, _, rfl⟩, hg⟩
  · have HR := hid hR
    have HC := hid hc
    have HT' := hid ht
    clear hR hp hc ht
    go_wp2_with fail
    go_ret3
    exact ⟨by rw [HR.out]; exact ⟨_, _, rfl, HC.out, HT'.out⟩, hg⟩

set_option maxHeartbeats 1000000 in
theorem bare_digit (s : ByteArray) (w : World) (hs : s.size ≤ 4294967296) (h0 : 0 < s.size) (q45 : (((s[0]).toNat : Int) == 45) = false) (hd : digB (s[0]).toNat = true) :
    Calls Tryd.prog 71 #[.string s] w fun e w' => OptPost s ((num (bl s)).map (·.2)) e ∧ Gr w w' := by
  have hne := lenF h0
  go_enter Tryd.func71, Tryd.ntmps71
  go_wp2_with (go_at_call 90; refine (isDigit_any _ _).mono ?_; rintro e w' ⟨rfl, rfl⟩)
  refine (num_opt s _ (le31 hs)).mono ?_
  rintro e w1 ⟨hp, hg⟩
  rcases opt_some hp with ⟨hR, c, t, rfl⟩ | ⟨r, hR, c, t, rfl, hc, ht⟩
  · have HR := hid hR
    clear hR hp
    go_wp2_with fail
    go_ret3
    exact ⟨by rw [HR.out]; exact ⟨_, _, rfl⟩, hg⟩
  · have HR := hid hR
    have HC := hid hc
    have HT' := hid ht
    clear hR hp hc ht
    go_wp2_with fail
    go_ret3
    exact ⟨by rw [HR.out]; exact ⟨_, _, rfl, HC.out, HT'.out⟩, hg⟩

set_option maxHeartbeats 1000000 in
theorem bare_str (s : ByteArray) (w : World) (hs : s.size ≤ 4294967296) (h0 : 0 < s.size) (q45 : (((s[0]).toNat : Int) == 45) = false) (hd : digB (s[0]).toNat = false) (q34 : (((s[0]).toNat : Int) == 34) = true) :
    Calls Tryd.prog 71 #[.string s] w fun e w' => OptPost s (str (bl s)) e ∧ Gr w w' := by
  have hne := lenF h0
  go_enter Tryd.func71, Tryd.ntmps71
  go_wp2_with (go_at_call 90; refine (isDigit_any _ _).mono ?_; rintro e w' ⟨rfl, rfl⟩)
  refine (str_opt s _ (le31 hs)).mono ?_
  rintro e w1 ⟨hp, hg⟩
  rcases opt_some hp with ⟨hR, c, t, rfl⟩ | ⟨r, hR, c, t, rfl, hc, ht⟩
  · have HR := hid hR
    clear hR hp
    go_wp2_with fail
    go_ret3
    exact ⟨by rw [HR.out]; exact ⟨_, _, rfl⟩, hg⟩
  · have HR := hid hR
    have HC := hid hc
    have HT' := hid ht
    clear hR hp hc ht
    go_wp2_with fail
    go_ret3
    exact ⟨by rw [HR.out]; exact ⟨_, _, rfl, HC.out, HT'.out⟩, hg⟩

set_option maxHeartbeats 1000000 in
theorem bare_star (s : ByteArray) (w : World) (hs : s.size ≤ 4294967296) (h0 : 0 < s.size) (q45 : (((s[0]).toNat : Int) == 45) = false) (hd : digB (s[0]).toNat = false) (q34 : (((s[0]).toNat : Int) == 34) = false) (q42 : (((s[0]).toNat : Int) == 42) = true) :
    Calls Tryd.prog 71 #[.string s] w fun e w' => OptPost s (tok (bl s)) e ∧ Gr w w' := by
  have hne := lenF h0
  go_enter Tryd.func71, Tryd.ntmps71
  go_wp2_with (go_at_call 90; refine (isDigit_any _ _).mono ?_; rintro e w' ⟨rfl, rfl⟩)
  refine (tok_opt s _ (le31 hs)).mono ?_
  rintro e w1 ⟨hp, hg⟩
  rcases opt_some hp with ⟨hR, c, t, rfl⟩ | ⟨r, hR, c, t, rfl, hc, ht⟩
  · have HR := hid hR
    clear hR hp
    go_wp2_with fail
    go_ret3
    exact ⟨by rw [HR.out]; exact ⟨_, _, rfl⟩, hg⟩
  · have HR := hid hR
    have HC := hid hc
    have HT' := hid ht
    clear hR hp hc ht
    go_wp2_with fail
    go_ret3
    exact ⟨by rw [HR.out]; exact ⟨_, _, rfl, HC.out, HT'.out⟩, hg⟩

set_option maxHeartbeats 1000000 in
theorem bare_alpha (s : ByteArray) (w : World) (hs : s.size ≤ 4294967296) (h0 : 0 < s.size) (q45 : (((s[0]).toNat : Int) == 45) = false) (hd : digB (s[0]).toNat = false) (q34 : (((s[0]).toNat : Int) == 34) = false) (q42 : (((s[0]).toNat : Int) == 42) = false) (ha : alpB (s[0]).toNat = true) :
    Calls Tryd.prog 71 #[.string s] w fun e w' => OptPost s (tok (bl s)) e ∧ Gr w w' := by
  have hne := lenF h0
  go_enter Tryd.func71, Tryd.ntmps71
  go_wp2_with (first | (go_at_call 90; refine (isDigit_any _ _).mono ?_; rintro e w' ⟨rfl, rfl⟩) | (go_at_call 93; refine (isAlpha_any _ _).mono ?_; rintro e w' ⟨rfl, rfl⟩))
  refine (tok_opt s _ (le31 hs)).mono ?_
  rintro e w1 ⟨hp, hg⟩
  rcases opt_some hp with ⟨hR, c, t, rfl⟩ | ⟨r, hR, c, t, rfl, hc, ht⟩
  · have HR := hid hR
    clear hR hp
    go_wp2_with fail
    go_ret3
    exact ⟨by rw [HR.out]; exact ⟨_, _, rfl⟩, hg⟩
  · have HR := hid hR
    have HC := hid hc
    have HT' := hid ht
    clear hR hp hc ht
    go_wp2_with fail
    go_ret3
    exact ⟨by rw [HR.out]; exact ⟨_, _, rfl, HC.out, HT'.out⟩, hg⟩

set_option maxHeartbeats 1000000 in
theorem bare_bytes (s : ByteArray) (w : World) (hs : s.size ≤ 4294967296) (h0 : 0 < s.size) (q45 : (((s[0]).toNat : Int) == 45) = false) (hd : digB (s[0]).toNat = false) (q34 : (((s[0]).toNat : Int) == 34) = false) (q42 : (((s[0]).toNat : Int) == 42) = false) (ha : alpB (s[0]).toNat = false) (q58 : (((s[0]).toNat : Int) == 58) = true) :
    Calls Tryd.prog 71 #[.string s] w fun e w' => OptPost s (byt (bl s)) e ∧ Gr w w' := by
  have hne := lenF h0
  go_enter Tryd.func71, Tryd.ntmps71
  go_wp2_with (first | (go_at_call 90; refine (isDigit_any _ _).mono ?_; rintro e w' ⟨rfl, rfl⟩) | (go_at_call 93; refine (isAlpha_any _ _).mono ?_; rintro e w' ⟨rfl, rfl⟩))
  refine (byt_opt s _ (le31 hs)).mono ?_
  rintro e w1 ⟨hp, hg⟩
  rcases opt_some hp with ⟨hR, c, t, rfl⟩ | ⟨r, hR, c, t, rfl, hc, ht⟩
  · have HR := hid hR
    clear hR hp
    go_wp2_with fail
    go_ret3
    exact ⟨by rw [HR.out]; exact ⟨_, _, rfl⟩, hg⟩
  · have HR := hid hR
    have HC := hid hc
    have HT' := hid ht
    clear hR hp hc ht
    go_wp2_with fail
    go_ret3
    exact ⟨by rw [HR.out]; exact ⟨_, _, rfl, HC.out, HT'.out⟩, hg⟩

set_option maxHeartbeats 1000000 in
theorem bare_bool (s : ByteArray) (w : World) (hs : s.size ≤ 4294967296) (h0 : 0 < s.size) (q45 : (((s[0]).toNat : Int) == 45) = false) (hd : digB (s[0]).toNat = false) (q34 : (((s[0]).toNat : Int) == 34) = false) (q42 : (((s[0]).toNat : Int) == 42) = false) (ha : alpB (s[0]).toNat = false) (q58 : (((s[0]).toNat : Int) == 58) = false) (q63 : (((s[0]).toNat : Int) == 63) = true) :
    Calls Tryd.prog 71 #[.string s] w fun e w' => OptPost s (boo (bl s)) e ∧ Gr w w' := by
  have hne := lenF h0
  go_enter Tryd.func71, Tryd.ntmps71
  go_wp2_with (first | (go_at_call 90; refine (isDigit_any _ _).mono ?_; rintro e w' ⟨rfl, rfl⟩) | (go_at_call 93; refine (isAlpha_any _ _).mono ?_; rintro e w' ⟨rfl, rfl⟩))
  refine (boo_opt s _ (le31 hs)).mono ?_
  rintro e w1 ⟨hp, hg⟩
  rcases opt_some hp with ⟨hR, c, t, rfl⟩ | ⟨r, hR, c, t, rfl, hc, ht⟩
  · have HR := hid hR
    clear hR hp
    go_wp2_with fail
    go_ret3
    exact ⟨by rw [HR.out]; exact ⟨_, _, rfl⟩, hg⟩
  · have HR := hid hR
    have HC := hid hc
    have HT' := hid ht
    clear hR hp hc ht
    go_wp2_with fail
    go_ret3
    exact ⟨by rw [HR.out]; exact ⟨_, _, rfl, HC.out, HT'.out⟩, hg⟩

set_option maxHeartbeats 1000000 in
theorem bare_date (s : ByteArray) (w : World) (hs : s.size ≤ 4294967296) (h0 : 0 < s.size) (q45 : (((s[0]).toNat : Int) == 45) = false) (hd : digB (s[0]).toNat = false) (q34 : (((s[0]).toNat : Int) == 34) = false) (q42 : (((s[0]).toNat : Int) == 42) = false) (ha : alpB (s[0]).toNat = false) (q58 : (((s[0]).toNat : Int) == 58) = false) (q63 : (((s[0]).toNat : Int) == 63) = false) (q64 : (((s[0]).toNat : Int) == 64) = true) :
    Calls Tryd.prog 71 #[.string s] w fun e w' => OptPost s (dat (bl s)) e ∧ Gr w w' := by
  have hne := lenF h0
  go_enter Tryd.func71, Tryd.ntmps71
  go_wp2_with (first | (go_at_call 90; refine (isDigit_any _ _).mono ?_; rintro e w' ⟨rfl, rfl⟩) | (go_at_call 93; refine (isAlpha_any _ _).mono ?_; rintro e w' ⟨rfl, rfl⟩))
  refine (consumeDate_any s _ (le31 hs)).mono ?_
  rintro e w1 ⟨hp, hg⟩
  rcases opt_some hp with ⟨hR, c, t, rfl⟩ | ⟨r, hR, c, t, rfl, hc, ht⟩
  · have HR := hid hR
    clear hR hp
    go_wp2_with fail
    go_ret3
    exact ⟨by rw [HR.out]; exact ⟨_, _, rfl⟩, hg⟩
  · have HR := hid hR
    have HC := hid hc
    have HT' := hid ht
    clear hR hp hc ht
    go_wp2_with fail
    go_ret3
    exact ⟨by rw [HR.out]; exact ⟨_, _, rfl, HC.out, HT'.out⟩, hg⟩

set_option maxHeartbeats 1000000 in
theorem bare_display (s : ByteArray) (w : World) (hs : s.size ≤ 4294967296) (h0 : 0 < s.size) (q45 : (((s[0]).toNat : Int) == 45) = false) (hd : digB (s[0]).toNat = false) (q34 : (((s[0]).toNat : Int) == 34) = false) (q42 : (((s[0]).toNat : Int) == 42) = false) (ha : alpB (s[0]).toNat = false) (q58 : (((s[0]).toNat : Int) == 58) = false) (q63 : (((s[0]).toNat : Int) == 63) = false) (q64 : (((s[0]).toNat : Int) == 64) = false) (q37 : (((s[0]).toNat : Int) == 37) = true) (hT : Lib.Utf8Tabs 0 1 w) :
    Calls Tryd.prog 71 #[.string s] w fun e w' => OptPost s (dsp (bl s)) e ∧ Gr w w' := by
  have hne := lenF h0
  have HT := hid hT; clear hT
  go_enter Tryd.func71, Tryd.ntmps71
  go_wp2_with (first | (go_at_call 90; refine (isDigit_any _ _).mono ?_; rintro e w' ⟨rfl, rfl⟩) | (go_at_call 93; refine (isAlpha_any _ _).mono ?_; rintro e w' ⟨rfl, rfl⟩))
  refine (consumeDisplayString_any s _ hs HT.out).mono ?_
  rintro e w1 ⟨hp, hg⟩
  rcases opt_some hp with ⟨hR, c, t, rfl⟩ | ⟨r, hR, c, t, rfl, hc, ht⟩
  · have HR := hid hR
    clear hR hp
    go_wp2_with fail
    go_ret3
    exact ⟨by rw [HR.out]; exact ⟨_, _, rfl⟩, hg⟩
  · have HR := hid hR
    have HC := hid hc
    have HT' := hid ht
    clear hR hp hc ht
    go_wp2_with fail
    go_ret3
    exact ⟨by rw [HR.out]; exact ⟨_, _, rfl, HC.out, HT'.out⟩, hg⟩

set_option maxHeartbeats 1000000 in
theorem bare_other (s : ByteArray) (w : World) (_hs : s.size ≤ 4294967296) (h0 : 0 < s.size) (q45 : (((s[0]).toNat : Int) == 45) = false) (hd : digB (s[0]).toNat = false) (q34 : (((s[0]).toNat : Int) == 34) = false) (q42 : (((s[0]).toNat : Int) == 42) = false) (ha : alpB (s[0]).toNat = false) (q58 : (((s[0]).toNat : Int) == 58) = false) (q63 : (((s[0]).toNat : Int) == 63) = false) (q64 : (((s[0]).toNat : Int) == 64) = false) (q37 : (((s[0]).toNat : Int) == 37) = false) :
    Calls Tryd.prog 71 #[.string s] w fun e w' => Nope e ∧ Gr w w' := by
  have hne := lenF h0
  go_enter Tryd.func71, Tryd.ntmps71
  go_wp2_with (first | (go_at_call 90; refine (isDigit_any _ _).mono ?_; rintro e w' ⟨rfl, rfl⟩) | (go_at_call 93; refine (isAlpha_any _ _).mono ?_; rintro e w' ⟨rfl, rfl⟩))
  go_ret3
  exact ⟨⟨_, _, rfl⟩, Gr.refl _⟩

theorem bare_empty (w : World) : Calls Tryd.prog 71 #[.string ⟨#[]⟩] w fun e w' => Nope e ∧ Gr w w' := by
  go_enter Tryd.func71, Tryd.ntmps71
  go_wp2_with fail
  go_ret3
  exact ⟨⟨_, _, rfl⟩, Gr.refl _⟩

theorem natT' {a n : Nat} (h : ((a : Int) == (n : Int)) = true) : (a == n) = true := by rw [beq_iff_eq] at *; omega
theorem natF' {a n : Nat} (h : ((a : Int) == (n : Int)) = false) : (a == n) = false := by rw [beq_eq_false_iff_ne] at *; omega

theorem consumeBareItem_any (s : ByteArray) (w : World) (hs : s.size ≤ 4294967296) (hT : Lib.Utf8Tabs 0 1 w) :
    Calls Tryd.prog 71 #[.string s] w fun e w' => OptPost s (bare (bl s)) e ∧ Gr w w' := by
  by_cases h0 : 0 < s.size
  · obtain ⟨r, hb⟩ : ∃ r, bl s = s[0] :: r := ⟨_, by have := bl_get s 0 h0; rwa [List.drop_zero] at this⟩
    have hB : bare (bl s) = if (s[0]).toNat == 45 || digB (s[0]).toNat then (num (bl s)).map (·.2)
      else if (s[0]).toNat == 34 then str (bl s)
      else if (s[0]).toNat == 42 || alpB (s[0]).toNat then tok (bl s)
      else if (s[0]).toNat == 58 then byt (bl s)
      else if (s[0]).toNat == 63 then boo (bl s)
      else if (s[0]).toNat == 64 then dat (bl s)
      else if (s[0]).toNat == 37 then dsp (bl s) else none := by rw [hb]; rfl
    rw [hB]
    clear hB hb
    cases q45 : (((s[0]).toNat : Int) == 45)
    · have n45 := natF' (n := 45) q45
      cases hd : digB (s[0]).toNat
      · rw [n45, Bool.or_self, if_neg (by simp)]
        cases q34 : (((s[0]).toNat : Int) == 34)
        · rw [natF' (n := 34) q34, if_neg (by simp)]
          cases q42 : (((s[0]).toNat : Int) == 42)
          · rw [natF' (n := 42) q42]
            cases ha : alpB (s[0]).toNat
            · rw [Bool.or_self, if_neg (by simp)]
              cases q58 : (((s[0]).toNat : Int) == 58)
              · rw [natF' (n := 58) q58, if_neg (by simp)]
                cases q63 : (((s[0]).toNat : Int) == 63)
                · rw [natF' (n := 63) q63, if_neg (by simp)]
                  cases q64 : (((s[0]).toNat : Int) == 64)
                  · rw [natF' (n := 64) q64, if_neg (by simp)]
                    cases q37 : (((s[0]).toNat : Int) == 37)
                    · rw [natF' (n := 37) q37, if_neg (by simp)]
                      exact bare_other s w hs h0 q45 hd q34 q42 ha q58 q63 q64 q37
                    · rw [natT' (n := 37) q37, if_pos rfl]
                      exact bare_display s w hs h0 q45 hd q34 q42 ha q58 q63 q64 q37 hT
                  · rw [natT' (n := 64) q64, if_pos rfl]
                    exact bare_date s w hs h0 q45 hd q34 q42 ha q58 q63 q64
                · rw [natT' (n := 63) q63, if_pos rfl]
                  exact bare_bool s w hs h0 q45 hd q34 q42 ha q58 q63
              · rw [natT' (n := 58) q58, if_pos rfl]
                exact bare_bytes s w hs h0 q45 hd q34 q42 ha q58
            · rw [Bool.or_true, if_pos rfl]
              exact bare_alpha s w hs h0 q45 hd q34 q42 ha
          · rw [natT' (n := 42) q42, Bool.true_or, if_pos rfl]
            exact bare_star s w hs h0 q45 hd q34 q42
        · rw [natT' (n := 34) q34, if_pos rfl]
          exact bare_str s w hs h0 q45 hd q34
      · rw [Bool.or_true, if_pos rfl]
        exact bare_digit s w hs h0 q45 hd
    · rw [natT' (n := 45) q45, Bool.true_or, if_pos rfl]
      exact bare_minus s w hs h0 q45
  · obtain rfl := bl_empty (a := s) (List.eq_nil_of_length_eq_zero (by rw [bl_length]; omega))
    exact bare_empty w

end Go.Proofs.YtohjnegllfdemaaDoor
